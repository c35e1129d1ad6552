import PyProof.Rows.All
import PyProof.Reaches
import PyProof.AttrMissHeap
import PyProof.Defs
import PyProof.DictList
import PyProof.Draws
import PyProof.EnumMake
import PyProof.Gen
import PyProof.GenArm
import PyProof.GenQ
import PyProof.GenCompT
import PyProof.ListStr
import PyProof.ZipIter
import PyProof.Rows.SetFrom
import Wide.BytesRules
import KE.BitLaws
import OpenK.KMake
import Open.Head
import Open.Line
import Open.Seg
import Open.Tree
import KE.KxBytes
import KE.KBytesWalk
import KE.KDictOf
import KE.KRevIter
import KE.KxDecode
import Wide.FinOn
import OpenK.AllK
import Wide.All
import Lean
import PySem.Challenge.RW_iw0008_01
open PySem PySem.W PySem.Spec PySem.Calls PyProof.Rows PySem.Challenge
set_option Elab.async false
set_option maxRecDepth 100000
set_option maxHeartbeats 8000000
set_option linter.all false
set_option compiler.extract_closed false
set_option genSizeOf false
set_option genSizeOfSpec false
set_option genInjectivity false
set_option genCtorIdx false
local macro_rules | `(tactic| omega) => `(tactic| lia)
namespace Mine
noncomputable def defOf3 (o : Option Stmt) : Arguments × List Stmt × Scope := match o with
 | some (.FunctionDef _ ps b _ _ _ sc _ _ _) => (ps, b, sc)
 | _ => (default, [], default)
noncomputable def clsB : List Stmt := match (rw_iw0008_01.prog.main.body[7]? : Option Stmt) with
 | some (.ClassDef _ _ _ b _ _ _ _ _ _ _) => b
 | _ => []
noncomputable def cP (j : Nat) : Arguments := (defOf3 clsB[j]?).1
noncomputable def cB (j : Nat) : List Stmt := (defOf3 clsB[j]?).2.1
noncomputable def cS (j : Nat) : Scope := (defOf3 clsB[j]?).2.2
noncomputable def mP (j : Nat) : Arguments := (defOf3 rw_iw0008_01.prog.main.body[j]?).1
noncomputable def mB (j : Nat) : List Stmt := (defOf3 rw_iw0008_01.prog.main.body[j]?).2.1
noncomputable def mS (j : Nat) : Scope := (defOf3 rw_iw0008_01.prog.main.body[j]?).2.2
noncomputable def K0 : Params → Frag := fun P =>
(nat_lit 15, { cls := .type "tuple", data := .seq #[] }) ::
(nat_lit 17, { cls := .type "tuple", data := .seq #[.str "k" 190] }) ::
(nat_lit 18, { cls := .type "tuple", data := .seq #[] }) ::
(nat_lit 20, { cls := .type "code", data := .fields #[.str "_wall" 187, .str "_wall" 188, .str "/claim/cut.py" 189, .int 1 0, .int 1 0, .int 0 0, .int 0 0, .int 3 0, .ref 15, .bool true, .int 181 0, .ref 16, .none, .ref 17, .ref 18, .ref 19, .int 191 0, .int 1 0, .str "/claim/cut.py" 192] }) ::
(nat_lit 21, { cls := .type "function", data := .func { name := "_wall", qualname := "_wall", params := mP 0, body := .stmts (mB 0), scope := mS 0, globals := 3, closure := [], defaults := .none, kwdefaults := .none, pyModule := .str "__main__" 164, code := .ref 20 } }) ::
(nat_lit 22, { cls := .type "tuple", data := .seq #[] }) ::
(nat_lit 24, { cls := .type "tuple", data := .seq #[.str "value" 199, .str "expected" 200, .str "param" 201] }) ::
(nat_lit 25, { cls := .type "tuple", data := .seq #[] }) ::
(nat_lit 27, { cls := .type "code", data := .fields #[.str "ExpectedTypeError" 196, .str "ExpectedTypeError" 197, .str "/claim/cut.py" 198, .int 5 0, .int 3 0, .int 0 0, .int 0 0, .int 3 0, .ref 22, .bool true, .int 181 0, .ref 23, .none, .ref 24, .ref 25, .ref 26, .int 202 0, .int 5 0, .str "/claim/cut.py" 203] }) ::
(nat_lit 28, { cls := .type "function", data := .func { name := "ExpectedTypeError", qualname := "ExpectedTypeError", params := mP 2, body := .stmts (mB 2), scope := mS 2, globals := 3, closure := [], defaults := .none, kwdefaults := .none, pyModule := .str "passlib.exc" 194, code := .ref 27 } }) ::
(nat_lit 29, { cls := .type "tuple", data := .seq #[] }) ::
(nat_lit 31, { cls := .type "tuple", data := .seq #[.str "value" 208, .str "param" 209] }) ::
(nat_lit 32, { cls := .type "tuple", data := .seq #[] }) ::
(nat_lit 34, { cls := .type "code", data := .fields #[.str "ExpectedStringError" 205, .str "ExpectedStringError" 206, .str "/claim/cut.py" 207, .int 7 0, .int 2 0, .int 0 0, .int 0 0, .int 3 0, .ref 29, .bool true, .int 181 0, .ref 30, .none, .ref 31, .ref 32, .ref 33, .int 210 0, .int 7 0, .str "/claim/cut.py" 211] }) ::
(nat_lit 35, { cls := .type "function", data := .func { name := "ExpectedStringError", qualname := "ExpectedStringError", params := mP 3, body := .stmts (mB 3), scope := mS 3, globals := 3, closure := [], defaults := .none, kwdefaults := .none, pyModule := .str "passlib.exc" 194, code := .ref 34 } }) ::
(nat_lit 36, { cls := .type "tuple", data := .seq #[.type "object"] }) ::
(nat_lit 43, { cls := .type "tuple", data := .seq #[.bool false] }) ::
(nat_lit 44, { cls := .type "tuple", data := .seq #[] }) ::
(nat_lit 46, { cls := .type "tuple", data := .seq #[.str "self" 237, .str "charmap" 238, .str "big" 239, .str "lookup" 240] }) ::
(nat_lit 47, { cls := .type "tuple", data := .seq #[] }) ::
(nat_lit 49, { cls := .type "code", data := .fields #[.str "__init__" 234, .str "Base64Engine.__init__" 235, .str "/claim/cut.py" 236, .int 17 0, .int 3 0, .int 0 0, .int 0 0, .int 3 0, .ref 44, .bool true, .int 181 0, .ref 45, .none, .ref 46, .ref 47, .ref 48, .int 241 0, .int 17 0, .str "/claim/cut.py" 242] }) ::
(nat_lit 50, { cls := .type "function", data := .func { name := "__init__", qualname := "Base64Engine.__init__", params := cP 3, body := .stmts (cB 3), scope := cS 3, globals := 3, closure := [], defaults := .ref 43, kwdefaults := .none, pyModule := .str "passlib.utils.binary" 213, code := .ref 49 } }) ::
(nat_lit 51, { cls := .type "tuple", data := .seq #[] }) ::
(nat_lit 53, { cls := .type "tuple", data := .seq #[.str "self" 247, .str "value" 248] }) ::
(nat_lit 54, { cls := .type "tuple", data := .seq #[] }) ::
(nat_lit 56, { cls := .type "code", data := .fields #[.str "_encode64" 244, .str "Base64Engine._encode64" 245, .str "/claim/cut.py" 246, .int 31 0, .int 2 0, .int 0 0, .int 0 0, .int 3 0, .ref 51, .bool true, .int 181 0, .ref 52, .none, .ref 53, .ref 54, .ref 55, .int 249 0, .int 31 0, .str "/claim/cut.py" 250] }) ::
(nat_lit 57, { cls := .type "function", data := .func { name := "_encode64", qualname := "Base64Engine._encode64", params := cP 4, body := .stmts (cB 4), scope := cS 4, globals := 3, closure := [], defaults := .none, kwdefaults := .none, pyModule := .str "passlib.utils.binary" 213, code := .ref 56 } }) ::
(nat_lit 58, { cls := .type "tuple", data := .seq #[] }) ::
(nat_lit 60, { cls := .type "tuple", data := .seq #[.str "self" 255, .str "value" 256] }) ::
(nat_lit 61, { cls := .type "tuple", data := .seq #[] }) ::
(nat_lit 63, { cls := .type "code", data := .fields #[.str "_decode64" 252, .str "Base64Engine._decode64" 253, .str "/claim/cut.py" 254, .int 34 0, .int 2 0, .int 0 0, .int 0 0, .int 3 0, .ref 58, .bool true, .int 181 0, .ref 59, .none, .ref 60, .ref 61, .ref 62, .int 257 0, .int 34 0, .str "/claim/cut.py" 258] }) ::
(nat_lit 64, { cls := .type "function", data := .func { name := "_decode64", qualname := "Base64Engine._decode64", params := cP 5, body := .stmts (cB 5), scope := cS 5, globals := 3, closure := [], defaults := .none, kwdefaults := .none, pyModule := .str "passlib.utils.binary" 213, code := .ref 63 } }) ::
(nat_lit 65, { cls := .type "tuple", data := .seq #[] }) ::
(nat_lit 67, { cls := .type "tuple", data := .seq #[.str "self" 263, .str "next_value" 264, .str "chunks" 265, .str "tail" 266] }) ::
(nat_lit 68, { cls := .type "tuple", data := .seq #[] }) ::
(nat_lit 70, { cls := .type "code", data := .fields #[.str "_encode_bytes" 260, .str "Base64Engine._encode_bytes" 261, .str "/claim/cut.py" 262, .int 37 0, .int 4 0, .int 0 0, .int 0 0, .int 3 0, .ref 65, .bool true, .int 181 0, .ref 66, .none, .ref 67, .ref 68, .ref 69, .int 267 0, .int 37 0, .str "/claim/cut.py" 268] }) ::
(nat_lit 71, { cls := .type "function", data := .func { name := "_encode_bytes", qualname := "Base64Engine._encode_bytes", params := cP 6, body := .stmts (cB 6), scope := cS 6, globals := 3, closure := [], defaults := .none, kwdefaults := .none, pyModule := .str "passlib.utils.binary" 213, code := .ref 70 } }) ::
(nat_lit 72, { cls := .type "tuple", data := .seq #[] }) ::
(nat_lit 74, { cls := .type "tuple", data := .seq #[.str "self" 273, .str "next_value" 274, .str "chunks" 275, .str "tail" 276] }) ::
(nat_lit 75, { cls := .type "tuple", data := .seq #[] }) ::
(nat_lit 77, { cls := .type "code", data := .fields #[.str "_decode_bytes" 270, .str "Base64Engine._decode_bytes" 271, .str "/claim/cut.py" 272, .int 42 0, .int 4 0, .int 0 0, .int 0 0, .int 3 0, .ref 72, .bool true, .int 181 0, .ref 73, .none, .ref 74, .ref 75, .ref 76, .int 277 0, .int 42 0, .str "/claim/cut.py" 278] }) ::
(nat_lit 78, { cls := .type "function", data := .func { name := "_decode_bytes", qualname := "Base64Engine._decode_bytes", params := cP 7, body := .stmts (cB 7), scope := cS 7, globals := 3, closure := [], defaults := .none, kwdefaults := .none, pyModule := .str "passlib.utils.binary" 213, code := .ref 77 } }) ::
(nat_lit 79, { cls := .type "tuple", data := .seq #[] }) ::
(nat_lit 81, { cls := .type "tuple", data := .seq #[.str "self" 283] }) ::
(nat_lit 82, { cls := .type "tuple", data := .seq #[] }) ::
(nat_lit 84, { cls := .type "code", data := .fields #[.str "charmap" 280, .str "Base64Engine.charmap" 281, .str "/claim/cut.py" 282, .int 47 0, .int 1 0, .int 0 0, .int 0 0, .int 3 0, .ref 79, .bool true, .int 181 0, .ref 80, .none, .ref 81, .ref 82, .ref 83, .int 284 0, .int 47 0, .str "/claim/cut.py" 285] }) ::
(nat_lit 85, { cls := .type "function", data := .func { name := "charmap", qualname := "Base64Engine.charmap", params := cP 8, body := .stmts (cB 8), scope := cS 8, globals := 3, closure := [], defaults := .none, kwdefaults := .none, pyModule := .str "passlib.utils.binary" 213, code := .ref 84 } }) ::
(nat_lit 86, { cls := .type "property", data := .fields #[.ref 85, .none, .none, .none, .str "charmap" 287, .bool false] }) ::
(nat_lit 87, { cls := .type "tuple", data := .seq #[] }) ::
(nat_lit 90, { cls := .type "code", data := .fields #[.str "encode_bytes" 288, .str "Base64Engine.encode_bytes" 289, .str "/claim/cut.py" 290, .int 51 0, .int 2 0, .int 0 0, .int 0 0, .int 3 0, .ref 87, .bool true, .int 181 0, .ref 88, .none, .none, .none, .ref 89, .int 291 0, .int 51 0, .str "/claim/cut.py" 292] }) ::
(nat_lit 91, { cls := .type "function", data := .func { name := "encode_bytes", qualname := "Base64Engine.encode_bytes", params := cP 9, body := .stmts (cB 9), scope := cS 9, globals := 3, closure := [], defaults := .none, kwdefaults := .none, pyModule := .str "passlib.utils.binary" 213, code := .ref 90 } }) ::
(nat_lit 92, { cls := .type "tuple", data := .seq #[] }) ::
(nat_lit 94, { cls := .type "tuple", data := .seq #[.str "self" 297, .str "next_value" 298, .str "chunks" 299, .str "tail" 300, .str "idx" 301, .str "v1" 302, .str "v2" 303, .str "v3" 304] }) ::
(nat_lit 95, { cls := .type "tuple", data := .seq #[] }) ::
(nat_lit 97, { cls := .type "code", data := .fields #[.str "_encode_bytes_little" 294, .str "Base64Engine._encode_bytes_little" 295, .str "/claim/cut.py" 296, .int 63 0, .int 4 0, .int 0 0, .int 0 0, .int 35 0, .ref 92, .bool true, .int 181 0, .ref 93, .none, .ref 94, .ref 95, .ref 96, .int 305 0, .int 63 0, .str "/claim/cut.py" 306] }) ::
(nat_lit 98, { cls := .type "function", data := .func { name := "_encode_bytes_little", qualname := "Base64Engine._encode_bytes_little", params := cP 10, body := .stmts (cB 10), scope := cS 10, globals := 3, closure := [], defaults := .none, kwdefaults := .none, pyModule := .str "passlib.utils.binary" 213, code := .ref 97 } }) ::
(nat_lit 99, { cls := .type "tuple", data := .seq #[] }) ::
(nat_lit 101, { cls := .type "tuple", data := .seq #[.str "self" 311, .str "next_value" 312, .str "chunks" 313, .str "tail" 314, .str "idx" 315, .str "v1" 316, .str "v2" 317, .str "v3" 318] }) ::
(nat_lit 102, { cls := .type "tuple", data := .seq #[] }) ::
(nat_lit 104, { cls := .type "code", data := .fields #[.str "_encode_bytes_big" 308, .str "Base64Engine._encode_bytes_big" 309, .str "/claim/cut.py" 310, .int 86 0, .int 4 0, .int 0 0, .int 0 0, .int 35 0, .ref 99, .bool true, .int 181 0, .ref 100, .none, .ref 101, .ref 102, .ref 103, .int 319 0, .int 86 0, .str "/claim/cut.py" 320] }) ::
(nat_lit 105, { cls := .type "function", data := .func { name := "_encode_bytes_big", qualname := "Base64Engine._encode_bytes_big", params := cP 11, body := .stmts (cB 11), scope := cS 11, globals := 3, closure := [], defaults := .none, kwdefaults := .none, pyModule := .str "passlib.utils.binary" 213, code := .ref 104 } }) ::
(nat_lit 106, { cls := .type "tuple", data := .seq #[] }) ::
(nat_lit 108, { cls := .type "tuple", data := .seq #[.str "self" 325, .str "source" 326, .str "chunks" 327, .str "tail" 328, .str "next_value" 329] }) ::
(nat_lit 109, { cls := .type "tuple", data := .seq #[.str "self" 330, .str "values" 331] }) ::
(nat_lit 111, { cls := .type "code", data := .fields #[.str "decode_bytes" 322, .str "Base64Engine.decode_bytes" 323, .str "/claim/cut.py" 324, .int 109 0, .int 2 0, .int 0 0, .int 0 0, .int 3 0, .ref 106, .bool true, .int 181 0, .ref 107, .none, .ref 108, .ref 109, .ref 110, .int 332 0, .int 109 0, .str "/claim/cut.py" 333] }) ::
(nat_lit 112, { cls := .type "function", data := .func { name := "decode_bytes", qualname := "Base64Engine.decode_bytes", params := cP 12, body := .stmts (cB 12), scope := cS 12, globals := 3, closure := [], defaults := .none, kwdefaults := .none, pyModule := .str "passlib.utils.binary" 213, code := .ref 111 } }) ::
(nat_lit 113, { cls := .type "tuple", data := .seq #[] }) ::
(nat_lit 115, { cls := .type "tuple", data := .seq #[.str "self" 338, .str "next_value" 339, .str "chunks" 340, .str "tail" 341, .str "idx" 342, .str "v1" 343, .str "v2" 344, .str "v3" 345, .str "v4" 346] }) ::
(nat_lit 116, { cls := .type "tuple", data := .seq #[] }) ::
(nat_lit 118, { cls := .type "code", data := .fields #[.str "_decode_bytes_little" 335, .str "Base64Engine._decode_bytes_little" 336, .str "/claim/cut.py" 337, .int 124 0, .int 4 0, .int 0 0, .int 0 0, .int 35 0, .ref 113, .bool true, .int 181 0, .ref 114, .none, .ref 115, .ref 116, .ref 117, .int 347 0, .int 124 0, .str "/claim/cut.py" 348] }) ::
(nat_lit 119, { cls := .type "function", data := .func { name := "_decode_bytes_little", qualname := "Base64Engine._decode_bytes_little", params := cP 13, body := .stmts (cB 13), scope := cS 13, globals := 3, closure := [], defaults := .none, kwdefaults := .none, pyModule := .str "passlib.utils.binary" 213, code := .ref 118 } }) ::
(nat_lit 120, { cls := .type "tuple", data := .seq #[] }) ::
(nat_lit 122, { cls := .type "tuple", data := .seq #[.str "self" 353, .str "next_value" 354, .str "chunks" 355, .str "tail" 356, .str "idx" 357, .str "v1" 358, .str "v2" 359, .str "v3" 360, .str "v4" 361] }) ::
(nat_lit 123, { cls := .type "tuple", data := .seq #[] }) ::
(nat_lit 125, { cls := .type "code", data := .fields #[.str "_decode_bytes_big" 350, .str "Base64Engine._decode_bytes_big" 351, .str "/claim/cut.py" 352, .int 143 0, .int 4 0, .int 0 0, .int 0 0, .int 35 0, .ref 120, .bool true, .int 181 0, .ref 121, .none, .ref 122, .ref 123, .ref 124, .int 362 0, .int 143 0, .str "/claim/cut.py" 363] }) ::
(nat_lit 126, { cls := .type "function", data := .func { name := "_decode_bytes_big", qualname := "Base64Engine._decode_bytes_big", params := cP 14, body := .stmts (cB 14), scope := cS 14, globals := 3, closure := [], defaults := .none, kwdefaults := .none, pyModule := .str "passlib.utils.binary" 213, code := .ref 125 } }) ::
(nat_lit 127, { cls := .type "tuple", data := .seq #[] }) ::
(nat_lit 129, { cls := .type "tuple", data := .seq #[.str "self" 368, .str "bits" 369] }) ::
(nat_lit 130, { cls := .type "tuple", data := .seq #[] }) ::
(nat_lit 132, { cls := .type "code", data := .fields #[.str "_make_padset" 365, .str "Base64Engine._make_padset" 366, .str "/claim/cut.py" 367, .int 162 0, .int 2 0, .int 0 0, .int 0 0, .int 3 0, .ref 127, .bool true, .int 181 0, .ref 128, .none, .ref 129, .ref 130, .ref 131, .int 370 0, .int 162 0, .str "/claim/cut.py" 371] }) ::
(nat_lit 133, { cls := .type "function", data := .func { name := "_make_padset", qualname := "Base64Engine._make_padset", params := cP 15, body := .stmts (cB 15), scope := cS 15, globals := 3, closure := [], defaults := .none, kwdefaults := .none, pyModule := .str "passlib.utils.binary" 213, code := .ref 132 } }) ::
(nat_lit 134, { cls := .type "tuple", data := .seq #[] }) ::
(nat_lit 136, { cls := .type "tuple", data := .seq #[.str "self" 376] }) ::
(nat_lit 137, { cls := .type "tuple", data := .seq #[] }) ::
(nat_lit 139, { cls := .type "code", data := .fields #[.str "_padinfo2" 373, .str "Base64Engine._padinfo2" 374, .str "/claim/cut.py" 375, .int 165 0, .int 1 0, .int 0 0, .int 0 0, .int 3 0, .ref 134, .bool true, .int 181 0, .ref 135, .none, .ref 136, .ref 137, .ref 138, .int 377 0, .int 165 0, .str "/claim/cut.py" 378] }) ::
(nat_lit 140, { cls := .type "function", data := .func { name := "_padinfo2", qualname := "Base64Engine._padinfo2", params := cP 16, body := .stmts (cB 16), scope := cS 16, globals := 3, closure := [], defaults := .none, kwdefaults := .none, pyModule := .str "passlib.utils.binary" 213, code := .ref 139 } }) ::
(nat_lit 141, { cls := .type "property", data := .fields #[.ref 140, .none, .none, .none, .str "_padinfo2" 380, .bool false] }) ::
(nat_lit 142, { cls := .type "tuple", data := .seq #[] }) ::
(nat_lit 144, { cls := .type "tuple", data := .seq #[.str "self" 384] }) ::
(nat_lit 145, { cls := .type "tuple", data := .seq #[] }) ::
(nat_lit 147, { cls := .type "code", data := .fields #[.str "_padinfo3" 381, .str "Base64Engine._padinfo3" 382, .str "/claim/cut.py" 383, .int 169 0, .int 1 0, .int 0 0, .int 0 0, .int 3 0, .ref 142, .bool true, .int 181 0, .ref 143, .none, .ref 144, .ref 145, .ref 146, .int 385 0, .int 169 0, .str "/claim/cut.py" 386] }) ::
(nat_lit 148, { cls := .type "function", data := .func { name := "_padinfo3", qualname := "Base64Engine._padinfo3", params := cP 17, body := .stmts (cB 17), scope := cS 17, globals := 3, closure := [], defaults := .none, kwdefaults := .none, pyModule := .str "passlib.utils.binary" 213, code := .ref 147 } }) ::
(nat_lit 149, { cls := .type "property", data := .fields #[.ref 148, .none, .none, .none, .str "_padinfo3" 388, .bool false] }) ::
(nat_lit 150, { cls := .type "tuple", data := .seq #[] }) ::
(nat_lit 152, { cls := .type "tuple", data := .seq #[.str "self" 392, .str "source" 393] }) ::
(nat_lit 153, { cls := .type "tuple", data := .seq #[] }) ::
(nat_lit 155, { cls := .type "code", data := .fields #[.str "check_repair_unused" 389, .str "Base64Engine.check_repair_unused" 390, .str "/claim/cut.py" 391, .int 173 0, .int 2 0, .int 0 0, .int 0 0, .int 3 0, .ref 150, .bool true, .int 181 0, .ref 151, .none, .ref 152, .ref 153, .ref 154, .int 394 0, .int 173 0, .str "/claim/cut.py" 395] }) ::
(nat_lit 156, { cls := .type "function", data := .func { name := "check_repair_unused", qualname := "Base64Engine.check_repair_unused", params := cP 18, body := .stmts (cB 18), scope := cS 18, globals := 3, closure := [], defaults := .none, kwdefaults := .none, pyModule := .str "passlib.utils.binary" 213, code := .ref 155 } }) ::
(nat_lit 157, { cls := .type "tuple", data := .seq #[] }) ::
(nat_lit 159, { cls := .type "tuple", data := .seq #[.str "self" 400, .str "source" 401] }) ::
(nat_lit 160, { cls := .type "tuple", data := .seq #[] }) ::
(nat_lit 162, { cls := .type "code", data := .fields #[.str "repair_unused" 397, .str "Base64Engine.repair_unused" 398, .str "/claim/cut.py" 399, .int 176 0, .int 2 0, .int 0 0, .int 0 0, .int 3 0, .ref 157, .bool true, .int 181 0, .ref 158, .none, .ref 159, .ref 160, .ref 161, .int 402 0, .int 176 0, .str "/claim/cut.py" 403] }) ::
(nat_lit 163, { cls := .type "function", data := .func { name := "repair_unused", qualname := "Base64Engine.repair_unused", params := cP 19, body := .stmts (cB 19), scope := cS 19, globals := 3, closure := [], defaults := .none, kwdefaults := .none, pyModule := .str "passlib.utils.binary" 213, code := .ref 162 } }) ::
(nat_lit 164, { cls := .type "tuple", data := .seq #[] }) ::
(nat_lit 167, { cls := .type "code", data := .fields #[.str "encode_transposed_bytes" 405, .str "Base64Engine.encode_transposed_bytes" 406, .str "/claim/cut.py" 407, .int 179 0, .int 3 0, .int 0 0, .int 0 0, .int 3 0, .ref 164, .bool true, .int 181 0, .ref 165, .none, .none, .none, .ref 166, .int 408 0, .int 179 0, .str "/claim/cut.py" 409] }) ::
(nat_lit 168, { cls := .type "function", data := .func { name := "encode_transposed_bytes", qualname := "Base64Engine.encode_transposed_bytes", params := cP 20, body := .stmts (cB 20), scope := cS 20, globals := 3, closure := [], defaults := .none, kwdefaults := .none, pyModule := .str "passlib.utils.binary" 213, code := .ref 167 } }) ::
(nat_lit 169, { cls := .type "tuple", data := .seq #[] }) ::
(nat_lit 171, { cls := .type "tuple", data := .seq #[.str "self" 414, .str "source" 415, .str "offsets" 416, .str "tmp" 417, .str "buf" 418, .str "off" 419, .str "char" 420] }) ::
(nat_lit 172, { cls := .type "tuple", data := .seq #[] }) ::
(nat_lit 174, { cls := .type "code", data := .fields #[.str "decode_transposed_bytes" 411, .str "Base64Engine.decode_transposed_bytes" 412, .str "/claim/cut.py" 413, .int 185 0, .int 3 0, .int 0 0, .int 0 0, .int 3 0, .ref 169, .bool true, .int 181 0, .ref 170, .none, .ref 171, .ref 172, .ref 173, .int 421 0, .int 185 0, .str "/claim/cut.py" 422] }) ::
(nat_lit 175, { cls := .type "function", data := .func { name := "decode_transposed_bytes", qualname := "Base64Engine.decode_transposed_bytes", params := cP 21, body := .stmts (cB 21), scope := cS 21, globals := 3, closure := [], defaults := .none, kwdefaults := .none, pyModule := .str "passlib.utils.binary" 213, code := .ref 174 } }) ::
(nat_lit 176, { cls := .type "tuple", data := .seq #[] }) ::
(nat_lit 178, { cls := .type "tuple", data := .seq #[.str "self" 427, .str "source" 428, .str "bits" 429, .str "big" 430, .str "pad" 431, .str "chars" 432, .str "decode" 433, .str "out" 434, .str "c" 435] }) ::
(nat_lit 179, { cls := .type "tuple", data := .seq #[.str "self" 436] }) ::
(nat_lit 181, { cls := .type "code", data := .fields #[.str "_decode_int" 424, .str "Base64Engine._decode_int" 425, .str "/claim/cut.py" 426, .int 192 0, .int 3 0, .int 0 0, .int 0 0, .int 3 0, .ref 176, .bool true, .int 181 0, .ref 177, .none, .ref 178, .ref 179, .ref 180, .int 437 0, .int 192 0, .str "/claim/cut.py" 438] }) ::
(nat_lit 182, { cls := .type "function", data := .func { name := "_decode_int", qualname := "Base64Engine._decode_int", params := cP 22, body := .stmts (cB 22), scope := cS 22, globals := 3, closure := [], defaults := .none, kwdefaults := .none, pyModule := .str "passlib.utils.binary" 213, code := .ref 181 } }) ::
(nat_lit 183, { cls := .type "tuple", data := .seq #[] }) ::
(nat_lit 185, { cls := .type "tuple", data := .seq #[.str "self" 443, .str "source" 444] }) ::
(nat_lit 186, { cls := .type "tuple", data := .seq #[] }) ::
(nat_lit 188, { cls := .type "code", data := .fields #[.str "decode_int6" 440, .str "Base64Engine.decode_int6" 441, .str "/claim/cut.py" 442, .int 216 0, .int 2 0, .int 0 0, .int 0 0, .int 3 0, .ref 183, .bool true, .int 181 0, .ref 184, .none, .ref 185, .ref 186, .ref 187, .int 445 0, .int 216 0, .str "/claim/cut.py" 446] }) ::
(nat_lit 189, { cls := .type "function", data := .func { name := "decode_int6", qualname := "Base64Engine.decode_int6", params := cP 23, body := .stmts (cB 23), scope := cS 23, globals := 3, closure := [], defaults := .none, kwdefaults := .none, pyModule := .str "passlib.utils.binary" 213, code := .ref 188 } }) ::
(nat_lit 190, { cls := .type "tuple", data := .seq #[] }) ::
(nat_lit 192, { cls := .type "tuple", data := .seq #[.str "self" 451, .str "source" 452, .str "decode" 453] }) ::
(nat_lit 193, { cls := .type "tuple", data := .seq #[.str "self" 454] }) ::
(nat_lit 195, { cls := .type "code", data := .fields #[.str "decode_int12" 448, .str "Base64Engine.decode_int12" 449, .str "/claim/cut.py" 450, .int 227 0, .int 2 0, .int 0 0, .int 0 0, .int 3 0, .ref 190, .bool true, .int 181 0, .ref 191, .none, .ref 192, .ref 193, .ref 194, .int 455 0, .int 227 0, .str "/claim/cut.py" 456] }) ::
(nat_lit 196, { cls := .type "function", data := .func { name := "decode_int12", qualname := "Base64Engine.decode_int12", params := cP 24, body := .stmts (cB 24), scope := cS 24, globals := 3, closure := [], defaults := .none, kwdefaults := .none, pyModule := .str "passlib.utils.binary" 213, code := .ref 195 } }) ::
(nat_lit 197, { cls := .type "tuple", data := .seq #[] }) ::
(nat_lit 199, { cls := .type "tuple", data := .seq #[.str "self" 461, .str "source" 462, .str "decode" 463] }) ::
(nat_lit 200, { cls := .type "tuple", data := .seq #[.str "self" 464] }) ::
(nat_lit 202, { cls := .type "code", data := .fields #[.str "decode_int24" 458, .str "Base64Engine.decode_int24" 459, .str "/claim/cut.py" 460, .int 243 0, .int 2 0, .int 0 0, .int 0 0, .int 3 0, .ref 197, .bool true, .int 181 0, .ref 198, .none, .ref 199, .ref 200, .ref 201, .int 465 0, .int 243 0, .str "/claim/cut.py" 466] }) ::
(nat_lit 203, { cls := .type "function", data := .func { name := "decode_int24", qualname := "Base64Engine.decode_int24", params := cP 25, body := .stmts (cB 25), scope := cS 25, globals := 3, closure := [], defaults := .none, kwdefaults := .none, pyModule := .str "passlib.utils.binary" 213, code := .ref 202 } }) ::
(nat_lit 204, { cls := .type "tuple", data := .seq #[] }) ::
(nat_lit 206, { cls := .type "tuple", data := .seq #[.str "self" 471, .str "source" 472] }) ::
(nat_lit 207, { cls := .type "tuple", data := .seq #[] }) ::
(nat_lit 209, { cls := .type "code", data := .fields #[.str "decode_int30" 468, .str "Base64Engine.decode_int30" 469, .str "/claim/cut.py" 470, .int 259 0, .int 2 0, .int 0 0, .int 0 0, .int 3 0, .ref 204, .bool true, .int 181 0, .ref 205, .none, .ref 206, .ref 207, .ref 208, .int 473 0, .int 259 0, .str "/claim/cut.py" 474] }) ::
(nat_lit 210, { cls := .type "function", data := .func { name := "decode_int30", qualname := "Base64Engine.decode_int30", params := cP 26, body := .stmts (cB 26), scope := cS 26, globals := 3, closure := [], defaults := .none, kwdefaults := .none, pyModule := .str "passlib.utils.binary" 213, code := .ref 209 } }) ::
(nat_lit 211, { cls := .type "tuple", data := .seq #[] }) ::
(nat_lit 213, { cls := .type "tuple", data := .seq #[.str "self" 479, .str "source" 480] }) ::
(nat_lit 214, { cls := .type "tuple", data := .seq #[] }) ::
(nat_lit 216, { cls := .type "code", data := .fields #[.str "decode_int64" 476, .str "Base64Engine.decode_int64" 477, .str "/claim/cut.py" 478, .int 262 0, .int 2 0, .int 0 0, .int 0 0, .int 3 0, .ref 211, .bool true, .int 181 0, .ref 212, .none, .ref 213, .ref 214, .ref 215, .int 481 0, .int 262 0, .str "/claim/cut.py" 482] }) ::
(nat_lit 217, { cls := .type "function", data := .func { name := "decode_int64", qualname := "Base64Engine.decode_int64", params := cP 27, body := .stmts (cB 27), scope := cS 27, globals := 3, closure := [], defaults := .none, kwdefaults := .none, pyModule := .str "passlib.utils.binary" 213, code := .ref 216 } }) ::
(nat_lit 218, { cls := .type "tuple", data := .seq #[] }) ::
(nat_lit 221, { cls := .type "code", data := .fields #[.str "_encode_int" 484, .str "Base64Engine._encode_int" 485, .str "/claim/cut.py" 486, .int 265 0, .int 3 0, .int 0 0, .int 0 0, .int 3 0, .ref 218, .bool true, .int 181 0, .ref 219, .none, .none, .none, .ref 220, .int 487 0, .int 265 0, .str "/claim/cut.py" 488] }) ::
(nat_lit 222, { cls := .type "function", data := .func { name := "_encode_int", qualname := "Base64Engine._encode_int", params := cP 28, body := .stmts (cB 28), scope := cS 28, globals := 3, closure := [], defaults := .none, kwdefaults := .none, pyModule := .str "passlib.utils.binary" 213, code := .ref 221 } }) ::
(nat_lit 223, { cls := .type "tuple", data := .seq #[] }) ::
(nat_lit 225, { cls := .type "tuple", data := .seq #[.str "self" 493, .str "value" 494] }) ::
(nat_lit 226, { cls := .type "tuple", data := .seq #[] }) ::
(nat_lit 228, { cls := .type "code", data := .fields #[.str "encode_int6" 490, .str "Base64Engine.encode_int6" 491, .str "/claim/cut.py" 492, .int 276 0, .int 2 0, .int 0 0, .int 0 0, .int 3 0, .ref 223, .bool true, .int 181 0, .ref 224, .none, .ref 225, .ref 226, .ref 227, .int 495 0, .int 276 0, .str "/claim/cut.py" 496] }) ::
(nat_lit 229, { cls := .type "function", data := .func { name := "encode_int6", qualname := "Base64Engine.encode_int6", params := cP 29, body := .stmts (cB 29), scope := cS 29, globals := 3, closure := [], defaults := .none, kwdefaults := .none, pyModule := .str "passlib.utils.binary" 213, code := .ref 228 } }) ::
(nat_lit 230, { cls := .type "tuple", data := .seq #[] }) ::
(nat_lit 233, { cls := .type "code", data := .fields #[.str "encode_int12" 498, .str "Base64Engine.encode_int12" 499, .str "/claim/cut.py" 500, .int 281 0, .int 2 0, .int 0 0, .int 0 0, .int 3 0, .ref 230, .bool true, .int 181 0, .ref 231, .none, .none, .none, .ref 232, .int 501 0, .int 281 0, .str "/claim/cut.py" 502] }) ::
(nat_lit 234, { cls := .type "function", data := .func { name := "encode_int12", qualname := "Base64Engine.encode_int12", params := cP 30, body := .stmts (cB 30), scope := cS 30, globals := 3, closure := [], defaults := .none, kwdefaults := .none, pyModule := .str "passlib.utils.binary" 213, code := .ref 233 } }) ::
(nat_lit 235, { cls := .type "tuple", data := .seq #[] }) ::
(nat_lit 238, { cls := .type "code", data := .fields #[.str "encode_int24" 504, .str "Base64Engine.encode_int24" 505, .str "/claim/cut.py" 506, .int 289 0, .int 2 0, .int 0 0, .int 0 0, .int 3 0, .ref 235, .bool true, .int 181 0, .ref 236, .none, .none, .none, .ref 237, .int 507 0, .int 289 0, .str "/claim/cut.py" 508] }) ::
(nat_lit 239, { cls := .type "function", data := .func { name := "encode_int24", qualname := "Base64Engine.encode_int24", params := cP 31, body := .stmts (cB 31), scope := cS 31, globals := 3, closure := [], defaults := .none, kwdefaults := .none, pyModule := .str "passlib.utils.binary" 213, code := .ref 238 } }) ::
(nat_lit 240, { cls := .type "tuple", data := .seq #[] }) ::
(nat_lit 242, { cls := .type "tuple", data := .seq #[.str "self" 513, .str "value" 514] }) ::
(nat_lit 243, { cls := .type "tuple", data := .seq #[] }) ::
(nat_lit 245, { cls := .type "code", data := .fields #[.str "encode_int30" 510, .str "Base64Engine.encode_int30" 511, .str "/claim/cut.py" 512, .int 297 0, .int 2 0, .int 0 0, .int 0 0, .int 3 0, .ref 240, .bool true, .int 181 0, .ref 241, .none, .ref 242, .ref 243, .ref 244, .int 515 0, .int 297 0, .str "/claim/cut.py" 516] }) ::
(nat_lit 246, { cls := .type "function", data := .func { name := "encode_int30", qualname := "Base64Engine.encode_int30", params := cP 32, body := .stmts (cB 32), scope := cS 32, globals := 3, closure := [], defaults := .none, kwdefaults := .none, pyModule := .str "passlib.utils.binary" 213, code := .ref 245 } }) ::
(nat_lit 247, { cls := .type "tuple", data := .seq #[] }) ::
(nat_lit 249, { cls := .type "tuple", data := .seq #[.str "self" 521, .str "value" 522] }) ::
(nat_lit 250, { cls := .type "tuple", data := .seq #[] }) ::
(nat_lit 252, { cls := .type "code", data := .fields #[.str "encode_int64" 518, .str "Base64Engine.encode_int64" 519, .str "/claim/cut.py" 520, .int 302 0, .int 2 0, .int 0 0, .int 0 0, .int 3 0, .ref 247, .bool true, .int 181 0, .ref 248, .none, .ref 249, .ref 250, .ref 251, .int 523 0, .int 302 0, .str "/claim/cut.py" 524] }) ::
(nat_lit 253, { cls := .type "function", data := .func { name := "encode_int64", qualname := "Base64Engine.encode_int64", params := cP 33, body := .stmts (cB 33), scope := cS 33, globals := 3, closure := [], defaults := .none, kwdefaults := .none, pyModule := .str "passlib.utils.binary" 213, code := .ref 252 } }) ::
(nat_lit 254, { cls := .type "tuple", data := .seq #[.str "_lookup" 526, .str "big" 527, .str "bytemap" 528] }) ::
(nat_lit 255, { cls := .type "dict", data := .dict #[{ hash := PyData.keyHash P (Str.ofString "__module__"), key := .str "__module__" 226, val := .str "passlib.utils.binary" 213 }, { hash := PyData.keyHash P (Str.ofString "__firstlineno__"), key := .str "__firstlineno__" 230, val := .int 12 229 }, { hash := PyData.keyHash P (Str.ofString "bytemap"), key := .str "bytemap" 231, val := .none }, { hash := PyData.keyHash P (Str.ofString "big"), key := .str "big" 232, val := .none }, { hash := PyData.keyHash P (Str.ofString "_lookup"), key := .str "_lookup" 233, val := .none }, { hash := PyData.keyHash P (Str.ofString "__init__"), key := .str "__init__" 243, val := .ref 50 }, { hash := PyData.keyHash P (Str.ofString "_encode64"), key := .str "_encode64" 251, val := .ref 57 }, { hash := PyData.keyHash P (Str.ofString "_decode64"), key := .str "_decode64" 259, val := .ref 64 }, { hash := PyData.keyHash P (Str.ofString "_encode_bytes"), key := .str "_encode_bytes" 269, val := .ref 71 }, { hash := PyData.keyHash P (Str.ofString "_decode_bytes"), key := .str "_decode_bytes" 279, val := .ref 78 }, { hash := PyData.keyHash P (Str.ofString "charmap"), key := .str "charmap" 287, val := .ref 86 }, { hash := PyData.keyHash P (Str.ofString "encode_bytes"), key := .str "encode_bytes" 293, val := .ref 91 }, { hash := PyData.keyHash P (Str.ofString "_encode_bytes_little"), key := .str "_encode_bytes_little" 307, val := .ref 98 }, { hash := PyData.keyHash P (Str.ofString "_encode_bytes_big"), key := .str "_encode_bytes_big" 321, val := .ref 105 }, { hash := PyData.keyHash P (Str.ofString "decode_bytes"), key := .str "decode_bytes" 334, val := .ref 112 }, { hash := PyData.keyHash P (Str.ofString "_decode_bytes_little"), key := .str "_decode_bytes_little" 349, val := .ref 119 }, { hash := PyData.keyHash P (Str.ofString "_decode_bytes_big"), key := .str "_decode_bytes_big" 364, val := .ref 126 }, { hash := PyData.keyHash P (Str.ofString "_make_padset"), key := .str "_make_padset" 372, val := .ref 133 }, { hash := PyData.keyHash P (Str.ofString "_padinfo2"), key := .str "_padinfo2" 380, val := .ref 141 }, { hash := PyData.keyHash P (Str.ofString "_padinfo3"), key := .str "_padinfo3" 388, val := .ref 149 }, { hash := PyData.keyHash P (Str.ofString "check_repair_unused"), key := .str "check_repair_unused" 396, val := .ref 156 }, { hash := PyData.keyHash P (Str.ofString "repair_unused"), key := .str "repair_unused" 404, val := .ref 163 }, { hash := PyData.keyHash P (Str.ofString "encode_transposed_bytes"), key := .str "encode_transposed_bytes" 410, val := .ref 168 }, { hash := PyData.keyHash P (Str.ofString "decode_transposed_bytes"), key := .str "decode_transposed_bytes" 423, val := .ref 175 }, { hash := PyData.keyHash P (Str.ofString "_decode_int"), key := .str "_decode_int" 439, val := .ref 182 }, { hash := PyData.keyHash P (Str.ofString "decode_int6"), key := .str "decode_int6" 447, val := .ref 189 }, { hash := PyData.keyHash P (Str.ofString "decode_int12"), key := .str "decode_int12" 457, val := .ref 196 }, { hash := PyData.keyHash P (Str.ofString "decode_int24"), key := .str "decode_int24" 467, val := .ref 203 }, { hash := PyData.keyHash P (Str.ofString "decode_int30"), key := .str "decode_int30" 475, val := .ref 210 }, { hash := PyData.keyHash P (Str.ofString "decode_int64"), key := .str "decode_int64" 483, val := .ref 217 }, { hash := PyData.keyHash P (Str.ofString "_encode_int"), key := .str "_encode_int" 489, val := .ref 222 }, { hash := PyData.keyHash P (Str.ofString "encode_int6"), key := .str "encode_int6" 497, val := .ref 229 }, { hash := PyData.keyHash P (Str.ofString "encode_int12"), key := .str "encode_int12" 503, val := .ref 234 }, { hash := PyData.keyHash P (Str.ofString "encode_int24"), key := .str "encode_int24" 509, val := .ref 239 }, { hash := PyData.keyHash P (Str.ofString "encode_int30"), key := .str "encode_int30" 517, val := .ref 246 }, { hash := PyData.keyHash P (Str.ofString "encode_int64"), key := .str "encode_int64" 525, val := .ref 253 }, { hash := PyData.keyHash P (Str.ofString "__static_attributes__"), key := .str "__static_attributes__" 529, val := .ref 254 }, { hash := PyData.keyHash P (Str.ofString "__dict__"), key := .str "__dict__" 531, val := .ref 257 }, { hash := PyData.keyHash P (Str.ofString "__weakref__"), key := .str "__weakref__" 533, val := .ref 258 }, { hash := PyData.keyHash P (Str.ofString "__doc__"), key := .str "__doc__" 534, val := .none }] 4 }) ::
(nat_lit 256, { cls := .type "type", data := .cls { name := "Base64Engine", bases := [.type "object"], mro := [.ref 256, .type "object"], ns := 255, qualname := "Base64Engine" }, slots := #[some (.ref 36), none, some (.str "Base64Engine" 219), some (.str "Base64Engine" 227), some (.builtin "object.__new__"), some (.bool true)] }) ::
(nat_lit 257, { cls := .type "getset_descriptor", data := .fields #[.str "__dict__" 530, .ref 256, .builtin "function.__dict__", .builtin "function.__dict__#set"] }) ::
(nat_lit 258, { cls := .type "getset_descriptor", data := .fields #[.str "__weakref__" 532, .ref 256, .builtin "ExceptionGroup.__weakref__", .none] }) :: []
section
noncomputable abbrev Md (w : World) : Model := model rw_iw0008_01.prog w
noncomputable def LOOSE : List Str := ["_wall", "ExpectedTypeError", "ExpectedStringError", "HASH64_CHARS", "BCRYPT_CHARS", "Base64Engine", "h64", "h64big", "bcrypt64", "_law_maps", "_law_sizes", "_law_bits", "_law_values", "_law_foreign", "_law_written", "_law_read", "law"]
noncomputable def Keep (h h' : Heap) : Prop := ∀ b o, h.get? b = some o → h'.get? b = some o
theorem Keep.refl (h : Heap) : Keep h h := fun _ _ e => e
theorem Keep.trans {h h' h'' : Heap} (a : Keep h h') (b : Keep h' h'') : Keep h h'' := fun x o e => b x o (a x o e)
structure Gd (w : World) (mg mb : Str → Option Value) (h : Heap) : Prop where
 K : (K0 w.params).In h
 P : Top topProg LOOSE (fun _ => none) mg mb h
theorem Gd.T {w : World} {mg mb : Str → Option Value} {h : Heap} (G : Gd w mg mb h) : TopRead topProg LOOSE mg mb h := topRead_of G.P
theorem Gd.keeps {w : World} {mg mb : Str → Option Value} {h h' : Heap} (G : Gd w mg mb h) (k : Keep h h') : Gd w mg mb h' := ⟨G.K.keeps k, G.P.keeps k⟩
noncomputable def CR (Q E : Value → Shared → Prop) : Result → Shared → Prop := fun r s' => match r with | .ok (.ret v) => Q v s' | .ok _ => False | .error e => E e s'
theorem wpCall {M : Model} {A : Around} {s : Shared} {Q E : Value → Shared → Prop} {f : Value} {pos : List Value} {kw : List (Str × Value)} (h : codeAny M A (.call f ⟨pos, kw⟩) (CR Q E) s) : wpAny M A (call f pos kw) Q E s := wpAny_call h
noncomputable def RQ (R : Result → Shared → Prop) : Flow → Shared → Prop := fun fl s' => R (.ok (.ret (match fl with | .ret v => v | _ => .none))) s'
noncomputable def RE (M : Model) (A : Around) (env : Env) (R : Result → Shared → Prop) : Value → Shared → Prop := fun e s' => wpAny M (A.deeper env) (leaving env e) (fun _ s'' => R (.error e) s'') (fun e' s'' => R (.error e') s'') s'
theorem rm {a b c L : Nat} (h : a + c < L) (q : b ≤ c := by decide) : a + b < L := Nat.lt_of_le_of_lt (Nat.add_le_add_left q a) h
theorem hdG {G : Prop} (h : ∀ P : Prop, (G → P) → P) : G := h G id
theorem sz_last {n : Int} (h : n = 6 ∨ n = 12 ∨ n = 24 ∨ n = 30 ∨ n = 64) (a : n ≠ 6) (b : n ≠ 12) (c : n ≠ 24) (d : n ≠ 30) : n = 64 := (((h.resolve_left a).resolve_left b).resolve_left c).resolve_left d
theorem rm2 {a b c d L : Nat} (h : a + d < L) (q : b + c ≤ d := by decide) : a + b + c < L := by rw [Nat.add_assoc]; exact rm h q
theorem rm3 {a b c d e L : Nat} (h : a + e < L) (q : b + c + d ≤ e := by decide) : a + b + c + d < L := by rw [Nat.add_assoc a]; exact rm2 h (by rw [Nat.add_assoc] at q; rw [Nat.add_assoc]; exact q)
section
variable {n i m : Nat}
theorem ns1 (h : n - i = m + 1) : n - (i + 1) = m := by rw [Nat.sub_add_eq, h]; rfl
theorem ns2 (h : i < n) : n - i = n - i - 1 + 1 := (Nat.sub_add_cancel (Nat.sub_pos_of_lt h)).symm
theorem ns4 (h : n - i = m + 1) (q : i < n) : n - 1 - m = i := by rw [Nat.sub_sub, Nat.add_comm, ← h]; exact Nat.sub_sub_self (Nat.le_of_lt q)
end
theorem nothing_hidden (h : Heap) : hideAll h [] = h := rfl
section
variable {w : World} {A : Around} {s : Shared} {f : Addr} {o : Obj} {name qual : Str} {params : Arguments} {body : List Stmt} {scope : Scope} {dV kV doc pm cdv ct : Value} {an : Option Addr} {args : Args} {binds : List (Str × Value)} {R : Result → Shared → Prop} {mg mb : Str → Option Value}
theorem enterF (G : Gd w mg mb s.heap) (led : List (Addr × Obj)) (hled : ∀ p ∈ led, s.heap.get? p.1 = some p.2)
  (hroom : A.depth < recursionLimit) (ho : s.heap.get? f = some o) (hd : o.data = .func (fnOf name qual params body scope dV kV doc pm an cdv ct)) (hcd : s.heap.CodeRec cdv qual)
  (hbind : BindsTo s (fnOf name qual params body scope dV kV doc pm an cdv ct) args binds)
  (hcell : ∀ x ∈ scope.names, x.2 ≠ .cell) (hloc : ∀ x ∈ binds, scope.names.lookup x.1 = some .local)
  (h : ∀ g L h₁, g = hideAll s.heap (led.map (·.1)) → (∀ p ∈ led, p.1 < L) → Fr g L h₁ (fun y => binds.reverse.lookup y) → News g L h₁ led →
   wpAny (Md w) (A.deeper (envOf qual scope L f cdv)) (execs body (envOf qual scope L f cdv))
    (RQ R) (RE (Md w) A (envOf qual scope L f cdv) R)
    { s with heap := h₁, toks := s.toks + binds.length })
  (hco : scope.isCoroutine = false) (hgen : scope.isGenerator = false) (hk : scope.kind = .function) :
  codeAny (Md w) A (.call (.ref f) args) R s := by
 refine codeAny_call_def (fd := fnOf name qual params body scope dV kV doc pm an cdv ct) (body := body) (binds := binds) hroom ho hd G.T.nolimit hcd rfl hbind hcell hloc (fun h₁ hns hk₁ => ?_) hco hgen hk
 have lt : ∀ p ∈ led, p.1 < s.heap.objs.size := fun p hp => Heap.lt_size (hled p hp)
 exact h _ s.heap.objs.size h₁ rfl lt ⟨hns, fun b o e => hk₁ b o (of_hideAll _ e), Nat.le_of_eq (hideAll_size _ _)⟩
  (fun p hp => ⟨hk₁ _ _ (hled p hp), Nat.ne_of_lt (lt p hp), hideAll_none _ (List.mem_map_of_mem hp)⟩)
end
end
noncomputable abbrev PP : Program := rw_iw0008_01.prog
noncomputable abbrev psA : List Addr := [88, 107, 177, 191, 198]
noncomputable def env0 : Env := { scope := PP.main.scope, locals := mainNs, globals := mainNs, cells := [], code := .ref 13, frame := some 14 }
noncomputable abbrev mods0 : List Str := importedModules PP.main.body
noncomputable def segA (w : World) : Option (Shared × (Shared × Thread) × (Flow × Shared × Code × Pos)) :=
 (fencedOpening treeTable PP w 1000).bind fun s₀ => (topGo treeTable PP w 11 none 12 s₀ (topStub PP)).bind fun r =>
  (segRun treeTable PP w 11 none 1 1600 r.1 (piecesOf (PP.main.body.take 8) env0 (.body PP.main.body env0) default [topFrame default])).map fun q => (s₀, r, q)
noncomputable def looseKeys (h : Heap) : Bool := (h.nsKeys mainGlobals).all fun k => startupNames.contains k || LOOSE.contains k
noncomputable def okA (s₀ s : Shared) : Bool := s₀.heap.isNs mainGlobals && (s₀.gens.size == 0) && (s₀.heap.objs.size == 11) && staticsOk mods0 s₀.heap s.heap && namesBound PP s.heap && laidKept s₀.heap s.heap &&
 s.heap.isNs builtinsNs && s.heap.isNs cStatics && (s.heap.nsKeys cStatics).isEmpty && looseKeys s.heap && s.heap.accountedOkI mods0 && (s.gens.size == 0) && (s.heap.objs.size == 261)
noncomputable abbrev namesA : List Str := ["__builtins__", "HASH64_CHARS", "BCRYPT_CHARS", "Base64Engine"]
noncomputable def obsA (P : Params) (x : Shared × (Shared × Thread) × (Flow × Shared × Code × Pos)) :=
 (okA x.1 x.2.2.2.1, x.2.2.2.1.heap.bltView, namesA.map (x.2.2.2.1.heap.nsMap mainGlobals), ([4, 12, 13, 45] : List Addr).map x.2.2.2.1.heap.get?, (K0 P).map (fun p => x.2.2.2.1.heap.get? p.1), psA.map x.2.2.2.1.heap.get?, x.2.1.2, x.2.2.1, x.2.2.2.2.1)
noncomputable abbrev obj4 : Obj := { cls := .type "module", dict := some 0, data := .plain }
noncomputable abbrev lA : List (Pos × Addr) := [(⟨1, 0, 0, 0⟩, 20), (⟨5, 0, 0, 0⟩, 27), (⟨7, 0, 0, 0⟩, 34), (⟨12, 0, 0, 0⟩, 41)]
noncomputable abbrev obj12 : Obj := { cls := .none, data := .fields (triples lA).toArray }
noncomputable abbrev obj13 : Obj := { cls := .type "code", data := .fields #[.str "<module>" 182, .str "<module>" 183, .str "/claim/cut.py" 184, .int 1 0, .int 0 0, .int 0 0, .int 0 0, .int 0 0, .ref 11, .bool false, .int 181 0, .ref 12, .none, .none, .none, .none, .int 185 0, .int 1 0, .str "/claim/cut.py" 186] }
theorem look0 : looksOpen rw_iw0008_01.row.prog = true := by
 unfold looksOpen
 repeat' (with_reducible refine look_both ?_ ?_)
 all_goals decide +kernel
theorem part0 : rw_iw0008_01.row.wellSaid = true := by
 unfold OpenRow.wellSaid OpenRow.partSaid
 repeat' (with_reducible refine look_both ?_ ?_)
 ·exact look0
 all_goals decide +kernel
theorem well0 : rw_iw0008_01.wellSaid = true := by
 unfold OpenLaw.wellSaid
 repeat' (with_reducible refine look_both ?_ ?_)
 ·exact part0
 all_goals decide +kernel
noncomputable def bt : List Obj → Nat → BT → BT
 | [], _, t => t
 | o :: l, n, t => bt l (n + 1) (t.ins n o)
noncomputable def btOk : List Obj → Nat → BT → Bool
 | [], _, _ => true
 | o :: l, n, t => ((t.ins n o).get n).isSome && btOk l (n + 1) (t.ins n o)
theorem bt_abs (life : Life) : ∀ (l : List Obj) (n : Nat) (t : BT), btOk l n t = true → (absHeap (bt l n t) (n + l.length) life).objs.toList = (absHeap t n life).objs.toList ++ l
 | [], n, t, _ => (List.append_nil _).symm
 | o :: l, n, t, h => by
  obtain ⟨h1, h2⟩ := Bool.and_eq_true_iff.mp h
  have e := bt_abs life l (n + 1) (t.ins n o) h2
  rw [absHeap_ins h1] at e
  rw [List.length_cons, Nat.add_comm l.length 1, ← Nat.add_assoc]
  refine e.trans ?_
  show ((absHeap t n life).objs.push o).toList ++ l = _
  rw [Array.toList_push, List.append_assoc]; rfl
noncomputable def toT (s : Shared) : SharedT := ⟨bt s.heap.objs.toList 0 .nil, s.heap.objs.size, s.heap.life, s.gens, s.drawn, s.toks, s.os⟩
theorem toT_abs {s : Shared} (h : btOk s.heap.objs.toList 0 .nil = true) : (toT s).abs = s := by
 obtain ⟨⟨objs, life⟩, gens, drawn, toks, os⟩ := s
 have e := bt_abs life objs.toList 0 .nil h
 have e2 : absHeap (bt objs.toList 0 .nil) objs.size life = ⟨objs, life⟩ := by
  rw [Nat.zero_add] at e
  exact congrArg (Heap.mk · life) (Array.toList_inj.mp (e.trans rfl))
 unfold toT SharedT.abs
 rw [e2]
noncomputable abbrev Ran (σ : Type) := Shared × (Shared × Thread) × (Flow × σ × Code × Pos)
noncomputable def segT (w : World) : Option (Ran SharedT) :=
 (fencedOpening treeTable PP w 1000).bind fun s₀ => (topGo treeTable PP w 11 none 12 s₀ (topStub PP)).bind fun r =>
  (segRunT treeTable PP w 11 none 1 1600 (toT r.1) (piecesOf (PP.main.body.take 8) env0 (.body PP.main.body env0) default [topFrame default])).map fun q => (s₀, r, q)
noncomputable def abR (x : Ran SharedT) : Ran Shared := (x.1, x.2.1, x.2.2.1, x.2.2.2.1.abs, x.2.2.2.2)
theorem segA_of {w : World} {α : Type} {f : Ran Shared → α} {v : α} (h : (segT w).map (fun x => (btOk x.2.1.1.heap.objs.toList 0 .nil, f (abR x))) = some (true, v)) : (segA w).map f = some v := by
 obtain ⟨x, hx, ho⟩ := Option.map_eq_some_iff.mp h
 obtain ⟨s₀, h2, h3⟩ := Option.bind_eq_some_iff.mp hx
 obtain ⟨r, h4, h5⟩ := Option.bind_eq_some_iff.mp h3
 obtain ⟨⟨fl, s, c, p⟩, h6, rfl⟩ := Option.map_eq_some_iff.mp h5
 obtain ⟨hb, hv⟩ := Prod.mk.injEq _ _ _ _ ▸ ho
 have h7 := segRun_of h6
 rw [toT_abs hb] at h7
 unfold segA
 rw [h2, Option.bind_some, h4, Option.bind_some, h7, ← hv]
 rfl
theorem stageA (w : World) : (segA w).map (obsA w.params) = some (true, bltViewBooted, [some (.ref 4), some (.str (Str.ofString "./0123456789ABCDEFGHIJKLMNOPQRSTUVWXYZabcdefghijklmnopqrstuvwxyz") 215), some (.str (Str.ofString "./ABCDEFGHIJKLMNOPQRSTUVWXYZabcdefghijklmnopqrstuvwxyz0123456789") 217), some (.ref 256)], [some obj4, some obj12, some obj13, some (tabObj #[])],
  (K0 w.params).map (fun p => some p.2), psA.map (fun _ => some (tabObj #[])), ⟨denote treeTable (.body PP.main.body env0), .body PP.main.body env0, default, [topFrame default]⟩, .next, .body PP.main.body env0) := by
 refine segA_of ?_
 unfold segT piecesOf obsA okA mods0 looseKeys
 first
  | (simp only [Fast.te10110043849684766642, Fast.te14364793385576792824, Fast.te12563942051412417395, Fast.te14722251495701143533, Fast.te8920871248978507458, Fast.te12749700546528644094, Fast.te5923862056798008813]; kernel_rfl)
  | kernel_rfl
section
section
variable {M : Model} {A : Around} {E : Value → Shared → Prop} {s : Shared} {h₀ : Heap} {L : Addr} {m mg mb : Str → Option Value} {env : Env} {x : Str} {pos : Pos} {v : Value} {Q : Value → Shared → Prop}
theorem nameB (F : Fr h₀ L s.heap m) (T : TopRead topProg LOOSE mg mb h₀) (hs : (startupNames ++ LOOSE).contains x = false) (hv : bootBuiltins x = some v) (hn : x ≠ "__name__") (h : Q v s)
  (hg : env.globals = mainGlobals) (hb : env.builtins = builtinsNs) (hk : env.scope.kind = .function) (hx : env.kindOf x = some .globalImplicit) (hd : (x == ("__debug__" : Str)) = false) :
  wpAny M A (eval (.Name x pos) env) Q E s := by
 have h1 : x ∉ startupNames ∧ x ∉ LOOSE := by
  have : x ∉ startupNames ++ LOOSE := fun q => by rw [List.contains_iff_mem.mpr q] at hs; cases hs
  exact ⟨fun q => this (List.mem_append_left _ q), fun q => this (List.mem_append_right _ q)⟩
 exact Name_function_global hk hx (loadGlobal_builtin (by rw [hg]; exact T.g.keeps F.keep) (T.free x h1.1 h1.2 (by exact List.not_mem_nil) (by exact List.not_mem_nil) (by exact List.not_mem_nil)) (by rw [hb]; exact T.b.keeps F.keep) ((T.builtins x hn).trans hv) h) hd
theorem nameM (F : Fr h₀ L s.heap m) (T : TopRead topProg LOOSE mg mb h₀) (hv : mg x = some v) (h : Q v s)
  (hg : env.globals = mainGlobals) (hk : env.scope.kind = .function) (hx : env.kindOf x = some .globalImplicit) (hd : (x == ("__debug__" : Str)) = false) :
  wpAny M A (eval (.Name x pos) env) Q E s :=
 Name_function_global hk hx (loadGlobal_global (by rw [hg]; exact T.g.keeps F.keep) hv h) hd
end
section
variable {M : Model} {A : Around} {E : Value → Shared → Prop} {s : Shared} {h₀ : Heap} {m : Str → Option Value} {env : Env} {x : Str} {pos : Pos} {v : Value} {Q : Value → Shared → Prop} {c : Addr} {o : Obj}
theorem nameL (F : Fr h₀ env.locals s.heap m) (hv : m x = some v) (h : Q v s) (hk : env.scope.kind = .function) (hx : env.kindOf x = some .local) (hd : (x == ("__debug__" : Str)) = false) :
  wpAny M A (eval (.Name x pos) env) Q E s := wpAny_Name (wpAny_loadName_local hk hx F.ns hv h) hd
theorem nameCb {L : Addr} (F : Fr h₀ L s.heap m) (hc : env.cells.lookup x = some c) (ho : h₀.get? c = some o) (hd : o.data = .cell (some v)) (h : Q v s) (hk : env.scope.kind = .function) (hx : env.kindOf x = some .cell) (hb : (x == ("__debug__" : Str)) = false) :
  wpAny M A (eval (.Name x pos) env) Q E s := wpAny_Name (wpAny_loadName_cell hk hx hc ⟨o, F.keep _ _ ho, hd⟩ h) hb
end
section
variable {M : Model} {A : Around} {E : Value → Shared → Prop} {s : Shared} {env : Env}
noncomputable abbrev QS (M : Model) (A : Around) (rest : List Stmt) (env : Env) (Q : Flow → Shared → Prop) (E : Value → Shared → Prop) : Flow → Shared → Prop := fun f s' => match f with | .next => wpAny M A (execs rest env) Q E s' | f => Q f s'
theorem consQ {st : Stmt} {rest : List Stmt} {Q : Flow → Shared → Prop} (h : wpAny M A (exec st env) (QS M A rest env Q E) E s) : wpAny M A (execs (st :: rest) env) Q E s := wpAny_execs_cons h
noncomputable abbrev QB2 (M : Model) (A : Around) (op : Operator) (a : Value) (Q : Value → Shared → Prop) (E : Value → Shared → Prop) : Value → Shared → Prop := fun b s₂ => wpAny M A (binaryOp op a b) Q E s₂
noncomputable abbrev QB1 (M : Model) (A : Around) (op : Operator) (r : Expr) (env : Env) (Q : Value → Shared → Prop) (E : Value → Shared → Prop) : Value → Shared → Prop := fun a s₁ => wpAny M A (eval r env) (QB2 M A op a Q E) E s₁
theorem binQ {l op r pos} {Q : Value → Shared → Prop} (h : wpAny M A (eval l env) (QB1 M A op r env Q E) E s) : wpAny M A (eval (.BinOp l op r pos) env) Q E s := wpAny_BinOp h
noncomputable abbrev QC (M : Model) (A : Around) (pos : Pos) (args : List Expr) (env : Env) (Q : Value → Shared → Prop) (E : Value → Shared → Prop) : Value → Shared → Prop := fun f s₁ => wpAny M A (callWith pos f [] (backTo pos (starEach args env)) []) Q E s₁
theorem callQ {x : Str} {xp : Pos} {args : List Expr} {pos : Pos} {Q : Value → Shared → Prop} (h : wpAny M A (eval (.Name x xp) env) (QC M A pos args env Q E) E s) : wpAny M A (eval (.Call (.Name x xp) args [] pos) env) Q E s := Call_ h
noncomputable abbrev QA2 (v : Value) (Q : List Value → Shared → Prop) : List Value → Shared → Prop := fun vs s₂ => Q (v :: vs) s₂
noncomputable abbrev QA1 (M : Model) (A : Around) (rest : List Expr) (env : Env) (pos : Pos) (Q : List Value → Shared → Prop) (E : Value → Shared → Prop) : Value → Shared → Prop := fun v s₁ => wpAny M A (spliced (backTo pos (starEach rest env))) (QA2 v Q) E s₁
theorem argC {e : Expr} {rest : List Expr} {pos : Pos} {Q : List Value → Shared → Prop} (h : wpAny M A (eval e env) (QA1 M A rest env pos Q E) E s)
  (he : starEach (e :: rest) env = (false, eval e env) :: starEach rest env := by rfl) : wpAny M A (spliced (backTo pos (starEach (e :: rest) env))) Q E s := args_cons h he
theorem argN {x : Str} {xp : Pos} {rest : List Expr} {pos : Pos} {Q : List Value → Shared → Prop} (h : wpAny M A (eval (.Name x xp) env) (QA1 M A rest env pos Q E) E s) : wpAny M A (spliced (backTo pos (starEach (.Name x xp :: rest) env))) Q E s := args_cons h
noncomputable abbrev QN (Q : Flow → Shared → Prop) : Unit → Shared → Prop := fun _ => Q .next
noncomputable abbrev QAs (M : Model) (A : Around) (env : Env) (x : Str) (Q : Flow → Shared → Prop) (E : Value → Shared → Prop) : Value → Shared → Prop := fun v s₁ => wpAny M A (storeName env x v) (QN Q) E s₁
theorem asgQ {x pos' value pos} {Q : Flow → Shared → Prop} (h : wpAny M A (eval value env) (QAs M A env x Q E) E s)
  (hs : swapsWith value (some (.Name x pos')) pos.line env = pure false := by rfl) : wpAny M A (exec (.Assign [.Name x pos'] value pos) env) Q E s := wpAny_Assign_Name h hs
noncomputable abbrev QT (M : Model) (A : Around) (Q : Bool → Shared → Prop) (E : Value → Shared → Prop) : Value → Shared → Prop := fun c s₃ => wpAny M A (truthy c) Q E s₃
noncomputable abbrev QK2 (M : Model) (A : Around) (op : CmpOp) (a : Value) (Q : Bool → Shared → Prop) (E : Value → Shared → Prop) : Value → Shared → Prop := fun b s₂ => wpAny M A (compareOp op a b) (QT M A Q E) E s₂
noncomputable abbrev QK1 (M : Model) (A : Around) (op : CmpOp) (r : Expr) (env : Env) (Q : Bool → Shared → Prop) (E : Value → Shared → Prop) : Value → Shared → Prop := fun a s₁ => wpAny M A (eval r env) (QK2 M A op a Q E) E s₁
theorem cmpQ {l op r pos whole} {Q : Bool → Shared → Prop} (h : wpAny M A (eval l env) (QK1 M A op r env Q E) E s)
  (hm : behindInMarks op r = false := by with_unfolding_all rfl) : wpAny M A (isTrue (.Compare l [op] [r] pos) env whole) Q E s := wpAny_isTrue_Compare1 h hm
theorem itrQ {e : Expr} {whole : Sem Value} {Q : Bool → Shared → Prop} (h : wpAny M A whole (QT M A Q E) E s)
  (he : isTrue e env whole = (do let v ← whole; standAt e.pos; holding [v] (truthy v)) := by rfl) : wpAny M A (isTrue e env whole) Q E s := isTrue_plain h he
noncomputable abbrev QU2 (M : Model) (A : Around) (value slice : Expr) (o : Value) (Q : Value → Shared → Prop) (E : Value → Shared → Prop) : Value → Shared → Prop := fun i s₂ => wpAny M A (subscriptTail value slice o i) Q E s₂
noncomputable abbrev QU1 (M : Model) (A : Around) (value slice : Expr) (env : Env) (Q : Value → Shared → Prop) (E : Value → Shared → Prop) : Value → Shared → Prop := fun o s₁ => wpAny M A (eval slice env) (QU2 M A value slice o Q E) E s₁
theorem subQ {value slice pos} {Q : Value → Shared → Prop} (h : wpAny M A (eval value env) (QU1 M A value slice env Q E) E s) : wpAny M A (eval (.Subscript value slice pos) env) Q E s := Subscript_ h
noncomputable abbrev QM2 (M : Model) (A : Around) (pos : Pos) (args : List Expr) (env : Env) (Q : Value → Shared → Prop) (E : Value → Shared → Prop) : Value × List Value → Shared → Prop := fun fx s₂ => wpAny M A (callWith pos fx.1 fx.2 (backTo pos (starEach args env)) []) Q E s₂
noncomputable abbrev QM1 (M : Model) (A : Around) (name : Str) (pl : Sem Bool) (pos : Pos) (args : List Expr) (env : Env) (Q : Value → Shared → Prop) (E : Value → Shared → Prop) : Value → Shared → Prop := fun ov s₁ => wpAny M A (getMethod ov name pl) (QM2 M A pos args env Q E) E s₁
theorem metQ {o : Expr} {name : Str} {apos pos : Pos} {args : List Expr} {pl : Sem Bool} {Q : Value → Shared → Prop} (h : wpAny M A (eval o env) (QM1 M A name pl pos args env Q E) E s)
  (he : eval (.Call (.Attribute o name apos) args [] pos) env = (do
   let ov ← eval o env
   standAt apos.atName
   let (f, first) ← holding [ov] (getMethod ov name pl)
   callWith pos f first (backTo pos (starEach args env)) []) := by rfl) : wpAny M A (eval (.Call (.Attribute o name apos) args [] pos) env) Q E s := MethodCall_ h he
noncomputable def QI (M : Model) (A : Around) (body orelse : List Stmt) (env : Env) (Q : Flow → Shared → Prop) (E : Value → Shared → Prop) : Bool → Shared → Prop := fun b s₂ => if b then wpAny M A (execs body env) Q E s₂ else wpAny M A (execs orelse env) Q E s₂
theorem ifQ {test body orelse pos} {Q : Flow → Shared → Prop} (h : wpAny M A (isTrue test env (eval test env)) (QI M A body orelse env Q E) E s) : wpAny M A (exec (.If test body orelse pos) env) Q E s := wpAny_If h
theorem unQI {body orelse} {Q : Flow → Shared → Prop} {b : Bool} (h : if b then wpAny M A (execs body env) Q E s else wpAny M A (execs orelse env) Q E s) : QI M A body orelse env Q E b s := h
noncomputable abbrev QG (M : Model) (A : Around) (attr : Str) (Q : Value → Shared → Prop) (E : Value → Shared → Prop) : Value → Shared → Prop := fun o s₁ => wpAny M A (getAttr o attr true) Q E s₁
theorem attQ {x attr : Str} {xp pos : Pos} {Q : Value → Shared → Prop} (h : wpAny M A (eval (.Name x xp) env) (QG M A attr Q E) E s)
  (he : eval (.Attribute (.Name x xp) attr pos) env = (do
   let o ← eval (.Name x xp) env
   standAt pos.atName
   let r ← holding [o] (getAttr o attr true)
   letTemporaryGo (.Name x xp) o r
   pure r) := by with_unfolding_all rfl) : wpAny M A (eval (.Attribute (.Name x xp) attr pos) env) Q E s := Attribute_Name_ h he
end
section
variable {M : Model} {A : Around} {E : Value → Shared → Prop} {s : Shared} {h₀ : Heap} {L : Addr} {m mg mb : Str → Option Value} {env : Env} {x : Str} {pos : Pos} {v : Value} {Q : Value → Shared → Prop} {c : Addr} {o : Obj}
theorem nmB (h : Q v s) (F : Fr h₀ L s.heap m := by k_asm) (T : TopRead topProg LOOSE mg mb h₀ := by k_asm) (hs : (startupNames ++ LOOSE).contains x = false := by decide +kernel) (hv : bootBuiltins x = some v := by boot_by_name) (hn : x ≠ "__name__" := by decide)
  (hg : env.globals = mainGlobals := by rfl) (hb : env.builtins = builtinsNs := by rfl) (hk : env.scope.kind = .function := by rfl) (hx : env.kindOf x = some .globalImplicit := by kernel_rfl!) (hd : (x == ("__debug__" : Str)) = false := by decide) :
  wpAny M A (eval (.Name x pos) env) Q E s := nameB F T hs hv hn h hg hb hk hx hd
theorem nmM (h : Q v s) (F : Fr h₀ L s.heap m := by k_asm) (T : TopRead topProg LOOSE mg mb h₀ := by k_asm) (hv : mg x = some v := by assumption) (hg : env.globals = mainGlobals := by rfl) (hk : env.scope.kind = .function := by rfl) (hx : env.kindOf x = some .globalImplicit := by kernel_rfl!) (hd : (x == ("__debug__" : Str)) = false := by decide) :
  wpAny M A (eval (.Name x pos) env) Q E s := nameM F T hv h hg hk hx hd
theorem nmL (h : Q v s) (hk : env.scope.kind = .function := by rfl) (hx : env.kindOf x = some .local := by kernel_rfl!) (hd : (x == ("__debug__" : Str)) = false := by decide) (F : Fr h₀ env.locals s.heap m := by k_asm) (hv : m x = some v := by first | assumption | rfl) :
  wpAny M A (eval (.Name x pos) env) Q E s := nameL F hv h hk hx hd
theorem nmC (h : Q v s) (hk : env.scope.kind = .function := by rfl) (hx : env.kindOf x = some .cell := by kernel_rfl!) (hb : (x == ("__debug__" : Str)) = false := by decide) (F : Fr h₀ L s.heap m := by k_asm) (hc : env.cells.lookup x = some c := by rfl) (ho : h₀.get? c = some o := by assumption) (hd : o.data = .cell (some v) := by assumption) :
  wpAny M A (eval (.Name x pos) env) Q E s := nameCb F hc ho hd h hk hx hb
theorem rshQ {prog : Program} {w : World} {a n : Int} {t u : Tok} (h : Q (.int (a.fdiv (2 ^ n.toNat)) s.toks) { s with toks := s.toks + 1 }) (hn : 0 ≤ n := by first | decide | omega) : wpAny (model prog w) A (binaryOp .RShift (.int a t) (.int n u)) Q E s := rshift_int hn h
end
theorem lshQ {prog : Program} {w : World} {A : Around} {E : Value → Shared → Prop} {s : Shared} {a n : Int} {t u : Tok} {Q : Value → Shared → Prop} (h : Q (.int (a * 2 ^ n.toNat) s.toks) { s with toks := s.toks + 1 }) (hn : 0 ≤ n := by decide) (hn2 : n ≤ 1000000 := by decide) (ha : a.natAbs < 2 ^ 64 := by first | exact idx_small (by assumption) _ | exact and_small (by assumption) (by decide) | exact byte_small (by assumption)) :
  wpAny (model prog w) A (binaryOp .LShift (.int a t) (.int n u)) Q E s := lshift_int_small hn hn2 ha h
theorem neA {a b : Nat} (h : a ≠ b := by
  (try dsimp only)
  first
   | assumption
   | (refine Ne.symm ?_; assumption)
   | (apply And.left; (iterate 12 (first | done | assumption | apply And.right)); done)
   | ((iterate 12 (first | done | assumption | apply And.right)); done)
   | (refine' Ne.symm ?_; first | (apply And.left; (iterate 12 (first | done | assumption | apply And.right)); done) | ((iterate 12 (first | done | assumption | apply And.right)); done))
   | (refine' Nat.ne_of_gt ?_; first | (apply And.left; (iterate 12 (first | done | assumption | apply And.right)); done) | ((iterate 12 (first | done | assumption | apply And.right)); done))
   | (refine' Nat.ne_of_lt ?_; first | (apply And.left; (iterate 12 (first | done | assumption | apply And.right)); done) | ((iterate 12 (first | done | assumption | apply And.right)); done))
   | omega) : a ≠ b := h
noncomputable def AG (f g : Str → Option Value) : List Str → Prop
 | [] => True
 | n :: r => f n = g n ∧ AG f g r
noncomputable def RS (ns : List Str) (f g : Str → Option Value) : Prop := ∀ y, y ∉ ns → f y = g y
section
variable {ns r : List Str} {f g : Str → Option Value} {n : Str} {u v : Option Value}
theorem ag_nil : AG f g [] := True.intro
theorem ag_cons (h : f n = g n) (t : AG f g r) : AG f g (n :: r) := ⟨h, t⟩
theorem rs_rfl : RS ns f f := fun _ _ => rfl
theorem rs_l (m : n ∈ ns) (h : RS ns f g) : RS ns (fun y => if y = n then v else f y) g := fun y q => (if_neg fun (e : y = n) => q (e ▸ m)).trans (h y q)
theorem rs_r (m : n ∈ ns) (h : RS ns f g) : RS ns f (fun y => if y = n then v else g y) := fun y q => (h y q).trans (if_neg fun (e : y = n) => q (e ▸ m)).symm
theorem rs_k (h : RS ns f g) : RS ns (fun y => if y = n then v else f y) (fun y => if y = n then v else g y) := fun y q => by
 show (if y = n then v else f y) = if y = n then v else g y
 rw [h y q]
theorem sm (ns : List Str) (a : AG f g ns := by repeat (first | exact ag_nil | refine ag_cons rfl ?_))
  (h : RS ns f g := by repeat (first | with_reducible exact rs_rfl | ((with_reducible refine rs_l ?m ?_); (case m => (first | (with_reducible ((repeat (first | exact List.mem_cons_self | refine List.mem_cons_of_mem _ ?_)); done)) | fail))) | ((with_reducible refine rs_r ?m ?_); (case m => (first | (with_reducible ((repeat (first | exact List.mem_cons_self | refine List.mem_cons_of_mem _ ?_)); done)) | fail))) | with_reducible refine rs_k ?_ | refine rs_l (by k_mem) ?_ | refine rs_r (by k_mem) ?_ | refine rs_k ?_)) : ∀ y : Str, f y = g y := by
 intro y
 by_cases q : y ∈ ns
 ·clear h
  induction ns with
  | nil => cases q
  | cons n r ih =>
   cases q with
   | head => exact a.1
   | tail _ q => exact ih a.2 q
 ·exact h y q
end
noncomputable def fdOf (i : Nat) (pm cd doc : Value) : FuncData := match rw_iw0008_01.prog.main.body[i]? with
 | some (.FunctionDef name params body _ _ _ scope _ _ _) => docDef name params body scope pm cd doc
 | _ => default
inductive FnI (h : Heap) (i : Nat) (f : Addr) : Prop
 | mk (o pm cd doc) (a : h.get? f = some o) (b : o.data = .func (fdOf i pm cd doc)) (c : h.CodeRec cd (fdOf i pm cd doc).qualname) : FnI h i f
structure FnAt (h : Heap) (i : Nat) (f : Addr) : Prop where
 ex : FnI h i f
theorem FnAt.keeps {h h' : Heap} {i : Nat} {f : Addr} (x : FnAt h i f) (k : Keep h h') : FnAt h' i f :=
 let ⟨o, pm, cd, doc, a, b, c⟩ := x.ex; ⟨⟨o, pm, cd, doc, k _ _ a, b, c.keeps k⟩⟩
end
section
section
variable {w : World} {A : Around} {s : Shared} {f : Addr} {o : Obj} {name qual : Str} {params : Arguments} {body : List Stmt} {scope : Scope} {dV kV doc pm cdv ct : Value} {an : Option Addr} {args : Args} {binds : List (Str × Value)} {R : Result → Shared → Prop} {mg mb : Str → Option Value}
theorem enterC (G : Gd w mg mb s.heap) (led : List (Addr × Obj)) (hled : ∀ p ∈ led, s.heap.get? p.1 = some p.2)
  (hroom : A.depth < recursionLimit) (ho : s.heap.get? f = some o) (hd : o.data = .func (fnOf name qual params body scope dV kV doc pm an cdv ct)) (hcd : s.heap.CodeRec cdv qual)
  (hbind : BindsTo s (fnOf name qual params body scope dV kV doc pm an cdv ct) args binds)
  (hkind : (binds.all fun y => scope.names.lookup y.1 == some .local || scope.names.lookup y.1 == some .cell) = true) (hnd : ((cellsFrom 0 scope.names []).map (·.1)).Nodup)
  (h : ∀ g L h₁ tk cells, g = hideAll s.heap (led.map (·.1)) → (∀ p ∈ led, p.1 < L) → Fr g L h₁ (bindL (envOfC qual scope L f cdv).kindOf binds fun _ => none) → News g L h₁ (cells ++ led) →
   CellsAre (bindC (envOfC qual scope L f cdv).kindOf binds fun _ => none) (cellsFrom (L + 1) scope.names []) cells →
   wpAny (Md w) (A.deeper (envOfC qual scope L f cdv)) (execs body (envOfC qual scope L f cdv))
    (RQ R) (RE (Md w) A (envOfC qual scope L f cdv) R)
    { s with heap := h₁, toks := tk })
  (hco : scope.isCoroutine = false) (hgen : scope.isGenerator = false) (hk : scope.kind = .function) :
  codeAny (Md w) A (.call (.ref f) args) R s := by
 refine codeAny_call_function (fd := fnOf name qual params body scope dV kV doc pm an cdv ct) hroom ho hd hco hgen rfl hcd (hbind _ _ _ _ ?_)
 refine wpAny_newFunctionEnv_cells hk (kindsX hkind _) fun env' he s' x => ?_
 subst he
 refine ⟨G.T.nolimit.keeps x.toInCall.keep, codeAny_func ?_⟩
 obtain ⟨h₁, tk, rfl, _⟩ := x.done
 have hk₁ := x.toInCall.keep
 have lt : ∀ p ∈ led, p.1 < s.heap.objs.size := fun p hp => Heap.lt_size (hled p hp)
 obtain ⟨cells, NC, Y⟩ := Cl.news (h₀ := s.heap) (Nat.le_refl _) fun n c hm => ⟨x.cell n c (lookup_of_mem_nodup (cellsFrom_names scope.names 0 (s.heap.objs.size + 1) [] [] rfl ▸ hnd) hm), x.above n c hm⟩
 refine h _ s.heap.objs.size h₁ tk cells rfl lt ⟨x.toInCall.ns, fun b o e => hk₁ b o (of_hideAll _ e), Nat.le_of_eq (hideAll_size _ _)⟩ (fun p hp => ?_) Y
 rcases List.mem_append.mp hp with hp | hp
 ·refine ⟨(NC p hp).1, (NC p hp).2.1, ?_⟩
  cases q : (hideAll s.heap (led.map (·.1))).get? p.1 with
  | none => rfl
  | some o' => have := of_hideAll _ q; rw [(NC p hp).2.2] at this; cases this
 ·exact ⟨hk₁ _ _ (hled p hp), Nat.ne_of_lt (lt p hp), hideAll_none _ (List.mem_map_of_mem hp)⟩
end
noncomputable def Stop (P : Prop) : Prop := P
theorem Stop.mk {P : Prop} (h : P) : Stop P := h
theorem Stop.out {P : Prop} (h : Stop P) : P := h
theorem nm1 {g h : Heap} {L a : Addr} {o : Obj} {r : List (Addr × Obj)} (_ : News g L h ((a, o) :: r)) : ∃ x, x = a := ⟨a, rfl⟩
theorem nm2 {g h : Heap} {L a b : Addr} {o o' : Obj} {r : List (Addr × Obj)} (_ : News g L h ((a, o) :: (b, o') :: r)) : ∃ x, x = b := ⟨b, rfl⟩
noncomputable abbrev itObj (l : Addr) (i : Nat) : Obj := { cls := .type "list_iterator", data := .fields #[.ref l, .int i 0] }
end
section
noncomputable def AllR {α : Type} (R : α → Value → Prop) : List α → List Value → Prop
 | [], [] => True
 | a :: as, y :: ys => R a y ∧ AllR R as ys
 | _, _ => False
theorem AllR.get' {α : Type} {R : α → Value → Prop} : ∀ {as : List α} {ys : List Value} {i : Nat} {y : Value}, AllR R as ys → ys[i]? = some y → ∃ a, as[i]? = some a ∧ R a y
 | a :: _, y :: _, 0, _, h, e => ⟨a, rfl, by cases e; exact h.1⟩
 | _ :: as, _ :: ys, i + 1, _, h, e => AllR.get' (as := as) (ys := ys) (i := i) h.2 e
 | _, [], _, _, _, e => by simp at e
 | [], _ :: _, _, _, h, _ => h.elim
theorem AllR.map {α β : Type} {S : β → Value → Prop} (f : α → β) : ∀ {as : List α} {ys : List Value}, AllR (fun a y => S (f a) y) as ys → AllR S (as.map f) ys
 | [], [], _ => trivial
 | _ :: _, _ :: _, h => ⟨h.1, AllR.map f h.2⟩
 | [], _ :: _, h => h.elim
 | _ :: _, [], h => h.elim
noncomputable def IsI (k : Int) (v : Value) : Prop := ∃ t, v = .int k t
noncomputable def IsS (x : Str) (v : Value) : Prop := ∃ t, v = .str x t
theorem isI_inj {a b : Int} {v : Value} (x : IsI a v) (y : IsI b v) : a = b := by
 obtain ⟨t, rfl⟩ := x
 obtain ⟨u, e⟩ := y
 exact (Value.int.inj e).1
noncomputable abbrev Ints (ks : List Int) (vs : List Value) : Prop := AllR IsI ks vs
theorem ints_of {vs : List Value} {ks : List Int} (h : IntsAre vs ks) : Ints ks vs := by
 induction h with
 | nil => trivial
 | cons _ _ _ ih => exact ⟨⟨_, rfl⟩, ih⟩
theorem of_ints : ∀ {vs : List Value} {ks : List Int}, Ints ks vs → IntsAre vs ks
 | [], [], _ => .nil
 | v :: vs, k :: ks, h => by
  obtain ⟨t, rfl⟩ := h.1
  exact .cons _ _ (of_ints h.2)
 | _ :: _, [], h => h.elim
 | [], _ :: _, h => h.elim
noncomputable def Src (w : World) (A : Around) (g₁ : Heap) (xv : Value) (n : Nat) (P : Nat → Value → Prop) (s₁ : Shared) : Prop :=
 ∀ (Q : Value → Shared → Prop) (E : Value → Shared → Prop),
  (∀ h' I fp wr St, Keep g₁ h' → g₁.objs.size ≤ h'.objs.size → (∀ b ∈ wr, g₁.get? b = none) → Walks rw_iw0008_01.prog w A I fp wr n P St → St 0 h' → (∀ b ∈ fp, b < h'.objs.size) → (∀ b, h'.get? b = none → s₁.heap.get? b = none) → Q (.ref I) { s₁ with heap := h' }) →
  wpAny (Md w) A (pyIter xv) Q E s₁
section
variable {w : World} {A : Around} {s : Shared}
theorem size_free {h : Heap} : h.get? h.objs.size = none := Heap.get?_none_of_le (Nat.le_refl _)
theorem none_push {h : Heap} {o : Obj} : ∀ b, (h.push o).get? b = none → h.get? b = none := fun b e => by
 cases q : h.get? b with
 | none => rfl
 | some o' => rw [Heap.get?_push_of_some _ q] at e; cases e
theorem src_list (hh : A.handled = none) {l : Addr} {its : Array Value} (hl : s.heap.IsList l its) : Src w A s.heap (.ref l) its.size (fun i v => its[i]? = some v) s := fun Q E k => by
 have hlt : l < s.heap.objs.size := by obtain ⟨_, e, _⟩ := hl; exact Heap.lt_size e
 refine wpAny_pyIter_list hl (k _ _ _ _ _ (fun b o e => Heap.get?_push_of_some _ e) (by rw [Heap.size_push]; exact Nat.le_succ _) (fun b hb => by rw [List.mem_singleton.mp hb]; exact size_free) (Walks.list hh s.heap.objs.size l (Nat.ne_of_lt hlt) its) ⟨⟨_, Heap.get?_push_size _ rfl, rfl, rfl⟩, hl.push _⟩ ?_ none_push)
 intro b hb
 rw [Heap.size_push]
 rcases List.mem_cons.mp hb with rfl | hb
 ·exact Nat.lt_succ_self _
 ·rw [List.mem_singleton.mp hb]; exact Nat.lt_succ_of_lt hlt
theorem walks_lt {I : Addr} {fp wr : List Addr} {n : Nat} {P : Nat → Value → Prop} {St : Nat → Heap → Prop} {prog : Program} (W : Walks prog w A I fp wr n P St) : Walks prog w A I fp wr n (fun i v => i < n ∧ P i v) St where
 sub := W.sub
 frame := W.frame
 item := fun i s Q E hi st hQ => W.item i s Q E hi st fun v h' tk hp => hQ v h' tk ⟨hi, hp⟩
 done := W.done
 self := W.self
theorem src_range (hh : A.handled = none) {r : Addr} {a b c : Int} {t u v : Tok} {n : Nat} (hr : IsRange s.heap r a b c t u v) (hsmall : Builtin.Range.small a b c = true) (hn : (n : Int) = Builtin.Range.rangeSize a b c) :
  Src w A s.heap (.ref r) n (fun i v => i < n ∧ IsI (a + (i : Nat) * c) v) s := fun Q E k => by
 refine wpAny_pyIter_range hr hsmall (k _ _ _ _ _ (fun b o e => Heap.get?_push_of_some _ e) (by rw [Heap.size_push]; exact Nat.le_succ _) (fun b hb => by rw [List.mem_singleton.mp hb]; exact size_free) (walks_lt (Walks.range hh s.heap.objs.size a c n)) ?_ ?_ none_push)
 ·show IsRangeIter _ _ _ _ _
  have e1 : a + ((0 : Nat) : Int) * c = a := by simp
  have e2 : (n : Int) - ((0 : Nat) : Int) = Builtin.Range.rangeSize a b c := by rw [← hn]; simp
  rw [e1, e2]
  exact Heap.get?_push_size _ rfl
 ·intro b hb
  rw [Heap.size_push, List.mem_singleton.mp hb]
  exact Nat.lt_succ_self _
end
noncomputable def upTo (n : Nat) : List Int := (List.range n).map fun (i : Nat) => (i : Int)
theorem upTo_length (n : Nat) : (upTo n).length = n := by simp [upTo]
theorem upTo_get {n i : Nat} (h : i < n) : (upTo n)[i]? = some (i : Int) := by simp [upTo, h]
theorem upTo_mem {n : Nat} {k : Int} (h : k ∈ upTo n) : 0 ≤ k ∧ k < n := by
 simp only [upTo, List.mem_map, List.mem_range] at h
 obtain ⟨i, hi, rfl⟩ := h
 omega
theorem rangeSize_upTo (b : Int) (hb : 0 ≤ b) : ((b.toNat : Nat) : Int) = Builtin.Range.rangeSize 0 b 1 := by
 unfold Builtin.Range.rangeSize
 rw [if_pos (by omega)]
 split
 ·rw [Int.ediv_one]; omega
 ·omega
theorem src_upTo {w : World} {A : Around} {s : Shared} (hh : A.handled = none) {r : Addr} {b : Int} {t u v : Tok} (hr : IsRange s.heap r 0 b 1 t u v) (h0 : 0 ≤ b) (h1 : b ≤ 1000) :
  ∃ P n, Src w A s.heap (.ref r) n P s ∧ n ≤ sizeLine ∧ n = (upTo b.toNat).length ∧ ∀ i v, P i v → ∃ a, (upTo b.toNat)[i]? = some a ∧ IsI a v := by
 refine ⟨_, _, src_range hh hr ?_ (rangeSize_upTo b h0), ?_, (upTo_length _).symm, ?_⟩
 ·unfold Builtin.Range.small Builtin.Range.rangeSize
  have fit : ∀ x : Int, 0 ≤ x → x ≤ 1001 → Builtin.Range.rangeFitsLong x = true := fun x hx hy => by
   unfold Builtin.Range.rangeFitsLong
   simp only [Bool.and_eq_true, decide_eq_true_eq]
   omega
  rw [if_pos (by omega)]
  split
  ·rw [Int.ediv_one, fit 0 (by omega) (by omega), fit b h0 (by omega), fit 1 (by omega) (by omega), fit (b - 0 - 1 + 1) (by omega) (by omega)]
   rw [if_pos (by omega), fit (b + (1 - 1)) (by omega) (by omega)]
   simp
  ·rw [fit 0 (by omega) (by omega), fit b h0 (by omega), fit 1 (by omega) (by omega)]
   simp
 ·rw [sizeLine_eq]; omega
 ·rintro i v ⟨hi, t, rfl⟩
  exact ⟨_, upTo_get hi, t, by rw [Int.zero_add, Int.mul_one]⟩
section
variable {w : World} {A : Around} {s : Shared} {env : Env} {E : Value → Shared → Prop}
theorem allR_of_paired {α : Type} {V R : α → Value → Prop} (as : List α) : ∀ (vs ys : List Value), AllR V as vs → Paired (fun v y => ∀ a, a ∈ as → V a v → R a y) vs ys → AllR R as ys := by
 have gen : ∀ (bs : List α) (vs ys : List Value), (∀ a ∈ bs, a ∈ as) → AllR V bs vs → Paired (fun v y => ∀ a, a ∈ as → V a v → R a y) vs ys → AllR R bs ys := by
  intro bs
  induction bs with
  | nil => intro vs ys _ hv hp; cases vs with
   | nil => cases hp; trivial
   | cons _ _ => exact hv.elim
  | cons b bs ih => intro vs ys hm hv hp; cases vs with
   | nil => exact hv.elim
   | cons v vs => cases hp with
    | cons h1 h2 => exact ⟨h1 b (hm b (.head _)) hv.1, ih _ _ (fun a ha => hm a (.tail _ ha)) hv.2 h2⟩
 exact fun vs ys => gen as vs ys fun _ h => h
theorem allR_of_places {α : Type} {V : α → Value → Prop} : ∀ (as : List α) (vs : List Value), vs.length = as.length → (∀ (i : Nat) (v : Value), vs[i]? = some v → ∃ a, as[i]? = some a ∧ V a v) → AllR V as vs
 | [], [], _, _ => trivial
 | a :: as, v :: vs, e, h => by
  refine ⟨?_, allR_of_places as vs (by simpa using e) fun i u hu => h (i + 1) u hu⟩
  obtain ⟨b, hb, hv⟩ := h 0 v rfl
  cases hb; exact hv
 | [], _ :: _, e, _ => by simp at e
 | _ :: _, [], e, _ => by simp at e
inductive CompAsk {α : Type} (w : World) (A : Around) (env : Env) (scope : Scope) (cl : List (Str × Addr)) (x : Str) (elt : Expr) (V R : α → Value → Prop) (as : List α) (g₁ : Heap) (s₁ : Shared) (xv : Value) : Prop
 | mk (P : Nat → Value → Prop) (n : Nat) (src : Src w A g₁ xv n P s₁) (hn : n ≤ sizeLine) (hl : n = as.length) (hP : ∀ i v, P i v → ∃ a, as[i]? = some a ∧ V a v)
  (helt : ∀ C a v s₃ m₃ E', a ∈ as → V a v → Fr g₁ C s₃.heap m₃ → m₃ x = some v →
   wpAny (Md w) A (eval elt (compEnvC scope cl C env)) (fun y s₄ => Stop (R a y ∧ Keeps s₃ s₄)) E' s₃) : CompAsk w A env scope cl x elt V R as g₁ s₁ xv
inductive CE {α : Type} (w : World) (A : Around) (env : Env) (scope : Scope) (cl : List (Str × Addr)) (x : Str) (elt : Expr) (V R : α → Value → Prop) (as : List α) (Q : Value → Shared → Prop) (xv : Value) (s₁ : Shared) : Prop
 | mk (g₁ : Heap) (a : CompAsk w A env scope cl x elt V R as g₁ s₁ xv) (o : ∀ D ys h' tk n', AllR R as ys → Keep g₁ h' → s₁.heap.get? D = none → h'.get? D = some (W.listOf ys.toArray n') → Q (.ref D) { s₁ with heap := h', toks := tk }) : CE w A env scope cl x elt V R as Q xv s₁
inductive CA {α : Type} (w : World) (A : Around) (env : Env) (scope : Scope) (cl : List (Str × Addr)) (x : Str) (elt : Expr) (V R : α → Value → Prop) (as : List α) (g : Heap) (y : Str) (Q : Flow → Shared → Prop) (xv : Value) (s₁ : Shared) : Prop
 | mk (a : CompAsk w A env scope cl x elt V R as s₁.heap s₁ xv) (m : Str → Option Value) (F : Fr g env.locals s₁.heap m) (o : ∀ D ys h' tk n', AllR R as ys → Fr g env.locals h' (fun z => if z = y then some (.ref D) else m z) → (∀ b o, b ≠ env.locals → s₁.heap.get? b = some o → h'.get? b = some o) →
    s₁.heap.get? D = none → h'.get? D = some (W.listOf ys.toArray n') → Q .next { s₁ with heap := h', toks := tk }) : CA w A env scope cl x elt V R as g y Q xv s₁
theorem compAsk_upTo {scope : Scope} {cl : List (Str × Addr)} {x : Str} {elt : Expr} {R : Int → Value → Prop} (hh : A.handled = none) {h : Heap} {r : Addr} {b : Int} {t u v : Tok} (hr : IsRange h r 0 b 1 t u v) (hsh : s.heap = h) (h0 : 0 ≤ b) (h1 : b ≤ 1000)
  (helt : ∀ C a v s₃ m₃ E', a ∈ upTo b.toNat → IsI a v → Fr s.heap C s₃.heap m₃ → m₃ x = some v →
   wpAny (Md w) A (eval elt (compEnvC scope cl C env)) (fun y s₄ => Stop (R a y ∧ Keeps s₃ s₄)) E' s₃) : CompAsk w A env scope cl x elt IsI R (upTo b.toNat) s.heap s (.ref r) :=
 let ⟨P, n, q1, q2, q3, q4⟩ := src_upTo hh (hsh ▸ hr) h0 h1
 ⟨P, n, q1, q2, q3, q4, helt⟩
theorem comp_quiet {α : Type} {scope : Scope} {cl : List (Str × Addr)} {x : Str} {elt : Expr} {V R : α → Value → Prop} {as : List α} {g₁ : Heap} {s₁ : Shared} {h₂ : Heap} {wr : List Addr} {P : Nat → Value → Prop}
  (hV : ∀ a a' v, V a v → V a' v → a = a') (hk : Keep g₁ h₂) (hsz : g₁.objs.size ≤ h₂.objs.size) (hwr : ∀ b ∈ wr, g₁.get? b = none) (hP : ∀ i v, P i v → ∃ a, as[i]? = some a ∧ V a v)
  (helt : ∀ C a v s₃ m₃ E', a ∈ as → V a v → Fr g₁ C s₃.heap m₃ → m₃ x = some v →
   wpAny (Md w) A (eval elt (compEnvC scope cl C env)) (fun y s₄ => Stop (R a y ∧ Keeps s₃ s₄)) E' s₃) :
  QuietOnC rw_iw0008_01.prog w A env scope cl x [] elt wr P (fun _ => true) (fun v y => ∀ a, a ∈ as → V a v → R a y) { s₁ with heap := h₂ } := by
 refine ⟨?_, ?_⟩
 ·intro C i v s₃ m₃ E' _ _ _ _ _ _
  simp only [List.forIn_nil]
  exact wpAny_pure ⟨rfl, s₃.heap, s₃.toks, rfl, fun _ _ e => e⟩
 ·intro C i v s₃ m₃ E' hC hp _ hn₃ hm hk₃ _
  obtain ⟨a, ha, hva⟩ := hP i v hp
  have F : Fr g₁ C s₃.heap m₃ := ⟨hn₃, fun b o e => hk₃ b o (fun q => by rw [hwr b q] at e; cases e) (hk b o e), Nat.le_trans hsz hC⟩
  refine wpAny_mono (helt C a v s₃ m₃ E' (List.mem_of_getElem? ha) hva F hm) (fun y s₄ h₄ => ⟨fun a' _ hv' => ?_, h₄.2⟩) fun _ _ e => e
  rw [← hV a a' v hva hv']
  exact h₄.1
theorem comp_values {α : Type} {V R : α → Value → Prop} {as : List α} {n : Nat} {P : Nat → Value → Prop} (hlen : n = as.length) (hP : ∀ i v, P i v → ∃ a, as[i]? = some a ∧ V a v) {vs ys : List Value}
  (hvl : vs.length = n) (hvP : ∀ (j : Nat) v, vs[j]? = some v → P j v) (hF : Paired (fun v y => ∀ a, a ∈ as → V a v → R a y) (vs.filter fun _ => true) ys) : AllR R as ys := by
 have hf : vs.filter (fun _ => true) = vs := List.filter_eq_self.mpr fun _ _ => rfl
 rw [hf] at hF
 exact allR_of_paired as vs ys (allR_of_places as vs (hvl.trans hlen) fun i v hv => hP i v (hvP i v hv)) hF
theorem fresh_below {h h' : Heap} (k : Keep h h') {D : Addr} (e : h'.get? D = none) : h.get? D = none := by
 cases q : h.get? D with
 | none => rfl
 | some o => have := k D o q; rw [e] at this; cases this
theorem eval_comp {α : Type} {iter elt : Expr} {x : Str} {px pos : Pos} {scope : Scope} {cl : List (Str × Addr)} {Q : Value → Shared → Prop} (V R : α → Value → Prop) (as : List α) (hV : ∀ a a' v, V a v → V a' v → a = a')
  (hclos : closureFor scope env = pure cl) (hcell : (scope.names.all fun y => !(y.2 == .cell)) = true) (hkind : scope.kind = .function)
  (hnames : (scope.names.all fun y => !(y.2 == .local) || scope.names.lookup y.1 == some .local) = true) (hx : scope.names.lookup x = some .local)
  (h : wpAny (Md w) A (eval iter env) (fun xv s₁ => Stop (CE w A env scope cl x elt V R as Q xv s₁)) E s)
  (hs : ∀ x, foldedSetIterable iter env x = pure x) :
  wpAny (Md w) A (eval (.ListComp elt [⟨.Name x px, iter, [], 0⟩] scope pos) env) Q E s := by
 have hcell' : ∀ y ∈ scope.names, y.2 ≠ .cell := fun y hy q => by have := List.all_eq_true.mp hcell y hy; rw [q] at this; exact absurd this (by decide)
 have hnames' : ∀ y ∈ scope.names, y.2 = .local → scope.names.lookup y.1 = some .local := fun y hy q => by
  have := List.all_eq_true.mp hnames y hy
  rw [q] at this
  simpa using this
 refine wpAny_ListComp_free (fun _ => true) (fun v y => ∀ a, a ∈ as → V a v → R a y) hclos hcell' hkind hnames' hx (wpAny_mono h (fun xv s₁ h₁ => ?_) fun _ _ e => e) hs
 obtain ⟨g₁, ⟨P, n, src, hn, hlen, hP, helt⟩, hout⟩ := h₁.out
 refine src _ _ fun h₂ I fp wr St hk hsz hwr W st hfp hnone => ⟨I, fp, wr, n, P, St, rfl, W, hn, st, hfp, comp_quiet hV hk hsz hwr hP helt, ?_⟩
 intro D h' tk ys vs hD _ hpl hvl hvP hF hk'
 obtain ⟨n', hpl⟩ := hpl
 refine hout D ys.toList h' tk n' (comp_values hlen hP hvl hvP hF) (fun b o e => hk' b o (fun q => by rw [hwr b q] at e; cases e) (hk b o e)) (hnone _ hD) ?_
 rw [Array.toArray_toList]
 exact hpl
theorem assign_comp {α : Type} {iter elt : Expr} {x y : Str} {px py pos spos : Pos} {scope : Scope} {cl : List (Str × Addr)} {Q : Flow → Shared → Prop} {g : Heap} (V R : α → Value → Prop) (as : List α) (hV : ∀ a a' v, V a v → V a' v → a = a')
  (hsw : swapsWith (.ListComp elt [⟨.Name x px, iter, [], 0⟩] scope pos) (some (.Name y py)) spos.line env = pure true)
  (hclos : closureFor scope env = pure cl) (hcell : (scope.names.all fun y => !(y.2 == .cell)) = true) (hkind : scope.kind = .function)
  (hnames : (scope.names.all fun y => !(y.2 == .local) || scope.names.lookup y.1 == some .local) = true) (hx : scope.names.lookup x = some .local)
  (hy : env.kindOf y = some .local) (hp : (env.scope.kind == .class || (env.scope.kind == .module && env.locals != env.globals)) = false)
  (h : wpAny (Md w) A (eval iter env) (fun xv s₁ => Stop (CA w A env scope cl x elt V R as g y Q xv s₁)) E s)
  (hs : ∀ x, foldedSetIterable iter env x = pure x) :
  wpAny (Md w) A (exec (.Assign [.Name y py] (.ListComp elt [⟨.Name x px, iter, [], 0⟩] scope pos) spos) env) Q E s := by
 have hcell' : ∀ y ∈ scope.names, y.2 ≠ .cell := fun y hy q => by have := List.all_eq_true.mp hcell y hy; rw [q] at this; exact absurd this (by decide)
 have hnames' : ∀ y ∈ scope.names, y.2 = .local → scope.names.lookup y.1 = some .local := fun y hy q => by
  have := List.all_eq_true.mp hnames y hy
  rw [q] at this
  simpa using this
 refine wpAny_Assign_ListComp_free (fun _ => true) (fun v y => ∀ a, a ∈ as → V a v → R a y) hsw hclos hcell' hkind hnames' hx hy hp (wpAny_mono h (fun xv s₁ h₁ => ?_) fun _ _ e => e) hs
 obtain ⟨⟨P, n, src, hn, hlen, hP, helt⟩, m, F, hout⟩ := h₁.out
 refine src _ _ fun h₂ I fp wr St hk hsz hwr W st hfp hnone => ⟨I, fp, wr, n, P, St, m, rfl, W, hn, st, hfp, fun q => ?_, F.ns.keeps hk, comp_quiet hV hk hsz hwr hP helt, ?_⟩
 ·have := hwr _ q
  obtain ⟨o, _, _, e, _⟩ := F.ns
  rw [this] at e; cases e
 intro D h' tk ys vs hD _ hpl hvl hvP hF hn' hk'
 obtain ⟨n', hpl⟩ := hpl
 have hLg : g.get? env.locals = none := by
  cases q : g.get? env.locals with
  | none => rfl
  | some o => exact absurd (Nat.lt_of_lt_of_le (Heap.lt_size q) F.above) (Nat.lt_irrefl _)
 have kp : ∀ b o, b ≠ env.locals → s₁.heap.get? b = some o → h'.get? b = some o := fun b o hb e => hk' b o hb (fun q => by rw [hwr b q] at e; cases e) (hk b o e)
 refine hout D ys.toList h' tk n' (comp_values hlen hP hvl hvP hF) ⟨hn', fun b o e => kp b o (fun q => by rw [q, hLg] at e; cases e) (F.keep b o e), F.above⟩ kp (fresh_below hk hD) ?_
 rw [Array.toArray_toList]
 exact hpl
end
theorem fr_to {g h : Heap} {L : Addr} {m m' : Str → Option Value} (F : Fr g L h m) (e : ∀ y, m y = m' y) : Fr g L h m' := by
 rw [← show m = m' from funext e]; exact F
theorem news_sub {g h : Heap} {L : Addr} {news news' : List (Addr × Obj)} (N : News g L h news) (e : ∀ p ∈ news', p ∈ news) : News g L h news' := fun p hp => N p (e p hp)
theorem sub_nil {α : Type} {l : List α} : ∀ q ∈ ([] : List α), q ∈ l := fun _ h => nomatch h
theorem sub_cons {α : Type} {l r : List α} {p : α} (h : p ∈ l) (k : ∀ q ∈ r, q ∈ l) : ∀ q ∈ p :: r, q ∈ l := fun q hq => by
 rcases List.mem_cons.mp hq with rfl | hq
 ·exact h
 ·exact k q hq
theorem news_more {g h h' : Heap} {L D : Addr} {m : Str → Option Value} {news : List (Addr × Obj)} {oD : Obj} (F : Fr g L h m) (N : News g L h news) (hk : ∀ b o, b ≠ L → h.get? b = some o → h'.get? b = some o)
  (hD : h.get? D = none) (hl : h'.get? D = some oD) : News g L h' ((D, oD) :: news) ∧ ∀ p ∈ news, @Ne Nat p.1 D := by
 have hL : D ≠ L := fun q => by
  obtain ⟨o, _, _, e, _⟩ := F.ns
  rw [q, e] at hD; cases hD
 refine ⟨fun p hp => ?_, fun p hp q => ?_⟩
 ·rcases List.mem_cons.mp hp with rfl | hp
  ·exact ⟨hl, hL, fresh_below F.keep hD⟩
  ·exact ⟨hk _ _ (N p hp).2.1 (N p hp).1, (N p hp).2⟩
 ·have := (N p hp).1
  rw [show p.1 = D from q, hD] at this
  cases this
theorem news_moreG {g g₁ h h' : Heap} {L D : Addr} {m : Str → Option Value} {news : List (Addr × Obj)} {oD : Obj} (F : Fr g L h m) (N : News g L h news) (hk : Keep g₁ h') (hin : ∀ p ∈ news, g₁.get? p.1 = some p.2)
  (hD : h.get? D = none) (hl : h'.get? D = some oD) : News g L h' ((D, oD) :: news) ∧ ∀ p ∈ news, @Ne Nat p.1 D := by
 have hL : D ≠ L := fun q => by
  obtain ⟨o, _, _, e, _⟩ := F.ns
  rw [q, e] at hD; cases hD
 refine ⟨fun p hp => ?_, fun p hp q => ?_⟩
 ·rcases List.mem_cons.mp hp with rfl | hp
  ·exact ⟨hl, hL, fresh_below F.keep hD⟩
  ·exact ⟨hk _ _ (hin p hp), (N p hp).2⟩
 ·have := (N p hp).1
  rw [show p.1 = D from q, hD] at this
  cases this
theorem src_listRev {w : World} {A : Around} {s : Shared} (hh : A.handled = none) {R l : Addr} {its : Array Value} (hr : s.heap.IsRevIter R l ((its.size : Int) - 1)) (hl : s.heap.IsList l its) (hne : l ≠ R) :
  Src w A (hideAll s.heap [R]) (.ref R) its.size (fun i v => its[its.size - 1 - i]? = some v) s := fun Q E k => by
 have hlt : ∀ {b : Addr} {P : Obj → Prop}, (∃ o, s.heap.get? b = some o ∧ P o) → b < s.heap.objs.size := fun ⟨_, e, _⟩ => Heap.lt_size e
 refine wpAny_pyIter_revIter hr (k s.heap _ _ _ _ (fun b o e => of_hideAll _ e) (Nat.le_of_eq (hideAll_size _ _)) (fun b hb => hideAll_none _ hb) (Walks.listRev hh R l hne its) ⟨Nat.zero_le _, ?_, hl⟩ ?_ fun _ e => e)
 ·rw [show ((its.size : Int) - 1 - ((0 : Nat) : Int)) = (its.size : Int) - 1 by simp]
  exact hr
 ·intro b hb
  rcases List.mem_cons.mp hb with rfl | hb
  ·obtain ⟨_, e, _⟩ := hr; exact Heap.lt_size e
  ·rw [List.mem_singleton.mp hb]; obtain ⟨_, e, _⟩ := hl; exact Heap.lt_size e
theorem src_ints {w : World} {A : Around} {s : Shared} (hh : A.handled = none) {l : Addr} {vs : List Value} {ns : List Int} (hl : s.heap.IsList l vs.toArray) (hi : IntsAre vs ns) : Src w A s.heap (.ref l) vs.toArray.size (fun i v => ∃ a, ns[i]? = some a ∧ IsI a v) s := fun Q E k =>
 src_list hh hl Q E fun h' I fp wr St a b c W d e f => k h' I fp wr St a b c
  { sub := W.sub, frame := W.frame, done := W.done, self := W.self, item := fun i s Q E hi' st hQ => W.item i s Q E hi' st fun v h' tk hp => hQ v h' tk (by
    obtain ⟨a, q, r⟩ := (ints_of hi).get' (show vs[i]? = some v by simpa using hp)
    exact ⟨a, q, r⟩) } d e f
theorem src_intsRev {w : World} {A : Around} {s : Shared} (hh : A.handled = none) {R l : Addr} {vs : List Value} {ns : List Int} (hr : s.heap.IsRevIter R l ((vs.toArray.size : Int) - 1)) (hl : s.heap.IsList l vs.toArray) (hne : l ≠ R) (hi : IntsAre vs ns) :
  Src w A (hideAll s.heap [R]) (.ref R) vs.toArray.size (fun i v => ∃ a, ns.reverse[i]? = some a ∧ IsI a v) s := fun Q E k =>
 src_listRev hh hr hl hne Q E fun h' I fp wr St a b c W d e f => k h' I fp wr St a b c
  { sub := W.sub, frame := W.frame, done := W.done, self := W.self, item := fun i s Q E hi' st hQ => W.item i s Q E hi' st fun v h' tk hp => hQ v h' tk (by
    have hlen : ns.length = vs.length := hi.length.symm
    have hi'' : i < vs.length := by simpa using hi'
    obtain ⟨a, q, r⟩ := (ints_of hi).get' (show vs[vs.length - 1 - i]? = some v by simpa using hp)
    exact ⟨a, by rw [List.getElem?_reverse (by omega), hlen]; exact q, r⟩) } d e f
theorem hide1 {h : Heap} {R b : Addr} {o : Obj} (e : h.get? b = some o) (hne : b ≠ R) : (hideAll h [R]).get? b = some o := hideAll_get _ e fun q => hne (List.mem_singleton.mp q)
theorem keep_hide {g h : Heap} {L R : Addr} {m : Str → Option Value} (F : Fr g L h m) (hR : g.get? R = none) : Keep g (hideAll h [R]) := fun b o e => hide1 (F.keep b o e) fun q => by rw [q, hR] at e; cases e
theorem fr_hide {g h h' : Heap} {L R : Addr} {m : Str → Option Value} (F : Fr g L h m) (hR : g.get? R = none) (hRL : R ≠ L) (hk : Keep (hideAll h [R]) h') : Fr g L h' m :=
 ⟨F.ns.at' fun _ e => hk _ _ (hide1 e (Ne.symm hRL)), (keep_hide F hR).trans hk, F.above⟩
noncomputable def steps (a c : Int) (n : Nat) : List Int := (List.range n).map fun (i : Nat) => a + (i : Int) * c
theorem compAsk_range {w : World} {A : Around} {s : Shared} {env : Env} {scope : Scope} {cl : List (Str × Addr)} {x : Str} {elt : Expr} {R : Int → Value → Prop} (hh : A.handled = none) {h : Heap} {r : Addr} {a b c : Int} {t u v : Tok} {n : Nat} (hr : IsRange h r a b c t u v) (hsh : s.heap = h)
  (hsmall : Builtin.Range.small a b c = true) (hn : (n : Int) = Builtin.Range.rangeSize a b c) (hz : n ≤ sizeLine)
  (helt : ∀ C a' v s₃ m₃ E', a' ∈ steps a c n → IsI a' v → Fr s.heap C s₃.heap m₃ → m₃ x = some v →
   wpAny (Md w) A (eval elt (compEnvC scope cl C env)) (fun y s₄ => Stop (R a' y ∧ Keeps s₃ s₄)) E' s₃) : CompAsk w A env scope cl x elt IsI R (steps a c n) s.heap s (.ref r) :=
 ⟨_, n, src_range hh (hsh ▸ hr) hsmall hn, hz, by simp [steps], fun i v ⟨hi, hv⟩ => ⟨_, by simp [steps, hi], hv⟩, helt⟩
end
section
section
variable {w : World} {A : Around} {E : Value → Shared → Prop} {s : Shared} {g : Heap} {L D b : Addr} {m : Str → Option Value} {news : List (Addr × Obj)} {gg : Obj → List (Addr × Obj)} {n n2 : Nat} {xs ys : List Value}
theorem iadd_typeLookup : fillsInplaceSlot (.type "list") "add" (Operator.Add == .Add) = pure false := by
 unfold fillsInplaceSlot
 show (typeLookup (.type "list") (dunderI "add") >>= fun fi => pure (fi.isSome && !isSeqSlot fi)) = pure false
 rw [PySem.F.slot_list_iadd.lookup]; rfl
theorem two_sizes {xs ys : List Value} {ns ms : List Int} (h : IntsAre xs ns) (k : IntsAre ys ms) (z : ns.length + ms.length ≤ 1000000) : xs.length + ys.length ≤ sizeLine := by
 rw [sizeLine_eq, h.length, k.length]; omega
theorem iadd_list {Q : Value → Shared → Prop} (F : Fr g L s.heap m) (N : News g L s.heap news) (U : UpdF D (listOf xs.toArray n) news gg) (hb : (b, listOf ys.toArray n2) ∈ news)
  (hz : xs.length + ys.length ≤ sizeLine) (h : ∀ h' n', Fr g L h' m → News g L h' (gg (listOf (xs ++ ys).toArray n')) → Q (.ref D) { s with heap := h' }) :
  wpAny (Md w) A (inplaceOp .Add (.ref D) (.ref b)) Q E s := by
 obtain ⟨pre, post, rfl, hg, a, c⟩ := U.split
 have z := N (D, listOf xs.toArray n) (List.mem_append.mpr (.inr (.head _)))
 have zb := N _ hb
 have ta : s.TypeIs (.ref D) "list" := ⟨_, z.1, rfl⟩
 have tb : s.TypeIs (.ref b) "list" := ⟨_, zb.1, rfl⟩
 unfold inplaceOp
 refine wpAny_holding ?_
 refine wpAny_bind (wpAny_typeOf ta (wpAny_bind (wpAny_of_eq iadd_typeLookup ?_)))
 show wpAny _ A (if false = true then _ else _) Q E s
 rw [if_neg Bool.false_ne_true]
 refine wpAny_bind (wpAny_binaryOp1_none (nm := "add") ta tb noFill_list_add ?_)
 refine wpAny_bind (wpAny_of_eq (PySem.seqSlot_of PySem.F.slot_list_iadd.lookup (by decide +kernel)) ?_)
 refine wpAny_bind (wpAny_rule ?_)
 refine call_meets PySem.F.slot_list_iadd ta PySem.F.entry_list_iadd (PySem.F.args_list_iadd_2 _ _) (PySem.AutoSeq1.list___iadd___list_list_0 D xs.toArray n b ys.toArray n2 (extend_door (by simpa using hz)) (by simp; omega) (by simp; omega)) ⟨z.1, zb.1, ?_⟩
 have q := PySem.IsL.update (l := D) z.1 (fun x => x ++ ys.toArray)
 refine h _ (if (xs ++ ys).toArray.size == xs.toArray.size then n else n + 1) (F.change (Heap.SameBut.update ..) z.2.1 z.2.2) ?_
 rw [hg]
 have e : xs.toArray ++ ys.toArray = (xs ++ ys).toArray := by simp
 rw [e] at q
 exact news_set N a c (Heap.SameBut.update ..) q
theorem append_K {v : Value} {Q : Value → Shared → Prop} (F : Fr g L s.heap m) (N : News g L s.heap news) (U : UpdF D (listOf xs.toArray n) news gg)
  (hz : xs.length ≤ sizeLine) (h : ∀ h' n', Fr g L h' m → News g L h' (gg (listOf (xs ++ [v]).toArray n')) → Q .none { s with heap := h' }) :
  wpAny (Md w) A (call (.builtin "list.append") [.ref D, v]) Q E s := by
 obtain ⟨pre, post, rfl, hg, a, c⟩ := U.split
 have z := N (D, listOf xs.toArray n) (List.mem_append.mpr (.inr (.head _)))
 refine call_meets PySem.F.slot_list_append ⟨_, z.1, rfl⟩ PySem.F.entry_list_append (PySem.F.args_list_append_2 _ _) (PySem.list_append D xs.toArray n v (by simpa using hz)) ⟨z.1, ?_⟩
 have q := PySem.IsL.update (l := D) z.1 (fun x => x.push v)
 have e : xs.toArray.push v = (xs ++ [v]).toArray := by simp
 rw [e] at q
 refine h _ (if (xs ++ [v]).toArray.size == xs.toArray.size then n else n + 1) (F.change (Heap.SameBut.update ..) z.2.1 z.2.2) ?_
 rw [hg]
 exact news_set N a c (Heap.SameBut.update ..) q
theorem iaddQ {Q : Value → Shared → Prop} (h : ∀ h' n', Fr g L h' m → News g L h' (gg (listOf (xs ++ ys).toArray n')) → Q (.ref D) { s with heap := h' }) (F : Fr g L s.heap m := by k_asm) (N : News g L s.heap news := by k_asm) (U : UpdF D (listOf xs.toArray n) news gg := by k_updF) (hb : (b, listOf ys.toArray n2) ∈ news := by k_mem)
  (hz : xs.length + ys.length ≤ sizeLine := by first | (rw [sizeLine_eq]; omega) | (refine two_sizes (by l_ints) (by l_ints) ?_; (try simp only [List.length_reverse, List.length_append]); omega)) :
  wpAny (Md w) A (inplaceOp .Add (.ref D) (.ref b)) Q E s := iadd_list F N U hb hz h
theorem unpackQ {elts : List Expr} {k} {pos : Pos} {t : Addr} {items : Array Value} {env : Env} {Q : Unit → Shared → Prop} (h : ∀ h' (_ : Nat), Fr g L h' m → News g L h' news → wpAny (Md w) A (assignInOrder ((assignEach elts env).map (·.2)) items.toList) Q E { s with heap := h' })
  (F : Fr g L s.heap m := by k_asm) (N : News g L s.heap news := by k_asm) (ht : IsTup s.heap t items := by kun_tup) (hh : A.handled = none := by assumption) (hn : (assignEach elts env).length = items.size := by rfl) (hstar : (assignEach elts env).findIdx? (·.1) = none := by rfl) :
  wpAny (Md w) A (assign (.Tuple elts k pos) env (.ref t)) Q E s := unpackN_ F N ht hh hn hstar fun h' F N => h h' 0 F N
theorem unpackIQ {t : Addr} {items : Array Value} {n : Nat} {Q : List Value → Shared → Prop} (h : ∀ h' (_ : Nat), Fr g L h' m → News g L h' news → Q items.toList { s with heap := h' })
  (F : Fr g L s.heap m := by k_asm) (N : News g L s.heap news := by k_asm) (ht : IsTup s.heap t items := by kun_tup) (hh : A.handled = none := by assumption) (hn : n = items.size := by rfl) : wpAny (Md w) A (unpackItems (.ref t) n none) Q E s := unpackItemsN_ F N ht hh hn fun h' F N => h h' 0 F N
theorem appQ {v : Value} {Q : Value → Shared → Prop} (h : ∀ h' n', Fr g L h' m → News g L h' (gg (listOf (xs ++ [v]).toArray n')) → Q .none { s with heap := h' }) (F : Fr g L s.heap m := by k_asm) (N : News g L s.heap news := by k_asm) (U : UpdF D (listOf xs.toArray n) news gg := by k_updF)
  (hz : xs.length ≤ sizeLine := by rw [sizeLine_eq]; omega) : wpAny (Md w) A (call (.builtin "list.append") [.ref D, v]) Q E s := append_K F N U hz h
end
noncomputable abbrev rangeObj (a b c : Int) (t u v : Tok) : Obj := { cls := .type "range", dict := none, data := .fields #[.int a t, .int b u, .int c v], slots := #[] }
theorem range3_N {w : World} {A : Around} {E : Value → Shared → Prop} {s : Shared} {g : Heap} {L : Addr} {m : Str → Option Value} {news : List (Addr × Obj)} {Q : Value → Shared → Prop} {a b c : Int} {t u v : Tok} (F : Fr g L s.heap m) (N : News g L s.heap news) (hc : c ≠ 0)
  (hp : Builtin.divisionGoesByPylong (b - a) c = false)
  (h : ∀ r h', Fr g L h' m → News g L h' ((r, rangeObj a b c t u v) :: news) → (∀ p ∈ news, p.1 < r) → Q (.ref r) { s with heap := h' }) :
  wpAny (Md w) A (call (.type "range") [.int a t, .int b u, .int c v]) Q E s :=
 call_range_3 hc (h _ _ (F.push _) (News.push F N _) fun p hp => Heap.lt_size (N p hp).1) (.inl hp)
end
section
noncomputable def Src1 (w : World) (A : Around) (g : Heap) (L : Addr) (news : List (Addr × Obj)) (xv : Value) (n : Nat) (P : Nat → Value → Prop) (s₁ : Shared) : Prop :=
 ∀ (Q : Value → Shared → Prop) (E : Value → Shared → Prop),
  (∀ h' I fp St, (∀ i h, St i h → ∃ o, h.get? I = some o) → I ≠ L → g.get? I = none → (∀ p ∈ news, p.1 ≠ I) → (∀ b o, b ≠ I → s₁.heap.get? b = some o → h'.get? b = some o) → s₁.heap.objs.size ≤ h'.objs.size →
   (∀ b ∈ fp, b = I ∨ ∃ o, g.get? b = some o) → Walks rw_iw0008_01.prog w A I fp [I] n P St → St 0 h' → Q (.ref I) { s₁ with heap := h' }) →
  wpAny (Md w) A (pyIter xv) Q E s₁
section
variable {w : World} {A : Around} {s : Shared} {g : Heap} {L : Addr} {m : Str → Option Value} {news : List (Addr × Obj)}
theorem fresh_top (F : Fr g L s.heap m) (N : News g L s.heap news) : (s.heap.objs.size : Addr) ≠ L ∧ g.get? s.heap.objs.size = none ∧ ∀ p ∈ news, p.1 ≠ s.heap.objs.size :=
 ⟨Nat.ne_of_gt F.ns.lt, fresh_below F.keep size_free, fun p hp => Nat.ne_of_lt (Heap.lt_size (N p hp).1)⟩
theorem src1_range (F : Fr g L s.heap m) (N : News g L s.heap news) (hh : A.handled = none) {r : Addr} {a b c : Int} {t u v : Tok} {n : Nat} (hr : IsRange s.heap r a b c t u v) (hsmall : Builtin.Range.small a b c = true) (hn : (n : Int) = Builtin.Range.rangeSize a b c) :
  Src1 w A g L news (.ref r) n (fun i v => i < n ∧ IsI (a + (i : Nat) * c) v) s := fun Q E k => by
 obtain ⟨f1, f2, f3⟩ := fresh_top F N
 refine wpAny_pyIter_range hr hsmall (k _ _ [s.heap.objs.size] _ (fun _ _ x => ⟨_, x⟩) f1 f2 f3 (fun b o _ e => Heap.get?_push_of_some _ e) (by rw [Heap.size_push]; exact Nat.le_succ _) (fun b hb => .inl (List.mem_singleton.mp hb)) (walks_lt (Walks.range hh s.heap.objs.size a c n)) ?_)
 show IsRangeIter _ _ _ _ _
 have e1 : a + ((0 : Nat) : Int) * c = a := by simp
 have e2 : (n : Int) - ((0 : Nat) : Int) = Builtin.Range.rangeSize a b c := by rw [← hn]; simp
 rw [e1, e2]
 exact Heap.get?_push_size _ rfl
theorem src1_bytes (F : Fr g L s.heap m) (N : News g L s.heap news) (hh : A.handled = none) {b : Array UInt8} {t : Tok} : Src1 w A g L news (.bytes b t) b.size (fun i v => ∃ c u, b[i]? = some c ∧ v = .int (c.toNat : Int) u) s := fun Q E k => by
 obtain ⟨f1, f2, f3⟩ := fresh_top F N
 exact KBw.pyIter_bytes (k _ _ [s.heap.objs.size] _ (fun _ _ x => let ⟨o, e, _⟩ := x; ⟨o, e⟩) f1 f2 f3 (fun b o _ e => Heap.get?_push_of_some _ e) (by rw [Heap.size_push]; exact Nat.le_succ _) (fun b hb => .inl (List.mem_singleton.mp hb)) (KBw.walks hh s.heap.objs.size b t) ⟨_, Heap.get?_push_size _ rfl, rfl, rfl⟩)
theorem src1_list (F : Fr g L s.heap m) (N : News g L s.heap news) (hh : A.handled = none) {l : Addr} {its : Array Value} (hl : g.IsList l its) : Src1 w A g L news (.ref l) its.size (fun i v => its[i]? = some v) s := fun Q E k => by
 obtain ⟨f1, f2, f3⟩ := fresh_top F N
 have hl' : s.heap.IsList l its := hl.at fun o e => F.keep _ o e
 have hlt : l < s.heap.objs.size := by obtain ⟨_, e, _⟩ := hl'; exact Heap.lt_size e
 refine wpAny_pyIter_list hl' (k _ _ [s.heap.objs.size, l] _ (fun _ _ x => let ⟨o, e, _⟩ := x.1; ⟨o, e⟩) f1 f2 f3 (fun b o _ e => Heap.get?_push_of_some _ e) (by rw [Heap.size_push]; exact Nat.le_succ _) (fun b hb => ?_) (Walks.list hh s.heap.objs.size l (Nat.ne_of_lt hlt) its) ⟨⟨_, Heap.get?_push_size _ rfl, rfl, rfl⟩, hl'.push _⟩)
 rcases List.mem_cons.mp hb with rfl | hb
 ·exact .inl rfl
 ·rw [List.mem_singleton.mp hb]
  obtain ⟨o, e, _⟩ := hl
  exact .inr ⟨o, e⟩
end
section
variable {w : World} {A : Around} {s : Shared} {env : Env} {g : Heap} {L : Addr} {E : Value → Shared → Prop}
inductive FW (w : World) (A : Around) (g : Heap) (L : Addr) (env : Env) (target : Expr) (body : List Stmt) (Q : Flow → Shared → Prop) (E₂ : Value → Shared → Prop) (xv : Value) (s₁ : Shared) : Prop
 | mk (n : Nat) (P : Nat → Value → Prop) (m : Str → Option Value) (news : List (Addr × Obj)) (F : Fr g L s₁.heap m) (N : News g L s₁.heap news) (src : Src1 w A g L news xv n P s₁)
  (J : Nat → (Str → Option Value) → List (Addr × Obj) → Prop) (h0 : J 0 m news)
  (step : ∀ i I oI Q', (∀ h' tk' m' news', Fr g L h' m' → News g L h' (news' ++ [(I, oI)]) → (∀ p ∈ news', @Ne Nat p.1 I) → J (i + 1) m' news' → Q' .next { s₁ with heap := h', toks := tk' }) →
   ∀ v m news h tk, i < n → P i v → J i m news → Fr g L h m → News g L h (news ++ [(I, oI)]) → (∀ p ∈ news, @Ne Nat p.1 I) →
   wpAny (Md w) A (assign target env v) (fun _ s₂ => wpAny (Md w) A (execs body env) Q' E₂ s₂) E₂ { s₁ with heap := h, toks := tk })
  (done : ∀ m news h tk, J n m news → Fr g L h m → News g L h news → Q .next { s₁ with heap := h, toks := tk }) : FW w A g L env target body Q E₂ xv s₁
inductive FI (g : Heap) (L : Addr) (s₁ : Shared) (I : Addr) (St : Nat → Heap → Prop) (J : Nat → (Str → Option Value) → List (Addr × Obj) → Prop) (n k : Nat) (s' : Shared) : Prop
 | mk (h tk m news oI i) (e : s' = { s₁ with heap := h, toks := tk }) (F : Fr g L h m) (N : News g L h (news ++ [(I, oI)])) (hn : ∀ p ∈ news, @Ne Nat p.1 I) (t : St i h) (j : J i m news) (hi : i ≤ n) (hk : k = n + 1 - i) : FI g L s₁ I St J n k s'
theorem dec1 {n i : Nat} (h : i < n) : n + 1 - (i + 1) < n + 1 - i := Nat.sub_lt_sub_left (Nat.lt_succ_of_lt h) (Nat.lt_succ_self i)
theorem ForW {target : Expr} {body : List Stmt} {pos : Pos} {iter : Expr} {Q : Flow → Shared → Prop} {E₂ : Value → Shared → Prop}
  (h : wpAny (Md w) A (eval iter env) (fun xv s₁ => Stop (FW w A g L env target body Q E₂ xv s₁)) E s) (hE : ∀ e s', E₂ e s' → notedBy (Md w) A env (cameBackBy (Md w) A env E) e s')
  (hs : ∀ x, foldedSetIterable iter env x = pure x := by intro _; rfl) (ht : ∀ it v, letOwnedTupleGo target it v = pure () := by intro _ _; rfl)  :
  wpAny (Md w) A (exec (.For target iter body [] pos) env) Q E s := by
 refine wpAny_For (wpAny_mono h (fun xv s₁ h₁ => ?_) fun _ _ e => e) hs
 obtain ⟨n, P, m, news, F, N, src, J, hJ, step, done⟩ := h₁
 refine src _ _ fun h₀ I fp St hself hIL hIg hIn hk0 hsz hfp W st => ?_
 refine codeAny_forLoop (FI g L s₁ I St J n) (fun k s' x => ?_) (n + 1) ?_ (ht _)
 ·obtain ⟨h, tk, m, news, oI, i, rfl, F, N, hn, hit, hJ, hi, rfl⟩ := x
  have N0 : News g L h news := fun p hp => N p (List.mem_append_left _ hp)
  have keepF : ∀ {h₁ : Heap}, (∀ b o, b ∉ [I] → h.get? b = some o → h₁.get? b = some o) → Fr g L h₁ m ∧ News g L h₁ news := fun {h₁} hk => by
   have hk' : ∀ b o, b ≠ I → h.get? b = some o → h₁.get? b = some o := fun b o hb e => hk b o (fun q => hb (List.mem_singleton.mp q)) e
   exact ⟨⟨F.ns.at' fun o e => hk' _ _ (Ne.symm hIL) e, fun b o e => hk' b o (fun q => by rw [q, hIg] at e; cases e) (F.keep b o e), F.above⟩, fun p hp => ⟨hk' _ _ (hn p hp) (N0 p hp).1, (N0 p hp).2⟩⟩
  rcases Nat.lt_or_eq_of_le hi with hlt | rfl
  ·refine W.item i _ _ _ hlt hit fun v h₁ tk₁ hP hst₁ hk => ?_
   obtain ⟨F₁, N₁⟩ := keepF hk
   obtain ⟨oI₁, hoI₁⟩ := hself _ _ hst₁
   have N₂ : News g L h₁ (news ++ [(I, oI₁)]) := fun p hp => by
    rcases List.mem_append.mp hp with hp | hp
    ·exact N₁ p hp
    ·rw [List.mem_singleton.mp hp]; exact ⟨hoI₁, hIL, hIg⟩
   have fin : ∀ {h' : Heap} {m'} , Fr g L h' m' → h'.get? I = some oI₁ → St (i + 1) h' := fun {h' m'} F' hI' => W.frame _ _ _ hst₁ fun b hb o e => by
    rcases hfp b hb with rfl | ⟨o', e'⟩
    ·rw [hoI₁] at e; cases e; exact hI'
    ·have := F₁.keep _ _ e'
     rw [this] at e; cases e
     exact F'.keep _ _ e'
   exact wpAny_mono (step i I oI₁ (fun fl s₃ => fl = .next ∧ FI g L s₁ I St J n (n + 1 - (i + 1)) s₃) (fun h' tk' m' news' F' N' hn' hJ' => ⟨rfl, h', tk', m', news', oI₁, i + 1, rfl, F', N', hn', fin F' (N' _ (List.mem_append_right _ (.head _))).1, hJ', hlt, rfl⟩) v m news h₁ tk₁ hlt hP hJ F₁ N₂ hn)
    (fun _ s₂ h₂ => wpAny_mono h₂ (fun fl s₃ ⟨e, h₃⟩ => by subst e; exact ⟨_, dec1 hlt, h₃⟩) hE) hE
  ·refine W.done _ _ _ hit fun h₁ tk₁ hk => wpAny_execs_nil ?_
   obtain ⟨F₁, N₁⟩ := keepF hk
   exact done m news h₁ tk₁ hJ F₁ N₁
 ·obtain ⟨oI, hI⟩ := hself _ _ st
  refine ⟨_, s₁.toks, m, news, oI, 0, rfl, ⟨F.ns.at' fun o e => hk0 _ _ (Ne.symm hIL) e, fun b o e => hk0 b o (fun q => by rw [q, hIg] at e; cases e) (F.keep b o e), F.above⟩, fun p hp => ?_, hIn, st, hJ, Nat.zero_le _, rfl⟩
  rcases List.mem_append.mp hp with hp | hp
  ·exact ⟨hk0 _ _ (hIn p hp) (N p hp).1, (N p hp).2⟩
  ·rw [List.mem_singleton.mp hp]; exact ⟨hI, hIL, hIg⟩
end
theorem fit_of {x : Int} (h : -100000000 ≤ x) (k : x ≤ 100000000) : Builtin.Range.rangeFitsLong x = true := by
 unfold Builtin.Range.rangeFitsLong
 simp only [Bool.and_eq_true, decide_eq_true_eq]
 omega
theorem rangeSize_le {b c : Int} (hb : 0 ≤ b) (hc : 1 ≤ c) : 0 ≤ Builtin.Range.rangeSize 0 b c ∧ Builtin.Range.rangeSize 0 b c ≤ b := by
 unfold Builtin.Range.rangeSize
 rw [if_pos (by omega)]
 split
 ·have h1 : 0 ≤ (b - 0 - 1) / c := Int.ediv_nonneg (by omega) (by omega)
  have h2 : (b - 0 - 1) / c ≤ b - 0 - 1 := Int.ediv_le_self _ (by omega)
  omega
 ·omega
theorem range_small {b c : Int} (hb : 0 ≤ b ∧ b ≤ 100000) (hc : 1 ≤ c ∧ c ≤ 1000) : Builtin.Range.small 0 b c = true := by
 have h1 := (rangeSize_le hb.1 hc.1).1
 have h2 := (rangeSize_le hb.1 hc.1).2
 unfold Builtin.Range.small
 generalize Builtin.Range.rangeSize 0 b c = z at *
 rw [fit_of (x := 0) (by omega) (by omega), fit_of (x := b) (by omega) (by omega), fit_of (x := c) (by omega) (by omega), fit_of (x := z) (by omega) (by omega), if_pos (by omega), fit_of (x := b + (c - 1)) (by omega) (by omega)]
 simp
theorem frMap {g h : Heap} {L : Addr} {m : Str → Option Value} (_ : Fr g L h m) : ∃ x, x = m := ⟨_, rfl⟩
end
section
noncomputable abbrev revBy (b : Array UInt8) (t : Tok) (i : Int) : Obj := { cls := .type "reversed", data := .fields #[.bytes b t, rawInt i] }
theorem slot_reversed_init : Slot "reversed" "__init__" "object.__init__" :=
 .of (owner := "object") (n := "__init__") (by rw [typeLookup_type, builtinLookup_eq_fast]; kernel_rfl) (by decide +kernel) (by decide +kernel) (by decide +kernel)
  (by first | exact .inl (by decide +kernel) | exact .inr (by decide +kernel)) (by rw [isSubtype_type]; kernel_rfl)
theorem called_reversed : TypeCalled "reversed" "reversed.__new__" "object.__init__" :=
 ⟨by decide +kernel, F.create_reversed, ⟨_, _, F.mro_reversed⟩, F.made_reversed, F.plain_reversed_new, F.sub_reversed_self, slot_reversed_init⟩
theorem bytes_no_reversed : typeLookup (.type "bytes") "__reversed__" = pure none := by rw [typeLookup_type, builtinLookup_eq_fast]; kernel_rfl
theorem meets_rev (b : Array UInt8) (t : Tok) (hb : b.size ≤ 1000) :
  Meets (Builtin.«reversed.__new__» ⟨[.type "reversed", .bytes b t], []⟩) (fun _ R s => R (.ok (.ret (.ref s.heap.objs.size))) { s with heap := s.heap.push (revBy b t ((b.size : Int) - 1)), toks := s.toks + 1 + 1 }) :=
 .of_wp fun prog w A R s h => by
  unfold Builtin.«reversed.__new__»
  refine wpAny_bind (wpAny_of_eq (newClass_reversed _) ?_)
  try dsimp only
  refine wpAny_bind (wpAny_of_eq (a := ()) (by first | rfl | kernel_rfl) ?_)
  refine wpAny_bind (wpAny_of_eq (a := ()) (by first | rfl | kernel_rfl) ?_)
  try dsimp only
  refine wpAny_bind (wpAny_specialOf (typeIs_bytes s b t) bytes_no_reversed ?_)
  try dsimp only
  refine wpAny_bind (wpAny_pure ?_)
  refine wpAny_bind (len_bytes (by omega) ?_)
  refine wpAny_bind (wpAny_pure ?_)
  try dsimp only
  refine wpAny_bind (m := Builtin.SmallTypes.newRecord _ _) ?_
  show wpAny _ _ (newObj (.type "reversed") (.fields #[Value.bytes b t, rawInt ((b.size : Int) - 1)])) _ _ _
  refine wpAny_newObj_type ?_ (by size_fits)
  refine wpAny_pure ⟨_, rfl, ?_⟩
  exact h
noncomputable def IsRevBy (h : Heap) (a : Addr) (b : Array UInt8) (t : Tok) (i : Int) : Prop := ∃ o, h.get? a = some o ∧ o.cls = .type "reversed" ∧ o.data = .fields #[.bytes b t, rawInt i]
theorem IsRevBy.typeIs {s : Shared} {a : Addr} {b : Array UInt8} {t : Tok} {i : Int} (x : IsRevBy s.heap a b t i) : s.TypeIs (.ref a) "reversed" := let ⟨o, ho, hc, _⟩ := x; ⟨o, ho, hc⟩
theorem slot_rev_next : Slot "reversed" "__next__" "reversed.__next__" :=
 .of (owner := "reversed") (n := "__next__") (by rw [typeLookup_type, builtinLookup_eq_fast]; kernel_rfl) (by decide +kernel) (by decide +kernel) (by decide +kernel)
  (by first | exact .inl (by decide +kernel) | exact .inr (by decide +kernel)) (by rw [isSubtype_type]; kernel_rfl)
theorem slot_rev_iter : Slot "reversed" "__iter__" "reversed.__iter__" :=
 .of (owner := "reversed") (n := "__iter__") (by rw [typeLookup_type, builtinLookup_eq_fast]; kernel_rfl) (by decide +kernel) (by decide +kernel) (by decide +kernel)
  (by first | exact .inl (by decide +kernel) | exact .inr (by decide +kernel)) (by rw [isSubtype_type]; kernel_rfl)
theorem entry_rev_next : entryFor table "reversed.__next__" = some Builtin.«reversed.__next__» := entryFor_of_tree (by kernel_rfl)
theorem entry_rev_iter : entryFor table "reversed.__iter__" = some Builtin.«dict_keyiterator.__iter__» :=
 entryFor_alias (id' := "dict_keyiterator.__iter__") (by kernel_rfl) (by first | rfl | decide +kernel | (unfold String.splitOn; simp +decide [String.splitOnAux])) (by decide +kernel) (by kernel_rfl)
theorem args_rev_next (a : Value) : argsOk "reversed.__next__" ⟨[a], []⟩ := by unfold argsOk; kernel_rfl
theorem args_rev_iter (a : Value) : argsOk "reversed.__iter__" ⟨[a], []⟩ := by unfold argsOk; kernel_rfl
section
variable {w : World} {A : Around} {s : Shared} {E : Value → Shared → Prop} {b : Array UInt8} {t : Tok}
theorem call_rev_bytes {Q : Value → Shared → Prop} (hb : b.size ≤ 1000)
  (h : Q (.ref s.heap.objs.size) { s with heap := s.heap.push (revBy b t ((b.size : Int) - 1)), toks := s.toks + 1 + 1 }) : wpAny (Md w) A (call (.type "reversed") [.bytes b t]) Q E s := by
 refine callType_new called_reversed (by decide) (F.typeCall_reversed_1 _) (F.newCall_reversed_1 _) (fun obj => F.args_object_init_2 obj _) F.entry_reversed_new (meets_rev b t hb) ?_
 exact ⟨⟨_, Heap.get?_push_size _ rfl, rfl⟩, h⟩
theorem pyIter_rev {it : Addr} {i : Int} {Q : Value → Shared → Prop} (hit : IsRevBy s.heap it b t i) (h : Q (.ref it) s) : wpAny (Md w) A (pyIter (.ref it)) Q E s := by
 refine wpAny_pyIter_slot hit.typeIs slot_rev_iter (wpAny_call_entry slot_rev_iter hit.typeIs entry_rev_iter ?_ (args_rev_iter _))
 show wpAny _ _ (ret (.ref it)) _ _ s
 exact wpAny_pure ⟨_, rfl, "reversed", _, hit.typeIs, slot_rev_next.lookup, h⟩
theorem next_rev_item {it : Addr} {i : Nat} {Q : Option Value → Shared → Prop} (hit : IsRevBy s.heap it b t (i : Int)) (hb : b.size ≤ 1000) (hi : i < b.size)
  (hQ : ∀ h' u tk', IsRevBy h' it b t ((i : Int) - 1) → Heap.SameBut it s.heap h' → Q (some (.int ((b.toList.getD i 0).toNat : Int) u)) { s with heap := h', toks := tk' }) : wpAny (Md w) A (pyNext (.ref it)) Q E s := by
 obtain ⟨o, ho, hc, hd⟩ := id hit
 unfold pyNext
 refine wpAny_bind (wpAny_attempt (wpAny_callSpecial?_slot (name := Str.ofString "__next__") hit.typeIs slot_rev_next
  (wpAny_call_entry slot_rev_next hit.typeIs entry_rev_next ?_ (args_rev_next _))))
 unfold Builtin.«reversed.__next__»
 refine wpAny_bind (wpAny_of_eq (a := (Value.ref it, [])) rfl ?_)
 try dsimp only
 refine wpAny_bind (wpAny_field ho hd (x := .bytes b t) rfl ?_)
 refine wpAny_bind (wpAny_field ho hd (x := rawInt (i : Int)) rfl ?_)
 show wpAny _ _ (if (i : Int) < 0 then _ else _) _ _ s
 rw [if_neg (by omega)]
 show wpAny _ _ (specialOf (Value.bytes b t) "__getitem__" >>= _) _ _ _
 refine wpAny_bind (wpAny_specialOf (typeIs_bytes s b t) FB.slot_bytes_getitem.lookup ?_)
 show wpAny _ _ (mkInt (i : Int) >>= _) _ _ _
 refine wpAny_bind (wpAny_mkInt ?_)
 refine wpAny_bind (wpAny_attempt (getItem_bytes (l := b.toList) (by simp; omega) (by omega) (by simp; omega) ?_))
 try dsimp only
 refine wpAny_bind (wpAny_field ho hd (x := rawInt (i : Int)) rfl ?_)
 show wpAny _ _ (setField (.ref it) 1 (rawInt ((i : Int) - 1)) >>= _) _ _ _
 refine wpAny_bind (wpAny_setField ho hd (by simp) ?_)
 refine wpAny_pure ⟨_, rfl, wpAny_pure ?_⟩
 rw [Int.toNat_natCast]
 refine hQ _ _ _ ⟨_, Heap.get?_update_self _ ho (Obj.isFreed_of_fields (Obj.data_mapFields hd _)), (Obj.cls_mapFields ..).trans hc, by
  rw [Obj.data_mapFields hd]; simp⟩ (Heap.SameBut.update ..)
theorem next_rev_end {it : Addr} {Q : Option Value → Shared → Prop} (hh : A.handled = none) (hit : IsRevBy s.heap it b t (-1))
  (hQ : ∀ h', Heap.ExtBut it s.heap h' → Q none { s with heap := h' }) : wpAny (Md w) A (pyNext (.ref it)) Q E s := by
 obtain ⟨o, ho, hc, hd⟩ := id hit
 unfold pyNext
 refine wpAny_bind (wpAny_attempt (wpAny_callSpecial?_slot (name := Str.ofString "__next__") hit.typeIs slot_rev_next
  (wpAny_call_entry slot_rev_next hit.typeIs entry_rev_next ?_ (args_rev_next _))))
 unfold Builtin.«reversed.__next__»
 refine wpAny_bind (wpAny_of_eq (a := (Value.ref it, [])) rfl ?_)
 try dsimp only
 refine wpAny_bind (wpAny_field ho hd (x := .bytes b t) rfl ?_)
 refine wpAny_bind (wpAny_field ho hd (x := rawInt (-1)) rfl ?_)
 show wpAny _ _ (if (-1 : Int) < 0 then _ else _) _ _ s
 rw [if_pos (by decide)]
 refine wpAny_bind (wpAny_rule ?_)
 refine wpAny_bind ?_
 show wpAny _ _ (setField (.ref it) 1 (rawInt (-1)) >>= fun _ => setField (.ref it) 0 .none) _ _ _
 refine wpAny_bind (wpAny_setField ho hd (by simp) ?_)
 have ho2 := Heap.get?_update_self (Obj.mapFields (·.setIfInBounds 1 (rawInt (-1)))) ho (Obj.isFreed_of_fields (Obj.data_mapFields hd _))
 refine wpAny_setField ho2 (Obj.data_mapFields hd _) (by simp) ?_
 refine wpAny_bind ?_
 show wpAny _ _ (newExc (.type "StopIteration") [] >>= _) _ _ _
 refine wpAny_bind ?_
 simp only [newExc, newTuple]
 refine wpAny_bind (wpAny_newObj_type ?_ (by size_fits))
 refine wpAny_bind (m := firstArgMember _ _) (wpAny_of_eq (a := Value.none) (by first | rfl | (simp only [firstArgMember]; rfl)) ?_)
 refine wpAny_newObj_type ?_ (by size_fits)
 simp only [raiseNew]
 refine wpAny_bind (wpAny_handled ?_)
 first | rw [show A.in1.handled = none from hh] | rw [hh]
 refine wpAny_bind (wpAny_pure (wpAny_throw ?_))
 refine wpAny_bind (wpAny_isInstance (T := "StopIteration") (b := true) ⟨_, Heap.get?_push_size _ rfl, rfl⟩ isSubtype_stop ?_)
 refine wpAny_pure (hQ _ ?_)
 have k1 := Heap.SameBut.extBut (Heap.SameBut.update s.heap it (Obj.mapFields (·.setIfInBounds 1 (rawInt (-1)))))
 have k2 := Heap.SameBut.extBut (Heap.SameBut.update (s.heap.update it (Obj.mapFields (·.setIfInBounds 1 (rawInt (-1))))) it (Obj.mapFields (·.setIfInBounds 0 .none)))
 exact Heap.ExtBut.push (Heap.ExtBut.push (fun b o hb e => k2 b o hb (k1 b o hb e)) _) _
end
theorem walks_rev {w : World} {A : Around} (hh : A.handled = none) (I : Addr) (b : Array UInt8) (t : Tok) (hb : b.size ≤ 1000) :
  Walks rw_iw0008_01.prog w A I [I] [I] b.size (fun i v => ∃ u, v = .int ((b.toList.getD (b.size - 1 - i) 0).toNat : Int) u) (fun i h => i ≤ b.size ∧ IsRevBy h I b t ((b.size : Int) - 1 - (i : Int))) where
 sub := fun _ hb => hb
 frame := fun _ _ _ st hk => ⟨st.1, let ⟨o, ho, r⟩ := st.2; ⟨o, hk I (by simp) o ho, r⟩⟩
 item := fun i s Q E hi st hQ => by
  have e : (b.size : Int) - 1 - (i : Int) = ((b.size - 1 - i : Nat) : Int) := by omega
  have hit := st.2
  rw [e] at hit
  refine next_rev_item hit hb (by omega) fun h' u tk' hit' hs' => ?_
  have e2 : ((b.size - 1 - i : Nat) : Int) - 1 = (b.size : Int) - 1 - ((i + 1 : Nat) : Int) := by omega
  rw [e2] at hit'
  exact hQ _ h' tk' ⟨_, rfl⟩ ⟨hi, hit'⟩ fun b o hb e => hs'.extBut b o (fun h => hb (by simp [h])) e
 done := fun s Q E st hQ => by
  have e : (b.size : Int) - 1 - (b.size : Int) = -1 := by omega
  have hit := st.2
  rw [e] at hit
  exact next_rev_end hh hit fun h' he' => hQ h' s.toks fun b o hb e => he' b o (fun h => hb (by simp [h])) e
 self := fun _ _ _ _ st hQ => pyIter_rev st.2 hQ
end
section
noncomputable abbrev engX (dx : Addr) : Obj := { cls := .ref 256, dict := some dx, data := .plain }
noncomputable abbrev engD (bm : Array UInt8) (big : Bool) (lk : Addr) (t k1 k2 k3 : Tok) (h1 h2 h3 : Int) (n : Nat) : Obj :=
 dictOf [{ key := .str (Str.ofString "bytemap") k1, hash := h1, val := .bytes bm t }, { key := .str (Str.ofString "_lookup") k2, hash := h2, val := .ref lk }, { key := .str (Str.ofString "big") k3, hash := h3, val := .bool big }] n
inductive EngI (h : Heap) (e : Addr) (bm : Array UInt8) (big : Bool) (lk : Addr) : Prop
 | mk (dx t k1 k2 k3 h1 h2 h3 n) (I : InstAt h e (engX dx) 256 (some (engD bm big lk t k1 k2 k3 h1 h2 h3 n))) : EngI h e bm big lk
structure Eng (h : Heap) (e : Addr) (bm : Array UInt8) (big : Bool) (lk : Addr) : Prop where
 ex : EngI h e bm big lk
theorem inst_keeps {h h' : Heap} {x C : Addr} {ox : Obj} {od : Option Obj} (k : Keep h h') (I : InstAt h x ox C od) : InstAt h' x ox C od := by
 obtain ⟨a, b, c, d⟩ := I
 refine ⟨k _ _ a, b, c, ?_⟩
 cases e : ox.dict with
 | none => rw [e] at d; cases od with
  | none => trivial
  | some o => exact d.elim
 | some dx => rw [e] at d; cases od with
  | none => exact d.elim
  | some o => exact k _ _ d
theorem Eng.keeps {h h' : Heap} {e lk : Addr} {bm : Array UInt8} {big : Bool} (k : Keep h h') (x : Eng h e bm big lk) : Eng h' e bm big lk := by
 obtain ⟨dx, t, k1, k2, k3, h1, h2, h3, n, I⟩ := x.ex
 exact ⟨⟨dx, t, k1, k2, k3, h1, h2, h3, n, inst_keeps k I⟩⟩
theorem inst_fr {g h : Heap} {L : Addr} {m : Str → Option Value} {x C : Addr} {ox : Obj} {od : Option Obj} (F : Fr g L h m := by k_asm) (I : InstAt g x ox C od := by assumption) : InstAt h x ox C od := inst_keeps F.keep I
noncomputable def pairsMap : List (Str × Value) → Str → Option Value
 | [], _ => none
 | (k, v) :: r, y => if y = k then some v else pairsMap r y
theorem lookup_pairs (y : Str) : ∀ l : List (Str × Value), l.lookup y = pairsMap l y
 | [] => rfl
 | (k, v) :: r => by
  unfold pairsMap
  by_cases h : y = k
  ·subst h; simp
  ·rw [if_neg h, List.lookup_cons, beq_eq_false_iff_ne.mpr h]
   exact lookup_pairs y r
section
variable {w : World} {A : Around} {s : Shared} {f : Addr} {o : Obj} {name qual : Str} {params : Arguments} {body : List Stmt} {scope : Scope} {dV kV doc pm cdv ct : Value} {an : Option Addr} {args : Args} {binds : List (Str × Value)} {R : Result → Shared → Prop} {mg mb : Str → Option Value}
theorem enterK (G : Gd w mg mb s.heap) (hf : (K0 w.params).lookup f = some o) (hd : o.data = .func (fnOf name qual params body scope dV kV doc pm an cdv ct)) (hcd : codeIn (K0 w.params) cdv qual = true)
  (hroom : A.depth < recursionLimit)
  (hbind : BindsTo s (fnOf name qual params body scope dV kV doc pm an cdv ct) args binds)
  (hcell : ∀ x ∈ scope.names, x.2 ≠ .cell) (hloc : ∀ x ∈ binds, scope.names.lookup x.1 = some .local)
  (h : ∀ L h₁, Fr s.heap L h₁ (fun y => pairsMap binds.reverse y) → News s.heap L h₁ [] →
   wpAny (Md w) (A.deeper (envOf qual scope L f cdv)) (execs body (envOf qual scope L f cdv))
    (RQ R) (RE (Md w) A (envOf qual scope L f cdv) R)
    { s with heap := h₁, toks := s.toks + binds.length })
  (hco : scope.isCoroutine = false) (hgen : scope.isGenerator = false) (hk : scope.kind = .function) :
  codeAny (Md w) A (.call (.ref f) args) R s :=
 enterF G [] (fun _ h => nomatch h) hroom (G.K _ _ hf) hd (codeRec_of G.K hcd) hbind hcell hloc (fun g L h₁ hg _ F N => by
  rw [List.map_nil, nothing_hidden] at hg
  subst hg
  rw [show (fun y => binds.reverse.lookup y) = (fun y => pairsMap binds.reverse y) from funext fun y => lookup_pairs y _] at F
  exact h L h₁ F N) hco hgen hk
theorem enterKC (G : Gd w mg mb s.heap) (hf : (K0 w.params).lookup f = some o) (hd : o.data = .func (fnOf name qual params body scope dV kV doc pm an cdv ct)) (hcd : codeIn (K0 w.params) cdv qual = true)
  (hroom : A.depth < recursionLimit)
  (hbind : BindsTo s (fnOf name qual params body scope dV kV doc pm an cdv ct) args binds)
  (hkind : (binds.all fun y => scope.names.lookup y.1 == some .local || scope.names.lookup y.1 == some .cell) = true) (hnd : ((cellsFrom 0 scope.names []).map (·.1)).Nodup)
  (h : ∀ L h₁ tk cells, Fr s.heap L h₁ (bindL (envOfC qual scope L f cdv).kindOf binds fun _ => none) → News s.heap L h₁ cells →
   CellsAre (bindC (envOfC qual scope L f cdv).kindOf binds fun _ => none) (cellsFrom (L + 1) scope.names []) cells →
   wpAny (Md w) (A.deeper (envOfC qual scope L f cdv)) (execs body (envOfC qual scope L f cdv))
    (RQ R) (RE (Md w) A (envOfC qual scope L f cdv) R)
    { s with heap := h₁, toks := tk })
  (hco : scope.isCoroutine = false) (hgen : scope.isGenerator = false) (hk : scope.kind = .function) :
  codeAny (Md w) A (.call (.ref f) args) R s :=
 enterC G [] (fun _ h => nomatch h) hroom (G.K _ _ hf) hd (codeRec_of G.K hcd) hbind hkind hnd (fun g L h₁ tk cells hg _ F N Y => by
  rw [List.map_nil, nothing_hidden] at hg
  subst hg
  rw [List.append_nil] at N
  exact h L h₁ tk cells F N Y) hco hgen hk
end
end
section
noncomputable abbrev frs (l : List Env) : List Addr := l.filterMap (·.frame)
noncomputable def AllFrames (h : Heap) : List Env → Prop
 | [] => True
 | env :: r => env.scope.kind ≠ .module ∧ (∃ L o, env.frame = some L ∧ h.get? L = some o ∧ ∀ vs, o.data ≠ .fields vs) ∧ AllFrames h r
structure Stk (A : Around) (l : List Env) (h : Heap) : Prop where
 stack : A.frames = some l
 frames : AllFrames h l
theorem AllFrames.up {h h' : Heap} (k : ∀ b o, h.get? b = some o → (∀ vs, o.data ≠ .fields vs) → ∃ o', h'.get? b = some o' ∧ o'.data = o.data) : ∀ {l : List Env}, AllFrames h l → AllFrames h' l
 | [], _ => trivial
 | _ :: _, ⟨a, ⟨L, o, b, c, d⟩, r⟩ => let ⟨o', c', e⟩ := k L o c d; ⟨a, ⟨L, o', b, c', fun vs => e ▸ d vs⟩, r.up k⟩
theorem AllFrames.mem {h : Heap} : ∀ {l : List Env}, AllFrames h l → ∀ {b : Addr}, b ∈ frs l → ∃ o, h.get? b = some o ∧ ∀ vs, o.data ≠ .fields vs
 | [], _, _, hb => by simp [frs] at hb
 | env :: r, ⟨_, ⟨L, o, hf, ho, hd⟩, hr⟩, b, hb => by
  rw [frs, List.filterMap_cons, hf] at hb
  rcases List.mem_cons.mp hb with e | hb
  ·subst e; exact ⟨o, ho, hd⟩
  ·exact hr.mem hb
theorem AllFrames.fun {h base : Heap} : ∀ {l : List Env}, AllFrames h l → (∀ b ∈ frs l, base.get? b = none) → h.FunFrames base l
 | [], _, _ => trivial
 | env :: r, ⟨a, ⟨L, o, hf, ho, hd⟩, hr⟩, hb => ⟨a, ⟨L, o, hf, hb L (by rw [frs, List.filterMap_cons, hf]; exact .head _), ho, hd⟩, hr.fun fun b m => hb b (by rw [frs, List.filterMap_cons, hf]; exact .tail _ m)⟩
theorem Stk.keep {A : Around} {l : List Env} {h h' : Heap} (S : Stk A l h) (k : Keep h h') : Stk A l h' := ⟨S.stack, S.frames.up fun b o e _ => ⟨o, k b o e, rfl⟩⟩
theorem Stk.push {A : Around} {l : List Env} {g h : Heap} {env : Env} {L : Addr} {m : Str → Option Value} (S : Stk A l g) (F : Fr g L h m) (hf : env.frame = some L) (hk : env.scope.kind ≠ .module) : Stk (A.deeper env) (env :: l) h := by
 refine ⟨Around.frames_deeper S.stack, hk, ?_, (S.keep F.keep).frames⟩
 obtain ⟨o, es, n, ho, hd, _⟩ := F.ns
 exact ⟨L, o, hf, ho, fun vs q => by rw [hd] at q; cases q⟩
noncomputable def Off (fs : List Addr) (h h' : Heap) : Prop := ∀ b o, h.get? b = some o → b ∉ fs → h'.get? b = some o
theorem Off.news {fs : List Addr} {g h h' : Heap} {L : Addr} {news : List (Addr × Obj)} (k : Off fs h h') (N : News g L h news) (hf : ∀ b ∈ fs, b = L ∨ ∃ o, g.get? b = some o) : ∀ p ∈ news, h'.get? p.1 = some p.2 := fun p hp => by
 refine k _ _ (N p hp).1 fun q => ?_
 rcases hf _ q with e | ⟨o, e⟩
 ·exact (N p hp).2.1 e
 ·rw [(N p hp).2.2] at e; cases e
theorem frs_push {h : Heap} {A : Around} {l : List Env} {env : Env} {L : Addr} (S : Stk A l h) (hf : env.frame = some L) : ∀ b ∈ frs (env :: l), b = L ∨ ∃ o, h.get? b = some o := fun b hb => by
 rw [frs, List.filterMap_cons, hf] at hb
 rcases List.mem_cons.mp hb with e | hb
 ·exact .inl e
 ·obtain ⟨o, ho, _⟩ := S.frames.mem hb
  exact .inr ⟨o, ho⟩
noncomputable def FlyO (h : Heap) (fs : List Addr) (l : List Env) (e : Addr) (cls : Value) (h' : Heap) : Prop :=
 ∃ B a0, (∀ b o, h.get? b = some o → b ∉ fs → B.get? b = some o) ∧ Heap.FlyingW B l e cls a0 h' ∧ h.UpToSlots h'
noncomputable def Fly (g : Heap) (l : List Env) (e : Addr) (cls : Value) (h : Heap) : Prop :=
 ∃ B a0, (∀ b o, g.get? b = some o → b ∉ frs l → B.get? b = some o) ∧ Heap.FlyingW B l e cls a0 h ∧ g.UpToSlots h
theorem own_frame {g h : Heap} {L b : Addr} {m : Str → Option Value} {env : Env} {l : List Env} {o : Obj} (F : Fr g L h m) (hf : env.frame = some L) (e : g.get? b = some o) (n : b ∉ frs l) : b ∉ frs (env :: l) := by
 rw [frs, List.filterMap_cons, hf]
 intro hm
 rcases List.mem_cons.mp hm with rfl | hm
 ·exact absurd (Nat.lt_of_lt_of_le (Heap.lt_size e) F.above) (Nat.lt_irrefl _)
 ·exact n hm
section
variable {w : World} {A : Around} {s s' : Shared} {g h : Heap} {l : List Env} {L e : Addr} {m : Str → Option Value} {env : Env} {Q : Unit → Shared → Prop} {E : Value → Shared → Prop}
theorem leaveNewT {M : Model} {cls : String} (S : Stk A l g) (F : Fr g L h m) (hf : env.frame = some L) (hk : env.scope.kind ≠ .module) (hx : Heap.NewExc h s'.heap e cls)
  (hQ : ∀ h', Fly g l e (.type cls) h' → FlyO h (frs (env :: l)) l e (.type cls) h' → Q () { s' with heap := h' }) : wpAny M (A.deeper env) (leaving env (.ref e)) Q E s' := by
 have S' := S.push F hf hk
 obtain ⟨ob, tp, he, hcls, hd⟩ := hx.there
 have hin : ∀ b ∈ frs (env :: l), (hideAll h (frs (env :: l))).get? b = none := fun b hb => hideAll_none _ hb
 have hen : (hideAll h (frs (env :: l))).get? e = none := by
  cases q : (hideAll h (frs (env :: l))).get? e with
  | none => rfl
  | some o => have := of_hideAll _ q; rw [hx.new] at this; cases this
 refine wpAny_leaving_firstW (a0 := tp) S'.stack ((S'.frames.up fun b o e _ => ⟨o, hx.keeps b o e, rfl⟩).fun hin) hf he (fun b o hb => hx.keeps b o (of_hideAll _ hb)) hen hd rfl rfl fun h' hL => ?_
 obtain ⟨k1, ⟨_, _, k2⟩, k3, k4⟩ := hL
 refine hQ h' ⟨_, tp, fun b o q n => hideAll_get _ (F.keep b o q) (own_frame F hf q n), ⟨k1, hen, k2, by rw [← hcls]; exact k3⟩, ?_⟩ ?_
 ·exact ((Heap.UpToSlots.of_keeps F.keep).trans (Heap.UpToSlots.of_keeps hx.keeps)).trans k4
 ·exact ⟨_, tp, fun b o q n => hideAll_get _ q n, ⟨k1, hen, k2, by rw [← hcls]; exact k3⟩, (Heap.UpToSlots.of_keeps hx.keeps).trans k4⟩
theorem leaveNew {M : Model} {cls : String} (S : Stk A l g) (F : Fr g L h m) (hf : env.frame = some L) (hk : env.scope.kind ≠ .module) (hx : Heap.NewExc h s'.heap e cls)
  (hQ : ∀ h', Fly g l e (.type cls) h' → Q () { s' with heap := h' }) : wpAny M (A.deeper env) (leaving env (.ref e)) Q E s' := leaveNewT S F hf hk hx fun h' R _ => hQ h' R
theorem leaveOn {M : Model} {cls : Value} {g₂ : Heap} (hfr : A.frames = some l) (F : Fr g L g₂ m) (hf : env.frame = some L) (X : Fly g₂ (env :: l) e cls s'.heap)
  (hQ : ∀ h', Fly g l e cls h' → Q () { s' with heap := h' }) : wpAny M (A.deeper env) (leaving env (.ref e)) Q E s' := by
 obtain ⟨B, a0, hB, hfl, hsm⟩ := X
 exact wpAny_leaves_onW (Around.frames_deeper hfr) hf hfl fun h' x1 x2 => hQ h' ⟨B, a0, fun b o q n => hB b o (F.keep b o q) (own_frame F hf q n), x1, ((Heap.UpToSlots.of_keeps F.keep).trans hsm).trans x2⟩
theorem raise_VT {E' : Value → Shared → Prop} {cls newId initId : String} (FC : ExcCallFacts cls newId initId) (FR : ExcRaiseFacts cls) {x : Str} {np cpos pos : Pos} {arg : Expr} {Q : Flow → Shared → Prop}
  (hh : A.handled = none) (S : Stk A l g) (hf : env.frame = some L) (hk : env.scope.kind ≠ .module)
  (hE : ∀ e s', wpAny (Md w) (A.deeper env) (leaving env e) (fun _ s'' => E' e s'') (fun e' s'' => E' e' s'') s' → E e s')
  (h : wpAny (Md w) (A.deeper env) (eval (.Name x np) env) (fun f s₁ => f = .type cls ∧ wpAny (Md w) (A.deeper env) (spliced (backTo cpos (starEach [arg] env)))
   (fun vs s₂ => Stop (vs.length ≤ sizeLine ∧ ∃ m, Fr g L s₂.heap m ∧ ∀ h' e, Fly g l e (.type cls) h' → FlyO s₂.heap (frs (env :: l)) l e (.type cls) h' → E' (.ref e) { s₂ with heap := h' })) E s₁) E s)
  (he : starEach [arg] env = (false, eval arg env) :: starEach [] env := by rfl) :
  wpAny (Md w) (A.deeper env) (exec (.Raise (some (.Call (.Name x np) [arg] [] cpos)) none pos) env) Q E s := by
 refine Raise_madeB FC FR hh (wpAny_mono h (fun f s₁ h₁ => ⟨h₁.1, wpAny_mono h₁.2 (fun vs s₂ h₂ => ?_) fun _ _ x => x⟩) fun _ _ x => x) he rfl
 obtain ⟨hz, m, F, k⟩ := h₂.out
 exact ⟨hz, fun h' e hm => hE _ _ (leaveNewT S F hf hk hm.newExc fun h'' R o => k h'' e R o)⟩
theorem raise_V {E' : Value → Shared → Prop} {cls newId initId : String} (FC : ExcCallFacts cls newId initId) (FR : ExcRaiseFacts cls) {x : Str} {np cpos pos : Pos} {arg : Expr} {Q : Flow → Shared → Prop}
  (hh : A.handled = none) (S : Stk A l g) (hf : env.frame = some L) (hk : env.scope.kind ≠ .module)
  (hE : ∀ e s', wpAny (Md w) (A.deeper env) (leaving env e) (fun _ s'' => E' e s'') (fun e' s'' => E' e' s'') s' → E e s')
  (h : wpAny (Md w) (A.deeper env) (eval (.Name x np) env) (fun f s₁ => f = .type cls ∧ wpAny (Md w) (A.deeper env) (spliced (backTo cpos (starEach [arg] env)))
   (fun vs s₂ => Stop (vs.length ≤ sizeLine ∧ ∃ m, Fr g L s₂.heap m ∧ ∀ h' e, Fly g l e (.type cls) h' → E' (.ref e) { s₂ with heap := h' })) E s₁) E s)
  (he : starEach [arg] env = (false, eval arg env) :: starEach [] env := by rfl) :
  wpAny (Md w) (A.deeper env) (exec (.Raise (some (.Call (.Name x np) [arg] [] cpos)) none pos) env) Q E s := by
 refine Raise_madeB FC FR hh (wpAny_mono h (fun f s₁ h₁ => ⟨h₁.1, wpAny_mono h₁.2 (fun vs s₂ h₂ => ?_) fun _ _ x => x⟩) fun _ _ x => x) he rfl
 obtain ⟨hz, m, F, k⟩ := h₂.out
 exact ⟨hz, fun h' e hm => hE _ _ (leaveNew S F hf hk hm.newExc fun h'' R => k h'' e R)⟩
end
end
section
structure Lkup (w : World) (h : Heap) (lk : Addr) (ms : List Int) : Prop where
 dict : ∃ kvs, h.DictOf (intKind rw_iw0008_01.prog w) lk kvs ∧ (∀ k, k ∈ ms → ∃ t, valueAt kvs k = some (.int (ms.idxOf k : Int) t)) ∧ (∀ k, k ∉ ms → valueAt kvs k = none)
 low : (lk == sysModules) = false
theorem Lkup.keeps {w : World} {h h' : Heap} {lk : Addr} {ms : List Int} (k : Keep h h') (x : Lkup w h lk ms) : Lkup w h' lk ms := by
 obtain ⟨⟨kvs, ⟨o, es, ep, ho, r⟩, r'⟩, lo⟩ := x
 exact ⟨⟨kvs, ⟨o, es, ep, k _ _ ho, r⟩, r'⟩, lo⟩
section
variable {w : World} {A : Around} {s : Shared} {E : Value → Shared → Prop} {Q : Value → Shared → Prop} {lk : Addr} {ms : List Int} {v : Int} {t : Tok}
theorem getItem_hit (X : Lkup w s.heap lk ms) (hv : v ∈ ms) (h : ∀ u, Q (.int (ms.idxOf v : Int) u) { s with toks := s.toks + 1 }) : wpAny (Md w) A (getItem (.ref lk) (.int v t)) Q E s := by
 obtain ⟨⟨kvs, hd, h1, _⟩, _⟩ := X
 obtain ⟨u, hu⟩ := h1 v hv
 exact wpAny_getItem_of (k := v) (knd := intKind rw_iw0008_01.prog w) (by simp [intKind, Value.isInt]) hd.mapOf hu (h u)
theorem getItem_miss (X : Lkup w s.heap lk ms) (hv : v ∉ ms) (hh : A.handled = none) (h : ∀ h' e, Heap.NewExc s.heap h' e "KeyError" → E (.ref e) { s with heap := h', toks := s.toks + 1 }) : wpAny (Md w) A (getItem (.ref lk) (.int v t)) Q E s := by
 obtain ⟨⟨kvs, hd, _, h2⟩, lo⟩ := X
 have hm := hd.mapOf
 unfold getItem
 try with_reducible refine wpAny_holding ?_
 refine wpAny_bind (wpAny_sequenceKey hm.typeIs (by decide) ?_)
 refine wpAny_bind (wpAny_callSpecial?_slot (name := Str.ofString "__getitem__") hm.typeIs slot_dict_getitem
  (call_meetsIn slot_dict_getitem hm.typeIs entry_dict_getitem (args_dict_getitem _ _) (meets_dict_getitem_missing (k := v) (intKind rw_iw0008_01.prog w) lk (by simp [intKind, Value.isInt]) lo)
   ⟨hh, _, hm, h2 v hv, fun h' e hx => h h' e hx⟩))
theorem sub_of_getItem {value slice : Expr} {key : Value} (X : Lkup w s.heap lk ms) (h : wpAny (Md w) A (getItem (.ref lk) key) Q E s)
  (hs : subscripted slice false (.ref lk) key = operate [.ref lk, key] (getItem (.ref lk) key) := by with_unfolding_all rfl) (hg : ∀ r, letTemporaryGo value (.ref lk) r = pure () := by intro _; with_unfolding_all rfl) :
  wpAny (Md w) A (subscriptTail value slice (.ref lk) key) Q E s := by
 obtain ⟨⟨kvs, hd, _, h2⟩, lo⟩ := X
 exact subscriptTail_builtin hd.typeIs slot_dict_getitem.lookup h hs hg
end
end
section
noncomputable def Trc (h B : Heap) (e : Addr) (cls fl : Value) : Prop :=
 ∃ oe vs T oT ts, h.get? e = some oe ∧ oe.cls = cls ∧ oe.data = .fields vs ∧ vs[1]? = some (.ref T) ∧ vs[2]? = some .none ∧ B.get? T = none ∧ T ≠ e ∧ h.get? T = some oT ∧ oT.data = .fields ts ∧ ts[3]? = some fl
noncomputable def NotF (h h' : Heap) : Prop := ∀ b o, h.get? b = some o → (∀ vs, o.data ≠ .fields vs) → h'.get? b = some o
theorem NotF.of_update {h : Heap} {T : Addr} {oT : Obj} {ts : Array Value} {f : Obj → Obj} (hT : h.get? T = some oT) (hd : oT.data = .fields ts) : NotF h (h.update T f) := fun b o hb hn => by
 have : T ≠ b := fun q => by subst q; rw [hT] at hb; cases hb; exact hn ts hd
 exact (Heap.get?_update_other _ _ this).trans hb
section
variable {M : Model} {A : Around} {E : Value → Shared → Prop} {s : Shared} {B : Heap} {env : Env} {l : List Env} {L e : Addr} {Q : Unit → Shared → Prop} {cls fl : Value}
theorem entryN {oe : Obj} {vs : Array Value} {head : Value} {hadNext : Bool} (hfr : A.frames = some (env :: l)) (hl : s.heap.FunFrames B (env :: l)) (hf : env.frame = some L)
  (he : s.heap.get? e = some oe) (kb : B.StaysIn s.heap) (hen : B.get? e = none) (hd : oe.data = .fields vs) (hsz : 1 < vs.size) (h2 : vs[2]? = some .none)
  (h : ∀ h', B.StaysIn h' → h'.FunFrames B (env :: l) → Trc h' B e oe.cls (rawInt L) → s.heap.UpToSlots h' → Q () { s with heap := h' }) :
  wpAny M A (do let a ← frameOf env; let pl ← entryPlaceOf L hadNext; let b ← EntryCells.newEntry head a .none (rawInt L) .none pl; setField (.ref e) 1 b) Q E s := by
 have hne : e ∉ frs (env :: l) := fun hm => by
  obtain ⟨_, o, ho, hn⟩ := hl.mem hm
  rw [he] at ho; cases ho; exact hn vs hd
 refine wpAny_bind (wpAny_frameOf_fun hfr hl hf fun h₁ S₁ => wpAny_bind (wpAny_entryPlaceOf fun pl hpl => ?_))
 unfold EntryCells.newEntry newFields
 refine wpAny_bind (wpAny_newObj_type ?_ (hpl.sizeOk5 _ _ _ _ _))
 have e1 : h₁.get? e = some oe := (S₁.2.1 e hne).trans he
 have k1 : B.StaysIn h₁ := fun b o q => (S₁.2.1 b fun hm => by rw [(hl.mem hm).1] at q; cases q).trans (kb b o q)
 generalize htb : ({ cls := .type "traceback", dict := none, data := .fields ([head, .ref L, .none, rawInt L, .none] ++ (if pl.isEmpty then List.replicate 6 Value.none else pl)).toArray } : Obj) = tb
 have e2 : (h₁.push tb).get? e = some oe := Heap.get?_push_of_some _ e1
 have nf : ∀ b o, h₁.get? b = some o → b ≠ e → ((h₁.push tb).update e (Obj.mapFields (·.setIfInBounds 1 (Value.ref h₁.objs.size)))).get? b = some o := fun b o q n => (Heap.get?_update_other _ _ (Ne.symm n)).trans (Heap.get?_push_of_some _ q)
 have up : ∀ b o, s.heap.get? b = some o → (∀ vs, o.data ≠ .fields vs) → ∃ sl, ((h₁.push tb).update e (Obj.mapFields (·.setIfInBounds 1 (Value.ref h₁.objs.size)))).get? b = some { o with slots := sl } := by
  intro b o q n
  obtain ⟨sl, q'⟩ := S₁.2.2 b o q
  exact ⟨sl, nf b _ q' fun z => by subst z; rw [he] at q; cases q; exact n vs hd⟩
 refine wpAny_setField e2 hd hsz (h _ ?_ ?_ ?_ ?_)
 ·exact fun b o q => nf b o (k1 b o q) fun z => by rw [z, hen] at q; cases q
 ·exact hl.of_keeps fun b o q n => let ⟨_, q'⟩ := up b o q n; ⟨_, q', rfl⟩
 ·have hTe : h₁.objs.size ≠ e := Nat.ne_of_gt (Heap.lt_size e1)
  have d3 := Obj.data_mapFields hd (·.setIfInBounds 1 (Value.ref h₁.objs.size))
  refine ⟨_, _, h₁.objs.size, tb, _, Heap.get?_update_self _ e2 (Obj.isFreed_of_fields d3), Obj.cls_mapFields _ _, d3, by simp [hsz], ?_, fresh_below (fun b o q => k1 b o q) size_free, hTe, (Heap.get?_update_other _ _ (Ne.symm hTe)).trans (Heap.get?_push_size _ ?_), by rw [← htb], ?_⟩
  ·rw [Array.getElem?_setIfInBounds_ne (by decide)]; exact h2
  ·rw [← htb]; rfl
  ·first | (simp; done) | (rcases hpl with rfl | ⟨_, _, _, _, _, _, _, rfl⟩ <;> simp)
 ·exact up
theorem landN (kb : B.StaysIn s.heap) (hl : s.heap.FunFrames B l) (ht : Trc s.heap B e cls fl)
  (h : ∀ h', B.StaysIn h' → h'.FunFrames B l → Trc h' B e cls .none → s.heap.UpToSlots h' → Q () { s with heap := h' }) : wpAny M A (setFlight (.ref e) none) Q E s := by
 obtain ⟨oe, vs, T, oT, ts, he, hc, hd, h1, h2, hn, hne, hT, hdT, h3⟩ := ht
 have hsz : 3 < ts.size := (Array.getElem?_eq_some_iff.mp h3).1
 unfold setFlight
 refine wpAny_bind (wpAny_field he hd h1 ?_)
 rw [if_pos (show (Value.ref T != Value.none) = true from by simp)]
 have nf := NotF.of_update (f := Obj.mapFields (·.setIfInBounds 3 ((none : Option Addr).elim Value.none fun f => rawInt f))) hT hdT
 refine wpAny_setField hT hdT hsz (h _ (fun b o q => ?_) (hl.of_keeps fun b o q n => ⟨o, nf b o q n, rfl⟩) ?_ fun b o q n => ⟨o.slots, nf b o q n⟩)
 ·exact (Heap.get?_update_other _ _ (fun z : T = b => by rw [← z, hn] at q; cases q)).trans (kb b o q)
 ·exact ⟨oe, vs, T, _, _, (Heap.get?_update_other _ _ hne).trans he, hc, hd, h1, h2, hn, hne, Heap.get?_update_self _ hT (Obj.isFreed_of_fields (Obj.data_mapFields hdT _)), Obj.data_mapFields hdT _, by simp [hsz]⟩
theorem noteNew {oe : Obj} {vs : Array Value} (hfr : A.frames = some (env :: l)) (hl : s.heap.FunFrames B (env :: l)) (hf : env.frame = some L)
  (he : s.heap.get? e = some oe) (kb : B.StaysIn s.heap) (hen : B.get? e = none) (hd : oe.data = .fields vs) (h1 : vs[1]? = some .none) (h2 : vs[2]? = some .none)
  (h : ∀ h', B.StaysIn h' → h'.FunFrames B (env :: l) → Trc h' B e oe.cls (rawInt L) → s.heap.UpToSlots h' → Q () { s with heap := h' }) : wpAny M A (noteFrame (.ref e) env) Q E s := by
 unfold noteFrame
 simp only [hf]
 refine wpAny_bind (wpAny_field he hd h1 ?_)
 rw [if_neg (by decide)]
 exact entryN hfr hl hf he kb hen hd (Array.getElem?_eq_some_iff.mp h1).1 h2 h
theorem noteOn (hfr : A.frames = some (env :: l)) (hl : s.heap.FunFrames B (env :: l)) (hf : env.frame = some L) (kb : B.StaysIn s.heap) (hen : B.get? e = none) (ht : Trc s.heap B e cls .none)
  (h : ∀ h', B.StaysIn h' → h'.FunFrames B (env :: l) → Trc h' B e cls (rawInt L) → s.heap.UpToSlots h' → Q () { s with heap := h' }) : wpAny M A (noteFrame (.ref e) env) Q E s := by
 obtain ⟨oe, vs, T, oT, ts, he, hc, hd, h1, h2, hn, hne, hT, hdT, h3⟩ := ht
 subst hc
 unfold noteFrame
 simp only [hf]
 refine wpAny_bind (wpAny_field he hd h1 ?_)
 rw [if_pos (show (Value.ref T != Value.none) = true from by simp)]
 refine wpAny_bind (wpAny_field hT hdT h3 ?_)
 rw [if_neg (show ¬ ((Value.none == rawInt L) = true) from by simp [rawInt])]
 refine wpAny_bind (wpAny_setField hT hdT (Array.getElem?_eq_some_iff.mp h3).1 ?_)
 have nf := NotF.of_update (f := Obj.mapFields (·.setIfInBounds 3 Value.none)) hT hdT
 refine entryN hfr (hl.of_keeps fun b o q n => ⟨o, nf b o q n, rfl⟩) hf ((Heap.get?_update_other _ _ hne).trans he) (fun b o q => ?_) hen hd (Array.getElem?_eq_some_iff.mp h1).1 h2 fun h' a b c d => h h' a b c ?_
 ·exact (Heap.get?_update_other _ _ (fun z : T = b => by rw [← z, hn] at q; cases q)).trans (kb b o q)
 ·exact fun b o q n => d b o (nf b o q n) n
end
noncomputable def FlyN (g : Heap) (l : List Env) (e : Addr) (cls : Value) (h : Heap) : Prop :=
 ∃ B, (∀ b o, g.get? b = some o → b ∉ frs l → B.get? b = some o) ∧ B.StaysIn h ∧ B.get? e = none ∧ h.FunFrames B l ∧ Trc h B e cls .none ∧ g.UpToSlots h
section
variable {A : Around} {s s' : Shared} {g h : Heap} {l : List Env} {L e : Addr} {m : Str → Option Value} {env : Env} {Q : Unit → Shared → Prop} {E : Value → Shared → Prop}
theorem leaveNewN {M : Model} {cls : String} (S : Stk A l g) (F : Fr g L h m) (hf : env.frame = some L) (hk : env.scope.kind ≠ .module) (hx : Heap.NewExc h s'.heap e cls)
  (hQ : ∀ h', FlyN g l e (.type cls) h' → Q () { s' with heap := h' }) : wpAny M (A.deeper env) (leaving env (.ref e)) Q E s' := by
 have S' := S.push F hf hk
 obtain ⟨ob, tp, he, hcls, hd⟩ := hx.there
 have hin : ∀ b ∈ frs (env :: l), (hideAll h (frs (env :: l))).get? b = none := fun b hb => hideAll_none _ hb
 have hen : (hideAll h (frs (env :: l))).get? e = none := by
  cases q : (hideAll h (frs (env :: l))).get? e with
  | none => rfl
  | some o => have := of_hideAll _ q; rw [hx.new] at this; cases this
 unfold leaving
 refine wpAny_bind (noteNew S'.stack ((S'.frames.up fun b o e _ => ⟨o, hx.keeps b o e, rfl⟩).fun hin) hf he (fun b o hb => hx.keeps b o (of_hideAll _ hb)) hen hd rfl rfl fun h₁ a1 a2 a3 a4 => ?_)
 refine landN a1 a2 a3 fun h₂ b1 b2 b3 b4 => hQ h₂ ⟨_, fun b o q n => hideAll_get _ (F.keep b o q) (own_frame F hf q n), b1, hen, b2.2.2, by rw [← hcls]; exact b3, ?_⟩
 exact (((Heap.UpToSlots.of_keeps F.keep).trans (Heap.UpToSlots.of_keeps hx.keeps)).trans a4).trans b4
theorem leaveOnN {M : Model} {cls : Value} {g₂ : Heap} (hfr : A.frames = some l) (F : Fr g L g₂ m) (hf : env.frame = some L) (X : FlyN g₂ (env :: l) e cls s'.heap)
  (hQ : ∀ h', FlyN g l e cls h' → Q () { s' with heap := h' }) : wpAny M (A.deeper env) (leaving env (.ref e)) Q E s' := by
 obtain ⟨B, hB, kb, hen, hl, ht, hsm⟩ := X
 unfold leaving
 refine wpAny_bind (noteOn (Around.frames_deeper hfr) hl hf kb hen ht fun h₁ a1 a2 a3 a4 => ?_)
 refine landN a1 a2 a3 fun h₂ b1 b2 b3 b4 => hQ h₂ ⟨B, fun b o q n => hB b o (F.keep b o q) (own_frame F hf q n), b1, hen, b2.2.2, b3, ?_⟩
 exact (((Heap.UpToSlots.of_keeps F.keep).trans hsm).trans a4).trans b4
end
end
section
structure Bel (A : Around) (l : List Env) (base g : Heap) : Prop where
 stk : Stk A l g
 keep : Keep base g
 low : ∀ b ∈ frs l, base.get? b = none
theorem Bel.push {A : Around} {l : List Env} {base g h : Heap} {env : Env} {L : Addr} {m : Str → Option Value} (X : Bel A l base g) (F : Fr g L h m) (hf : env.frame = some L) (hk : env.scope.kind ≠ .module) : Bel (A.deeper env) (env :: l) base h := by
 refine ⟨X.stk.push F hf hk, X.keep.trans F.keep, fun b hb => ?_⟩
 rw [frs, List.filterMap_cons, hf] at hb
 rcases List.mem_cons.mp hb with rfl | hb
 ·exact fresh_below X.keep (kts_self F)
 ·exact X.low b hb
noncomputable abbrev Turn (l : List Env) (g g' : Heap) : Prop := KtsTurn (frs l) g g'
theorem Bel.turn {A : Around} {l : List Env} {base g g' : Heap} (X : Bel A l base g) (t : Turn l g g') : Bel A l base g' := by
 refine ⟨⟨X.stk.stack, X.stk.frames.up fun b o e _ => ?_⟩, fun b o e => t.other b o (X.keep b o e) fun hm => ?_, X.low⟩
 ·obtain ⟨sl, q⟩ := t.up e
  exact ⟨_, q, rfl⟩
 ·rw [X.low b hm] at e; cases e
theorem ground_turn {A : Around} {l : List Env} {g G B h : Heap} {env : Env} {L : Addr} {m : Str → Option Value} (S : Stk A l g) (F : Fr g L G m) (hf : env.frame = some L)
  (hB : ∀ b o, G.get? b = some o → b ∉ frs (env :: l) → B.get? b = some o) (kb : B.StaysIn h) (hsm : G.UpToSlots h) : ∃ g', Turn l g g' ∧ Fr g' L h m := by
 obtain ⟨T, k⟩ := kts_turn_at (h := h) (fs := frs l) (g := g) (fun b hb => let ⟨o, ho, _⟩ := S.frames.mem hb; ⟨o, ho⟩)
  (fun b o e n => kb b o (hB b o (F.keep b o e) (own_frame F hf e n)))
  (fun b o e hm => by
   obtain ⟨o', ho', hd⟩ := S.frames.mem hm
   rw [e] at ho'; cases ho'
   exact hsm b o (F.keep b o e) hd)
 exact ⟨_, T, hsm.ns F.ns, k, by rw [T.size]; exact F.above⟩
section
variable {w : World} {A : Around} {s s' : Shared} {base g G : Heap} {l : List Env} {L e : Addr} {m mg mb : Str → Option Value} {env : Env} {E : Value → Shared → Prop} {Q : Flow → Shared → Prop}
theorem caughtNT {x : Str} {X T' : String} {b₀ : Stmt} {suite : List Stmt} {np pos : Pos} {rest : List ExceptHandler} (Y : FlyN G (env :: l) e (.type X) s'.heap) (F : Fr g L G m) (K : Bel A l base g) (hf : env.frame = some L) (Gd0 : Gd w mg mb base)
  (hv : bootBuiltins x = some (.type T')) (hs : (startupNames ++ LOOSE).contains x = false) (hn' : x ≠ "__name__")
  (hexc : isSubtype (.type T') (.type "BaseException") = pure true) (hnt : isSubtype (.type ((Manifest.find? T').elim "type" fun y => y.metatype)) (.type "tuple") = pure false) (hsub : isSubtype (.type X) (.type T') = pure true)
  (hE : PassesOwnAt (Md w) ((A.deeper env).mark (some (.ref e))) (A.deeper env) env E)
  (k : ∀ h' g' B, Turn l g g' → Fr g' L h' m → Trc h' B e (.type X) .none → Off (frs (env :: l)) G h' → wpAny (Md w) ((A.deeper env).mark (some (.ref e))) (execs (b₀ :: suite) env) Q E { s' with heap := h' })
  (hg : env.globals = mainGlobals) (hb : env.builtins = builtinsNs) (hk : env.scope.kind = .function) (hx : env.kindOf x = some .globalImplicit) (hd : (x == ("__debug__" : Str)) = false) :
  wpAny (Md w) (A.deeper env) (noteFrame (.ref e) env)
   (fun _ s₂ => wpAny (Md w) (A.deeper env) (setFlight (.ref e) none) (fun _ s₃ =>
    wpAny (Md w) (A.deeper env) (handleBy (.ref e) env (.ExceptHandler (some (.Name x np)) none (b₀ :: suite) pos :: rest)) Q E s₃) E s₂) E s' := by
 obtain ⟨B, hB, kb, hen, hl, ht, hsm⟩ := Y
 refine noteOn (Around.frames_deeper K.stk.stack) hl hf kb hen ht fun h₁ a1 a2 a3 a4 => ?_
 refine landN a1 a2 a3 fun h₂ b1 b2 b3 b4 => ?_
 obtain ⟨g₂, T₂, F₂⟩ := ground_turn K.stk F hf hB b1 ((hsm.trans a4).trans b4)
 have K₂ := K.turn T₂
 obtain ⟨oe, vs, T, oT, ts, he, hc, hr⟩ := id b3
 refine wpAny_handleBy_builtin (X := X) (T := T') (b := true) hexc hnt hsub ?_
 refine nameB F₂ (Gd0.keeps K₂.keep).T hs hv hn' ?_ hg hb hk hx hd
 refine ⟨rfl, ⟨oe, he, hc⟩, ?_⟩
 refine landN b1 b2 b3 fun h₃ c1 c2 c3 c4 => ?_
 obtain ⟨g₃, T₃, F₃⟩ := ground_turn K.stk F hf hB c1 (((hsm.trans a4).trans b4).trans c4)
 exact wpAny_passesOwnAt hE (k h₃ g₃ B T₃ F₃ c3 fun b o q n => c1 b o (hB b o q n))
theorem caughtN {x : Str} {X T' : String} {b₀ : Stmt} {suite : List Stmt} {np pos : Pos} {rest : List ExceptHandler} (Y : FlyN G (env :: l) e (.type X) s'.heap) (F : Fr g L G m) (K : Bel A l base g) (hf : env.frame = some L) (Gd0 : Gd w mg mb base)
  (hv : bootBuiltins x = some (.type T')) (hs : (startupNames ++ LOOSE).contains x = false) (hn' : x ≠ "__name__")
  (hexc : isSubtype (.type T') (.type "BaseException") = pure true) (hnt : isSubtype (.type ((Manifest.find? T').elim "type" fun y => y.metatype)) (.type "tuple") = pure false) (hsub : isSubtype (.type X) (.type T') = pure true)
  (hE : PassesOwnAt (Md w) ((A.deeper env).mark (some (.ref e))) (A.deeper env) env E)
  (k : ∀ h' g' B, Turn l g g' → Fr g' L h' m → Trc h' B e (.type X) .none → wpAny (Md w) ((A.deeper env).mark (some (.ref e))) (execs (b₀ :: suite) env) Q E { s' with heap := h' })
  (hg : env.globals = mainGlobals) (hb : env.builtins = builtinsNs) (hk : env.scope.kind = .function) (hx : env.kindOf x = some .globalImplicit) (hd : (x == ("__debug__" : Str)) = false) :
  wpAny (Md w) (A.deeper env) (noteFrame (.ref e) env)
   (fun _ s₂ => wpAny (Md w) (A.deeper env) (setFlight (.ref e) none) (fun _ s₃ =>
    wpAny (Md w) (A.deeper env) (handleBy (.ref e) env (.ExceptHandler (some (.Name x np)) none (b₀ :: suite) pos :: rest)) Q E s₃) E s₂) E s' :=
 caughtNT Y F K hf Gd0 hv hs hn' hexc hnt hsub hE (fun h' g' B a b c _ => k h' g' B a b c) hg hb hk hx hd
noncomputable def Come (G : Heap) (l : List Env) (e : Addr) (cls : Value) (h : Heap) : Prop :=
 ∃ B a0, (∀ b o, G.get? b = some o → b ∉ frs l → B.get? b = some o) ∧ Heap.FlyingW B l e cls a0 h ∧ G.UpToSlots h
theorem Come.off {G h : Heap} {l : List Env} {e : Addr} {cls : Value} (X : Come G l e cls h) : Off (frs l) G h := fun b o q n => let ⟨_, _, hB, hf, _⟩ := X; hf.1 b o (hB b o q n)
end
end
section
theorem entry_unchain : entryFor table "proto.unchain" = some Builtin.«proto.unchain» := entryFor_of_tree (by kernel_rfl)
theorem plain_unchain : plainId "proto.unchain" = true := by decide +kernel
section
variable {w : World} {A : Around} {s : Shared} {E : Value → Shared → Prop} {e e0 : Addr}
theorem raiseNewH {α : Type} {Q : α → Shared → Prop} {o o0 : Obj} {vs vs0 : Array Value} (hh : A.handled = some (.ref e0)) (h0 : s.heap.get? e0 = some o0) (d0 : o0.data = .fields vs0) (c0 : vs0[2]? = some .none)
  (ho : s.heap.get? e = some o) (hd : o.data = .fields vs) (hsz : 2 < vs.size) (hne : e0 ≠ e)
  (h : E (.ref e) { s with heap := s.heap.update e (Obj.mapFields (·.setIfInBounds 2 (.ref e0))) }) : wpAny (Md w) A (raiseNew (.ref e) : Sem α) Q E s := by
 unfold raiseNew
 refine wpAny_bind (wpAny_handled ?_)
 rw [hh]
 dsimp only
 rw [if_pos (show (Value.ref e0 != Value.ref e) = true from by simp [hne])]
 refine wpAny_bind (wpAny_holding (wpAny_runValue (codeAny_builtin entry_unchain ?_)))
 rw [Around.under_plainId plain_unchain _]
 show wpAny _ A.in1 (field (.ref e0) 2 >>= _) _ _ s
 refine wpAny_bind (wpAny_field h0 d0 c0 ?_)
 rw [if_pos (by decide)]
 refine wpAny_bind (wpAny_pure (wpAny_pure ?_))
 show wpAny _ A (updateField e 2 (.ref e0) >>= _) _ _ s
 refine wpAny_bind ?_
 unfold updateField
 refine wpAny_bind (wpAny_load ho ?_)
 rw [hd]
 dsimp only
 rw [if_pos hsz]
 exact wpAny_update ho (wpAny_throw h)
theorem raiseStmtH {cls : String} (FR : ExcRaiseFacts cls) {env : Env} {x : Sem Value} {Q : Flow → Shared → Prop} (hh : A.handled = some (.ref e0))
  (h : wpAny (Md w) A x (fun v s₁ => ∃ e t, v = .ref e ∧ s₁.heap.get? e = some { cls := .type cls, data := .fields #[.ref t, .none, .none, .none, .bool false, .none] } ∧ e0 ≠ e ∧
   (∃ o0 vs0, s₁.heap.get? e0 = some o0 ∧ o0.data = .fields vs0 ∧ vs0[2]? = some .none) ∧
   E (.ref e) { s₁ with heap := s₁.heap.update e (Obj.mapFields (·.setIfInBounds 2 (.ref e0))) }) E s) :
  wpAny (Md w) A (raiseStmt env (some x) none) Q E s := by
 unfold raiseStmt
 refine wpAny_bind (wpAny_mono h (fun v s₁ h₁ => ?_) fun _ _ x => x)
 obtain ⟨e, t, rfl, he, hne, ⟨o0, vs0, h0, d0, c0⟩, hE⟩ := h₁
 have fin := fun (Q : Flow → Shared → Prop) => raiseNewH (w := w) (α := Flow) (Q := Q) (s := s₁) hh h0 d0 c0 he rfl (by simp) hne hE
 obtain ⟨hp, g, d, tk, os⟩ := s₁
 have hsub := FR.isExc
 have hmeta := FR.plainMeta
 repeat (first | refine wpAny_loadPart he ?_ | exact fin _ | wp_step)
theorem raise_H {cls newId initId : String} (FC : ExcCallFacts cls newId initId) (FR : ExcRaiseFacts cls) {env : Env} {x : Str} {np cpos pos : Pos} {arg : Expr} {Q : Flow → Shared → Prop} (hh : A.handled = some (.ref e0))
  (h : wpAny (Md w) A (eval (.Name x np) env) (fun f s₁ => f = .type cls ∧ wpAny (Md w) A (spliced (backTo cpos (starEach [arg] env)))
   (fun vs s₂ => Stop (vs.length ≤ sizeLine ∧ (∃ o0 vs0, s₂.heap.get? e0 = some o0 ∧ o0.data = .fields vs0 ∧ vs0[2]? = some .none) ∧
    ∀ h' e, Heap.MadeExc s₂.heap h' e cls vs → e0 ≠ e → E (.ref e) { s₂ with heap := h'.update e (Obj.mapFields (·.setIfInBounds 2 (.ref e0))) })) E s₁) E s)
  (he : starEach [arg] env = (false, eval arg env) :: starEach [] env := by rfl) :
  wpAny (Md w) A (exec (.Raise (some (.Call (.Name x np) [arg] [] cpos)) none pos) env) Q E s := by
 have hplain : (backTo cpos (starEach [arg] env)).any (·.1) = false := by rw [he]; rfl
 have key : wpAny (Md w) A (eval (.Call (.Name x np) [arg] [] cpos) env) (fun v s₁ => ∃ e t, v = .ref e ∧ s₁.heap.get? e = some { cls := .type cls, data := .fields #[.ref t, .none, .none, .none, .bool false, .none] } ∧ e0 ≠ e ∧
   (∃ o0 vs0, s₁.heap.get? e0 = some o0 ∧ o0.data = .fields vs0 ∧ vs0[2]? = some .none) ∧
   E (.ref e) { s₁ with heap := s₁.heap.update e (Obj.mapFields (·.setIfInBounds 2 (.ref e0))) }) E s := by
  refine wpAny_Call_ofName (wpAny_mono h (fun f s₁ h₁ => ?_) fun _ _ x => x)
  obtain ⟨rfl, h₁⟩ := h₁
  refine callWith_excType hplain ?_
  rw [he] at h₁ ⊢
  refine Calls.evalArgs_plain (wpAny_mono h₁ (fun vs s₂ h₂ => ?_) fun _ _ x => x)
  obtain ⟨hz, ⟨o0, vs0, h0, d0, c0⟩, k⟩ := h₂.out
  obtain ⟨hp, g, d, tk, os⟩ := s₂
  refine wpAny_call_exc FC (hrest := hz) fun h' e hm => ?_
  obtain ⟨t, ht, _, _⟩ := hm.there
  have hne : e0 ≠ e := fun q => by
   have := hm.newExc.new
   rw [← q] at this
   rw [show hp.get? e0 = some o0 from h0] at this
   cases this
  exact ⟨e, t, rfl, ht, hne, ⟨o0, vs0, hm.newExc.keeps _ _ h0, d0, c0⟩, k h' e hm hne⟩
 rw [arm_exec_Raise]
 exact wpAny_bind (wpAny_standAt (raiseStmtH FR hh (wpAny_bind (wpAny_mono key (fun v s₁ h₁ => wpAny_bind (wpAny_standAt (wpAny_pure h₁))) fun _ _ x => x))))
theorem leaveHT {M : Model} {A : Around} {s' : Shared} {g h h₁ : Heap} {l : List Env} {L e : Addr} {m : Str → Option Value} {env : Env} {Q : Unit → Shared → Prop} {E : Value → Shared → Prop} {cls : String} {vs : List Value} {v0 : Value} (S : Stk A l g) (F : Fr g L h m) (hf : env.frame = some L) (hk : env.scope.kind ≠ .module)
  (hx : Heap.MadeExc h h₁ e cls vs) (hs : s'.heap = h₁.update e (Obj.mapFields (·.setIfInBounds 2 v0)))
  (hQ : ∀ h', Fly g l e (.type cls) h' → FlyO h (frs (env :: l)) l e (.type cls) h' → Q () { s' with heap := h' }) : wpAny M (A.deeper env) (leaving env (.ref e)) Q E s' := by
 have S' := S.push F hf hk
 obtain ⟨t, ht, _, _⟩ := hx.there
 have hne : ∀ b o, h.get? b = some o → b ≠ e := fun b o q z => by rw [z, hx.newExc.new] at q; cases q
 have keep : Keep h s'.heap := fun b o q => by
  rw [hs]
  exact (Heap.get?_update_other _ _ (Ne.symm (hne b o q))).trans (hx.newExc.keeps b o q)
 have he : s'.heap.get? e = some { cls := .type cls, data := .fields #[.ref t, .none, v0, .none, .bool false, .none] } := by
  rw [hs]
  have := Heap.get?_update_self (Obj.mapFields (·.setIfInBounds 2 v0)) ht rfl
  exact this
 have hin : ∀ b ∈ frs (env :: l), (hideAll h (frs (env :: l))).get? b = none := fun b hb => hideAll_none _ hb
 have hen : (hideAll h (frs (env :: l))).get? e = none := by
  cases q : (hideAll h (frs (env :: l))).get? e with
  | none => rfl
  | some o => exact absurd rfl (hne e o (of_hideAll _ q))
 refine wpAny_leaving_firstW (a0 := .ref t) S'.stack ((S'.keep keep).frames.fun hin) hf he (fun b o hb => keep b o (of_hideAll _ hb)) hen rfl rfl rfl fun h' hL => ?_
 obtain ⟨k1, ⟨_, _, k2⟩, k3, k4⟩ := hL
 refine hQ h' ⟨_, .ref t, fun b o q n => hideAll_get _ (F.keep b o q) (own_frame F hf q n), ⟨k1, hen, k2, k3⟩, ?_⟩ ?_
 ·exact ((Heap.UpToSlots.of_keeps F.keep).trans (Heap.UpToSlots.of_keeps keep)).trans k4
 ·exact ⟨_, .ref t, fun b o q n => hideAll_get _ q n, ⟨k1, hen, k2, k3⟩, (Heap.UpToSlots.of_keeps keep).trans k4⟩
theorem leaveH {M : Model} {A : Around} {s' : Shared} {g h h₁ : Heap} {l : List Env} {L e : Addr} {m : Str → Option Value} {env : Env} {Q : Unit → Shared → Prop} {E : Value → Shared → Prop} {cls : String} {vs : List Value} {v0 : Value} (S : Stk A l g) (F : Fr g L h m) (hf : env.frame = some L) (hk : env.scope.kind ≠ .module)
  (hx : Heap.MadeExc h h₁ e cls vs) (hs : s'.heap = h₁.update e (Obj.mapFields (·.setIfInBounds 2 v0)))
  (hQ : ∀ h', Fly g l e (.type cls) h' → Q () { s' with heap := h' }) : wpAny M (A.deeper env) (leaving env (.ref e)) Q E s' := leaveHT S F hf hk hx hs fun h' R _ => hQ h' R
end
theorem Fly.back {g g' h : Heap} {l : List Env} {e : Addr} {cls : Value} (t : Turn l g g') (X : Fly g' l e cls h) : Fly g l e cls h := by
 obtain ⟨B, a0, hB, hfl, hsm⟩ := X
 refine ⟨B, a0, fun b o q n => hB b o (t.other b o q n) n, hfl, fun b o q n => ?_⟩
 exact (Heap.UpToSlots.trans (fun b o q _ => t.up q) hsm) b o q n
end
structure Mk where
 P : Addr
 pos : Pos
 qual : Str
noncomputable abbrev mkEb : Mk := ⟨88, ⟨57, 8, 58, 32⟩, "Base64Engine.encode_bytes.<locals>.next_value"⟩
noncomputable abbrev mkDb : Mk := ⟨107, ⟨117, 8, 118, 48⟩, "Base64Engine.decode_bytes.<locals>.next_value"⟩
noncomputable abbrev mkDi : Mk := ⟨177, ⟨201, 8, 202, 36⟩, "Base64Engine._decode_int.<locals>.decode"⟩
noncomputable abbrev mkD12 : Mk := ⟨191, ⟨233, 8, 234, 36⟩, "Base64Engine.decode_int12.<locals>.decode"⟩
noncomputable abbrev mkD24 : Mk := ⟨198, ⟨249, 8, 250, 36⟩, "Base64Engine.decode_int24.<locals>.decode"⟩
noncomputable def MKS : List Mk := [mkEb, mkDb, mkDi, mkD12, mkD24]
noncomputable def PS : List Addr := MKS.map (·.P)
theorem in_Eb : mkEb ∈ MKS := .head _
theorem in_Db : mkDb ∈ MKS := .tail _ (.head _)
theorem in_Di : mkDi ∈ MKS := .tail _ (.tail _ (.head _))
theorem in_D12 : mkD12 ∈ MKS := .tail _ (.tail _ (.tail _ (.head _)))
theorem in_D24 : mkD24 ∈ MKS := .tail _ (.tail _ (.tail _ (.tail _ (.head _))))
theorem mks_one {x y : Mk} (hx : x ∈ MKS) (hy : y ∈ MKS) (e : x.P = y.P) : x = y := by
 simp only [MKS, List.mem_cons, List.not_mem_nil, or_false] at hx hy
 rcases hx with rfl | rfl | rfl | rfl | rfl <;> rcases hy with rfl | rfl | rfl | rfl | rfl <;> first | rfl | exact absurd e (by decide)
theorem mem_PS {x : Mk} (hx : x ∈ MKS) : x.P ∈ PS := List.mem_map_of_mem hx
noncomputable abbrev tab1 (x : Mk) (c : Addr) : Obj := tabObj #[rawInt x.pos.line, rawInt x.pos.col, .ref c]
noncomputable def TabsG (h g : Heap) : Prop := ∀ x ∈ MKS, h.get? x.P = some (tabObj #[]) ∨ ∃ c, h.get? x.P = some (tab1 x c) ∧ c ∉ PS ∧ g.CodeRec (.ref c) x.qual
noncomputable abbrev Tabs (h : Heap) : Prop := TabsG h h
noncomputable def TabsTo (h h' : Heap) : Prop := ∀ x ∈ MKS, h'.get? x.P = h.get? x.P ∨ ∃ c, h.get? c = none ∧ c ∉ PS ∧ h'.get? x.P = some (tab1 x c) ∧ h'.CodeRec (.ref c) x.qual
structure KeepT (h h' : Heap) : Prop where
 keep : Keep (hideAll h PS) h'
 tab : TabsTo h h'
theorem TabsG.there {h g : Heap} (X : TabsG h g) {b : Addr} (hb : b ∈ PS) : ∃ ps, h.get? b = some (tabObj ps) := by
 obtain ⟨x, hx, rfl⟩ := List.mem_map.mp hb
 rcases X x hx with e | ⟨c, e, _⟩
 ·exact ⟨_, e⟩
 ·exact ⟨_, e⟩
theorem codeRec_hide {h : Heap} {c : Addr} {q : Str} (x : h.CodeRec (.ref c) q) (n : c ∉ PS) : (hideAll h PS).CodeRec (.ref c) q := by
 obtain ⟨c', o, vs, t, e, ho, hd, hv⟩ := x
 cases e
 exact ⟨c, o, vs, t, rfl, hideAll_get _ ho n, hd, hv⟩
theorem Tabs.hid {h : Heap} (X : Tabs h) : TabsG h (hideAll h PS) := fun x hx => (X x hx).imp id fun ⟨c, e, n, r⟩ => ⟨c, e, n, codeRec_hide r n⟩
theorem TabsG.up {h g g' : Heap} (X : TabsG h g) (k : Keep g g') : TabsG h g' := fun x hx => (X x hx).imp id fun ⟨c, e, n, r⟩ => ⟨c, e, n, r.keeps k⟩
theorem Tabs.keeps {h h' : Heap} (X : Tabs h) (k : Keep h h') : Tabs h' := fun x hx => (X x hx).imp (k _ _) fun ⟨c, e, n, r⟩ => ⟨c, k _ _ e, n, r.keeps k⟩
theorem Tabs.to {h h' : Heap} (X : Tabs h) (k : KeepT h h') : Tabs h' := fun x hx => by
 rcases k.tab x hx with e | ⟨c, _, n, e, r⟩
 ·rw [e]
  rcases X x hx with e | ⟨c, e, n, r⟩
  ·exact .inl e
  ·exact .inr ⟨c, e, n, (codeRec_hide r n).keeps k.keep⟩
 ·exact .inr ⟨c, e, n, r⟩
theorem KeepT.of {h h' : Heap} (X : Tabs h) (k : Keep h h') : KeepT h h' := ⟨fun b o e => k b o (of_hideAll _ e), fun x hx => .inl (by
 obtain ⟨ps, e⟩ := X.there (mem_PS hx)
 rw [e, k _ _ e])⟩
theorem KeepT.dom {h h' : Heap} (X : Tabs h) (k : KeepT h h') {c : Addr} (e : h'.get? c = none) : h.get? c = none := by
 cases q : h.get? c with
 | none => rfl
 | some o =>
  by_cases hb : c ∈ PS
  ·obtain ⟨ps, e'⟩ := (X.to k).there hb
   rw [e] at e'; cases e'
  ·have := k.keep _ _ (hideAll_get _ q hb)
   rw [e] at this; cases this
theorem KeepT.trans {h h' h'' : Heap} (X : Tabs h) (a : KeepT h h') (b : KeepT h' h'') : KeepT h h'' := ⟨fun x o e => by
  have hx : x ∉ PS := fun q => by rw [hideAll_none _ q] at e; cases e
  exact b.keep _ _ (hideAll_get _ (a.keep x o e) hx), fun x hx => by
  rcases b.tab x hx with e | ⟨c, f, n, e, r⟩
  ·rw [e]
   rcases a.tab x hx with e | ⟨c, f, n, e, r⟩
   ·exact .inl e
   ·exact .inr ⟨c, f, n, e, (codeRec_hide r n).keeps b.keep⟩
  ·exact .inr ⟨c, a.dom X f, n, e, r⟩⟩
theorem keep_hideT {base h : Heap} (k : Keep base h) (hb : ∀ P ∈ PS, base.get? P = none) : Keep base (hideAll h PS) := fun b o e => hideAll_get _ (k b o e) fun q => by rw [hb b q] at e; cases e
structure Led (h₀ g : Heap) (led : List (Addr × Obj)) : Prop where
 was : TabsG h₀ g
 dom : ∀ b o, h₀.get? b = some o → b ∉ PS → g.get? b ≠ none
 now : ∀ x ∈ MKS, (∃ o, (x.P, o) ∈ led ∧ h₀.get? x.P = some o) ∨ ∃ c oc vs t, h₀.get? c = none ∧ c ∉ PS ∧ (x.P, tab1 x c) ∈ led ∧ (c, oc) ∈ led ∧ oc.data = .fields vs ∧ vs[1]? = some (.str x.qual t)
 kind : ∀ p ∈ led, ∃ vs, p.2.data = .fields vs
theorem Led.to {h₀ g h' : Heap} {led : List (Addr × Obj)} (X : Led h₀ g led) (k : ∀ p ∈ led, h'.get? p.1 = some p.2) : TabsTo h₀ h' := fun x hx => by
 rcases X.now x hx with ⟨o, ho, e⟩ | ⟨c, oc, vs, t, f, n, e, e2, hd, hv⟩
 ·exact .inl ((k _ ho).trans e.symm)
 ·exact .inr ⟨c, f, n, k _ e, c, oc, vs, t, rfl, k _ e2, hd, hv⟩
theorem Led.tabs {h₀ g h' : Heap} {led : List (Addr × Obj)} (X : Led h₀ g led) (k : ∀ p ∈ led, h'.get? p.1 = some p.2) (kg : Keep g h') : Tabs h' := fun x hx => by
 rcases X.now x hx with ⟨o, ho, e⟩ | ⟨c, oc, vs, t, f, n, e, e2, hd, hv⟩
 ·have := k _ ho
  rcases X.was x hx with q | ⟨c, q, n, r⟩
  ·rw [e] at q; cases q; exact .inl this
  ·rw [e] at q; cases q; exact .inr ⟨c, this, n, r.keeps kg⟩
 ·exact .inr ⟨c, k _ e, n, c, oc, vs, t, rfl, k _ e2, hd, hv⟩
theorem Led.tab {h₀ g : Heap} {led : List (Addr × Obj)} (X : Led h₀ g led) {b : Addr} (hb : b ∈ PS) : ∃ o, (b, o) ∈ led := by
 obtain ⟨x, hx, rfl⟩ := List.mem_map.mp hb
 rcases X.now x hx with ⟨o, ho, _⟩ | ⟨c, oc, vs, t, _, _, e, _⟩
 ·exact ⟨o, ho⟩
 ·exact ⟨_, e⟩
theorem led_start {h : Heap} (X : Tabs h) : ∃ led, led.map (·.1) = PS ∧ (∀ p ∈ led, h.get? p.1 = some p.2) ∧ Led h (hideAll h PS) led := by
 refine ⟨PS.map fun b => (b, (h.get? b).getD default), by rw [List.map_map]; exact List.map_id _, fun p hp => ?_, X.hid, fun b o e n q => ?_, fun x hx => .inl ?_, fun p hp => ?_⟩
 ·obtain ⟨b, hb, rfl⟩ := List.mem_map.mp hp
  obtain ⟨ps, e⟩ := X.there hb
  simp [e]
 ·rw [hideAll_get _ e n] at q; cases q
 ·obtain ⟨ps, e⟩ := X.there (mem_PS hx)
  exact ⟨_, List.mem_map_of_mem (f := fun b => (b, (h.get? b).getD default)) (mem_PS hx), by simp [e]⟩
 ·obtain ⟨b, hb, rfl⟩ := List.mem_map.mp hp
  obtain ⟨ps, e⟩ := X.there hb
  exact ⟨ps, by simp [e]⟩
theorem led_more {α : Type} {P : α → List (Addr × Obj) → Prop} {R : Addr × Obj → Prop} (mono : ∀ a l l', P a l → (∀ p ∈ l, p ∈ l') → P a l') : ∀ (xs : List α), (∀ a ∈ xs, ∃ l, P a l ∧ ∀ p ∈ l, R p) → ∃ l, (∀ a ∈ xs, P a l) ∧ ∀ p ∈ l, R p
 | [], _ => ⟨[], (fun _ h => nomatch h), (fun _ h => nomatch h)⟩
 | a :: xs, h => by
  obtain ⟨l, h1, h2⟩ := led_more mono xs fun b hb => h b (.tail _ hb)
  obtain ⟨l', h3, h4⟩ := h a (.head _)
  refine ⟨l' ++ l, fun b hb => ?_, fun p hp => (List.mem_append.mp hp).elim (h4 p) (h2 p)⟩
  rcases List.mem_cons.mp hb with rfl | hb
  ·exact mono _ _ _ h3 fun p hp => List.mem_append_left _ hp
  ·exact mono _ _ _ (h1 b hb) fun p hp => List.mem_append_right _ hp
inductive LedS (h₀ g h' : Heap) (L : Addr) (m : Str → Option Value) (news : List (Addr × Obj)) : Prop
 | mk (led') (X : Led h₀ g led') (F : Fr g L h' m) (N : News g L h' (news ++ led')) : LedS h₀ g h' L m news
theorem Led.step {h₀ g h h' : Heap} {L : Addr} {m : Str → Option Value} {news led : List (Addr × Obj)} (X : Led h₀ g led) (F : Fr g L h m) (N : News g L h (news ++ led)) (k : KeepT h h') (hn : ∀ p ∈ news, p.1 ∉ PS) :
  LedS h₀ g h' L m news := by
 have st : ∀ p ∈ led, h.get? p.1 = some p.2 := fun p hp => (N p (List.mem_append_right _ hp)).1
 have gP : ∀ b ∈ PS, g.get? b = none ∧ b ≠ L := fun b hb => by
  obtain ⟨o, ho⟩ := X.tab hb
  have := N _ (List.mem_append_right _ ho)
  exact ⟨this.2.2, this.2.1⟩
 have kp : ∀ b o, b ∉ PS → h.get? b = some o → h'.get? b = some o := fun b o n e => k.keep _ _ (hideAll_get _ e n)
 have hLd : L ∉ PS := fun q => (gP L q).2 rfl
 have TB := X.tabs st F.keep
 have dom : ∀ c, h.get? c = none → h₀.get? c = none := fun c e => by
  cases q : h₀.get? c with
  | none => rfl
  | some o =>
   by_cases hb : c ∈ PS
   ·obtain ⟨ps, e'⟩ := TB.there hb
    rw [e] at e'; cases e'
   ·have := X.dom c o q hb
    cases q2 : g.get? c with
    | none => exact absurd q2 this
    | some o2 => have := F.keep _ _ q2; rw [e] at this; cases this
 have newc : ∀ c, h.get? c = none → c ≠ L ∧ g.get? c = none := fun c e => by
  refine ⟨fun q => ?_, ?_⟩
  ·obtain ⟨o, _, _, e', _⟩ := F.ns
   rw [q, e'] at e; cases e
  ·cases q : g.get? c with
   | none => rfl
   | some o => have := F.keep _ _ q; rw [e] at this; cases this
 obtain ⟨led', h1, h2⟩ := led_more (P := fun (x : Mk) l => (∃ o, (x.P, o) ∈ l ∧ h₀.get? x.P = some o) ∨ ∃ c oc vs t, h₀.get? c = none ∧ c ∉ PS ∧ (x.P, tab1 x c) ∈ l ∧ (c, oc) ∈ l ∧ oc.data = .fields vs ∧ vs[1]? = some (.str x.qual t))
  (R := fun p => (h'.get? p.1 = some p.2 ∧ p.1 ≠ L ∧ g.get? p.1 = none) ∧ ∃ vs, p.2.data = .fields vs)
  (fun x l l' hl s => hl.imp (fun ⟨o, a, b⟩ => ⟨o, s _ a, b⟩) fun ⟨c, oc, vs, t, a1, a2, a3, a4, a5⟩ => ⟨c, oc, vs, t, a1, a2, s _ a3, s _ a4, a5⟩) MKS (fun x hx => by
   have hxP := mem_PS hx
   rcases k.tab x hx with e | ⟨c, f, n, e, c', oc, vs, t, ec, ho, hd, hv⟩
   ·rcases X.now x hx with ⟨o, ho, e0⟩ | ⟨c, oc, vs, t, f, n, e1, e2, hd, hv⟩
    ·refine ⟨[(x.P, o)], .inl ⟨o, .head _, e0⟩, fun p hp => ?_⟩
     rw [List.mem_singleton] at hp
     subst hp
     exact ⟨⟨e.trans (st _ ho), (gP _ hxP).2, (gP _ hxP).1⟩, X.kind _ ho⟩
    ·refine ⟨[(x.P, tab1 x c), (c, oc)], .inr ⟨c, oc, vs, t, f, n, .head _, .tail _ (.head _), hd, hv⟩, fun p hp => ?_⟩
     rcases List.mem_cons.mp hp with rfl | hp
     ·exact ⟨⟨e.trans (st _ e1), (gP _ hxP).2, (gP _ hxP).1⟩, _, rfl⟩
     ·rw [List.mem_singleton] at hp
      subst hp
      have := N _ (List.mem_append_right _ e2)
      exact ⟨⟨kp _ _ n (st _ e2), this.2⟩, _, hd⟩
   ·cases ec
    refine ⟨[(x.P, tab1 x c), (c, oc)], .inr ⟨c, oc, vs, t, dom _ f, n, .head _, .tail _ (.head _), hd, hv⟩, fun p hp => ?_⟩
    rcases List.mem_cons.mp hp with rfl | hp
    ·exact ⟨⟨e, (gP _ hxP).2, (gP _ hxP).1⟩, _, rfl⟩
    ·rw [List.mem_singleton] at hp
     subst hp
     exact ⟨⟨ho, newc _ f⟩, _, hd⟩)
 refine ⟨led', ⟨X.was, X.dom, h1, fun p hp => (h2 p hp).2⟩, ⟨?_, fun b o e => ?_, F.above⟩, fun p hp => ?_⟩
 ·obtain ⟨o, es, ep, e, r⟩ := F.ns
  exact ⟨o, es, ep, kp _ _ hLd e, r⟩
 ·exact kp b o (fun q => by rw [(gP b q).1] at e; cases e) (F.keep b o e)
 ·rcases List.mem_append.mp hp with hp | hp
  ·have := N p (List.mem_append_left _ hp)
   exact ⟨kp _ _ (hn p hp) this.1, this.2⟩
  ·exact (h2 p hp).1
theorem Bel.hid {A : Around} {l : List Env} {base h : Heap} (X : Bel A l base h) (T : Tabs h) (hb : ∀ P ∈ PS, base.get? P = none) : Bel A l base (hideAll h PS) := by
 refine ⟨⟨X.stk.stack, ?_⟩, keep_hideT X.keep hb, X.low⟩
 refine X.stk.frames.up fun b o e n => ⟨o, hideAll_get _ e fun q => ?_, rfl⟩
 obtain ⟨ps, e'⟩ := T.there q
 rw [e] at e'; cases e'
 exact n _ rfl
section
noncomputable def CodeL (g : Heap) (led : List (Addr × Obj)) (c : Addr) (q : Str) : Prop := ∀ h, Keep g h → (∀ p ∈ led, h.get? p.1 = some p.2) → h.CodeRec (.ref c) q
theorem tab1_inj {x : Mk} {c c' : Addr} (e : tab1 x c = tab1 x c') : c = c' := by
 have : (tab1 x c).data = (tab1 x c').data := by rw [e]
 simp only [tab1] at this
 injection this with this
 have h2 := congrArg (fun (a : Array Value) => a[2]?) this
 simpa using h2
theorem Led.code {h₀ g h' : Heap} {led : List (Addr × Obj)} {x : Mk} {c : Addr} (X : Led h₀ g led) (hx : x ∈ MKS) (st : ∀ p ∈ led, h'.get? p.1 = some p.2) (e : h'.get? x.P = some (tab1 x c)) : CodeL g led c x.qual := by
 intro h kg kl
 rcases X.now x hx with ⟨o, ho, e0⟩ | ⟨c', oc, vs, t, f, n, e1, e2, hd, hv⟩
 ·have := st _ ho
  rw [e] at this; cases this
  rcases X.was x hx with q | ⟨c', q, n, r⟩
  ·rw [e0] at q; cases q
  ·rw [e0] at q
   have := tab1_inj (Option.some.inj q)
   subst this
   exact r.keeps kg
 ·have := st _ e1
  rw [e] at this
  have := tab1_inj (Option.some.inj this)
  subst this
  exact ⟨c, oc, vs, t, rfl, kl _ e2, hd, hv⟩
section
variable {M : Model} {A : Around} {E : Value → Shared → Prop} {s : Shared} {h₀ g : Heap} {L a c : Addr} {m mg mb : Str → Option Value} {cn : Str} {cs : Scope} {ccd : Value} {cl : List (Str × Addr)} {news led : List (Addr × Obj)}
 {name : Str} {params : Arguments} {body : List Stmt} {scope : Scope} {firstLine : Nat} {clos : List (Str × Addr)} {x : Mk}
theorem nestT {Q : Value → Shared → Prop} (hx : x ∈ MKS) (F : Fr g L s.heap m) (N : News g L s.heap (news ++ led)) (X : Led h₀ g led) (T : Top topProg LOOSE (fun _ => none) mg mb g) (C : CodeHd g c x.P) (hcd : ccd = .ref c) (hn : ∀ p ∈ news, p.1 ∉ PS)
  (hcl : closureFor scope (envX cn cs L a ccd cl) = pure clos)
  (h : ∀ f c' ctv doc h' tk led', Fr g L h' m →
   News g L h' ((f, fnMade name x.qual params body scope clos doc ((mg "__name__").getD .none) c' ctv) :: (news ++ led')) → Led h₀ g led' → CodeL g led' c' x.qual → (∀ q ∈ news, @Ne Nat q.1 f) → f ∉ PS → Q (.ref f) { s with heap := h', toks := tk }) :
  wpAny M A (makeFunction name x.qual params (.stmts body) scope (envX cn cs L a ccd cl) [] [] [] x.pos firstLine) Q E s := by
 have st : ∀ p ∈ led, s.heap.get? p.1 = some p.2 := fun p hp => (N p (List.mem_append_right _ hp)).1
 have TB := X.tabs st F.keep
 have gP : ∀ b ∈ PS, g.get? b = none ∧ b ≠ L := fun b hb => by
  obtain ⟨o, ho⟩ := X.tab hb
  have := N _ (List.mem_append_right _ ho)
  exact ⟨this.2.2, this.2.1⟩
 have hgs := T.g.keeps F.keep
 obtain ⟨bm, ob, b1, b2, b3, b4, b5, b6⟩ := T.bmain
 have hgP : mainGlobals ≠ x.P := fun q => by
  obtain ⟨o, es, ep, e, hd, _⟩ := T.g
  rw [q, (gP _ (mem_PS hx)).1] at e; cases e
 have hbP : bm ≠ x.P := fun q => by rw [q, (gP _ (mem_PS hx)).1] at b3; cases b3
 have hbG : bm ≠ mainGlobals := fun q => by
  obtain ⟨o, es, ep, e, hd, _⟩ := T.g
  rw [q, e] at b3; cases b3; rw [hd] at b6; cases b6
 have BA : s.heap.BuiltinsAt mg x.P := ⟨bm, ob, b1, b2, hbG, hbP, F.keep _ _ b3, b4, b5, b6⟩
 have fin : ∀ (c' : Addr) (ctv doc : Value) (h' : Heap) (tk : Tok), KeepT s.heap h' → s.heap.objs.size ≤ h'.objs.size → h'.get? x.P = some (tab1 x c') →
   Q (.ref h'.objs.size) { s with heap := h'.push (fnMade name x.qual params body scope clos doc ((mg "__name__").getD .none) c' ctv), toks := tk } := by
  intro c' ctv doc h' tk k hsz hP
  obtain ⟨led', X', F', N'⟩ := X.step F N k hn
  have hLs : L < h'.objs.size := F'.ns.lt
  have st' : ∀ p ∈ led', h'.get? p.1 = some p.2 := fun p hp => (N' p (List.mem_append_right _ hp)).1
  refine h _ c' ctv doc _ tk led' ⟨F'.ns.push _, fun b o e => Heap.get?_push_of_some _ (F'.keep b o e), F'.above⟩ (fun q hq => ?_) X' (X'.code hx st' hP) (fun q hq => Nat.ne_of_lt (Heap.lt_size (N' q (List.mem_append_left _ hq)).1)) fun q => ?_
  ·rcases List.mem_cons.mp hq with rfl | hq
   ·exact ⟨Heap.get?_push_size _ rfl, Nat.ne_of_gt hLs, Heap.get?_none_of_le (Nat.le_trans F'.above (Nat.le_of_lt hLs))⟩
   ·exact ⟨Heap.get?_push_of_some _ (N' q hq).1, (N' q hq).2⟩
  ·obtain ⟨ps, e⟩ := (TB.to k).there q
   exact absurd (Heap.lt_size e) (Nat.lt_irrefl _)
 rcases TB x hx with e0 | ⟨c', e0, nc, r⟩
 ·refine makeFunction_K (mg := mg) (ps := #[]) hcl rfl hgs hcd (C.keeps F.keep) e0 True.intro rfl hgP BA fun c' ctv doc h' tk hx' hge hlt hrec htb => ?_
  refine fin c' ctv doc h' tk ⟨fun b o e => ?_, fun y hy => ?_⟩ (Nat.le_of_lt (Nat.lt_of_le_of_lt hge hlt)) htb
  ·exact hx' b o (fun q => by rw [q, hideAll_none _ (mem_PS hx)] at e; cases e) (of_hideAll _ e)
  ·by_cases hq : y.P = x.P
   ·have := mks_one hy hx hq
    subst this
    refine .inr ⟨c', Heap.get?_none_of_le hge, fun q => ?_, htb, hrec⟩
    obtain ⟨ps, e⟩ := TB.there q
    exact absurd (Heap.lt_size e) (Nat.not_lt.mpr hge)
   ·obtain ⟨ps, e⟩ := TB.there (mem_PS hy)
    exact .inl ((hx' _ _ hq e).trans e.symm)
 ·refine makeFunction_hit (mg := mg) (cv := .ref c') hcl rfl hgs hcd (C.keeps F.keep) e0 (by simp [TriplesOk, rawInt]) (by simp [codeAmong, rawInt]) BA fun ctv doc h' tk hk hsz => ?_
  exact fin c' ctv doc h' tk (KeepT.of TB hk) hsz (hk _ _ e0)
theorem enterN {w : World} {f c' : Addr} {doc pm ctv : Value} {o : Obj} {qual : Str} {args : Args} {binds : List (Str × Value)} {R : Result → Shared → Prop} (G : Gd w mg mb s.heap)
  (ho : s.heap.get? f = some o) (hd : o.data = .func (fnX name qual params body scope clos .none .none doc pm none (.ref c') ctv)) (hcd : s.heap.CodeRec (.ref c') qual) (hroom : A.depth < recursionLimit)
  (hbind : BindsTo s (fnX name qual params body scope clos .none .none doc pm none (.ref c') ctv) args binds) (hloc : ∀ y ∈ binds, scope.names.lookup y.1 = some .local) (hcell : ∀ x ∈ scope.names, x.2 ≠ .cell)
  (h : ∀ L h₁, Fr s.heap L h₁ (fun y => pairsMap binds.reverse y) → News s.heap L h₁ [] →
   wpAny (Md w) (A.deeper (envX qual scope L f (.ref c') clos)) (execs body (envX qual scope L f (.ref c') clos))
    (RQ R) (RE (Md w) A (envX qual scope L f (.ref c') clos) R)
    { s with heap := h₁, toks := s.toks + binds.length })
  (hco : scope.isCoroutine = false) (hgen : scope.isGenerator = false) (hk : scope.kind = .function) : codeAny (Md w) A (.call (.ref f) args) R s := by
 refine codeAny_call_def (fd := fnX name qual params body scope clos .none .none doc pm none (.ref c') ctv) (body := body) (binds := binds) hroom ho hd G.T.nolimit hcd rfl hbind hcell hloc (fun h₁ hns hk₁ => ?_) hco hgen hk
 refine h s.heap.objs.size h₁ ?_ fun _ h => nomatch h
 rw [show (fun y => pairsMap binds.reverse y) = (fun y => binds.reverse.lookup y) from funext fun y => (lookup_pairs y _).symm]
 exact ⟨hns, fun b o e => hk₁ b o e, Nat.le_refl _⟩
theorem nameFr {L' : Addr} {xn : Str} {pos : Pos} {v : Value} {Q : Value → Shared → Prop} {o : Obj} (F : Fr g L' s.heap m) (hc : cl.lookup xn = some c) (ho : g.get? c = some o) (hd : o.data = .cell (some v)) (h : Q v s)
  (hk : cs.kind = .function) (hx : (envX cn cs L' a ccd cl).kindOf xn = some .free) (hb : (xn == ("__debug__" : Str)) = false) (hn : (xn == ("__classdict__" : Str)) = false) :
  wpAny M A (eval (.Name xn pos) (envX cn cs L' a ccd cl)) Q E s := wpAny_Name (wpAny_loadName_free hk hx hc ⟨o, F.keep _ _ ho, hd⟩ h hn) hb
theorem nmFr {L' : Addr} {xn : Str} {pos : Pos} {v : Value} {Q : Value → Shared → Prop} {o : Obj} (h : Q v s) (hk : cs.kind = .function := by rfl) (hx : (envX cn cs L' a ccd cl).kindOf xn = some .free := by kernel_rfl!) (hb : (xn == ("__debug__" : Str)) = false := by decide) (hn : (xn == ("__classdict__" : Str)) = false := by decide)
  (F : Fr g L' s.heap m := by k_asm) (hc : cl.lookup xn = some c := by rfl) (ho : g.get? c = some o := by assumption) (hd : o.data = .cell (some v) := by assumption) :
  wpAny M A (eval (.Name xn pos) (envX cn cs L' a ccd cl)) Q E s := nameFr F hc ho hd h hk hx hb hn
end
end
section
noncomputable def FlyT (h : Heap) (l : List Env) (e : Addr) (cls : Value) (h' : Heap) : Prop :=
 ∃ B a0, (∀ b o, h.get? b = some o → b ∉ frs l → b ∉ PS → B.get? b = some o) ∧ TabsTo h B ∧ Heap.FlyingW B l e cls a0 h' ∧ h.UpToSlots h'
theorem Tabs.offFrames {h : Heap} {A : Around} {l : List Env} (X : Tabs h) (S : Stk A l h) {b : Addr} (hb : b ∈ PS) : b ∉ frs l := fun q => by
 obtain ⟨ps, e⟩ := X.there hb
 obtain ⟨o, ho, n⟩ := S.frames.mem q
 rw [e] at ho; cases ho
 exact n _ rfl
theorem FlyT.of {h h' : Heap} {A : Around} {l : List Env} {e : Addr} {cls : Value} (X : Tabs h) (S : Stk A l h) (Y : Fly h l e cls h') : FlyT h l e cls h' := by
 obtain ⟨B, a0, hB, hf, hu⟩ := Y
 refine ⟨B, a0, fun b o q n _ => hB b o q n, fun x hx => .inl ?_, hf, hu⟩
 obtain ⟨ps, q⟩ := X.there (mem_PS hx)
 rw [q, hB _ _ q (X.offFrames S (mem_PS hx))]
theorem flyT_of {h₀ g g₂ g₀ h h' : Heap} {led news : List (Addr × Obj)} {L e : Addr} {cls : Value} {A : Around} {l : List Env} {env : Env} {m : Str → Option Value} (TB : Tabs h₀) (hg : hideAll h₀ PS = g) (S : Stk A l g) (T : Turn l g g₂) (X : Led h₀ g₀ led) (F : Fr g₂ L h m) (N : News g₂ L h (news ++ led)) (hf : env.frame = some L)
  (Y : FlyO h (frs (env :: l)) l e cls h') : FlyT h₀ l e cls h' := by
 obtain ⟨B, a0, hB, hfl, hu⟩ := Y
 subst hg
 have kg : ∀ b o, h₀.get? b = some o → b ∉ PS → (hideAll h₀ PS).get? b = some o := fun b o q n => hideAll_get _ q n
 have off : ∀ p ∈ led, B.get? p.1 = some p.2 := fun p hp => by
  have n := N p (List.mem_append_right _ hp)
  refine hB _ _ n.1 fun q => ?_
  rw [frs, List.filterMap_cons, hf] at q
  rcases List.mem_cons.mp q with q | q
  ·exact n.2.1 q
  ·obtain ⟨o, ho, _⟩ := S.frames.mem q
   obtain ⟨sl, ho⟩ := T.up ho
   rw [n.2.2] at ho; cases ho
 refine ⟨B, a0, fun b o q n p => ?_, X.to off, hfl, fun b o q n => ?_⟩
 ·have := T.other b o (kg b o q p) n
  exact hB b o (F.keep b o this) (own_frame F hf this n)
 ·by_cases p : b ∈ PS
  ·obtain ⟨ps, q'⟩ := TB.there p
   rw [q] at q'; cases q'
   exact absurd rfl (n _)
  ·obtain ⟨sl, q1⟩ := T.up (kg b o q p)
   obtain ⟨sl2, q2⟩ := hu b _ (F.keep _ _ q1) n
   exact ⟨sl2, q2⟩
section
variable {w : World} {A : Around} {s' : Shared} {g h : Heap} {l : List Env} {L e : Addr} {m : Str → Option Value} {env : Env} {Q : Unit → Shared → Prop} {E : Value → Shared → Prop}
theorem leaveOnT {M : Model} {cls : Value} (hfr : A.frames = some l) (TB : Tabs g) (F : Fr g L h m) (hf : env.frame = some L) (X : FlyT h (env :: l) e cls s'.heap)
  (hQ : ∀ h', FlyT g l e cls h' → Q () { s' with heap := h' }) : wpAny M (A.deeper env) (leaving env (.ref e)) Q E s' := by
 obtain ⟨B, a0, hB, ht, hfl, hsm⟩ := X
 refine wpAny_leaves_onW (Around.frames_deeper hfr) hf hfl fun h' x1 x2 => hQ h' ⟨B, a0, fun b o q n p => hB b o (F.keep b o q) (own_frame F hf q n) p, fun x hx => ?_, x1, ((Heap.UpToSlots.of_keeps F.keep).trans hsm).trans x2⟩
 rcases ht x hx with q | ⟨c, f, n, q, r⟩
 ·obtain ⟨ps, q'⟩ := TB.there (mem_PS hx)
  exact .inl (q.trans ((F.keep _ _ q').trans q'.symm))
 ·exact .inr ⟨c, fresh_below F.keep f, n, q, r⟩
end
theorem turn_news {l : List Env} {A : Around} {env : Env} {L : Addr} {g g' h h' : Heap} {news : List (Addr × Obj)} (S : Stk A l g) (hf : env.frame = some L) (T : Turn l g g') (N : News g L h news) (k : Off (frs (env :: l)) h h') : News g' L h' news := fun p hp =>
 ⟨k.news N (frs_push S hf) p hp, (N p hp).2.1, T.none_ _ (N p hp).2.2⟩
theorem codeL_at {g h : Heap} {L c : Addr} {q : Str} {m : Str → Option Value} {news led : List (Addr × Obj)} (X : CodeL g led c q) (F : Fr g L h m) (N : News g L h (news ++ led)) : h.CodeRec (.ref c) q := X h F.keep fun p hp => (N p (List.mem_append_right _ hp)).1
section
variable {w : World} {A : Around} {s : Shared} {f : Addr} {o : Obj} {name qual : Str} {params : Arguments} {body : List Stmt} {scope : Scope} {dV kV doc pm cdv ct : Value} {an : Option Addr} {args : Args} {binds : List (Str × Value)} {R : Result → Shared → Prop} {mg mb : Str → Option Value}
theorem enterCT' (G : Gd w mg mb s.heap) (TB : Tabs s.heap) (hroom : A.depth < recursionLimit) (ho : s.heap.get? f = some o) (hd : o.data = .func (fnOf name qual params body scope dV kV doc pm an cdv ct)) (hcd : s.heap.CodeRec cdv qual)
  (hbind : BindsTo s (fnOf name qual params body scope dV kV doc pm an cdv ct) args binds)
  (hkind : (binds.all fun y => scope.names.lookup y.1 == some .local || scope.names.lookup y.1 == some .cell) = true) (hnd : ((cellsFrom 0 scope.names []).map (·.1)).Nodup)
  (h : ∀ L h₁ tk cells led, Fr (hideAll s.heap PS) L h₁ (bindL (envOfC qual scope L f cdv).kindOf binds fun _ => none) → News (hideAll s.heap PS) L h₁ (cells ++ led) → Led s.heap (hideAll s.heap PS) led →
   CellsAre (bindC (envOfC qual scope L f cdv).kindOf binds fun _ => none) (cellsFrom (L + 1) scope.names []) cells → (∀ p ∈ PS, p < L) → (∀ p ∈ led, p.1 < L) →
   wpAny (Md w) (A.deeper (envOfC qual scope L f cdv)) (execs body (envOfC qual scope L f cdv))
    (RQ R) (RE (Md w) A (envOfC qual scope L f cdv) R)
    { s with heap := h₁, toks := tk })
  (hco : scope.isCoroutine = false) (hgen : scope.isGenerator = false) (hk : scope.kind = .function) :
  codeAny (Md w) A (.call (.ref f) args) R s := by
 obtain ⟨led, h1, h2, h3⟩ := led_start TB
 refine enterC G led h2 hroom ho hd hcd hbind hkind hnd (fun g L h₁ tk cells hg hlt F N Y => ?_) hco hgen hk
 rw [h1] at hg
 subst hg
 refine h L h₁ tk cells led F N h3 Y (fun p hp => ?_) hlt
 rw [← h1] at hp
 obtain ⟨q, hq, rfl⟩ := List.mem_map.mp hp
 exact hlt q hq
theorem enterKCT' (G : Gd w mg mb s.heap) (TB : Tabs s.heap) (hf : (K0 w.params).lookup f = some o) (hd : o.data = .func (fnOf name qual params body scope dV kV doc pm an cdv ct)) (hcd : codeIn (K0 w.params) cdv qual = true)
  (hroom : A.depth < recursionLimit)
  (hbind : BindsTo s (fnOf name qual params body scope dV kV doc pm an cdv ct) args binds)
  (hkind : (binds.all fun y => scope.names.lookup y.1 == some .local || scope.names.lookup y.1 == some .cell) = true) (hnd : ((cellsFrom 0 scope.names []).map (·.1)).Nodup)
  (h : ∀ L h₁ tk cells led, Fr (hideAll s.heap PS) L h₁ (bindL (envOfC qual scope L f cdv).kindOf binds fun _ => none) → News (hideAll s.heap PS) L h₁ (cells ++ led) → Led s.heap (hideAll s.heap PS) led →
   CellsAre (bindC (envOfC qual scope L f cdv).kindOf binds fun _ => none) (cellsFrom (L + 1) scope.names []) cells → (∀ p ∈ PS, p < L) → (∀ p ∈ led, p.1 < L) →
   wpAny (Md w) (A.deeper (envOfC qual scope L f cdv)) (execs body (envOfC qual scope L f cdv))
    (RQ R) (RE (Md w) A (envOfC qual scope L f cdv) R)
    { s with heap := h₁, toks := tk })
  (hco : scope.isCoroutine = false) (hgen : scope.isGenerator = false) (hk : scope.kind = .function) :
  codeAny (Md w) A (.call (.ref f) args) R s :=
 enterCT' G TB hroom (G.K _ _ hf) hd (codeRec_of G.K hcd) hbind hkind hnd h hco hgen hk
theorem enterCT (G : Gd w mg mb s.heap) (TB : Tabs s.heap) (hroom : A.depth < recursionLimit) (ho : s.heap.get? f = some o) (hd : o.data = .func (fnOf name qual params body scope dV kV doc pm an cdv ct)) (hcd : s.heap.CodeRec cdv qual)
  (hbind : BindsTo s (fnOf name qual params body scope dV kV doc pm an cdv ct) args binds)
  (hkind : (binds.all fun y => scope.names.lookup y.1 == some .local || scope.names.lookup y.1 == some .cell) = true) (hnd : ((cellsFrom 0 scope.names []).map (·.1)).Nodup)
  (h : ∀ L h₁ tk cells led, Fr (hideAll s.heap PS) L h₁ (bindL (envOfC qual scope L f cdv).kindOf binds fun _ => none) → News (hideAll s.heap PS) L h₁ (cells ++ led) → Led s.heap (hideAll s.heap PS) led →
   CellsAre (bindC (envOfC qual scope L f cdv).kindOf binds fun _ => none) (cellsFrom (L + 1) scope.names []) cells → (∀ p ∈ PS, p < L) →
   wpAny (Md w) (A.deeper (envOfC qual scope L f cdv)) (execs body (envOfC qual scope L f cdv))
    (RQ R) (RE (Md w) A (envOfC qual scope L f cdv) R)
    { s with heap := h₁, toks := tk })
  (hco : scope.isCoroutine = false) (hgen : scope.isGenerator = false) (hk : scope.kind = .function) :
  codeAny (Md w) A (.call (.ref f) args) R s :=
 enterCT' G TB hroom ho hd hcd hbind hkind hnd (fun L h₁ tk cells led a b c d e _ => h L h₁ tk cells led a b c d e) hco hgen hk
theorem enterKCT (G : Gd w mg mb s.heap) (TB : Tabs s.heap) (hf : (K0 w.params).lookup f = some o) (hd : o.data = .func (fnOf name qual params body scope dV kV doc pm an cdv ct)) (hcd : codeIn (K0 w.params) cdv qual = true)
  (hroom : A.depth < recursionLimit)
  (hbind : BindsTo s (fnOf name qual params body scope dV kV doc pm an cdv ct) args binds)
  (hkind : (binds.all fun y => scope.names.lookup y.1 == some .local || scope.names.lookup y.1 == some .cell) = true) (hnd : ((cellsFrom 0 scope.names []).map (·.1)).Nodup)
  (h : ∀ L h₁ tk cells led, Fr (hideAll s.heap PS) L h₁ (bindL (envOfC qual scope L f cdv).kindOf binds fun _ => none) → News (hideAll s.heap PS) L h₁ (cells ++ led) → Led s.heap (hideAll s.heap PS) led →
   CellsAre (bindC (envOfC qual scope L f cdv).kindOf binds fun _ => none) (cellsFrom (L + 1) scope.names []) cells → (∀ p ∈ PS, p < L) →
   wpAny (Md w) (A.deeper (envOfC qual scope L f cdv)) (execs body (envOfC qual scope L f cdv))
    (RQ R) (RE (Md w) A (envOfC qual scope L f cdv) R)
    { s with heap := h₁, toks := tk })
  (hco : scope.isCoroutine = false) (hgen : scope.isGenerator = false) (hk : scope.kind = .function) :
  codeAny (Md w) A (.call (.ref f) args) R s :=
 enterCT G TB hroom (G.K _ _ hf) hd (codeRec_of G.K hcd) hbind hkind hnd h hco hgen hk
end
noncomputable def decV (ms : List Int) : List Int → Int
 | [] => 0
 | k :: r => (ms.idxOf k : Int) + 64 * decV ms r
section
variable {w : World} {A : Around} {s : Shared} {env : Env} {E : Value → Shared → Prop}
theorem tryBy {body : List Stmt} {h₀ : ExceptHandler} {hs : List ExceptHandler} {pos : Pos} {Q : Flow → Shared → Prop} (EX : Env → Value → Shared → Prop)
  (h : wpAny (Md w) A (execs body env) (fun f s₁ => match f with | .next => wpAny (Md w) A (execs [] env) Q E s₁ | f => Q f s₁) (EX env) s)
  (hx : ∀ e s₁, EX env e s₁ → wpAny (Md w) A (noteFrame e env) (fun _ s₂ => wpAny (Md w) A (setFlight e none) (fun _ s₃ => wpAny (Md w) A (handleBy e env (h₀ :: hs)) Q E s₃) E s₂) E s₁) :
  wpAny (Md w) A (exec (.Try body (h₀ :: hs) [] [] pos) env) Q E s := wpAny_Try_except (wpAny_mono h (fun _ _ x => x) hx)
theorem newsKeep {g h h' : Heap} {L : Addr} {news : List (Addr × Obj)} (N : News g L h news) (k : Keep h h') : News g L h' news := fun p hp => ⟨k _ _ (N p hp).1, (N p hp).2⟩
end
theorem getD_mem {ks : List Int} {i : Nat} (h : i < ks.length) : ks.getD i 0 ∈ ks := by
 rw [List.getD_eq_getElem?_getD, List.getElem?_eq_getElem h]
 exact List.getElem_mem h
theorem idx_small {ms : List Int} (hl : ms.length = 64) (k : Int) : ((ms.idxOf k : Int)).natAbs < 2 ^ 64 := by
 have := List.idxOf_le_length (a := k) (l := ms)
 omega
theorem two_of {ks : List Int} (h : ks.length = 2) : ks = [ks.getD 0 0, ks.getD 1 0] := by
 match ks, h with
 | [_, _], _ => rfl
theorem four_of {ks : List Int} (h : ks.length = 4) : ks = [ks.getD 0 0, ks.getD 1 0, ks.getD 2 0, ks.getD 3 0] := by
 match ks, h with
 | [_, _, _, _], _ => rfl
theorem decV_two {ms ks : List Int} (h : ks.length = 2) : decV ms ks = (ms.idxOf (ks.getD 0 0) : Int) + (ms.idxOf (ks.getD 1 0) : Int) * 2 ^ Int.toNat 6 := by
 obtain ⟨a, b, rfl⟩ : ∃ a b, ks = [a, b] := ⟨_, _, two_of h⟩
 show _ = (ms.idxOf a : Int) + (ms.idxOf b : Int) * 64
 simp only [decV]
 omega
theorem decV_two_rev {ms ks : List Int} (h : ks.length = 2) : decV ms ks.reverse = (ms.idxOf (ks.getD 1 0) : Int) + (ms.idxOf (ks.getD 0 0) : Int) * 2 ^ Int.toNat 6 := by
 obtain ⟨a, b, rfl⟩ : ∃ a b, ks = [a, b] := ⟨_, _, two_of h⟩
 exact decV_two (ks := [b, a]) rfl
theorem all_two {ms ks : List Int} (h : ks.length = 2) (h0 : ks.getD 0 0 ∈ ms) (h1 : ks.getD 1 0 ∈ ms) : ∀ k ∈ ks, k ∈ ms := by
 rw [two_of h]
 simp only [List.mem_cons, List.not_mem_nil, or_false]
 rintro k (rfl | rfl)
 ·exact h0
 ·exact h1
theorem Led.keepT {h₀ h : Heap} {L : Addr} {m : Str → Option Value} {news led : List (Addr × Obj)} {g' : Heap} (X : Led h₀ g' led) (F : Fr (hideAll h₀ PS) L h m) (N : ∀ p ∈ led, h.get? p.1 = some p.2) : KeepT h₀ h := ⟨F.keep, X.to N⟩
theorem decV_four {ms ks : List Int} (h : ks.length = 4) : decV ms ks = (ms.idxOf (ks.getD 0 0) : Int) + (ms.idxOf (ks.getD 1 0) : Int) * 2 ^ Int.toNat 6 + (ms.idxOf (ks.getD 2 0) : Int) * 2 ^ Int.toNat 12 + (ms.idxOf (ks.getD 3 0) : Int) * 2 ^ Int.toNat 18 := by
 obtain ⟨a, b, c, d, rfl⟩ : ∃ a b c d, ks = [a, b, c, d] := ⟨_, _, _, _, four_of h⟩
 show _ = (ms.idxOf a : Int) + (ms.idxOf b : Int) * 64 + (ms.idxOf c : Int) * 4096 + (ms.idxOf d : Int) * 262144
 simp only [decV]
 omega
theorem decV_four_rev {ms ks : List Int} (h : ks.length = 4) : decV ms ks.reverse = (ms.idxOf (ks.getD 3 0) : Int) + (ms.idxOf (ks.getD 2 0) : Int) * 2 ^ Int.toNat 6 + (ms.idxOf (ks.getD 1 0) : Int) * 2 ^ Int.toNat 12 + (ms.idxOf (ks.getD 0 0) : Int) * 2 ^ Int.toNat 18 := by
 obtain ⟨a, b, c, d, rfl⟩ : ∃ a b c d, ks = [a, b, c, d] := ⟨_, _, _, _, four_of h⟩
 exact decV_four (ks := [d, c, b, a]) rfl
theorem all_four {ms ks : List Int} (h : ks.length = 4) (h0 : ks.getD 0 0 ∈ ms) (h1 : ks.getD 1 0 ∈ ms) (h2 : ks.getD 2 0 ∈ ms) (h3 : ks.getD 3 0 ∈ ms) : ∀ k ∈ ks, k ∈ ms := by
 rw [four_of h]
 simp only [List.mem_cons, List.not_mem_nil, or_false]
 rintro k (rfl | rfl | rfl | rfl) <;> assumption
theorem decV_bound {ms : List Int} (hl : ms.length = 64) : ∀ {ks : List Int}, (∀ k ∈ ks, k ∈ ms) → 0 ≤ decV ms ks ∧ decV ms ks < 64 ^ ks.length
 | [], _ => ⟨Int.le_refl _, by simp [decV]⟩
 | k :: r, h => by
  have ih := decV_bound hl (ks := r) fun x hx => h x (.tail _ hx)
  have hk : ms.idxOf k < 64 := hl ▸ List.idxOf_lt_length_iff.mpr (h k (.head _))
  rw [decV, List.length_cons, Int.pow_succ]
  omega
theorem decV_step {ms seq : List Int} {i : Nat} (h : i < seq.length) : decV ms (seq.take (i + 1)).reverse = (ms.idxOf (seq.getD i 0) : Int) + 64 * decV ms (seq.take i).reverse := by
 rw [List.take_succ_eq_append_getElem h, List.reverse_append]
 simp [decV, h]
theorem take_rev_all {ms seq : List Int} {i : Nat} (h : ∀ k ∈ seq.take i, k ∈ ms) (hi : i < seq.length) (hk : seq.getD i 0 ∈ ms) : ∀ k ∈ seq.take (i + 1), k ∈ ms := by
 rw [List.take_succ_eq_append_getElem hi]
 intro k q
 rcases List.mem_append.mp q with q | q
 ·exact h k q
 ·rw [List.mem_singleton.mp q]
  rw [List.getD_eq_getElem?_getD, List.getElem?_eq_getElem hi] at hk
  exact hk
theorem decV_small {ms seq : List Int} (hl : ms.length = 64) {i : Nat} (h : ∀ k ∈ seq.take i, k ∈ ms) (hi : i ≤ 10) : (decV ms (seq.take i).reverse).natAbs < 2 ^ 64 := by
 have hb := decV_bound hl (ks := (seq.take i).reverse) (by simpa using h)
 have hlen : (seq.take i).reverse.length ≤ 10 := by simp; omega
 have hp : (64 : Int) ^ (seq.take i).reverse.length ≤ 64 ^ 10 := by
  exact_mod_cast Nat.pow_le_pow_right (by decide : 0 < 64) hlen
 have : (64 : Int) ^ 10 < 2 ^ 64 := by decide
 omega
theorem bitAnd_m64 {x : Int} (hx : 0 ≤ x) : Builtin.bitAnd x (1 * 2 ^ Int.toNat 64 - 1) = x % 2 ^ 64 := by
 rw [bitAnd_pp hx (by decide)]
 have h : x.toNat &&& (1 * 2 ^ Int.toNat 64 - 1 : Int).toNat = x.toNat % 2 ^ 64 := Nat.and_two_pow_sub_one_eq_mod x.toNat 64
 rw [h, Int.natCast_emod, Int.toNat_of_nonneg hx]
 rfl
noncomputable def nCh (size : Int) : Nat := ((size + 5) / 6).toNat
noncomputable def rdV (ms : List Int) (big : Bool) (size : Int) (ks : List Int) : Int :=
 if size = 64 then (if big then (decV ms ks.reverse).fdiv 4 else decV ms ks % 2 ^ 64) else decV ms (if big then ks.reverse else ks)
theorem cells_none {cm : Str → Option Value} {cs : List (Str × Addr)} {cells : List (Addr × Obj)} (x : CellsAre cm cs cells) (e : cs = []) : cells = [] := by
 subst e; cases x; rfl
theorem bad6 {ms ks : List Int} (h : ks.length ≠ 1 ∨ ks.getD 0 0 ∉ ms) : ks.length ≠ nCh 6 ∨ ∃ k ∈ ks, k ∉ ms := by
 by_cases e : ks.length = 1
 ·exact .inr ⟨_, getD_mem (by omega), h.resolve_left fun n => n e⟩
 ·exact .inl e
theorem ok6 {ms ks : List Int} (big : Bool) (h : ks.length = 1) (hk : ks.getD 0 0 ∈ ms) : (ms.idxOf (ks.getD 0 0) : Int) = rdV ms big 6 ks ∧ ∀ k ∈ ks, k ∈ ms := by
 match ks, h with
 | [k], _ =>
  refine ⟨?_, fun x hx => by rw [List.mem_singleton.mp hx]; exact hk⟩
  cases big <;> simp [rdV, decV]
end
section
section
variable {w : World} {A : Around} {s : Shared} {env : Env} {E : Value → Shared → Prop}
theorem tryByP {body : List Stmt} {h₀ : ExceptHandler} {hs : List ExceptHandler} {pos : Pos} {Q : Flow → Shared → Prop} (EX : Env → Value → Shared → Prop)
  (h : ∀ E', (∀ e s₁, EX env e s₁ → E' e s₁) → PassesOwn (Md w) A env E' → wpAny (Md w) A (execs body env) (fun f s₁ => match f with | .next => wpAny (Md w) A (execs [] env) Q E s₁ | f => Q f s₁) E' s)
  (hx : ∀ e s₁, EX env e s₁ → wpAny (Md w) A (noteFrame e env) (fun _ s₂ => wpAny (Md w) A (setFlight e none) (fun _ s₃ => wpAny (Md w) A (handleBy e env (h₀ :: hs)) Q E s₃) E s₂) E s₁) :
  wpAny (Md w) A (exec (.Try body (h₀ :: hs) [] [] pos) env) Q E s := wpAny_Try_except (h _ hx (by passes_own))
end
section
variable {w : World} {A : Around} {s : Shared} {g : Heap} {L : Addr} {news : List (Addr × Obj)}
theorem src1_weak {xv : Value} {n : Nat} {P P' : Nat → Value → Prop} (X : Src1 w A g L news xv n P s) (k : ∀ i v, i < n → P i v → P' i v) : Src1 w A g L news xv n P' s := fun Q E q =>
 X Q E fun h' I fp St a b c d e f hfp W st => q h' I fp St a b c d e f hfp
  { sub := W.sub, frame := W.frame, done := W.done, self := W.self, item := fun i s Q E hi st hQ => W.item i s Q E hi st fun v h' tk hp => hQ v h' tk (k i v hi hp) } st
theorem src1_rev (hh : A.handled = none) {R : Addr} {b : Array UInt8} {t : Tok} (hb : b.size ≤ 1000) (hR : s.heap.get? R = some (revBy b t ((b.size : Int) - 1))) (hL : R ≠ L) (hg : g.get? R = none) (hn : ∀ p ∈ news, @Ne Nat p.1 R) :
  Src1 w A g L news (.ref R) b.size (fun i v => ∃ u, v = .int ((b.toList.getD (b.size - 1 - i) 0).toNat : Int) u) s := fun Q E k =>
 pyIter_rev (i := (b.size : Int) - 1) ⟨_, hR, rfl, rfl⟩ (k s.heap R [R] _ (fun i h x => let ⟨o, e, _⟩ := x.2; ⟨o, e⟩) hL hg hn (fun _ _ _ e => e) (Nat.le_refl _) (fun b hb => .inl (List.mem_singleton.mp hb)) (walks_rev hh R b t hb)
  ⟨Nat.zero_le _, _, hR, rfl, by simp⟩)
theorem bInts_at {b : Array UInt8} {i : Nat} (h : i < b.size) : (KBw.bInts b).getD i 0 = ((b.toList.getD i 0).toNat : Int) := by
 simp [KBw.bInts, List.getD_eq_getElem?_getD, h]
theorem src1_fwd {L : Addr} {m : Str → Option Value} (F : Fr g L s.heap m) (N : News g L s.heap news) (hh : A.handled = none) {b : Array UInt8} {t : Tok} {ks : List Int} (hb : KBw.bInts b = ks) : Src1 w A g L news (.bytes b t) ks.length (fun i v => ∃ u, v = .int (ks.getD i 0) u) s := by
 subst hb
 rw [KBw.ints_length]
 refine src1_weak (src1_bytes F N hh) fun i v hi ⟨c, u, hc, hv⟩ => ⟨u, ?_⟩
 rw [hv, bInts_at hi]
 congr 3
 rw [List.getD_eq_getElem?_getD, Array.getElem?_toList, hc]
 rfl
theorem src1_bwd (hh : A.handled = none) {R : Addr} {b : Array UInt8} {t : Tok} {ks : List Int} (hk : KBw.bInts b = ks) (hb : b.size ≤ 1000) (hR : s.heap.get? R = some (revBy b t ((b.size : Int) - 1))) (hL : R ≠ L) (hg : g.get? R = none) (hn : ∀ p ∈ news, @Ne Nat p.1 R) :
  Src1 w A g L news (.ref R) ks.length (fun i v => ∃ u, v = .int (ks.reverse.getD i 0) u) s := by
 subst hk
 rw [KBw.ints_length]
 refine src1_weak (src1_rev hh hb hR hL hg hn) fun i v hi ⟨u, hv⟩ => ⟨u, ?_⟩
 have hl := KBw.ints_length b
 rw [hv, ← bInts_at (by omega), List.getD_eq_getElem?_getD (l := (KBw.bInts b).reverse), List.getElem?_reverse (by omega), ← List.getD_eq_getElem?_getD, hl]
end
section
variable {w : World} {A : Around} {s : Shared} {g : Heap} {L : Addr} {m : Str → Option Value} {news : List (Addr × Obj)} {E : Value → Shared → Prop}
theorem rev_K {b : Array UInt8} {t : Tok} {Q : Value → Shared → Prop} (F : Fr g L s.heap m) (N : News g L s.heap news) (hb : b.size ≤ 1000)
  (h : ∀ R h' tk', Fr g L h' m → News g L h' ((R, revBy b t ((b.size : Int) - 1)) :: news) → (∀ p ∈ news, @Ne Nat p.1 R) → Q (.ref R) { s with heap := h', toks := tk' }) : wpAny (Md w) A (call (.type "reversed") [.bytes b t]) Q E s := by
 obtain ⟨f1, f2, f3⟩ := fresh_top F N
 refine call_rev_bytes hb (h _ _ _ (F.push _) (fun p hp => ?_) f3)
 rcases List.mem_cons.mp hp with rfl | hp
 ·exact ⟨Heap.get?_push_size _ rfl, f1, f2⟩
 ·exact ⟨Heap.get?_push_of_some _ (N p hp).1, (N p hp).2⟩
end
theorem nmAll {g h : Heap} {L : Addr} {news : List (Addr × Obj)} (_ : News g L h news) : ∃ x, x = news := ⟨_, rfl⟩
theorem news_tail {g h : Heap} {L : Addr} {p : Addr × Obj} {news : List (Addr × Obj)} (N : News g L h (p :: news)) : News g L h news := fun q hq => N q (.tail _ hq)
theorem map_none {m : Str → Option Value} {x : Str} (h : m x = none) : m = fun y => if y = x then none else m y := funext fun y => by
 by_cases e : y = x
 ·rw [if_pos e, e, h]
 ·rw [if_neg e]
end
section
structure AftT (l : List Env) (h h' : Heap) : Prop where
 keep : ∀ b o, h.get? b = some o → b ∉ frs l → b ∉ PS → h'.get? b = some o
 tab : TabsTo h h'
 up : h.UpToSlots h'
theorem TabsTo.stay {h B h' : Heap} (X : TabsTo h B) (TB : Tabs h) (k : B.StaysIn h') : TabsTo h h' := fun x hx => by
 rcases X x hx with q | ⟨c, f, n, q, r⟩
 ·obtain ⟨ps, q'⟩ := TB.there (mem_PS hx)
  exact .inl ((k _ _ (q.trans q')).trans q'.symm)
 ·exact .inr ⟨c, f, n, k _ _ q, r.keeps k⟩
inductive AftS (h₀ g h' : Heap) (l : List Env) (L : Addr) (m : Str → Option Value) (news : List (Addr × Obj)) : Prop
 | mk (g' led') (T : Turn l g g') (F : Fr g' L h' m) (N : News g' L h' (news ++ led')) (X : Led h₀ g' led') : AftS h₀ g h' l L m news
theorem aft_step {A : Around} {l : List Env} {env : Env} {h₀ g G h' : Heap} {L : Addr} {m : Str → Option Value} {news led : List (Addr × Obj)} (S : Stk A l g) (hf : env.frame = some L) (hgP : ∀ b ∈ PS, g.get? b = none) (F : Fr g L G m) (N : News g L G (news ++ led)) (X : Led h₀ g led) (hn : ∀ p ∈ news, p.1 ∉ PS)
  (Y : AftT (env :: l) G h') : AftS h₀ g h' l L m news := by
 have st : ∀ p ∈ led, G.get? p.1 = some p.2 := fun p hp => (N p (List.mem_append_right _ hp)).1
 have TB := X.tabs st F.keep
 obtain ⟨T, k⟩ := kts_turn_at (h := h') (fs := frs l) (g := g) (fun b hb => let ⟨o, ho, _⟩ := S.frames.mem hb; ⟨o, ho⟩)
  (fun b o e n => Y.keep b o (F.keep b o e) (own_frame F hf e n) fun q => by rw [hgP b q] at e; cases e)
  (fun b o e hm => by
   obtain ⟨o', ho', hd⟩ := S.frames.mem hm
   rw [e] at ho'; cases ho'
   exact Y.up b o (F.keep b o e) hd)
 have gL : ∀ b ∈ PS, b ≠ L := fun b hb q => by
  obtain ⟨o, ho⟩ := X.tab hb
  exact (N _ (List.mem_append_right _ ho)).2.1 q
 have nf : ∀ b, b ≠ L → g.get? b = none → b ∉ frs (env :: l) := fun b n e q => by
  rw [frs, List.filterMap_cons, hf] at q
  rcases List.mem_cons.mp q with q | q
  ·exact n q
  ·obtain ⟨o, ho, _⟩ := S.frames.mem q
   rw [e] at ho; cases ho
 have dom : ∀ c, G.get? c = none → h₀.get? c = none := fun c e => by
  cases q : h₀.get? c with
  | none => rfl
  | some o =>
   by_cases hb : c ∈ PS
   ·obtain ⟨ps, e'⟩ := TB.there hb
    rw [e] at e'; cases e'
   ·have := X.dom c o q hb
    cases q2 : g.get? c with
    | none => exact absurd q2 this
    | some o2 => have := F.keep _ _ q2; rw [e] at this; cases this
 have newc : ∀ c, G.get? c = none → c ≠ L ∧ g.get? c = none := fun c e => by
  refine ⟨fun q => ?_, ?_⟩
  ·obtain ⟨o, _, _, e', _⟩ := F.ns
   rw [q, e'] at e; cases e
  ·cases q : g.get? c with
   | none => rfl
   | some o => have := F.keep _ _ q; rw [e] at this; cases this
 obtain ⟨led', h1, h2⟩ := led_more (P := fun (x : Mk) l => (∃ o, (x.P, o) ∈ l ∧ h₀.get? x.P = some o) ∨ ∃ c oc vs t, h₀.get? c = none ∧ c ∉ PS ∧ (x.P, tab1 x c) ∈ l ∧ (c, oc) ∈ l ∧ oc.data = .fields vs ∧ vs[1]? = some (.str x.qual t))
  (R := fun p => (h'.get? p.1 = some p.2 ∧ p.1 ≠ L ∧ g.get? p.1 = none) ∧ ∃ vs, p.2.data = .fields vs)
  (fun x l l' hl s => hl.imp (fun ⟨o, a, b⟩ => ⟨o, s _ a, b⟩) fun ⟨c, oc, vs, t, a1, a2, a3, a4, a5⟩ => ⟨c, oc, vs, t, a1, a2, s _ a3, s _ a4, a5⟩) MKS (fun x hx => by
   have hxP := mem_PS hx
   rcases Y.tab x hx with e | ⟨c, f, n, e, c', oc, vs, t, ec, ho, hd, hv⟩
   ·rcases X.now x hx with ⟨o, ho, e0⟩ | ⟨c, oc, vs, t, f, n, e1, e2, hd, hv⟩
    ·refine ⟨[(x.P, o)], .inl ⟨o, .head _, e0⟩, fun p hp => ?_⟩
     rw [List.mem_singleton] at hp
     subst hp
     exact ⟨⟨e.trans (st _ ho), gL _ hxP, hgP _ hxP⟩, X.kind _ ho⟩
    ·refine ⟨[(x.P, tab1 x c), (c, oc)], .inr ⟨c, oc, vs, t, f, n, .head _, .tail _ (.head _), hd, hv⟩, fun p hp => ?_⟩
     rcases List.mem_cons.mp hp with rfl | hp
     ·exact ⟨⟨e.trans (st _ e1), gL _ hxP, hgP _ hxP⟩, _, rfl⟩
     ·rw [List.mem_singleton] at hp
      subst hp
      have := N _ (List.mem_append_right _ e2)
      exact ⟨⟨Y.keep _ _ (st _ e2) (nf _ this.2.1 this.2.2) n, this.2⟩, _, hd⟩
   ·cases ec
    refine ⟨[(x.P, tab1 x c), (c, oc)], .inr ⟨c, oc, vs, t, dom _ f, n, .head _, .tail _ (.head _), hd, hv⟩, fun p hp => ?_⟩
    rcases List.mem_cons.mp hp with rfl | hp
    ·exact ⟨⟨e, gL _ hxP, hgP _ hxP⟩, _, rfl⟩
    ·rw [List.mem_singleton] at hp
     subst hp
     exact ⟨⟨ho, newc _ f⟩, _, hd⟩)
 refine ⟨ktsHeap h' (frs l) g, led', T, ⟨Y.up.ns F.ns, k, by rw [T.size]; exact F.above⟩, fun p hp => ?_, ?_⟩
 ·rcases List.mem_append.mp hp with hp | hp
  ·have n := N p (List.mem_append_left _ hp)
   exact ⟨Y.keep _ _ n.1 (nf _ n.2.1 n.2.2) (hn p hp), n.2.1, T.none_ _ n.2.2⟩
  ·have n := (h2 p hp).1
   exact ⟨n.1, n.2.1, T.none_ _ n.2.2⟩
 ·refine ⟨fun x hx => (X.was x hx).imp id fun ⟨c, e, n, c', o, vs, t, ec, ho, hd, hv⟩ => ⟨c, e, n, c', o, vs, t, ec, T.other _ _ ho fun q => ?_, hd, hv⟩, fun b o e n q => ?_, h1, fun p hp => (h2 p hp).2⟩
  ·cases q2 : g.get? b with
   | none => exact X.dom b o e n q2
   | some o2 => obtain ⟨sl, q3⟩ := T.up q2; rw [q] at q3; cases q3
  ·obtain ⟨o', ho', hn'⟩ := S.frames.mem q
   rw [ho] at ho'; cases ho'
   exact hn' _ hd
theorem aft_of {h₀ g g₂ g₀ h : Heap} {led news : List (Addr × Obj)} {L : Addr} {l : List Env} {m : Str → Option Value} (TB : Tabs h₀) (hg : hideAll h₀ PS = g) (T : Turn l g g₂) (X : Led h₀ g₀ led) (F : Fr g₂ L h m) (N : News g₂ L h (news ++ led)) : AftT l h₀ h := by
 subst hg
 refine ⟨fun b o q n p => F.keep _ _ (T.other b o (hideAll_get _ q p) n), X.to fun p hp => (N p (List.mem_append_right _ hp)).1, fun b o q n => ?_⟩
 by_cases p : b ∈ PS
 ·obtain ⟨ps, q'⟩ := TB.there p
  rw [q] at q'; cases q'
  exact absurd rfl (n _)
 ·obtain ⟨sl, q1⟩ := T.up (hideAll_get _ q p)
  exact ⟨sl, F.keep _ _ q1⟩
noncomputable def ComeT (G : Heap) (l : List Env) (e : Addr) (cls : Value) (h : Heap) : Prop :=
 ∃ B a0, (∀ b o, G.get? b = some o → b ∉ frs l → b ∉ PS → B.get? b = some o) ∧ TabsTo G B ∧ Heap.FlyingW B l e cls a0 h ∧ G.UpToSlots h
section
variable {w : World} {A : Around} {s s' : Shared} {base g G h₀ : Heap} {l : List Env} {L e : Addr} {m mg mb : Str → Option Value} {env : Env} {E : Value → Shared → Prop} {Q : Flow → Shared → Prop} {news led : List (Addr × Obj)}
theorem comesT {cls : Value} {hs : List ExceptHandler} (Y : FlyT G (env :: l) e cls s'.heap) (hfr : A.frames = some l) (hf : env.frame = some L)
  (k : ∀ h', ComeT G (env :: l) e cls h' → wpAny (Md w) (A.deeper env) (handleBy (.ref e) env hs) Q E { s' with heap := h' }) :
  wpAny (Md w) (A.deeper env) (noteFrame (.ref e) env)
   (fun _ s₂ => wpAny (Md w) (A.deeper env) (setFlight (.ref e) none) (fun _ s₃ => wpAny (Md w) (A.deeper env) (handleBy (.ref e) env hs) Q E s₃) E s₂) E s' := by
 obtain ⟨B, a0, hB, ht, hfl, hsm⟩ := Y
 refine wpAny_looks_onW (Around.frames_deeper hfr) hf hfl fun h₁ hh h1 => ?_
 exact wpAny_landsW hh fun h₂ hfl₂ h2 => k h₂ ⟨B, a0, hB, ht, hfl₂, (hsm.trans h1).trans h2⟩
theorem handleT {x : Str} {X T' : String} {b : Bool} {b₀ : Stmt} {suite : List Stmt} {np pos : Pos} {rest : List ExceptHandler} (Y : ComeT G (env :: l) e (.type X) s'.heap) (F : Fr g L G m) (K : Bel A l base g) (hf : env.frame = some L) (Gd0 : Gd w mg mb base)
  (hgP : ∀ b ∈ PS, g.get? b = none) (N : News g L G (news ++ led)) (XL : Led h₀ g led) (hn : ∀ p ∈ news, p.1 ∉ PS)
  (hv : bootBuiltins x = some (.type T')) (hs : (startupNames ++ LOOSE).contains x = false) (hn' : x ≠ "__name__")
  (hexc : isSubtype (.type T') (.type "BaseException") = pure true) (hnt : isSubtype (.type ((Manifest.find? T').elim "type" fun y => y.metatype)) (.type "tuple") = pure false) (hsub : isSubtype (.type X) (.type T') = pure b)
  (hE : PassesOwnAt (Md w) ((A.deeper env).mark (some (.ref e))) (A.deeper env) env E)
  (k : if b then ∀ h' g' led', Turn l g g' → Fr g' L h' m → News g' L h' (news ++ led') → Led h₀ g' led' → wpAny (Md w) ((A.deeper env).mark (some (.ref e))) (execs (b₀ :: suite) env) Q E { s' with heap := h' }
   else wpAny (Md w) (A.deeper env) (handleBy (.ref e) env rest) Q E s')
  (hg : env.globals = mainGlobals) (hb : env.builtins = builtinsNs) (hk : env.scope.kind = .function) (hx : env.kindOf x = some .globalImplicit) (hd : (x == ("__debug__" : Str)) = false) :
  wpAny (Md w) (A.deeper env) (handleBy (.ref e) env (.ExceptHandler (some (.Name x np)) none (b₀ :: suite) pos :: rest)) Q E s' := by
 obtain ⟨B, a0, hB, ht, hfl, hsm⟩ := Y
 have TB : Tabs G := XL.tabs (fun p hp => (N p (List.mem_append_right _ hp)).1) F.keep
 have aft : ∀ {h' : Heap}, B.StaysIn h' → G.UpToSlots h' → AftT (env :: l) G h' := fun kb up => ⟨fun b o q n p => kb b o (hB b o q n p), ht.stay TB kb, up⟩
 obtain ⟨g₂, led₂, T₂, F₂, N₂, X₂⟩ := aft_step K.stk hf hgP F N XL hn (aft hfl.1 hsm)
 obtain ⟨oe, he, hc⟩ := hfl.there
 refine wpAny_handleBy_builtin (X := X) (T := T') (b := b) hexc hnt hsub ?_
 refine nameB F₂ (Gd0.keeps (K.turn T₂).keep).T hs hv hn' ?_ hg hb hk hx hd
 refine ⟨rfl, ⟨oe, he, hc⟩, ?_⟩
 cases b with
 | false => exact k
 | true =>
  refine lands_againW hfl fun h₃ hfl₃ h3 => ?_
  obtain ⟨g₃, led₃, T₃, F₃, N₃, X₃⟩ := aft_step K.stk hf hgP F N XL hn (aft hfl₃.1 (hsm.trans h3))
  exact wpAny_passesOwnAt hE (k h₃ g₃ led₃ T₃ F₃ N₃ X₃)
end
end
section
theorem over_func (A : Around) (body : List Stmt) (env : Env) : A.over (.func body env) [] = A.deeper env := by
 obtain ⟨hd, d, fr, gs, u⟩ := A
 cases fr <;> cases gs <;> rfl
theorem over_loop (A : Around) (test : Expr) (wb orelse body : List Stmt) (env : Env) (k : Result → Sem Fin) (g : Bool) (l : List Value) (p : Pos) (kp : List Value) : A.over (.whileLoop test wb orelse env) [.ret k none g l (.func body env) p kp] = A.deeper env := by
 obtain ⟨hd, d, fr, gs, u⟩ := A
 cases hd <;> cases fr <;> cases gs <;> rfl
noncomputable def GKeep (wr : List Addr) (s₀ s : Shared) : Prop := ∃ h tk, s = { s₀ with heap := h, toks := tk } ∧ ∀ b o, b ∉ wr → s₀.heap.get? b = some o → h.get? b = some o
noncomputable def Agr (N : Nat) (h h' : Heap) : Prop := ∀ b o, b < N → h.get? b = some o → h'.get? b = some o
noncomputable def GY (N : Nat) (wr : List Addr) (vals : List Int) : Protocol := fun n s₀ v s' kap => (∃ t, v = .int (vals.getD (vals.length - 1 - n) 0) t) ∧ GKeep wr s₀ s' ∧ ∀ s'', Agr N s'.heap s''.heap → kap (.send .none) s''
noncomputable def GR (wr : List Addr) : GenEnd := fun n s₀ r s₁ => r = .ok (.ret .none) ∧ n = 0 ∧ GKeep wr s₀ s₁
section
variable {M : Model} {A B : Around} {R : GenEnd} {Y : Protocol} {n : Nat} {s₀ : Shared} {c : Code} {fs : List Frame} {s : Shared} {env : Env}
 {K : Flow → Sem Fin} {H : Value → Sem Fin} {gd : Bool → Bool} {lv : List Value → List Value}
theorem seg_st {st : Stmt} {rest : List Stmt}
  (hB : A.over c fs = B) (h : wpAny M B (exec st env) (fun f s' => match f with | .next => Seg M A R Y n s₀ c ((execs rest env).wrap K H gd lv) fs s' | f => Seg M A R Y n s₀ c (K f) fs s') (fun x s' => Seg M A R Y n s₀ c (H x) fs s') s) :
  Seg M A R Y n s₀ c ((execs (st :: rest) env).wrap K H gd lv) fs s :=
 seg_execs_cons (seg_wrap (hB ▸ wpAny_mono h (fun f s' x => by cases f <;> exact x) fun _ _ x => x))
theorem seg_if {test : Expr} {b1 b2 rest : List Stmt} {pos : Pos}
  (hB : A.over c fs = B) (h : wpAny M B (isTrue test env (eval test env)) (fun b s' =>
   if b then Seg M A R Y n s₀ c ((execs b1 env).wrap (fun f => match f with | .next => (execs rest env).wrap K H gd lv | f => K f) H gd lv) fs s'
   else Seg M A R Y n s₀ c ((execs b2 env).wrap (fun f => match f with | .next => (execs rest env).wrap K H gd lv | f => K f) H gd lv) fs s') (fun x s' => Seg M A R Y n s₀ c (H x) fs s') s) :
  Seg M A R Y n s₀ c ((execs (.If test b1 b2 pos :: rest) env).wrap K H gd lv) fs s := by
 subst hB
 refine seg_execs_cons ?_
 rw [exec_If, Sem.bind_eq_wrap', Sem.wrap_wrap]
 refine seg_wrap (wpAny_standAt ?_)
 rw [Sem.bind_eq_wrap', Sem.wrap_wrap]
 refine seg_wrap (wpAny_mono h (fun b s' x => ?_) fun _ _ x => x)
 cases b
 ·rw [if_neg Bool.false_ne_true] at x; exact x
 ·rw [if_pos rfl] at x; exact x
theorem seg_yd {N : Nat} {wr : List Addr} {vals : List Int} {e : Expr} {rest : List Stmt} {ypos pos : Pos} (hB : A.over c fs = B) (hfs : splitAtGen fs = none) (hfg : fs.any Frame.guarded = false)
  (h : wpAny M B (eval e env) (fun v s' => Stop ((∃ t, v = .int (vals.getD (vals.length - 1 - n) 0) t) ∧ GKeep wr s₀ s' ∧ ∀ s'', Agr N s'.heap s''.heap → Seg M A R (GY N wr vals) n s'' c ((execs rest env).wrap K H id lv) fs s''))
   (fun x s' => Seg M A R (GY N wr vals) (n + 1) s₀ c (H x) fs s') s) (hco : env.scope.isCoroutine = false) (hi : interactive env = false) :
  Seg M A R (GY N wr vals) (n + 1) s₀ c ((execs (.Expr (.Yield (some e) ypos) pos :: rest) env).wrap K H id lv) fs s := by
 subst hB
 refine seg_execs_cons (seg_Expr_Yield hfs rfl hfg (wpAny_mono h (fun v s' x kap hk => ?_) fun _ _ x => x) hco hi)
 obtain ⟨hv, hk2, hc⟩ := x
 exact ⟨hv, hk2, fun s'' ha => hk .none s'' (hc s'' ha)⟩
theorem seg_wh {test : Expr} {gb body rest : List Stmt} {pos : Pos}
  (h : ∀ fr, splitAtGen [fr] = none → [fr].any Frame.guarded = false → (∀ (t : Expr) (wb oe : List Stmt), A.over (.whileLoop t wb oe env) [fr] = A.deeper env) →
   (∀ n' s₀' s', Seg M A R Y n' s₀' (.func gb env) ((execs rest env).wrap K H id lv) [] s' → Seg M A R Y n' s₀' (.whileLoop test body [] env) (.pure (.done .next)) [fr] s') →
   Seg M A R Y n s₀ (.whileLoop test body [] env) (M.den (.whileLoop test body [] env)) [fr] s) :
  Seg M A R Y n s₀ (.func gb env) ((execs (.While test body [] pos :: rest) env).wrap K H id lv) [] s := by
 refine seg_execs_cons (seg_While fun p => ?_)
 refine h _ rfl rfl (fun t wb oe => over_loop A t wb oe gb env _ _ _ p []) fun n' s₀' s' hs => ?_
 exact seg_leaf (.ok .next) hs
end
end
section
structure Oth (g : Heap) (Lg lv : Addr) (h : Heap) (ot : List (Addr × Obj)) : Prop where
 all : ∀ b o, h.get? b = some o → b ≠ Lg → b ≠ lv → g.get? b = some o ∨ (b, o) ∈ ot
 ne : ∀ p ∈ ot, p.1 ≠ lv
theorem oth_ex {g h : Heap} {Lg : Addr} (lv : Addr) (k : Keep g h) : ∃ ot, News g Lg h ot ∧ Oth g Lg lv h ot := by
 refine ⟨(List.range h.objs.size).filterMap (fun b => if b = Lg ∨ b = lv then none else match g.get? b with | some _ => none | none => (h.get? b).map fun o => (b, o)), fun p hp => ?_, ⟨fun b o e n1 n2 => ?_, fun p hp => ?_⟩⟩
 ·obtain ⟨b, hb, e⟩ := List.mem_filterMap.mp hp
  split at e
  ·cases e
  ·rename_i hn
   split at e
   ·cases e
   ·rename_i hg
    cases q : h.get? b with
    | none => rw [q] at e; cases e
    | some o =>
     rw [q] at e
     cases e
     exact ⟨q, fun z => hn (.inl z), hg⟩
 ·cases q : g.get? b with
  | some o' =>
   have := k b o' q
   rw [e] at this; cases this
   exact .inl rfl
  | none =>
   refine .inr (List.mem_filterMap.mpr ⟨b, List.mem_range.mpr (Heap.lt_size e), ?_⟩)
   rw [if_neg (fun z => z.elim n1 n2), q]
   simp [e]
 ·obtain ⟨b, hb, e⟩ := List.mem_filterMap.mp hp
  split at e
  ·cases e
  ·rename_i hn
   split at e
   ·cases e
   ·cases q : h.get? b with
    | none => rw [q] at e; cases e
    | some o =>
     rw [q] at e
     cases e
     exact fun z => hn (.inr z)
theorem Oth.gkeep {g h' : Heap} {Lg lv : Addr} {s₀ : Shared} {tk : Nat} {m : Str → Option Value} {ot kn : List (Addr × Obj)} (X : Oth g Lg lv s₀.heap ot) (F : Fr g Lg h' m) (N : News g Lg h' (kn ++ ot)) : GKeep [Lg, lv] s₀ { s₀ with heap := h', toks := tk } :=
 ⟨h', tk, rfl, fun b o hb e => by
  rcases X.all b o e (fun q => hb (by simp [q])) (fun q => hb (by simp [q])) with q | q
  ·exact F.keep b o q
  ·exact (N _ (List.mem_append_right _ q)).1⟩
inductive RF (g h'' : Heap) (Lg lv : Addr) (m : Str → Option Value) (kn : List (Addr × Obj)) : Prop
 | mk (F : Fr g Lg h'' m) (ot'') (N : News g Lg h'' (kn ++ ot'')) (X : Oth g Lg lv h'' ot'') : RF g h'' Lg lv m kn
theorem resume_facts {g h h'' : Heap} {Lg lv : Addr} {Nn : Nat} {m : Str → Option Value} {kn ot : List (Addr × Obj)} (F : Fr g Lg h m) (N : News g Lg h (kn ++ ot)) (ag : Agr Nn h h'') (hL : Lg < Nn) (hkn : ∀ p ∈ kn, p.1 < Nn) :
  RF g h'' Lg lv m kn := by
 have F'' : Fr g Lg h'' m := ⟨F.ns.at' fun o e => ag _ o hL e, fun b o e => ag b o (Nat.lt_of_lt_of_le (Heap.lt_size e) (Nat.le_trans F.above (Nat.le_of_lt hL))) (F.keep b o e), F.above⟩
 obtain ⟨ot, N2, X⟩ := oth_ex (Lg := Lg) lv F''.keep
 refine ⟨F'', ot, fun p hp => ?_, X⟩
 rcases List.mem_append.mp hp with hp | hp
 ·have n := N p (List.mem_append_left _ hp)
  exact ⟨ag _ _ (hkn p hp) n.1, n.2⟩
 ·exact N2 p hp
structure GenSt (w : World) (A : Around) (a : Addr) (gi : Nat) (N : Nat) (wr : List Addr) (vals : List Int) (i : Nat) (s : Shared) : Prop where
 gen : s.heap.IsGen a gi
 lim : s.heap.NoLimit
 goes : ∃ gs, s.gens[gi]? = some gs ∧ ∀ s'' : Shared, Agr N s.heap s''.heap → gs.Goes (Md w) A.in1 (GR wr) (GY N wr vals) (vals.length - i) (.send .none) s''
section
variable {w : World} {A : Around} {E : Value → Shared → Prop} {s : Shared}
theorem pyNext_fn {a : Addr} {g n : Nat} {gs : GenState} {P : Nat → Shared → Shared → Prop} {Y : Protocol} {Q : Option Value → Shared → Prop} (hh : A.handled = none)
  (hl : s.heap.NoLimit) (hroom : A.depth < recursionLimit) (hg : s.heap.IsGen a g) (hgs : s.gens[g]? = some gs)
  (hgo : gs.Goes (Md w) A.in1 (fun n s₀ r s₁ => r = .ok (.ret .none) ∧ P n s₀ s₁) Y n (.send .none) (s.setGen g .running))
  (hY : ∀ v s₁ gs', gs'.bare = true → Y (n - 1) (s.setGen g .running) v s₁ (fun r' s'' => match n with
    | 0 => False
    | m + 1 => gs'.Goes (Md w) A.in1 (fun n s₀ r s₁ => r = .ok (.ret .none) ∧ P n s₀ s₁) Y m r' s'') → Q (some v) (s₁.setGen g gs'))
  (hP : ∀ s₁, P n (s.setGen g .running) s₁ → ∀ h', (∀ b o, s₁.heap.get? b = some o → h'.get? b = some o) → Q none { s₁.setGen g .finished with heap := h' }) :
  wpAny (Md w) A (pyNext (.ref a)) Q E s := by
 unfold pyNext
 refine wpAny_bind (wpAny_attempt (wpAny_callSpecial?_slot (name := Str.ofString "__next__") hg.typeIs slot_gen_next
  (wpAny_call_entry slot_gen_next hg.typeIs entry_gen_next ?_ (args_gen_next _))))
 show wpAny _ A.in1 (Builtin.Generator.genWake (.ref a) (.send .none)) _ _ s
 unfold Builtin.Generator.genWake
 refine wpAny_bind (wpAny_holding (wpAny_genNumber hg (wpAny_bind (wpAny_genState hgs ?_))))
 cases gs with
 | running => exact hgo.elim
 | finished => exact hgo.elim
 | _ =>
  refine wpAny_bind (wpAny_roomToWake hl hroom ?_)
  show wpAny _ A.in1 (.resume g (.send .none) [] _) _ _ s
  refine wpAny_resumeQ hgs hgo (fun x s₁ hx => ?_) (fun v s₁ gs' hb hv => ?_)
  ·obtain ⟨rfl, hp⟩ := hx
   show wpAny _ A.in1 (newExc (.type "StopIteration") [] >>= _) _ _ _
   refine wpAny_bind ?_
   simp only [newExc, newTuple]
   refine wpAny_bind (wpAny_newObj_type ?_ (by size_fits))
   refine wpAny_bind (m := firstArgMember _ _) (wpAny_of_eq (a := Value.none) (by first | rfl | (simp only [firstArgMember]; rfl)) ?_)
   refine wpAny_newObj_type ?_ (by size_fits)
   simp only [raiseNew]
   refine wpAny_bind (wpAny_bind (wpAny_handled ?_))
   rw [show A.in1.handled = none from hh]
   refine wpAny_throw ?_
   refine wpAny_bind (wpAny_isInstance (T := "StopIteration") (b := true) ⟨_, Heap.get?_push_size _ rfl, rfl⟩ isSubtype_stop ?_)
   exact wpAny_pure (hP s₁ hp _ fun b o hb => Heap.get?_push_of_some _ (Heap.get?_push_of_some _ hb))
  ·exact wpAny_pure ⟨v, rfl, wpAny_pure (hY v s₁ gs' hb hv)⟩
theorem walks_fn (hh : A.handled = none) (hroom : A.depth < recursionLimit) {a : Addr} {gi N : Nat} {wr : List Addr} {vals : List Int} (ha : a < N) (hc : cStatics < N) (hwr : ∀ b ∈ wr, b < N) (haw : a ∉ wr) (hcw : cStatics ∉ wr) :
  WalksS rw_iw0008_01.prog w A a (List.range N) wr (GenOnlyQ gi) vals.length (fun i v => ∃ t, v = .int (vals.getD i 0) t) (GenSt w A a gi N wr vals) where
 sub := fun b hb => List.mem_range.mpr (hwr b hb)
 grefl := fun _ => .inl rfl
 gtrans := fun _ _ _ x y => x.trans y
 frame := fun i s h' tk st _ hk => ⟨let ⟨o, nm, qn, ho, r⟩ := st.gen; ⟨o, nm, qn, hk a (List.mem_range.mpr ha) o ho, r⟩,
  let ⟨mc, hns, hnn⟩ := st.lim; ⟨mc, hns.at' fun o e => hk cStatics (List.mem_range.mpr hc) o e, hnn⟩,
  let ⟨gs, hgs, hgo⟩ := st.goes; ⟨gs, hgs, fun s'' hal => hgo s'' fun b o hb e => hal b o hb (hk b (List.mem_range.mpr hb) o e)⟩⟩
 item := fun i s Q E hi st hQ => by
  obtain ⟨hg, hl, gs, hgs, hgo⟩ := st
  obtain ⟨m, hm⟩ : ∃ m, vals.length - i = m + 1 := ⟨_, ns2 hi⟩
  rw [hm] at hgo
  refine wpAny_with_toks (Nat.le_refl s.toks) ?_
  refine pyNext_fn (P := fun n s₀ s₁ => n = 0 ∧ GKeep wr s₀ s₁) hh hl hroom hg hgs (hgo _ fun _ _ _ e => e) (fun v s₁ gs' hb hv => ?_) (fun s₁ hp h' hk => ?_)
  ·obtain ⟨⟨t, hv⟩, ⟨h₁, tk₁, rfl, hk₁⟩, hkap⟩ := hv
   have hidx : vals.length - 1 - (m + 1 - 1) = i := ns4 hm hi
   rw [hidx] at hv
   intro htk
   refine hQ v _ ⟨t, hv⟩ ⟨let ⟨o, nm, qn, ho, r⟩ := hg; ⟨o, nm, qn, hk₁ a o haw ho, r⟩, (let ⟨mc, hns, hnn⟩ := hl; ⟨mc, hns.at' fun o e => hk₁ cStatics o hcw e, hnn⟩), gs', setGen_self (gs := .running) (setGen_self hgs), fun s'' hal => ?_⟩
    ⟨fun b o hb e => hk₁ b o hb e, GenOnlyQ.of ((GenOnly.setGen s gi .running).trans (GenOnly.setGen _ gi gs')) (setGen_self (gs := .running) (setGen_self hgs)) hb, rfl, rfl, htk⟩
   have e : vals.length - (i + 1) = m := ns1 hm
   rw [e]
   exact hkap s'' hal
  ·exact absurd hp.1 (Nat.succ_ne_zero m)
 done := fun s Q E st hQ => by
  obtain ⟨hg, hl, gs, hgs, hgo⟩ := st
  rw [Nat.sub_self] at hgo
  refine wpAny_with_toks (Nat.le_refl s.toks) ?_
  refine pyNext_fn (P := fun n s₀ s₁ => n = 0 ∧ GKeep wr s₀ s₁) hh hl hroom hg hgs (hgo _ fun _ _ _ e => e) (fun v s₁ gs' hb hv => ?_) (fun s₁ hp h' hk => ?_)
  ·obtain ⟨_, _, hkap⟩ := hv
   exact False.elim (hkap s₁ fun _ _ _ e => e)
  ·obtain ⟨_, h₁, tk₁, rfl, hk₁⟩ := hp
   intro htk
   exact hQ _ ⟨fun b o hb e => hk b o (hk₁ b o hb e), GenOnlyQ.of ((GenOnly.setGen s gi .running).trans (GenOnly.setGen _ gi .finished)) (setGen_self (gs := .running) (setGen_self hgs)) rfl, rfl, rfl, htk⟩
 self := fun _ _ _ _ st hQ => wpAny_pyIter_gen st.gen hQ
end
end
section
structure SrcX (w : World) (A : Around) (I : Addr) (fp wr : List Addr) (gi n : Nat) (P : Nat → Value → Prop) (St : Nat → Shared → Prop) : Prop where
 sub : ∀ b ∈ wr, b ∈ fp
 frame : ∀ i (s : Shared) h' tk, St i s → (∀ b ∈ fp, ∀ o, s.heap.get? b = some o → h'.get? b = some o) → St i { s with heap := h', toks := tk }
 item : ∀ i (s : Shared) (Q : Option Value → Shared → Prop) (E : Value → Shared → Prop), i < n → St i s →
  (∀ v h' tk' gn', P i v → St (i + 1) { s with heap := h', toks := tk', gens := gn' } → (∀ b o, b ∉ wr → s.heap.get? b = some o → h'.get? b = some o) → GenOnlyQ gi s.gens gn' → Q (some v) { s with heap := h', toks := tk', gens := gn' }) → wpAny (Md w) A (pyNext (.ref I)) Q E s
 done : ∀ (s : Shared) (Q : Option Value → Shared → Prop) (E : Value → Shared → Prop), St n s →
  (∀ h' tk' gn', (∀ b o, b ∉ wr → s.heap.get? b = some o → h'.get? b = some o) → GenOnlyQ gi s.gens gn' → Q none { s with heap := h', toks := tk', gens := gn' }) → wpAny (Md w) A (pyNext (.ref I)) Q E s
 self : ∀ i (s : Shared) (Q : Value → Shared → Prop) (E : Value → Shared → Prop), St i s → Q (.ref I) s → wpAny (Md w) A (pyIter (.ref I)) Q E s
theorem moved_eq {wr : List Addr} {G : Array GenState → Array GenState → Prop} {s s' : Shared} (x : Moved wr G s s') : s' = { s with heap := s'.heap, toks := s'.toks, gens := s'.gens } := by
 obtain ⟨a, b, c, d, e⟩ := s'
 have h1 : c = s.drawn := x.drawn
 have h2 : e = s.os := x.os
 subst h1 h2
 rfl
theorem srcX_fn {w : World} {A : Around} {a : Addr} {gi N : Nat} {wr : List Addr} {vals : List Int} (hh : A.handled = none) (hroom : A.depth < recursionLimit) (ha : a < N) (hc : cStatics < N) (hwr : ∀ b ∈ wr, b < N) (haw : a ∉ wr) (hcw : cStatics ∉ wr) :
  SrcX w A a (List.range N) wr gi vals.length (fun i v => ∃ t, v = .int (vals.getD i 0) t) (GenSt w A a gi N wr vals) where
 sub := fun b hb => List.mem_range.mpr (hwr b hb)
 frame := fun i s h' tk st hk => ⟨let ⟨o, nm, qn, ho, r⟩ := st.gen; ⟨o, nm, qn, hk a (List.mem_range.mpr ha) o ho, r⟩,
  let ⟨mc, hns, hnn⟩ := st.lim; ⟨mc, hns.at' fun o e => hk cStatics (List.mem_range.mpr hc) o e, hnn⟩,
  let ⟨gs, hgs, hgo⟩ := st.goes; ⟨gs, hgs, fun s'' hal => hgo s'' fun b o hb e => hal b o hb (hk b (List.mem_range.mpr hb) o e)⟩⟩
 item := fun i s Q E hi st hQ => (walks_fn (gi := gi) (vals := vals) hh hroom ha hc hwr haw hcw).item i s Q E hi st fun v s' hp st' mv => by
  rw [moved_eq mv]
  refine hQ v _ _ _ hp ?_ mv.heap mv.gens
  rw [← moved_eq mv]
  exact st'
 done := fun s Q E st hQ => (walks_fn (gi := gi) (vals := vals) hh hroom ha hc hwr haw hcw).done s Q E st fun s' mv => by
  rw [moved_eq mv]
  exact hQ _ _ _ mv.heap mv.gens
 self := fun _ _ _ _ st hQ => wpAny_pyIter_gen st.gen hQ
theorem srcX_of {w : World} {A : Around} {I : Addr} {fp wr : List Addr} {n : Nat} {P : Nat → Value → Prop} {St : Nat → Heap → Prop} (gi : Nat) (W : Walks rw_iw0008_01.prog w A I fp wr n P St) : SrcX w A I fp wr gi n P (fun i s => St i s.heap) where
 sub := W.sub
 frame := fun i s h' tk st hk => W.frame i s.heap h' st hk
 item := fun i s Q E hi st hQ => W.item i s Q E hi st fun v h' tk hp st' hk => hQ v h' tk s.gens hp st' hk (.inl rfl)
 done := fun s Q E st hQ => W.done s Q E st fun h' tk hk => hQ h' tk s.gens hk (.inl rfl)
 self := fun i s Q E st hQ => W.self i s Q E st hQ
inductive XP (we : List Addr) (J : Heap → Prop) (R : Value → Prop) (s₃ : Shared) (y : Value) (s₄ : Shared) : Prop
 | mk (h' tk') (e : s₄ = { s₃ with heap := h', toks := tk' }) (k : ∀ b o, b ∉ we → s₃.heap.get? b = some o → h'.get? b = some o) (j : J h') (r : R y) : XP we J R s₃ y s₄
noncomputable def EltX (w : World) (A : Around) (env : Env) (scope : Scope) (cl : List (Str × Addr)) (x : Str) (elt : Expr) (n : Nat) (P : Nat → Value → Prop) (wr we : List Addr) (Je : Nat → Heap → Prop) (Rr : Nat → Value → Prop) (s₂ : Shared) : Prop :=
 ∀ C i v s₃ m₃ E', i < n → P i v → Je i s₃.heap → s₂.heap.objs.size ≤ C → s₃.heap.Ns C m₃ → m₃ x = some v → (∀ b o, b ∉ wr → b ∉ we → s₂.heap.get? b = some o → s₃.heap.get? b = some o) →
  wpAny (Md w) A (eval elt (compEnvC scope cl C env)) (fun y s₄ => Stop (XP we (Je (i + 1)) (Rr i) s₃ y s₄)) E' s₃
section
variable {w : World} {A : Around} {env : Env}
inductive XL (s₂ : Shared) (wr we : List Addr) (gi n : Nat) (St : Nat → Shared → Prop) (Je : Nat → Heap → Prop) (Rr : Nat → Value → Prop) (D C : Addr) (k : Nat) (s' : Shared) : Prop
 | mk (h' tk' gn m') (ys : Array Value) (e : s' = { s₂ with heap := h', toks := tk', gens := gn }) (st : St ys.size s') (acc : h'.PlainList D ys) (hn : h'.Ns C m') (hR : ∀ j y, ys[j]? = some y → Rr j y) (hi : ys.size ≤ n) (hk : k = n + 1 - ys.size) (j : Je ys.size h') (kp : ∀ b o, b ∉ wr → b ∉ we → s₂.heap.get? b = some o → h'.get? b = some o) (g : GenOnlyQ gi s₂.gens gn) : XL s₂ wr we gi n St Je Rr D C k s'
theorem comp_block_X {elt iter : Expr} {x : Str} {px : Pos} {scope : Scope} {cl : List (Str × Addr)} {pos : Pos} {s₂ : Shared} {I : Addr} {fp wr we : List Addr} {gi n : Nat} {P : Nat → Value → Prop} {St : Nat → Shared → Prop} {Je : Nat → Heap → Prop} {Rr : Nat → Value → Prop}
  (W : SrcX w A I fp wr gi n P St) (hsz : n ≤ 1000) {RR : Value → Addr → Result → Shared → Prop}
  (hcell : ∀ y ∈ scope.names, y.2 ≠ .cell) (hkind : scope.kind = .function) (hx : scope.names.lookup x = some .local) (hst : St 0 s₂) (hfp : ∀ b ∈ fp, b < s₂.heap.objs.size) (hwe : ∀ b ∈ we, b < s₂.heap.objs.size ∧ b ∉ fp)
  (hJs : ∀ i h h', Je i h → (∀ b ∈ we, ∀ o, h.get? b = some o → h'.get? b = some o) → Je i h') (hJ : Je 0 s₂.heap) (hq : EltX w A env scope cl x elt n P wr we Je Rr s₂)
  (hRR : ∀ D C h' tk gn m' ys, s₂.heap.objs.size ≤ C → s₂.heap.get? D = none → s₂.heap.get? C = none → D ≠ C → h'.Ns C m' → h'.PlainList D ys → ys.size = n → (∀ j y, ys[j]? = some y → Rr j y) →
   (∀ b o, b ∉ wr → b ∉ we → s₂.heap.get? b = some o → h'.get? b = some o) → Je n h' → GenOnlyQ gi s₂.gens gn → RR (.ref D) C (.ok .next) { s₂ with heap := h', toks := tk, gens := gn }) :
  wpAny (Md w) A (newList []) (fun acc s₃ => wpAny (Md w) A (newFunctionEnv scope env.globals cl [] env.qual none .none (some env)) (fun cenv s₄ =>
   codeAny (Md w) A (.compStart (.ListComp elt [⟨.Name x px, iter, [], 0⟩] scope pos) 0 (.ref I) acc { cenv with scope := relabel scope env }) (RR acc cenv.locals) s₄) E s₃) E s₂ := by
 refine wpAny_newObj_type (wpAny_newFunctionEnv hcell (by intro y hy; simp at hy) (fun h₁ hns₁ hsb₁ => ?_) hkind)
 dsimp only at hns₁ hsb₁ ⊢
 generalize hH2 : s₂.heap.push { cls := .type "list", dict := none, data := .seq ([] : List Value).toArray } = H2 at hns₁ hsb₁ ⊢
 have hC : H2.objs.size = s₂.heap.objs.size + 1 := by rw [← hH2, Heap.size_push]
 have hDC : s₂.heap.objs.size ≠ H2.objs.size := by rw [hC]; exact Nat.ne_of_lt (Nat.lt_succ_self _)
 have hCle : s₂.heap.objs.size ≤ H2.objs.size := by rw [hC]; exact Nat.le_succ _
 have below : ∀ b, b < s₂.heap.objs.size → b ≠ H2.objs.size ∧ b ≠ s₂.heap.objs.size := fun b hb => ⟨by rw [hC]; exact Nat.ne_of_lt (Nat.lt_succ_of_lt hb), Nat.ne_of_lt hb⟩
 have hDf : s₂.heap.objs.size ∉ fp := fun hm => Nat.lt_irrefl _ (hfp _ hm)
 have hCf : H2.objs.size ∉ fp := fun hm => by have := hfp _ hm; rw [hC] at this; exact Nat.lt_irrefl _ (Nat.lt_of_succ_lt this)
 have hDe : s₂.heap.objs.size ∉ we := fun hm => Nat.lt_irrefl _ (hwe _ hm).1
 have hCe : H2.objs.size ∉ we := fun hm => by have := (hwe _ hm).1; rw [hC] at this; exact Nat.lt_irrefl _ (Nat.lt_of_succ_lt this)
 have hDw : s₂.heap.objs.size ∉ wr := fun h => hDf (W.sub _ h)
 have hCw : H2.objs.size ∉ wr := fun h => hCf (W.sub _ h)
 have old : ∀ b o, s₂.heap.get? b = some o → h₁.get? b = some o := fun b o e => hsb₁.extBut b o (below b (Heap.lt_size e)).1 (Heap.get?_push_of_some _ (hH2 ▸ Heap.get?_push_of_some _ e))
 have hacc : h₁.PlainList s₂.heap.objs.size #[] := ⟨_, hsb₁.extBut _ _ hDC (Heap.get?_push_of_some _ (hH2 ▸ Heap.get?_push_size _ rfl))⟩
 have hst₁ : ∀ tk, St 0 { s₂ with heap := h₁, toks := tk } := fun tk => W.frame _ _ _ _ hst fun b _ o e => old b o e
 have fresh : ∀ a, s₂.heap.objs.size ≤ a → s₂.heap.get? a = none := fun a ha => by
  cases e : s₂.heap.get? a with
  | none => rfl
  | some o' => exact absurd (Heap.lt_size e) (Nat.not_lt.mpr ha)
 generalize hD : s₂.heap.objs.size = D at *
 generalize hCC : H2.objs.size = C at *
 have lt2 : ∀ b o, s₂.heap.get? b = some o → b < D := fun b o e => by rw [← hD]; exact Heap.lt_size e
 have loop : ∀ tk : Nat, codeAny (Md w) A (.compLoop (.ListComp elt [⟨.Name x px, iter, [], 0⟩] scope pos) 0 (.ref I) (.ref D) (compEnvC scope cl C env)) (RR (.ref D) C) { s₂ with heap := h₁, toks := tk } := by
  intro tk
  refine codeAny_compLoop_list (XL s₂ wr we gi n St Je Rr D C) ?_ (n + 1) ?_
  ·rintro k s' ⟨H, tk', gn, m', ys, rfl, st, acc, hn, hR, hi, rfl, hJ', hk, hg⟩
   by_cases hlt : ys.size < n
   ·refine W.item ys.size _ _ _ hlt st fun v h₂ tk₂ gn₂ hPv st₂ hk₂ hg₂ => ?_
    refine wpAny_assign_Name (wpAny_storeName_local (lookup_relabel_local hx) (hn.at' fun o e => hk₂ _ o hCw e) (fun h₃ hn₃ hs₃ => ?_) (by simp [compEnvC, relabel, hkind]))
    have up₃ : ∀ b o, b ≠ C → b ∉ wr → H.get? b = some o → h₃.get? b = some o := fun b o hbC hbf e => hs₃.extBut b o hbC (hk₂ b o hbf e)
    have hJ₃ : Je ys.size h₃ := hJs _ _ _ hJ' fun b hb o e => up₃ b o (fun q => hCe (q ▸ hb)) (fun q => (hwe b hb).2 (W.sub _ q)) e
    refine wpAny_mono (hq C ys.size v _ _ _ hlt hPv hJ₃ (by rw [hD]; exact hCle) hn₃ (by simp) fun b o hbf hbe e => up₃ b o (below b (lt2 _ _ e)).1 hbf (hk b o hbf hbe e)) (fun y s₄ h₄ => ?_) fun _ _ e => e
    obtain ⟨h₄', tk₄, rfl, hk₄, hJ₄, hRy⟩ := h₄.out
    have st₄ : St (ys.size + 1) { s₂ with heap := h₄', toks := tk₄, gens := gn₂ } := W.frame _ _ _ tk₄ st₂ fun b hb o e => hk₄ b o (fun q => (hwe b q).2 hb) (hs₃.extBut b o (fun (q : b = C) => hCf (q ▸ hb)) e)
    have acc₄ : h₄'.PlainList D ys := acc.at fun o e => hk₄ _ o hDe (up₃ D o hDC hDw e)
    refine wpAny_list_append_plain (hsz := by rw [sizeLine_eq]; omega) acc₄ fun h₅ hl₅ hs₅ => ?_
    refine ⟨n + 1 - (ys.size + 1), by omega, h₅, tk₄, gn₂, _, ys.push y, rfl, ?_, hl₅, (hn₃.at' fun o e => hk₄ _ o hCe e).sameBut hs₅ (Ne.symm hDC), ?_, by rw [Array.size_push]; exact hlt, by rw [Array.size_push], ?_, ?_, hg.trans hg₂⟩
    ·rw [Array.size_push]
     exact W.frame _ _ _ tk₄ st₄ fun b hb o e => hs₅.extBut b o (fun q => hDf (q ▸ hb)) e
    ·intro j z hj
     rw [Array.getElem?_push] at hj
     split at hj
     ·rename_i e; cases hj; subst e; exact hRy
     ·exact hR j z hj
    ·rw [Array.size_push]
     exact hJs _ _ _ hJ₄ fun b hb o e => hs₅.extBut b o (fun q => hDe (q ▸ hb)) e
    ·intro b o hbf hbe e
     have hb := below b (lt2 _ _ e)
     exact hs₅.extBut b o hb.2 (hk₄ b o hbe (up₃ b o hb.1 hbf (hk b o hbf hbe e)))
   ·have hin : ys.size = n := by omega
    refine W.done _ _ _ (hin ▸ st) fun h₂ tk₂ gn₂ hk₂ hg₂ => ?_
    exact hRR D C h₂ tk₂ gn₂ m' ys hCle (fresh _ (Nat.le_refl _)) (fresh _ hCle) hDC (hn.at' fun o e => hk₂ _ o hCw e) (acc.at fun o e => hk₂ _ o hDw e) hin hR
     (fun b o hbf hbe e => hk₂ b o hbf (hk b o hbf hbe e)) (hin ▸ hJs _ _ _ hJ' fun b hb o e => hk₂ b o (fun q => (hwe b hb).2 (W.sub _ q)) e) (hg.trans hg₂)
  ·exact ⟨h₁, tk, s₂.gens, _, #[], rfl, hst₁ tk, hacc, hns₁, fun j y hj => by simp at hj, Nat.zero_le _, rfl, hJs _ _ _ hJ fun b _ o e => old b o e, fun b o _ _ e => old b o e, .inl rfl⟩
 exact codeAny_compStart_list (loop _) (W.self 0 _ _ _ (hst₁ _) (loop _))
inductive XE (w : World) (A : Around) (env : Env) (scope : Scope) (cl : List (Str × Addr)) (x : Str) (elt : Expr) (Q : Value → Shared → Prop) (it : Value) (s₂ : Shared) : Prop
 | mk (I : Addr) (fp wr we : List Addr) (gi n : Nat) (P : Nat → Value → Prop) (St : Nat → Shared → Prop) (Je : Nat → Heap → Prop) (Rr : Nat → Value → Prop) (e : it = .ref I) (wx : SrcX w A I fp wr gi n P St) (z : n ≤ 1000) (st : St 0 s₂) (hf : ∀ b ∈ fp, b < s₂.heap.objs.size) (hw : ∀ b ∈ we, b < s₂.heap.objs.size ∧ b ∉ fp) (hs : ∀ i h h', Je i h → (∀ b ∈ we, ∀ o, h.get? b = some o → h'.get? b = some o) → Je i h') (h0 : Je 0 s₂.heap) (he : EltX w A env scope cl x elt n P wr we Je Rr s₂) (o : ∀ D ys h' tk gn c', List.length ys = n → (∀ j y, ys[j]? = some y → Rr j y) → (∀ b o, b ∉ wr → b ∉ we → s₂.heap.get? b = some o → h'.get? b = some o) → Je n h' → GenOnlyQ gi s₂.gens gn → s₂.heap.get? D = none → h'.get? D = some (W.listOf ys.toArray c') →
    Q (.ref D) { s₂ with heap := h', toks := tk, gens := gn }) : XE w A env scope cl x elt Q it s₂
inductive XA (w : World) (A : Around) (env : Env) (scope : Scope) (cl : List (Str × Addr)) (x : Str) (elt : Expr) (g : Heap) (y : Str) (Q : Flow → Shared → Prop) (it : Value) (s₂ : Shared) : Prop
 | mk (I : Addr) (fp wr we : List Addr) (gi n : Nat) (P : Nat → Value → Prop) (St : Nat → Shared → Prop) (Je : Nat → Heap → Prop) (Rr : Nat → Value → Prop) (m : Str → Option Value) (e : it = .ref I) (wx : SrcX w A I fp wr gi n P St) (z : n ≤ 1000) (st : St 0 s₂) (hf : ∀ b ∈ fp, b < s₂.heap.objs.size) (hw : ∀ b ∈ we, b < s₂.heap.objs.size ∧ b ∉ fp) (hs : ∀ i h h', Je i h → (∀ b ∈ we, ∀ o, h.get? b = some o → h'.get? b = some o) → Je i h') (h0 : Je 0 s₂.heap) (he : EltX w A env scope cl x elt n P wr we Je Rr s₂) (F : Fr g env.locals s₂.heap m) (lw : env.locals ∉ wr) (le : env.locals ∉ we) (gw : ∀ b ∈ wr, g.get? b = none) (ge : ∀ b ∈ we, g.get? b = none)
  (o : ∀ D ys h' tk gn c', List.length ys = n → (∀ j z, ys[j]? = some z → Rr j z) → Fr g env.locals h' (fun z => if z = y then some (.ref D) else m z) → (∀ b o, b ≠ env.locals → b ∉ wr → b ∉ we → s₂.heap.get? b = some o → h'.get? b = some o) → Je n h' → GenOnlyQ gi s₂.gens gn → s₂.heap.get? D = none → h'.get? D = some (W.listOf ys.toArray c') →
    Q .next { s₂ with heap := h', toks := tk, gens := gn }) : XA w A env scope cl x elt g y Q it s₂
theorem eval_compX {iter elt : Expr} {x : Str} {px pos : Pos} {scope : Scope} {cl : List (Str × Addr)} {Q E : Value → Shared → Prop} {s : Shared}
  (hclos : closureFor scope env = pure cl) (hcell : (scope.names.all fun y => !(y.2 == .cell)) = true) (hkind : scope.kind = .function)
  (hnames : (scope.names.all fun y => !(y.2 == .local) || scope.names.lookup y.1 == some .local) = true) (hx : scope.names.lookup x = some .local)
  (h : wpAny (Md w) A (eval iter env) (fun xv s₁ => Stop (wpAny (Md w) A (pyIter xv) (fun it s₂ => XE w A env scope cl x elt Q it s₂) E s₁)) E s)
  (hs : ∀ x, foldedSetIterable iter env x = pure x) :
  wpAny (Md w) A (eval (.ListComp elt [⟨.Name x px, iter, [], 0⟩] scope pos) env) Q E s := by
 have hcell' : ∀ y ∈ scope.names, y.2 ≠ .cell := fun y hy q => by have := List.all_eq_true.mp hcell y hy; rw [q] at this; exact absurd this (by decide)
 have hnames' : ∀ y ∈ scope.names, y.2 = .local → scope.names.lookup y.1 = some .local := fun y hy q => by
  have := List.all_eq_true.mp hnames y hy
  rw [q] at this
  simpa using this
 rw [eval_ListComp]
 refine wpAny_comprehension_free (use := none) rfl hs hclos hkind hnames' (wpAny_mono h (fun xv s₁ h₁ => wpAny_mono h₁.out (fun it s₂ h₂ => ?_) fun _ _ e => e) fun _ _ e => e)
 obtain ⟨I, fp, wr, we, gi, n, P, St, Je, Rr, rfl, W, hsz, hst, hfp, hwe, hJs, hJ, hq, hQ⟩ := h₂
 refine comp_block_X (RR := fun acc C => compPost (Md w) A E none Q acc C) W hsz hcell' hkind hx hst hfp hwe hJs hJ hq ?_
 intro D C h' tk gn m' ys hCs hD hC hDC hn hpl hlen hR hk hJn hg
 refine ⟨m', hn, fun h'' hs'' => ?_⟩
 obtain ⟨c', hpl'⟩ := hpl.at fun o e => hs''.extBut D o hDC e
 refine hQ D ys.toList h'' tk gn c' (by simpa using hlen) (fun j y hj => hR j y (by simpa using hj)) (fun b o hbf hbe e => hs''.extBut b o (by rintro rfl; rw [hC] at e; cases e) (hk b o hbf hbe e)) (hJs _ _ _ hJn fun b hb o e => hs''.extBut b o (fun q => ?_) e) hg hD (by rw [Array.toArray_toList]; exact hpl')
 have := (hwe b hb).1
 rw [q] at this
 exact absurd this (Nat.not_lt.mpr hCs)
theorem assign_compX {iter elt : Expr} {x y : Str} {px py pos spos : Pos} {scope : Scope} {cl : List (Str × Addr)} {Q : Flow → Shared → Prop} {E : Value → Shared → Prop} {s : Shared} {g : Heap}
  (hsw : swapsWith (.ListComp elt [⟨.Name x px, iter, [], 0⟩] scope pos) (some (.Name y py)) spos.line env = pure true)
  (hclos : closureFor scope env = pure cl) (hcell : (scope.names.all fun y => !(y.2 == .cell)) = true) (hkind : scope.kind = .function)
  (hnames : (scope.names.all fun y => !(y.2 == .local) || scope.names.lookup y.1 == some .local) = true) (hx : scope.names.lookup x = some .local)
  (hy : env.kindOf y = some .local) (hp : (env.scope.kind == .class || (env.scope.kind == .module && env.locals != env.globals)) = false)
  (h : wpAny (Md w) A (eval iter env) (fun xv s₁ => Stop (wpAny (Md w) A (pyIter xv) (fun it s₂ => XA w A env scope cl x elt g y Q it s₂) E s₁)) E s)
  (hs : ∀ x, foldedSetIterable iter env x = pure x) :
  wpAny (Md w) A (exec (.Assign [.Name y py] (.ListComp elt [⟨.Name x px, iter, [], 0⟩] scope pos) spos) env) Q E s := by
 have hcell' : ∀ y ∈ scope.names, y.2 ≠ .cell := fun y hy q => by have := List.all_eq_true.mp hcell y hy; rw [q] at this; exact absurd this (by decide)
 have hnames' : ∀ y ∈ scope.names, y.2 = .local → scope.names.lookup y.1 = some .local := fun y hy q => by
  have := List.all_eq_true.mp hnames y hy
  rw [q] at this
  simpa using this
 rw [exec_Assign_Name_used _ _ _ _ hsw]
 refine wpAny_bind (wpAny_standAt (wpAny_bind ?_))
 show wpAny _ A (do let _ ← comprehension (.ListComp elt [⟨.Name x px, iter, [], 0⟩] scope pos) scope env _ (newList []) false (eval iter env) (some (assign (.Name y py) env))) _ _ s
 refine wpAny_bind (wpAny_mono (wpAny_comprehension_free (use := some (assign (.Name y py) env)) (Q := fun _ s' => Q .next s') rfl hs hclos hkind hnames'
  (wpAny_mono h (fun xv s₁ h₁ => wpAny_mono h₁.out (fun it s₂ h₂ => ?_) fun _ _ e => e) fun _ _ e => e)) (fun _ s' hq => wpAny_pure (wpAny_pure hq)) fun _ _ e => e)
 obtain ⟨I, fp, wr, we, gi, n, P, St, Je, Rr, m, rfl, W, hsz, hst, hfp, hwe, hJs, hJ, hq, F, hLw, hLe, hgw, hge, hQ⟩ := h₂
 refine comp_block_X (RR := fun acc C => compPost (Md w) A E (some (assign (.Name y py) env)) (fun _ s' => Q .next s') acc C) W hsz hcell' hkind hx hst hfp hwe hJs hJ hq ?_
 intro D C h' tk gn m' ys hCs hD hC hDC hnC hpl hlen hR hk hJn hg
 have hn := F.ns
 have hLC : env.locals ≠ C := by rintro rfl; obtain ⟨o, _, _, ho, _⟩ := hn; rw [hC] at ho; cases ho
 have hLD : env.locals ≠ D := by rintro rfl; obtain ⟨o, _, _, ho, _⟩ := hn; rw [hD] at ho; cases ho
 have hCe : C ∉ we := fun q => absurd (hwe C q).1 (Nat.not_lt.mpr hCs)
 show wpAny _ A (assign (.Name y py) env (.ref D)) _ _ _
 refine wpAny_assign_Name (wpAny_storeName_local hy (hn.at' fun o e => hk _ o hLw hLe e) (fun h₂ hn₂ hs₂ => ?_) hp)
 refine ⟨m', hnC.sameBut hs₂ (Ne.symm hLC), fun h₃ hs₃ => ?_⟩
 have kk : ∀ b o, b ≠ env.locals → b ∉ wr → b ∉ we → s₂.heap.get? b = some o → h₃.get? b = some o := fun b o hbL hbf hbe e => hs₃.extBut b o (by rintro rfl; rw [hC] at e; cases e) (hs₂.extBut b o hbL (hk b o hbf hbe e))
 obtain ⟨c', hpl'⟩ := (hpl.extBut hs₂.extBut (Ne.symm hLD)).extBut hs₃.extBut hDC
 have hLg : g.get? env.locals = none := by
  cases q : g.get? env.locals with
  | none => rfl
  | some o => exact absurd (Nat.lt_of_lt_of_le (Heap.lt_size q) F.above) (Nat.lt_irrefl _)
 refine hQ D ys.toList h₃ _ gn c' (by simpa using hlen) (fun j y hj => hR j y (by simpa using hj)) ⟨hn₂.sameBut hs₃ hLC, fun b o e => kk b o (fun q => by rw [q, hLg] at e; cases e) (fun q => by rw [hgw b q] at e; cases e) (fun q => by rw [hge b q] at e; cases e) (F.keep b o e), F.above⟩ kk
  (hJs _ _ _ (hJs _ _ _ hJn fun b hb o e => hs₂.extBut b o (fun q => hLe (q ▸ hb)) e) fun b hb o e => hs₃.extBut b o (fun q => hCe (q ▸ hb)) e) hg hD (by rw [Array.toArray_toList]; exact hpl')
end
end
section
noncomputable abbrev OctAt (b : Array UInt8) : Nat → Value → Prop := fun i v => ∃ c u, b[i]? = some c ∧ v = .int (c.toNat : Int) u
section
variable {w : World} {A : Around} {E : Value → Shared → Prop} {s : Shared}
theorem extend_by {R : Result → Shared → Prop} (hh : A.handled = none) (b : Array UInt8) (t : Tok) (S : Addr) (res : Value) (c₀ : Nat) (hS : s.heap.get? S = some { cls := .type "list", data := .seq #[] c₀ }) (hn : b.size ≤ sizeLine)
  (hR : ∀ h' tk acc' c', (∀ b o, b ≠ S → s.heap.get? b = some o → h'.get? b = some o) → h'.get? S = some { cls := .type "list", dict := none, data := .seq acc' c', slots := #[] } →
   ItemsOf (OctAt b) acc' b.size → R (.ok (.ret res)) { s with heap := h', toks := tk }) :
  wpAny (Md w) A.in1 (Builtin.List.listExtendWith (.ref S) (.bytes b t) res)
   (fun fin s' => match fin with | .done f => R (.ok f) s' | .again c' => c'.quiet = true ∧ codeAny (Md w) A c' R s') (fun e s' => R (.error e) s') s := by
 have hSI : S ≠ s.heap.objs.size := Nat.ne_of_lt (Heap.lt_size hS)
 have hSf : S ∉ [s.heap.objs.size] := fun hm => hSI (List.mem_singleton.mp hm)
 unfold Builtin.List.listExtendWith
 refine wpAny_bind (wpAny_typeOf (typeIs_bytes s b t) ?_)
 have h1 : Builtin.List.listSameRef (.ref S) (.bytes b t) = false := rfl
 have h2 : (Value.type "bytes" == Value.type "list") = false := by decide
 have h3 : (Value.type "bytes" == Value.type "tuple") = false := by decide
 simp only [h1, h2, h3, Bool.or_false, Bool.false_eq_true, if_false]
 refine wpAny_bind (KBw.pyIter_bytes ?_)
 have hst : KBw.IsBytesIter (s.heap.push { cls := .type "bytes_iterator", data := .fields #[.bytes b t, .int 0 0] }) s.heap.objs.size b t 0 := ⟨_, Heap.get?_push_size _ rfl, rfl, rfl⟩
 refine wpAny_bind (wpAny_holding ?_)
 unfold Builtin.List.listLengthHint
 refine wpAny_bind (wpAny_specialOf (typeIs_bytes _ b t) FB.slot_bytes_len.lookup ?_)
 wp_delta
 refine wpAny_bind (wpAny_isInstance (T := "bytes") (v := .bytes b t) (b := true) (typeIs_bytes _ b t) (by rw [isSubtype_type]; kernel_rfl) ?_)
 show wpAny _ _ (typeOf (Value.bytes b t) >>= _) _ _ _
 refine wpAny_bind (wpAny_typeOf (typeIs_bytes _ b t) ?_)
 refine wpAny_pure ?_
 rw [if_neg (by decide)]
 refine wpAny_pure ⟨plainId_quiet F.plain_extend_loop _, codeAny_extend_loopS (KBw.walks (A := A.in1) hh s.heap.objs.size b t).toS hn _ hSf _ b.size 0 _ _ _ rfl (Nat.zero_le _) hst (Heap.get?_push_of_some _ hS) (ItemsOf.nil _) fun s' acc' c' hm hS' hacc => ?_⟩
 rw [Moved.eq_with hm]
 refine hR s'.heap s'.toks acc' c' (fun b ob hb e => hm.heap b ob (fun hmem => ?_) (Heap.get?_push_of_some _ e)) hS' hacc
 rcases List.mem_cons.mp hmem with e' | hmem
 ·exact hb e'
 ·exact absurd (Heap.lt_size e) (by rw [List.mem_singleton.mp hmem]; exact Nat.lt_irrefl _)
theorem list_init_by {R : Result → Shared → Prop} (hh : A.handled = none) (b : Array UInt8) (t : Tok) (S : Addr) (hS : s.heap.get? S = some { cls := .type "list", data := .seq #[] }) (hn : b.size ≤ sizeLine)
  (hR : ∀ h' tk acc' c', (∀ b o, b ≠ S → s.heap.get? b = some o → h'.get? b = some o) → h'.get? S = some { cls := .type "list", dict := none, data := .seq acc' c', slots := #[] } →
   ItemsOf (OctAt b) acc' b.size → R (.ok (.ret .none)) { s with heap := h', toks := tk }) :
  wpAny (Md w) A.in1 (Builtin.«list.__init__» ⟨[.ref S, .bytes b t], []⟩)
   (fun fin s' => match fin with | .done f => R (.ok f) s' | .again c' => c'.quiet = true ∧ codeAny (Md w) A c' R s') (fun e s' => R (.error e) s') s := by
 show wpAny _ _ (do let old ← Builtin.List.listItems (.ref S); Builtin.List.listUpdate (.ref S) (fun _ => #[]); letGo old.toList.reverse; Builtin.List.listExtendWith (.ref S) (.bytes b t) .none) _ _ s
 refine wpAny_bind ?_
 unfold Builtin.List.listItems
 refine wpAny_bind (wpAny_seqItems hS rfl (wpAny_pure ?_))
 show wpAny _ _ (updateSeq S (fun _ => #[]) >>= fun _ => letGo (#[] : Array Value).toList.reverse >>= fun _ => Builtin.List.listExtendWith (.ref S) (.bytes b t) .none) _ _ s
 refine wpAny_bind (wpAny_updateSeq hS rfl ?_)
 have hS₂ := Heap.get?_update_self (Obj.mapSeq (fun _ => (#[] : Array Value))) hS rfl
 have oth : ∀ b o, b ≠ S → s.heap.get? b = some o → (s.heap.update S (Obj.mapSeq (fun _ => (#[] : Array Value)))).get? b = some o :=
  fun b o hb e => (Heap.get?_update_other _ _ (Ne.symm hb)).trans e
 refine wpAny_bind (wpAny_letGo ?_)
 refine extend_by hh b t S .none _ hS₂ hn fun h' tk acc' c' hk hS' hacc => ?_
 exact hR h' tk acc' c' (fun b o hb e => hk b o hb (oth b o hb e)) hS' hacc
theorem call_list_by {Q : Value → Shared → Prop} (hh : A.handled = none) (b : Array UInt8) (t : Tok) (hn : b.size ≤ sizeLine)
  (hQ : ∀ h' tk acc' c', (∀ b o, s.heap.get? b = some o → h'.get? b = some o) →
   h'.get? s.heap.objs.size = some { cls := .type "list", dict := none, data := .seq acc' c', slots := #[] } → ItemsOf (OctAt b) acc' b.size → Q (.ref s.heap.objs.size) { s with heap := h', toks := tk }) :
  wpAny (Md w) A (call (.type "list") [.bytes b t]) Q E s := by
 refine callType_codes (Q₁ := fun obj s₁ => obj = .ref s.heap.objs.size ∧ s₁ = { s with heap := s.heap.push { cls := .type "list", data := .seq #[] } }) F.called_list (F.typeCall_list_1 _) F.entry_list_init
  (code_list_new _ ⟨rfl, rfl⟩) fun obj s₁ h₁ => ?_
 obtain ⟨rfl, rfl⟩ := h₁
 have hS : (s.heap.push { cls := .type "list", data := .seq #[] }).get? s.heap.objs.size = some { cls := .type "list", data := .seq #[] } := Heap.get?_push_size _ rfl
 refine ⟨⟨_, hS, rfl⟩, F.args_list_init_2 _ _, list_init_by (A := A.in1) hh b t _ hS hn fun h' tk acc' c' hk hS' hacc => ?_⟩
 exact ⟨rfl, hQ h' tk acc' c' (fun b o e => hk b o (Nat.ne_of_lt (Heap.lt_size e)) (Heap.get?_push_of_some _ e)) hS' hacc⟩
theorem ints_of_oct {b : Array UInt8} {ks : List Int} (hb : KBw.bInts b = ks) {acc : Array Value} (h : ItemsOf (OctAt b) acc b.size) : IntsAre acc.toList ks := by
 subst hb
 have := allR_of_places (V := fun (k : Int) v => ∃ u, v = .int k u) (KBw.bInts b) acc.toList (by rw [KBw.ints_length]; simpa using h.1) fun i v hv => by
  obtain ⟨c, u, hc, rfl⟩ := h.2 i v (by simpa using hv)
  exact ⟨_, KBw.ints_get hc, u, rfl⟩
 exact of_ints this
theorem list_K {g : Heap} {L : Addr} {m : Str → Option Value} {news : List (Addr × Obj)} {Q : Value → Shared → Prop} (hh : A.handled = none) (F : Fr g L s.heap m) (N : News g L s.heap news) {b : Array UInt8} {t : Tok} {ks : List Int} (hb : KBw.bInts b = ks) (hn : ks.length ≤ 1000)
  (h : ∀ D vs n h' tk', Fr g L h' m → News g L h' ((D, W.listOf (List.toArray vs) n) :: news) → (∀ p ∈ news, @Ne Nat p.1 D) → IntsAre vs ks → D ≠ L → Q (.ref D) { s with heap := h', toks := tk' }) : wpAny (Md w) A (call (.type "list") [.bytes b t]) Q E s := by
 obtain ⟨f1, f2, f3⟩ := fresh_top F N
 have hsz : b.size ≤ 1000 := by rw [← KBw.ints_length, hb]; exact hn
 refine call_list_by hh b t (by rw [sizeLine_eq]; omega) fun h' tk acc' c' hk hS' hacc => h _ acc'.toList c' h' tk ⟨F.ns.keeps hk, fun b o e => hk b o (F.keep b o e), F.above⟩ (fun p hp => ?_) f3 (ints_of_oct hb hacc) f1
 rcases List.mem_cons.mp hp with rfl | hp
 ·exact ⟨by rw [hS', Array.toArray_toList], f1, f2⟩
 ·exact ⟨hk _ _ (N p hp).1, (N p hp).2⟩
end
end
section
section
variable {w : World} {A : Around} {E : Value → Shared → Prop} {s : Shared}
theorem nextOf_by {it : Addr} {i : Nat} {b : Array UInt8} {t : Tok} {c : UInt8} {Q : Value → Shared → Prop} (hit : KBw.IsBytesIter s.heap it b t i) (hx : b[i]? = some c)
  (hQ : ∀ h', KBw.IsBytesIter h' it b t (i + 1) → Heap.SameBut it s.heap h' → Q (.int (c.toNat : Int) s.toks) { s with heap := h', toks := s.toks + 1 }) : wpAny (Md w) A (Builtin.SmallTypes.nextOf (.ref it)) Q E s := by
 obtain ⟨o, ho, hc, hd⟩ := id hit
 unfold Builtin.SmallTypes.nextOf
 refine wpAny_bind (wpAny_callSpecial?_slot (name := PySem.Str.ofString "__next__") (KBw.iter_typeIs hit) KBw.slot_next
  (wpAny_call_entry KBw.slot_next (KBw.iter_typeIs hit) KBw.entry_next ?_ (KBw.args_next _)))
 show wpAny _ _ (field (.ref it) 0 >>= _) _ _ s
 refine wpAny_bind (wpAny_field ho hd (x := .bytes b t) rfl ?_)
 show wpAny _ _ (if (Value.bytes b t == Value.none) = true then _ else _) _ _ s
 rw [if_neg (show ¬ ((Value.bytes b t == Value.none) = true) from Bool.false_ne_true)]
 show wpAny _ _ (field (.ref it) 1 >>= _) _ _ s
 refine wpAny_bind (wpAny_field ho hd (x := .int i 0) rfl ?_)
 refine wpAny_bind (wpAny_of_eq (a := b) rfl ?_)
 simp only [Int.toNat_natCast, hx]
 refine wpAny_bind (wpAny_setField ho hd (by simp) (wpAny_bind (wpAny_mkInt (wpAny_pure ⟨_, rfl, wpAny_pure (hQ _ ?_ (Heap.SameBut.update ..))⟩))))
 exact ⟨_, Heap.get?_update_self _ ho (Obj.isFreed_of_fields (Obj.data_mapFields hd _)), (Obj.cls_mapFields ..).trans hc, by
  rw [Obj.data_mapFields hd]; simp [rawInt]⟩
structure ZB (z TI TO i1 i2 l1 : Addr) : Prop where
 TIz : TI ≠ z
 TOz : TO ≠ z
 i1z : i1 ≠ z
 i2z : i2 ≠ z
 TITO : TI ≠ TO
 TIi1 : TI ≠ i1
 TIi2 : TI ≠ i2
 TOi1 : TO ≠ i1
 TOi2 : TO ≠ i2
 i12 : i1 ≠ i2
 l1z : l1 ≠ z
 l1TO : l1 ≠ TO
 l1i1 : l1 ≠ i1
 l1i2 : l1 ≠ i2
structure ZipSt (h : Heap) (z TI TO i1 i2 l1 : Addr) (xs : Array Value) (b : Array UInt8) (t : Tok) (f0 : Value) (k : Nat) : Prop where
 hz : IsZip h z TI TO f0
 hTI : IsPair h TI (.ref i1) (.ref i2)
 hTO : ∃ a c, IsPair h TO a c
 h1 : h.IsListIter i1 l1 k
 h2 : KBw.IsBytesIter h i2 b t k
 hl : h.IsList l1 xs
theorem bi_at {h h' : Heap} {it : Addr} {b : Array UInt8} {t : Tok} {i : Nat} (x : KBw.IsBytesIter h it b t i) (e : ∀ o, h.get? it = some o → h'.get? it = some o) : KBw.IsBytesIter h' it b t i := let ⟨o, ho, r⟩ := x; ⟨o, e _ ho, r⟩
theorem zb_item {z TI TO i1 i2 l1 : Addr} {k : Nat} {xs : Array Value} {b : Array UInt8} {t : Tok} {x : Value} {y : UInt8} {Q : Option Value → Shared → Prop} (D : ZB z TI TO i1 i2 l1)
  (S : ZipSt s.heap z TI TO i1 i2 l1 xs b t .none k) (hx : xs[k]? = some x) (hy : b[k]? = some y)
  (hQ : ∀ h' tk', ZipSt h' z TI TO i1 i2 l1 xs b t (rawInt s.heap.objs.size) (k + 1) → IsPair h' s.heap.objs.size x (.int (y.toNat : Int) s.toks) →
   (∀ c o, c ≠ z → c ≠ TO → c ≠ i1 → c ≠ i2 → s.heap.get? c = some o → h'.get? c = some o) → Q (some (.ref s.heap.objs.size)) { s with heap := h', toks := tk' }) :
  wpAny (Md w) A (pyNext (.ref z)) Q E s := by
 obtain ⟨hz, hTI, ⟨a, c0, hTO⟩, h1, h2, hl1⟩ := S
 have hT : s.TypeIs (.ref z) "zip" := ⟨_, hz, rfl⟩
 unfold pyNext
 refine wpAny_bind (wpAny_attempt (wpAny_callSpecial?_slot (name := Str.ofString "__next__") hT F.slot_zip_next
  (wpAny_call_entry F.slot_zip_next hT F.entry_zip_next ?_ (F.args_zip_next_1 _))))
 show wpAny _ _ (field (.ref z) 2 >>= _) _ _ _
 refine wpAny_bind (wpAny_field hz rfl (x := .bool false) rfl ?_)
 show wpAny _ _ (field (.ref z) 3 >>= _) _ _ _
 refine wpAny_bind (wpAny_field hz rfl (x := .ref TI) rfl ?_)
 refine wpAny_bind (wpAny_seqItems hTI rfl ?_)
 show wpAny _ _ (Builtin.SmallTypes.ownedTupleIsFree (.ref z) >>= _) _ _ _
 refine wpAny_bind ?_
 unfold Builtin.SmallTypes.ownedTupleIsFree
 refine wpAny_bind (wpAny_field hz rfl (x := .none) rfl (wpAny_pure ?_))
 simp only [if_true]
 refine wpAny_bind (wpAny_rule ?_)
 refine wpAny_bind (wpAny_field hz rfl (x := .ref TO) rfl ?_)
 refine wpAny_bind (wpAny_setField_rec hz (by simp) fun h₁ hz₁ hs₁ => ?_)
 replace hz₁ : IsZip h₁ z TI TO .ellipsis := hz₁
 refine wpAny_bind ?_
 simp only [List.zipIdx_cons, List.zipIdx_nil, List.forIn_cons, List.forIn_nil]
 refine wpAny_bind (wpAny_bind (wpAny_onRaise ?_))
 show wpAny _ _ (Builtin.SmallTypes.nextOf (.ref i1) >>= _) _ _ _
 refine wpAny_bind (wpAny_nextOf_list_item (h1.extBut hs₁.extBut D.i1z) (hl1.extBut hs₁.extBut D.l1z) hx fun h₂ h1₂ hs₂ => wpAny_pure ?_)
 have hTO₂ : IsPair h₂ TO a c0 := hs₂.extBut _ _ D.TOi1 (hs₁.extBut _ _ D.TOz hTO)
 refine wpAny_bind (wpAny_seqItems hTO₂ rfl ?_)
 refine wpAny_bind (wpAny_updateSeq_pair hTO₂ fun h₃ hTO₃ hs₃ => ?_)
 replace hTO₃ : IsPair h₃ TO x c0 := hTO₃
 refine wpAny_bind (wpAny_letGo (wpAny_pure ?_))
 refine wpAny_bind (wpAny_bind (wpAny_onRaise ?_))
 show wpAny _ _ (Builtin.SmallTypes.nextOf (.ref i2) >>= _) _ _ _
 refine wpAny_bind (nextOf_by (bi_at h2 fun o e => hs₃.extBut _ _ D.TOi2.symm (hs₂.extBut _ _ D.i12.symm (hs₁.extBut _ _ D.i2z e))) hy fun h₄ h2₄ hs₄ => wpAny_pure ?_)
 have hTO₄ : IsPair h₄ TO x c0 := hs₄.extBut _ _ D.TOi2 hTO₃
 refine wpAny_bind (wpAny_seqItems hTO₄ rfl ?_)
 refine wpAny_bind (wpAny_updateSeq_pair hTO₄ fun h₅ hTO₅ hs₅ => ?_)
 replace hTO₅ : IsPair h₅ TO x (.int (y.toNat : Int) s.toks) := hTO₅
 refine wpAny_bind (wpAny_letGo (wpAny_pure (wpAny_pure ?_)))
 refine wpAny_bind (wpAny_seqItems hTO₅ rfl ?_)
 refine wpAny_bind (wpAny_newTuple ?_)
 have hsz : h₅.objs.size = s.heap.objs.size := by rw [hs₅.1, hs₄.1, hs₃.1, hs₂.1, hs₁.1]
 have hz₅ : IsZip h₅ z TI TO .ellipsis := hs₅.extBut _ _ D.TOz.symm (hs₄.extBut _ _ D.i2z.symm (hs₃.extBut _ _ D.TOz.symm (hs₂.extBut _ _ D.i1z.symm hz₁)))
 have hk₅ : ∀ c o, c ≠ z → c ≠ TO → c ≠ i1 → c ≠ i2 → s.heap.get? c = some o → h₅.get? c = some o := fun c o c1 c2 c3 c4 e =>
  hs₅.extBut _ _ c2 (hs₄.extBut _ _ c4 (hs₃.extBut _ _ c2 (hs₂.extBut _ _ c3 (hs₁.extBut _ _ c1 e))))
 have h1₅ : h₅.IsListIter i1 l1 (k + 1) := ((h1₂.extBut hs₃.extBut D.TOi1.symm).extBut hs₄.extBut D.i12).extBut hs₅.extBut D.TOi1.symm
 have h2₅ : KBw.IsBytesIter h₅ i2 b t (k + 1) := bi_at h2₄ fun o e => hs₅.extBut _ _ D.TOi2.symm e
 have hzlt : z < h₅.objs.size := Heap.lt_size hz₅
 have hTOlt : TO < h₅.objs.size := Heap.lt_size hTO₅
 show wpAny _ _ (Builtin.SmallTypes.ownedTupleHandOut (.ref z) (.ref h₅.objs.size) >>= _) _ _ _
 refine wpAny_bind ?_
 unfold Builtin.SmallTypes.ownedTupleHandOut
 have hz₆ : IsZip (h₅.push { cls := .type "tuple", data := .seq #[x, .int (y.toNat : Int) s.toks] }) z TI TO .ellipsis := Heap.get?_push_of_some _ hz₅
 refine wpAny_bind (wpAny_setField_rec hz₆ (by simp) fun h₇ hz₇ hs₇ => ?_)
 replace hz₇ : IsZip h₇ z TI TO (rawInt h₅.objs.size) := hz₇
 refine wpAny_setField_rec hz₇ (by simp) fun h₈ hz₈ hs₈ => ?_
 replace hz₈ : IsZip h₈ z TI TO (rawInt h₅.objs.size) := hz₈
 have up : ∀ c o, c ≠ z → h₅.get? c = some o → h₈.get? c = some o := fun c o c1 e => hs₈.extBut _ _ c1 (hs₇.extBut _ _ c1 (Heap.get?_push_of_some _ e))
 have hT₈ : IsPair h₈ h₅.objs.size x (.int (y.toNat : Int) s.toks) := hs₈.extBut _ _ (Nat.ne_of_gt hzlt) (hs₇.extBut _ _ (Nat.ne_of_gt hzlt) (Heap.get?_push_size _ rfl))
 rw [hsz] at hz₈ hT₈
 refine wpAny_pure ⟨_, rfl, wpAny_pure ?_⟩
 show Q (some (.ref h₅.objs.size)) _
 rw [hsz]
 refine hQ h₈ _ ⟨hz₈, up _ _ D.TIz (hk₅ _ _ D.TIz D.TITO D.TIi1 D.TIi2 hTI), ⟨_, _, up _ _ D.TOz hTO₅⟩, h1₅.at fun o e => up _ o D.i1z e, bi_at h2₅ fun o e => up _ o D.i2z e, hl1.at fun o e => up _ o D.l1z (hk₅ _ o D.l1z D.l1TO D.l1i1 D.l1i2 e)⟩ hT₈ fun c o c1 c2 c3 c4 e => up c o c1 (hk₅ c o c1 c2 c3 c4 e)
theorem zb_end {z TI TO i1 i2 l1 : Addr} {k : Nat} {xs : Array Value} {b : Array UInt8} {t : Tok} {Q : Option Value → Shared → Prop} (hh : A.handled = none) (D : ZB z TI TO i1 i2 l1)
  (S : ZipSt s.heap z TI TO i1 i2 l1 xs b t .none k) (hx : xs[k]? = none)
  (hQ : ∀ h', (∀ c o, c ≠ z → c ≠ TO → c ≠ i1 → c ≠ i2 → s.heap.get? c = some o → h'.get? c = some o) → Q none { s with heap := h' }) :
  wpAny (Md w) A (pyNext (.ref z)) Q E s := by
 obtain ⟨hz, hTI, ⟨a, c0, hTO⟩, h1, h2, hl1⟩ := S
 have hT : s.TypeIs (.ref z) "zip" := ⟨_, hz, rfl⟩
 unfold pyNext
 refine wpAny_bind (wpAny_attempt (wpAny_callSpecial?_slot (name := Str.ofString "__next__") hT F.slot_zip_next
  (wpAny_call_entry F.slot_zip_next hT F.entry_zip_next ?_ (F.args_zip_next_1 _))))
 show wpAny _ _ (field (.ref z) 2 >>= _) _ _ _
 refine wpAny_bind (wpAny_field hz rfl (x := .bool false) rfl ?_)
 show wpAny _ _ (field (.ref z) 3 >>= _) _ _ _
 refine wpAny_bind (wpAny_field hz rfl (x := .ref TI) rfl ?_)
 refine wpAny_bind (wpAny_seqItems hTI rfl ?_)
 show wpAny _ _ (Builtin.SmallTypes.ownedTupleIsFree (.ref z) >>= _) _ _ _
 refine wpAny_bind ?_
 unfold Builtin.SmallTypes.ownedTupleIsFree
 refine wpAny_bind (wpAny_field hz rfl (x := .none) rfl (wpAny_pure ?_))
 simp only [if_true]
 refine wpAny_bind (wpAny_rule ?_)
 refine wpAny_bind (wpAny_field hz rfl (x := .ref TO) rfl ?_)
 refine wpAny_bind (wpAny_setField_rec hz (by simp) fun h₁ hz₁ hs₁ => ?_)
 replace hz₁ : IsZip h₁ z TI TO .ellipsis := hz₁
 refine wpAny_bind ?_
 simp only [List.zipIdx_cons, List.zipIdx_nil, List.forIn_cons, List.forIn_nil]
 refine wpAny_bind (wpAny_bind (wpAny_onRaise ?_))
 show wpAny _ _ (Builtin.SmallTypes.nextOf (.ref i1) >>= _) _ _ _
 refine wpAny_bind (wpAny_nextOf_list_end hh (h1.extBut hs₁.extBut D.i1z) (hl1.extBut hs₁.extBut D.l1z) hx fun h₂ e hs₂ he => ?_)
 obtain ⟨oe, hoe, hce⟩ := he
 have hz₂ : IsZip h₂ z TI TO .ellipsis := hs₂ _ _ D.i1z.symm hz₁
 have hez : e ≠ z := fun x => by subst x; rw [hz₂] at hoe; cases hoe; simp at hce
 refine wpAny_setField_rec hz₂ (by simp) fun h₃ _ hs₃ => ?_
 refine wpAny_bind (wpAny_isInstance (T := "StopIteration") (b := true) ⟨oe, hs₃.extBut _ _ hez hoe, hce⟩ isSubtype_stop ?_)
 exact wpAny_pure (hQ _ fun c o c1 _ c3 _ x => hs₃.extBut _ _ c1 (hs₂ _ _ c3 (hs₁.extBut _ _ c1 x)))
end
theorem zb_of {n l1 : Nat} (h : l1 < n) : ZB (n + 4) (n + 2) (n + 3) n (n + 1) l1 := by
 constructor <;> first | exact Nat.ne_of_lt (by omega) | exact Nat.ne_of_gt (by omega)
noncomputable abbrev zb1 (h : Heap) (l1 : Addr) : Heap := h.push { cls := .type "list_iterator", data := .fields #[.ref l1, .int 0 0] }
noncomputable abbrev zb2 (h : Heap) (l1 : Addr) (b : Array UInt8) (t : Tok) : Heap := (zb1 h l1).push { cls := .type "bytes_iterator", data := .fields #[.bytes b t, .int 0 0] }
noncomputable abbrev zb3 (h : Heap) (l1 : Addr) (b : Array UInt8) (t : Tok) : Heap := (zb2 h l1 b t).push { cls := .type "tuple", data := .seq #[.ref h.objs.size, .ref (zb1 h l1).objs.size] }
noncomputable abbrev zb4 (h : Heap) (l1 : Addr) (b : Array UInt8) (t : Tok) : Heap := (zb3 h l1 b t).push { cls := .type "tuple", data := .seq #[.none, .none] }
noncomputable abbrev zb5 (h : Heap) (l1 : Addr) (b : Array UInt8) (t : Tok) : Heap := (zb4 h l1 b t).push { cls := .type "zip", data := .fields #[.none, .bool false, .bool false, .ref (zb2 h l1 b t).objs.size, .ref (zb3 h l1 b t).objs.size] }
theorem meets_zip_by (l1 : Addr) (xs : Array Value) (b : Array UInt8) (t : Tok) :
  Meets (Builtin.«zip.__new__» ⟨[.type "zip", .ref l1, .bytes b t], []⟩) (fun _ R s => s.heap.IsList l1 xs ∧
   R (.ok (.ret (.ref (zb4 s.heap l1 b t).objs.size))) { s with heap := zb5 s.heap l1 b t }) :=
 .of_wp fun prog w A R s h => by
  obtain ⟨hp, g, d, tk, os⟩ := s; obtain ⟨hl1, h⟩ := h
  have hsub := sub_zip
  have hL1 : Heap.IsList (Shared.heap ⟨hp, g, d, tk, os⟩) l1 xs := hl1
  repeat (first | with_reducible refine wpAny_pyIter_list hL1 ?_ | with_reducible refine KBw.pyIter_bytes ?_ | with_reducible (first | refine wpAny_bind ?_ | refine wpAny_pure ?_ | refine wpAny_holding ?_ | refine wpAny_standAt ?_ | refine wpAny_point ?_ | refine wpAny_rule ?_ | refine wpAny_letGo ?_ | refine wpAny_mkInt' ?_ | refine wpAny_fresh' ?_ | refine wpAny_alloc' ?_ | refine wpAny_attempt ?_ | refine wpAny_throw ?_ | ((show wpAny _ _ (mkStr _) _ _ _); refine wpAny_mkStr' ?_) | refine wpAny_of_eq (by assumption) ?_ | refine wpAny_typeOf (by assumption) ?_ | refine wpAny_specialOf_val (by assumption) (by assumption) ?_ | refine wpAny_specialOf (by assumption) (by assumption) ?_ | refine wpAny_isInstance_val (by assumption) (by assumption) ?_ | refine wpAny_isInstance (by assumption) (by assumption) ?_ | refine wpAny_call ?_ | refine wpAny_runValue ?_ | refine wpAny_run ?_) | wp_delta | ((with_reducible apply wpAny_load'); focus (heap_get; done)) | ((with_reducible apply wpAny_update'); focus (heap_get; done)) | ((with_reducible apply wpAny_loadPart'); focus (heap_get; done)) | ((with_reducible apply wpAny_updatePart'); focus (heap_get; done)) | ((with_reducible apply wpAny_handled_none); focus (assumption; done)) | ((with_reducible apply wpAny_ite_false); focus (rfl; done)) | ((with_reducible apply wpAny_ite_true); focus (rfl; done)) | ((with_reducible apply wpAny_ite_false); focus (simp [*]; done)) | ((with_reducible apply wpAny_ite_true); focus (simp [*]; done)) | with_reducible_and_instances refine wpAny_pure ?_ | with_reducible_and_instances refine wpAny_bind ?_)
  exact ⟨_, rfl, h⟩
section
variable {w : World} {A : Around} {E : Value → Shared → Prop} {s : Shared}
theorem call_zip_by {l1 : Addr} {xs : Array Value} {b : Array UInt8} {t : Tok} {Q : Value → Shared → Prop} (hl1 : s.heap.IsList l1 xs)
  (h : ∀ z TI TO i1 i2 h', ZB z TI TO i1 i2 l1 → ZipSt h' z TI TO i1 i2 l1 xs b t .none 0 → (∀ c o, s.heap.get? c = some o → h'.get? c = some o) → (∀ c ∈ [z, TI, TO, i1, i2], s.heap.objs.size ≤ c) → Q (.ref z) { s with heap := h' }) :
  wpAny (Md w) A (call (.type "zip") [.ref l1, .bytes b t]) Q E s := by
 refine callType_new F.called_zip (by decide) (F.typeCall_zip_2 _ _) (F.newCall_zip_2 _ _) (fun obj => F.args_object_init_3 obj _ _) F.entry_zip_new
  (meets_zip_by l1 xs b t) ⟨hl1, ?_⟩
 have z1 : (zb1 s.heap l1).objs.size = s.heap.objs.size + 1 := Heap.size_push ..
 have z2 : (zb2 s.heap l1 b t).objs.size = s.heap.objs.size + 2 := by rw [Heap.size_push, z1]
 have z3 : (zb3 s.heap l1 b t).objs.size = s.heap.objs.size + 3 := by rw [Heap.size_push, z2]
 have z4 : (zb4 s.heap l1 b t).objs.size = s.heap.objs.size + 4 := by rw [Heap.size_push, z3]
 have g5 : (zb5 s.heap l1 b t).get? (zb4 s.heap l1 b t).objs.size = some _ := Heap.get?_push_size _ rfl
 have g4 : (zb5 s.heap l1 b t).get? (zb3 s.heap l1 b t).objs.size = some _ := Heap.get?_push_of_some _ (Heap.get?_push_size _ rfl)
 have g3 : (zb5 s.heap l1 b t).get? (zb2 s.heap l1 b t).objs.size = some _ := Heap.get?_push_of_some _ (Heap.get?_push_of_some _ (Heap.get?_push_size _ rfl))
 have g2 : (zb5 s.heap l1 b t).get? (zb1 s.heap l1).objs.size = some _ := Heap.get?_push_of_some _ (Heap.get?_push_of_some _ (Heap.get?_push_of_some _ (Heap.get?_push_size _ rfl)))
 have g1 : (zb5 s.heap l1 b t).get? s.heap.objs.size = some _ := Heap.get?_push_of_some _ (Heap.get?_push_of_some _ (Heap.get?_push_of_some _ (Heap.get?_push_of_some _ (Heap.get?_push_size _ rfl))))
 have up : ∀ c o, s.heap.get? c = some o → (zb5 s.heap l1 b t).get? c = some o := fun c o x => Heap.get?_push_of_some _ (Heap.get?_push_of_some _ (Heap.get?_push_of_some _ (Heap.get?_push_of_some _ (Heap.get?_push_of_some _ x))))
 have hl : l1 < s.heap.objs.size := by obtain ⟨_, e, _⟩ := hl1; exact Heap.lt_size e
 show _ ∧ _
 rw [z2, z3, z4] at g5
 rw [z1, z2] at g3
 rw [z3] at g4
 rw [z1] at g2
 rw [z4]
 refine ⟨⟨_, g5, rfl⟩, h (s.heap.objs.size + 4) (s.heap.objs.size + 2) (s.heap.objs.size + 3) s.heap.objs.size (s.heap.objs.size + 1) _ (zb_of hl) ⟨g5, g3, ⟨_, _, g4⟩, ⟨_, g1, rfl, rfl⟩, ⟨_, g2, rfl, rfl⟩, hl1.at fun o e => up _ o e⟩ up ?_⟩
 intro c hc
 simp only [List.mem_cons, List.not_mem_nil, or_false] at hc
 generalize s.heap.objs.size = n at hc ⊢
 rcases hc with rfl | rfl | rfl | rfl | rfl <;> first | exact Nat.le_refl _ | exact Nat.le_add_right _ _
end
end
section
section
variable {w : World} {A : Around} {E : Value → Shared → Prop} {s : Shared}
theorem nextOf_by_end {it : Addr} {i : Nat} {b : Array UInt8} {t : Tok} {Q : Value → Shared → Prop} (hh : A.handled = none) (hit : KBw.IsBytesIter s.heap it b t i) (hx : b[i]? = none)
  (hE : ∀ h' e, Heap.ExtBut it s.heap h' → (∃ o, h'.get? e = some o ∧ o.cls = .type "StopIteration") → E (.ref e) { s with heap := h' }) : wpAny (Md w) A (Builtin.SmallTypes.nextOf (.ref it)) Q E s := by
 obtain ⟨o, ho, hc, hd⟩ := id hit
 unfold Builtin.SmallTypes.nextOf
 refine wpAny_bind (wpAny_callSpecial?_slot (name := PySem.Str.ofString "__next__") (KBw.iter_typeIs hit) KBw.slot_next
  (wpAny_call_entry KBw.slot_next (KBw.iter_typeIs hit) KBw.entry_next ?_ (KBw.args_next _)))
 show wpAny _ _ (field (.ref it) 0 >>= _) _ _ s
 refine wpAny_bind (wpAny_field ho hd (x := .bytes b t) rfl ?_)
 show wpAny _ _ (if (Value.bytes b t == Value.none) = true then _ else _) _ _ s
 rw [if_neg (show ¬ ((Value.bytes b t == Value.none) = true) from Bool.false_ne_true)]
 show wpAny _ _ (field (.ref it) 1 >>= _) _ _ s
 refine wpAny_bind (wpAny_field ho hd (x := .int i 0) rfl ?_)
 refine wpAny_bind (wpAny_of_eq (a := b) rfl ?_)
 simp only [Int.toNat_natCast, hx]
 refine wpAny_bind (wpAny_rule (wpAny_bind (wpAny_setField ho hd (by simp) ?_)))
 show wpAny _ _ (newExc (.type "StopIteration") [] >>= _) _ _ _
 refine wpAny_bind ?_
 simp only [newExc, newTuple]
 refine wpAny_bind (wpAny_newObj_type ?_ (by size_fits))
 refine wpAny_bind (m := firstArgMember _ _) (wpAny_of_eq (a := Value.none) (by first | rfl | (simp only [firstArgMember]; rfl)) ?_)
 refine wpAny_newObj_type ?_ (by size_fits)
 simp only [raiseNew]
 refine wpAny_bind (wpAny_handled ?_)
 rw [show A.in1.handled = none from hh]
 refine wpAny_bind (wpAny_pure (wpAny_throw ?_))
 exact hE _ _ (((Heap.SameBut.update ..).extBut.push _).push _) ⟨_, Heap.get?_push_size _ rfl, rfl⟩
end
theorem drawsBy {w : World} {A : Around} (hh : A.handled = none) (it : Addr) (b : Array UInt8) (t : Tok) :
  Draws rw_iw0008_01.prog w A it [it] b.size (fun i v => ∃ c u, b[i]? = some c ∧ v = .int (c.toNat : Int) u) (fun i h => KBw.IsBytesIter h it b t i) where
 live := fun _ _ st => let ⟨o, ho, _⟩ := st; ⟨o, ho⟩
 frame := fun _ _ _ st hk => bi_at st fun o e => hk it (by simp) o e
 item := fun i s Q E hi st hQ => by
  refine nextOf_by st (c := b[i]) (by simp [hi]) fun h' hit' hs' => ?_
  exact hQ _ h' (s.toks + 1) ⟨_, _, by simp [hi], rfl⟩ hit' hs'
 done := fun s Q E st hE => nextOf_by_end hh st (by simp) hE
theorem meets_enumerate_newB (x : Array UInt8) (t : Tok) :
  Meets (Builtin.«enumerate.__new__» ⟨[.type "enumerate", .bytes x t], []⟩) (fun _ R s =>
   R (.ok (.ret (.ref (s.heap.push { cls := .type "bytes_iterator", data := .fields #[.bytes x t, .int 0 0] }).objs.size)))
    { s with heap := (s.heap.push { cls := .type "bytes_iterator", data := .fields #[.bytes x t, .int 0 0] }).push { cls := .type "enumerate", data := .fields #[.none, .bool false, .ref s.heap.objs.size, rawInt 0, .none, .none] } }) :=
 .of_wp fun prog w A R s h => by
  obtain ⟨hp, g, d, tk, os⟩ := s
  have hsub := sub_enumerate
  repeat (first | with_reducible (first | refine wpAny_bind ?_ | refine wpAny_pure ?_ | refine wpAny_holding ?_ | refine wpAny_standAt ?_ | refine wpAny_point ?_ | refine wpAny_rule ?_ | refine wpAny_letGo ?_ | refine wpAny_mkInt' ?_ | refine wpAny_fresh' ?_ | refine wpAny_alloc' ?_ | refine wpAny_attempt ?_ | refine wpAny_throw ?_ | ((show wpAny _ _ (mkStr _) _ _ _); refine wpAny_mkStr' ?_) | refine wpAny_of_eq (by assumption) ?_ | refine wpAny_typeOf (by assumption) ?_ | refine wpAny_specialOf_val (by assumption) (by assumption) ?_ | refine wpAny_specialOf (by assumption) (by assumption) ?_ | refine wpAny_isInstance_val (by assumption) (by assumption) ?_ | refine wpAny_isInstance (by assumption) (by assumption) ?_ | refine wpAny_call ?_ | refine wpAny_runValue ?_ | refine wpAny_run ?_) | wp_delta | ((with_reducible apply wpAny_load'); focus (heap_get; done)) | ((with_reducible apply wpAny_update'); focus (heap_get; done)) | ((with_reducible apply wpAny_loadPart'); focus (heap_get; done)) | ((with_reducible apply wpAny_updatePart'); focus (heap_get; done)) | ((with_reducible apply wpAny_handled_none); focus (assumption; done)) | ((with_reducible apply wpAny_ite_false); focus (rfl; done)) | ((with_reducible apply wpAny_ite_true); focus (rfl; done)) | ((with_reducible apply wpAny_ite_false); focus (simp [*]; done)) | ((with_reducible apply wpAny_ite_true); focus (simp [*]; done)) | with_reducible_and_instances refine wpAny_pure ?_ | with_reducible_and_instances refine wpAny_bind ?_)
  refine wpAny_stack_any fun st => wpAny_pure ?_
  split
  ·rename_i c _ _ _ _ _
   cases (c == Value.type "enumerate")
   all_goals
    repeat (first | with_reducible refine KBw.pyIter_bytes ?_ | with_reducible (first | refine wpAny_bind ?_ | refine wpAny_pure ?_ | refine wpAny_holding ?_ | refine wpAny_standAt ?_ | refine wpAny_point ?_ | refine wpAny_rule ?_ | refine wpAny_letGo ?_ | refine wpAny_mkInt' ?_ | refine wpAny_fresh' ?_ | refine wpAny_alloc' ?_ | refine wpAny_attempt ?_ | refine wpAny_throw ?_ | ((show wpAny _ _ (mkStr _) _ _ _); refine wpAny_mkStr' ?_) | refine wpAny_of_eq (by assumption) ?_ | refine wpAny_typeOf (by assumption) ?_ | refine wpAny_specialOf_val (by assumption) (by assumption) ?_ | refine wpAny_specialOf (by assumption) (by assumption) ?_ | refine wpAny_isInstance_val (by assumption) (by assumption) ?_ | refine wpAny_isInstance (by assumption) (by assumption) ?_ | refine wpAny_call ?_ | refine wpAny_runValue ?_ | refine wpAny_run ?_) | wp_delta | ((with_reducible apply wpAny_load'); focus (heap_get; done)) | ((with_reducible apply wpAny_update'); focus (heap_get; done)) | ((with_reducible apply wpAny_loadPart'); focus (heap_get; done)) | ((with_reducible apply wpAny_updatePart'); focus (heap_get; done)) | ((with_reducible apply wpAny_handled_none); focus (assumption; done)) | ((with_reducible apply wpAny_ite_false); focus (rfl; done)) | ((with_reducible apply wpAny_ite_true); focus (rfl; done)) | ((with_reducible apply wpAny_ite_false); focus (simp [*]; done)) | ((with_reducible apply wpAny_ite_true); focus (simp [*]; done)) | with_reducible_and_instances refine wpAny_pure ?_ | with_reducible_and_instances refine wpAny_bind ?_)
    exact ⟨_, rfl, h⟩
  ·repeat (first | with_reducible refine KBw.pyIter_bytes ?_ | with_reducible (first | refine wpAny_bind ?_ | refine wpAny_pure ?_ | refine wpAny_holding ?_ | refine wpAny_standAt ?_ | refine wpAny_point ?_ | refine wpAny_rule ?_ | refine wpAny_letGo ?_ | refine wpAny_mkInt' ?_ | refine wpAny_fresh' ?_ | refine wpAny_alloc' ?_ | refine wpAny_attempt ?_ | refine wpAny_throw ?_ | ((show wpAny _ _ (mkStr _) _ _ _); refine wpAny_mkStr' ?_) | refine wpAny_of_eq (by assumption) ?_ | refine wpAny_typeOf (by assumption) ?_ | refine wpAny_specialOf_val (by assumption) (by assumption) ?_ | refine wpAny_specialOf (by assumption) (by assumption) ?_ | refine wpAny_isInstance_val (by assumption) (by assumption) ?_ | refine wpAny_isInstance (by assumption) (by assumption) ?_ | refine wpAny_call ?_ | refine wpAny_runValue ?_ | refine wpAny_run ?_) | wp_delta | ((with_reducible apply wpAny_load'); focus (heap_get; done)) | ((with_reducible apply wpAny_update'); focus (heap_get; done)) | ((with_reducible apply wpAny_loadPart'); focus (heap_get; done)) | ((with_reducible apply wpAny_updatePart'); focus (heap_get; done)) | ((with_reducible apply wpAny_handled_none); focus (assumption; done)) | ((with_reducible apply wpAny_ite_false); focus (rfl; done)) | ((with_reducible apply wpAny_ite_true); focus (rfl; done)) | ((with_reducible apply wpAny_ite_false); focus (simp [*]; done)) | ((with_reducible apply wpAny_ite_true); focus (simp [*]; done)) | with_reducible_and_instances refine wpAny_pure ?_ | with_reducible_and_instances refine wpAny_bind ?_)
   exact ⟨_, rfl, h⟩
section
variable {w : World} {A : Around} {E : Value → Shared → Prop} {s : Shared}
theorem call_enumerate_by {x : Array UInt8} {t : Tok} {Q : Value → Shared → Prop}
  (h : ∀ h', IsEnum h' (s.heap.objs.size + 1) s.heap.objs.size 0 .none → KBw.IsBytesIter h' s.heap.objs.size x t 0 → h'.objs.size = s.heap.objs.size + 2 →
   (∀ b o, s.heap.get? b = some o → h'.get? b = some o) → Q (.ref (s.heap.objs.size + 1)) { s with heap := h' }) :
  wpAny (Md w) A (call (.type "enumerate") [.bytes x t]) Q E s := by
 refine callType_new F.called_enumerate (by decide) (F.typeCall_enumerate_1 _) (F.newCall_enumerate_1 _) (fun obj => F.args_object_init_2 obj _) F.entry_enumerate_new
  (meets_enumerate_newB x t) ?_
 have hz : (s.heap.push { cls := .type "bytes_iterator", data := .fields #[.bytes x t, .int 0 0] }).objs.size = s.heap.objs.size + 1 := Heap.size_push ..
 show _ ∧ _
 rw [hz]
 have he : IsEnum ((s.heap.push { cls := .type "bytes_iterator", data := .fields #[.bytes x t, .int 0 0] }).push
   { cls := .type "enumerate", data := .fields #[.none, .bool false, .ref s.heap.objs.size, rawInt 0, .none, .none] }) (s.heap.objs.size + 1) s.heap.objs.size 0 .none := by
  have := Heap.get?_push_size (s.heap.push { cls := .type "bytes_iterator", data := .fields #[.bytes x t, .int 0 0] })
   (o := { cls := .type "enumerate", data := .fields #[.none, .bool false, .ref s.heap.objs.size, rawInt 0, .none, .none] }) rfl
  rw [hz] at this; exact this
 refine ⟨⟨_, he, rfl⟩, h _ he ⟨_, Heap.get?_push_of_some _ (Heap.get?_push_size _ rfl), rfl, rfl⟩ (by rw [Heap.size_push, hz]) fun b o y => Heap.get?_push_of_some _ (Heap.get?_push_of_some _ y)⟩
end
theorem sub_bytes_set : isSubtype (.type "bytes") (.type "set") = pure false := by rw [isSubtype_type]; kernel_rfl
theorem sub_bytes_frozenset : isSubtype (.type "bytes") (.type "frozenset") = pure false := by rw [isSubtype_type]; kernel_rfl
section
variable {w : World} {A : Around} {E : Value → Shared → Prop} {s : Shared}
theorem call_set_by {b : Array UInt8} {t : Tok} {Q : Value → Shared → Prop} (hh : A.handled = none) (hb : b.size + 1 < scanBound)
  (h : ∀ (h' : Heap) (tk : Nat), h'.SetOf (intKind rw_iw0008_01.prog w) s.heap.objs.size (fun k' => (firstMet (fun i => (KBw.bInts b).getD i 0) b.size).any (· == k')) (firstMet (fun i => (KBw.bInts b).getD i 0) b.size).length →
   (∀ c o, c < s.heap.objs.size → s.heap.get? c = some o → h'.get? c = some o) → Q (.ref s.heap.objs.size) { s with heap := h', toks := tk }) :
  wpAny (Md w) A (call (.type "set") [.bytes b t]) Q E s := by
 obtain ⟨c, tl, hmro⟩ := F.called_set.mro
 have hmade := F.called_set.made
 have hsub := F.called_set.sub
 refine wpAny_call (codeAny_of_tree ?_)
 show wpAny _ _ (callAny (.type "set") _) _ _ _
 refine wpAny_pure ⟨Code.quiet_builtin _ (by decide +kernel), codeAny_builtin F.entry_type_call ?_⟩
 rw [Around.under_plain (weight_type_call_type "set" [.bytes b t] []) rfl]
 have h1 := F.called_set.notType
 have h2 := F.called_set.canCreate
 have hct := F.typeCall_set_1 (.bytes b t)
 repeat (any_goals (first | assumption | with_reducible (first | refine wpAny_bind ?_ | refine wpAny_pure ?_ | refine wpAny_holding ?_ | refine wpAny_standAt ?_ | refine wpAny_point ?_ | refine wpAny_rule ?_ | refine wpAny_letGo ?_ | refine wpAny_mkInt' ?_ | refine wpAny_fresh' ?_ | refine wpAny_alloc' ?_ | refine wpAny_attempt ?_ | refine wpAny_throw ?_ | ((show wpAny _ _ (mkStr _) _ _ _); refine wpAny_mkStr' ?_) | refine wpAny_of_eq (by assumption) ?_ | refine wpAny_typeOf (by assumption) ?_ | refine wpAny_specialOf_val (by assumption) (by assumption) ?_ | refine wpAny_specialOf (by assumption) (by assumption) ?_ | refine wpAny_isInstance_val (by assumption) (by assumption) ?_ | refine wpAny_isInstance (by assumption) (by assumption) ?_ | refine wpAny_call ?_ | refine wpAny_runValue ?_ | refine wpAny_run ?_) | wp_delta | ((with_reducible apply wpAny_load'); focus (heap_get; done)) | ((with_reducible apply wpAny_update'); focus (heap_get; done)) | ((with_reducible apply wpAny_loadPart'); focus (heap_get; done)) | ((with_reducible apply wpAny_updatePart'); focus (heap_get; done)) | ((with_reducible apply wpAny_handled_none); focus (assumption; done)) | ((with_reducible apply wpAny_ite_false); focus (rfl; done)) | ((with_reducible apply wpAny_ite_true); focus (rfl; done)) | ((with_reducible apply wpAny_ite_false); focus (simp [*]; done)) | ((with_reducible apply wpAny_ite_true); focus (simp [*]; done)) | with_reducible_and_instances refine wpAny_pure ?_ | with_reducible_and_instances refine wpAny_bind ?_))
 refine codeAny_mono (code_set_new_1 (.bytes b t) (E := E) (Q₁ := fun obj s₁ => ∃ led : Bool, obj = .ref s.heap.objs.size ∧ s₁ = { s with heap := s.heap.push { cls := .type "set", dict := none, data := .set #[] 0 (.fresh 0 0 led) } }) fun led => ⟨led, rfl, rfl⟩) fun r s₁ hr => ?_
 cases r with
 | error e => exact hr
 | ok fl =>
  cases fl with
  | ret obj =>
   obtain ⟨led, rfl, rfl⟩ := hr
   have hS : (s.heap.push { cls := .type "set", dict := none, data := .set #[] 0 (.fresh 0 0 led) }).get? s.heap.objs.size = some { cls := .type "set", dict := none, data := .set #[] 0 (.fresh 0 0 led) } := Heap.get?_push_size _ rfl
   have hT : Shared.TypeIs { s with heap := s.heap.push { cls := .type "set", dict := none, data := .set #[] 0 (.fresh 0 0 led) } } (.ref s.heap.objs.size) "set" := ⟨_, hS, rfl⟩
   have hli := F.called_set.init.lookup
   have hbi := F.called_set.init.bind (.ref s.heap.objs.size)
   repeat (any_goals (first | assumption | with_reducible (first | refine wpAny_bind ?_ | refine wpAny_pure ?_ | refine wpAny_holding ?_ | refine wpAny_standAt ?_ | refine wpAny_point ?_ | refine wpAny_rule ?_ | refine wpAny_letGo ?_ | refine wpAny_mkInt' ?_ | refine wpAny_fresh' ?_ | refine wpAny_alloc' ?_ | refine wpAny_attempt ?_ | refine wpAny_throw ?_ | ((show wpAny _ _ (mkStr _) _ _ _); refine wpAny_mkStr' ?_) | refine wpAny_of_eq (by assumption) ?_ | refine wpAny_typeOf (by assumption) ?_ | refine wpAny_specialOf_val (by assumption) (by assumption) ?_ | refine wpAny_specialOf (by assumption) (by assumption) ?_ | refine wpAny_isInstance_val (by assumption) (by assumption) ?_ | refine wpAny_isInstance (by assumption) (by assumption) ?_ | refine wpAny_call ?_ | refine wpAny_runValue ?_ | refine wpAny_run ?_) | wp_delta | ((with_reducible apply wpAny_load'); focus (heap_get; done)) | ((with_reducible apply wpAny_update'); focus (heap_get; done)) | ((with_reducible apply wpAny_loadPart'); focus (heap_get; done)) | ((with_reducible apply wpAny_updatePart'); focus (heap_get; done)) | ((with_reducible apply wpAny_handled_none); focus (assumption; done)) | ((with_reducible apply wpAny_ite_false); focus (rfl; done)) | ((with_reducible apply wpAny_ite_true); focus (rfl; done)) | ((with_reducible apply wpAny_ite_false); focus (simp [*]; done)) | ((with_reducible apply wpAny_ite_true); focus (simp [*]; done)) | with_reducible_and_instances refine wpAny_pure ?_ | with_reducible_and_instances refine wpAny_bind ?_))
   refine codeAny_mono (codeAny_call_builtin (R := wants (fun r s₂ => r = .none ∧ ∃ h' tk, s₂ = { s with heap := h', toks := tk } ∧
     h'.SetOf (intKind rw_iw0008_01.prog w) s.heap.objs.size (fun k' => (firstMet (fun i => (KBw.bInts b).getD i 0) b.size).any (· == k')) (firstMet (fun i => (KBw.bInts b).getD i 0) b.size).length ∧
     (∀ b o, b < s.heap.objs.size → s.heap.get? b = some o → h'.get? b = some o)) E) F.called_set.init.plain F.entry_set_init (check_set_init_1 hT ?_)) fun r₂ s₂ hr₂ => ?_
   ·have hsls := sub_bytes_set
    have hslf := sub_bytes_frozenset
    have hne : (Value.type "bytes" == Value.type "dict") = false := by decide
    unfold Builtin.«set.__init__» noKeywords Builtin.Frozenset.updateFrom
    generalize hPI : pyIter = PI
    repeat (first | with_reducible (first | refine wpAny_bind ?_ | refine wpAny_pure ?_ | refine wpAny_holding ?_ | refine wpAny_standAt ?_ | refine wpAny_point ?_ | refine wpAny_rule ?_ | refine wpAny_letGo ?_ | refine wpAny_mkInt' ?_ | refine wpAny_fresh' ?_ | refine wpAny_alloc' ?_ | refine wpAny_attempt ?_ | refine wpAny_throw ?_ | ((show wpAny _ _ (mkStr _) _ _ _); refine wpAny_mkStr' ?_) | refine wpAny_of_eq (by assumption) ?_ | refine wpAny_typeOf (by assumption) ?_ | refine wpAny_specialOf_val (by assumption) (by assumption) ?_ | refine wpAny_specialOf (by assumption) (by assumption) ?_ | refine wpAny_isInstance_val (by assumption) (by assumption) ?_ | refine wpAny_isInstance (by assumption) (by assumption) ?_ | refine wpAny_call ?_ | refine wpAny_runValue ?_ | refine wpAny_run ?_) | wp_delta | ((with_reducible apply wpAny_load'); focus (heap_get; done)) | ((with_reducible apply wpAny_update'); focus (heap_get; done)) | ((with_reducible apply wpAny_loadPart'); focus (heap_get; done)) | ((with_reducible apply wpAny_updatePart'); focus (heap_get; done)) | ((with_reducible apply wpAny_handled_none); focus (assumption; done)) | ((with_reducible apply wpAny_ite_false); focus (rfl; done)) | ((with_reducible apply wpAny_ite_true); focus (rfl; done)) | ((with_reducible apply wpAny_ite_false); focus (simp [*]; done)) | ((with_reducible apply wpAny_ite_true); focus (simp [*]; done)) | with_reducible_and_instances refine wpAny_pure ?_ | with_reducible_and_instances refine wpAny_bind ?_)
    subst hPI
    refine KBw.pyIter_bytes ?_
    refine wpAny_bind (wpAny_runValue ?_)
    have hh3 : A.in1.in1.in1.handled = none := by simp [hh]
    have hz : (s.heap.push { cls := .type "set", dict := none, data := .set #[] 0 (.fresh 0 0 led) }).objs.size = s.heap.objs.size + 1 := Heap.size_push ..
    have hSf : s.heap.objs.size ∉ [(s.heap.push { cls := .type "set", dict := none, data := .set #[] 0 (.fresh 0 0 led) }).objs.size] := by
     rw [hz, List.mem_singleton]
     exact Nat.ne_of_lt (Nat.lt_succ_self _)
    have hval : ∀ (i : Nat) (v : Value), (∃ c u, b[i]? = some c ∧ v = .int (c.toNat : Int) u) → ∃ t, v = .int ((fun i => (KBw.bInts b).getD i 0) i) t := fun i v ⟨c, u, hc, hv⟩ => ⟨u, by
     have := KBw.ints_get hc
     rw [hv]
     show Value.int _ u = Value.int ((KBw.bInts b).getD i 0) u
     rw [List.getD_eq_getElem?_getD, this]
     rfl⟩
    refine codeAny_set_update_loopS ((KBw.walks hh3 _ b t).toS) s.heap.objs.size
     hSf (fun i => (KBw.bInts b).getD i 0) hval hb (b.size - 0) 0 _ (by omega) (Nat.zero_le _)
     ⟨_, Heap.get?_push_size _ rfl, rfl, rfl⟩ ?hS0 ?hR
    case hS0 =>
     have hget : ((s.heap.push { cls := .type "set", dict := none, data := .set #[] 0 (.fresh 0 0 led) }).push { cls := .type "bytes_iterator", data := .fields #[.bytes b t, .int 0 0] }).get? s.heap.objs.size
       = some { cls := .type "set", dict := none, data := .set #[] 0 (.fresh 0 0 led) } := Heap.get?_push_of_some _ hS
     exact SetOf_congr ((setObjOf_fresh (knd := intKind rw_iw0008_01.prog w) led).setOf hget (by unfold scanBound; omega)) (fun _ => rfl) rfl
    case hR =>
     intro s' hm hS'
     obtain ⟨h', g', d', tk', os'⟩ := s'
     have eg : g' = s.gens := hm.gens
     have ed : d' = s.drawn := hm.drawn
     have eo : os' = s.os := hm.os
     subst eg; subst ed; subst eo
     show wpAny _ _ _ _ _ _
     refine wpAny_pure ?_
     show wpAny _ _ (ret Value.none) _ _ _
     refine wpAny_pure ⟨rfl, h', tk', rfl, hS', fun c o hc e => ?_⟩
     have hb1 : c ≠ s.heap.objs.size := Nat.ne_of_lt hc
     have hb2 : c ≠ (s.heap.push { cls := .type "set", dict := none, data := .set #[] 0 (.fresh 0 0 led) }).objs.size := by
      rw [hz]; exact Nat.ne_of_lt (Nat.lt_succ_of_lt hc)
     exact hm.heap c o (by simp only [List.mem_cons, List.mem_singleton, List.not_mem_nil, or_false, not_or]; exact ⟨hb1, hb2⟩) (Heap.get?_push_of_some _ (Heap.get?_push_of_some _ e))
   ·cases r₂ with
    | error e => exact hr₂
    | ok fl₂ =>
     cases fl₂ with
     | ret r =>
      obtain ⟨rfl, h', tk, rfl, hS', hk'⟩ := hr₂
      repeat (any_goals (first | assumption | with_reducible (first | refine wpAny_bind ?_ | refine wpAny_pure ?_ | refine wpAny_holding ?_ | refine wpAny_standAt ?_ | refine wpAny_point ?_ | refine wpAny_rule ?_ | refine wpAny_letGo ?_ | refine wpAny_mkInt' ?_ | refine wpAny_fresh' ?_ | refine wpAny_alloc' ?_ | refine wpAny_attempt ?_ | refine wpAny_throw ?_ | ((show wpAny _ _ (mkStr _) _ _ _); refine wpAny_mkStr' ?_) | refine wpAny_of_eq (by assumption) ?_ | refine wpAny_typeOf (by assumption) ?_ | refine wpAny_specialOf_val (by assumption) (by assumption) ?_ | refine wpAny_specialOf (by assumption) (by assumption) ?_ | refine wpAny_isInstance_val (by assumption) (by assumption) ?_ | refine wpAny_isInstance (by assumption) (by assumption) ?_ | refine wpAny_call ?_ | refine wpAny_runValue ?_ | refine wpAny_run ?_) | wp_delta | ((with_reducible apply wpAny_load'); focus (heap_get; done)) | ((with_reducible apply wpAny_update'); focus (heap_get; done)) | ((with_reducible apply wpAny_loadPart'); focus (heap_get; done)) | ((with_reducible apply wpAny_updatePart'); focus (heap_get; done)) | ((with_reducible apply wpAny_handled_none); focus (assumption; done)) | ((with_reducible apply wpAny_ite_false); focus (rfl; done)) | ((with_reducible apply wpAny_ite_true); focus (rfl; done)) | ((with_reducible apply wpAny_ite_false); focus (simp [*]; done)) | ((with_reducible apply wpAny_ite_true); focus (simp [*]; done)) | with_reducible_and_instances refine wpAny_pure ?_ | with_reducible_and_instances refine wpAny_bind ?_))
      exact h _ _ hS' hk'
     | _ => exact hr₂.elim
  | _ => exact hr.elim
end
end
section
noncomputable abbrev pairObj (b : Array UInt8) (i : Nat) (u v : Tok) : Obj := { cls := .type "tuple", data := .seq #[.int ((b.getD i 0).toNat : Int) u, .int (i : Int) v] }
noncomputable def PY (C : Addr) (fp wr : List Addr) (b : Array UInt8) : Protocol := fun n s₀ v s' kap => (∃ T u u', v = .ref T ∧ s'.heap.get? T = some (pairObj b (b.size - 1 - n) u u')) ∧ GenSince C wr s₀ s' ∧ ∀ s'', (∀ c ∈ C :: fp, ∀ o, s'.heap.get? c = some o → s''.heap.get? c = some o) → kap (.send .none) s''
noncomputable def PR (C : Addr) (wr : List Addr) : GenEnd := fun n s₀ r s₁ => r = .ok .next ∧ (n = 0 ∧ GenSince C wr s₀ s₁)
section
variable {w : World} {A : Around}
theorem tuple2 {A : Around} {E : Value → Shared → Prop} {s : Shared} {env : Env} {x y : Str} {p1 p2 p : Pos} {k : Nat} {va vb : Value} {m : Str → Option Value} {Q : Value → Shared → Prop} (hn : s.heap.Ns env.locals m) (hk : env.scope.kind = .function) (hx : env.kindOf x = some .local) (hy : env.kindOf y = some .local) (hmx : m x = some va) (hmy : m y = some vb) (dx : (x == ("__debug__" : Str)) = false) (dy : (y == ("__debug__" : Str)) = false)
  (h : Q (.ref s.heap.objs.size) { s with heap := s.heap.push { cls := .type "tuple", data := .seq #[va, vb] } }) :
  wpAny (Md w) A (eval (.Tuple [.Name x p1, .Name y p2] k p) env) Q E s := by
 refine wpAny_Tuple_spliced ?_
 refine spliced_more (wpAny_Name (wpAny_loadName_local hk hx hn hmx ?_) dx) (by rfl)
 refine spliced_more (wpAny_Name (wpAny_loadName_local hk hy hn hmy ?_) dy) (by rfl)
 exact spliced_none ⟨by rw [sizeLine_eq]; simp, h⟩
theorem seg_pairs {iter : Expr} {xa xb : Str} {pa pb pt p1 p2 pe : Pos} {kt ke : Nat} {scope : Scope} {pos : Pos} {e it : Addr} {b : Array UInt8} {t : Tok} {cenv : Env}
  (hh : A.handled = none) (hei : e ≠ it) (hab : xa ≠ xb) (hCe : cenv.locals ≠ e) (hCi : cenv.locals ≠ it) (hkd : cenv.scope.kind = .function) (hxa : cenv.kindOf xa = some .local) (hxb : cenv.kindOf xb = some .local) (da : (xa == ("__debug__" : Str)) = false) (db : (xb == ("__debug__" : Str)) = false)
  (hp : (cenv.scope.kind == .class || (cenv.scope.kind == .module && cenv.locals != cenv.globals)) = false) (hco : cenv.scope.isCoroutine = false) :
  ∀ (k i : Nat) (s₀ s : Shared) (m : Str → Option Value), b.size - i = k → i ≤ b.size → (∃ old, IsEnum s.heap e it i old) → KBw.IsBytesIter s.heap it b t i → s.heap.Ns cenv.locals m → GenSince cenv.locals [e, it] s₀ s →
   Seg (Md w) A (PR cenv.locals [e, it]) (PY cenv.locals [e, it] [e, it] b) k s₀
    (.compLoop (.GeneratorExp (.Tuple [.Name xb p1, .Name xa p2] ke pe) [⟨.Tuple [.Name xa pa, .Name xb pb] kt pt, iter, [], 0⟩] scope pos) 0 (.ref e) .none cenv)
    ((Md w).den (.compLoop (.GeneratorExp (.Tuple [.Name xb p1, .Name xa p2] ke pe) [⟨.Tuple [.Name xa pa, .Name xb pb] kt pt, iter, [], 0⟩] scope pos) 0 (.ref e) .none cenv)) [] s := by
 have hh' : (A.over (.compLoop (.GeneratorExp (.Tuple [.Name xb p1, .Name xa p2] ke pe) [⟨.Tuple [.Name xa pa, .Name xb pb] kt pt, iter, [], 0⟩] scope pos) 0 (.ref e) .none cenv) []).handled = none := hh
 have W : ∀ A' : Around, A'.handled = none → WalksU rw_iw0008_01.prog w A' e (e :: [it]) [e, it] b.size _ _ _ := fun A' hA => (WalksT.enumerateD (drawsBy (w := w) (A := A'.in1) hA it b t) e hei (by simpa using hei) (by simp)).toU
 have hCw : cenv.locals ∉ [e, it] := by simp [hCe, hCi]
 intro k
 induction k with
 | zero =>
  intro i s₀ s m hk hi he hit hn hsince
  have hin : i = b.size := Nat.le_antisymm hi (Nat.le_of_sub_eq_zero hk)
  subst hin
  show Seg _ A _ _ _ s₀ _ ((compTurn (.GeneratorExp (.Tuple [.Name xb p1, .Name xa p2] ke pe) [⟨.Tuple [.Name xa pa, .Name xb pb] kt pt, iter, [], 0⟩] scope pos) 0 (.ref e) .none cenv).onRaise (leaving cenv)) [] s
  rw [compTurn_gen, Sem.onRaise_eq_wrap]
  refine seg_bind_wrap (wpAny_standAt ?_)
  refine seg_bind_wrap ((W _ hh').done s _ _ ⟨he, hit⟩ fun h' tk hk' => ?_)
  exact seg_end (.ok .next) ⟨rfl, rfl, hsince.step fun b o _ hw e => hk' b o hw e⟩
 | succ k ih =>
  intro i s₀ s m hk hi he hit hn hsince
  have hlt : i < b.size := Nat.lt_of_sub_eq_succ hk
  show Seg _ A _ _ _ s₀ _ ((compTurn (.GeneratorExp (.Tuple [.Name xb p1, .Name xa p2] ke pe) [⟨.Tuple [.Name xa pa, .Name xb pb] kt pt, iter, [], 0⟩] scope pos) 0 (.ref e) .none cenv).onRaise (leaving cenv)) [] s
  rw [compTurn_gen, Sem.onRaise_eq_wrap]
  refine seg_bind_wrap (wpAny_standAt ?_)
  refine seg_bind_wrap ((W _ hh').item i s _ _ hlt ⟨he, hit⟩ fun T vals h₁ tk₁ hPv hT₁ hmid hk₁ => ?_)
  obtain ⟨ti, x, ⟨c, u, hc, rfl⟩, rfl⟩ := hPv
  refine seg_bind_wrap ((W _ hh').go _ _ _ i T _ _ _ hmid fun h₂ hst₂ hk₂ => ?_)
  have hT₂ : h₂.IsTuple T _ := let ⟨o, e, r⟩ := hT₁; ⟨o, hk₂ _ o ((W _ hh').apart i T _ hmid) e, r⟩
  refine seg_bind_wrap (wpAny_assign_Tuple hh' hT₂ rfl rfl fun h₃ hx₃ => ?_)
  replace hx₃ : Heap.ExtBut h₂.objs.size h₂ h₃ := hx₃
  have old₃ : ∀ b o, h₂.get? b = some o → h₃.get? b = some o := fun b o e => hx₃ b o (Nat.ne_of_lt (Heap.lt_size e)) e
  show wpAny _ _ (do holding [_] (assign (.Name xa pa) cenv _); do holding [] (assign (.Name xb pb) cenv _); pure ()) _ _ _
  refine wpAny_bind (wpAny_holding (wpAny_assign_Name (wpAny_storeName_local hxa (hn.at' fun o e => old₃ _ o (hk₂ _ o hCw (hk₁ _ o hCw e))) (fun h₄ hn₄ hs₄ => ?_) hp)))
  replace hs₄ : Heap.SameBut cenv.locals h₃ h₄ := hs₄
  refine wpAny_bind (wpAny_holding (wpAny_assign_Name (wpAny_storeName_local hxb hn₄ (fun h₅ hn₅ hs₅ => wpAny_pure ?_) hp)))
  replace hs₅ : Heap.SameBut cenv.locals h₄ h₅ := hs₅
  have up : ∀ b o, b ≠ cenv.locals → b ∉ [e, it] → s.heap.get? b = some o → h₅.get? b = some o := fun b o hbC hbw e => hs₅.extBut b o hbC (hs₄.extBut b o hbC (old₃ b o (hk₂ b o hbw (hk₁ b o hbw e))))
  have hst₅ : (∃ old, IsEnum h₅ e it ((i + 1 : Nat) : Int) old) ∧ KBw.IsBytesIter h₅ it b t (i + 1) := (W _ hh').frame _ _ _ hst₂ fun c hc o x => hs₅.extBut c o (fun q => by subst q; simp [hCe, hCi] at hc) (hs₄.extBut c o (fun q => by subst q; simp [hCe, hCi] at hc) (old₃ c o x))
  have hsince₅ := hsince.step (h' := h₅) (tk := tk₁ + 1 + 1) up
  refine seg_bind_wrap (wpAny_pure ?_)
  simp only [if_true]
  have hy : ∀ v, yieldOut cenv v = yieldValue v := fun v => by simp only [yieldOut, hco, Bool.false_eq_true, if_false]
  simp only [hy]
  rw [Sem.bind_eq_wrap', Sem.bind_eq_wrap', Sem.wrap_wrap, Sem.wrap_wrap]
  refine seg_wrap (tuple2 (va := .int (c.toNat : Int) u) (vb := .int (i : Int) ti) hn₅ hkd hxb hxa (by simp) (by simp [hab]) db da ?_)
  have hTn : (h₅.push { cls := .type "tuple", data := .seq #[.int (c.toNat : Int) u, .int (i : Int) ti] }).get? h₅.objs.size = some (pairObj b (b.size - 1 - k) u ti) := by
   have e1 : b.size - 1 - k = i := ns4 hk hlt
   have e2 : b.getD i 0 = c := by rw [Array.getD_eq_getD_getElem?, hc]; rfl
   rw [e1]
   unfold pairObj
   rw [e2]
   exact Heap.get?_push_size _ rfl
  have pk : ∀ z o, h₅.get? z = some o → (h₅.push { cls := .type "tuple", data := .seq #[.int (c.toNat : Int) u, .int (i : Int) ti] }).get? z = some o := fun _ _ e => Heap.get?_push_of_some _ e
  refine seg_at (seg_yield rfl rfl rfl ⟨⟨_, u, ti, rfl, hTn⟩, hsince₅.step fun c o _ _ x => pk c o x, fun s'' hal => ?_⟩)
  obtain ⟨⟨old, hE⟩, oi, hoi, hri⟩ := hst₅
  refine seg_again rfl (ih (i + 1) s'' s'' _ (ns1 hk) hlt ⟨old, hal e (by simp) _ (pk _ _ hE)⟩ ⟨oi, hal it (by simp) _ (pk _ _ hoi), hri⟩
   (hn₅.at' fun o x => hal _ (List.mem_cons_self ..) o (pk _ o x)) (GenSince.refl _ _ _))
theorem seg_pairs0 {iter : Expr} {xa xb : Str} {pa pb pt p1 p2 pe : Pos} {kt ke : Nat} {scope : Scope} {pos : Pos} {e it : Addr} {b : Array UInt8} {t : Tok} {cenv : Env}
  (hh : A.handled = none) (hei : e ≠ it) (hab : xa ≠ xb) (hCe : cenv.locals ≠ e) (hCi : cenv.locals ≠ it) (hkd : cenv.scope.kind = .function) (hxa : cenv.kindOf xa = some .local) (hxb : cenv.kindOf xb = some .local) (da : (xa == ("__debug__" : Str)) = false) (db : (xb == ("__debug__" : Str)) = false)
  (hp : (cenv.scope.kind == .class || (cenv.scope.kind == .module && cenv.locals != cenv.globals)) = false) (hco : cenv.scope.isCoroutine = false)
  (s : Shared) (m : Str → Option Value) (he : ∃ old, IsEnum s.heap e it (0 : Nat) old) (hit : KBw.IsBytesIter s.heap it b t 0) (hn : s.heap.Ns cenv.locals m) :
   Seg (Md w) A (PR cenv.locals [e, it]) (PY cenv.locals [e, it] [e, it] b) b.size s
    (.compStart (.GeneratorExp (.Tuple [.Name xb p1, .Name xa p2] ke pe) [⟨.Tuple [.Name xa pa, .Name xb pb] kt pt, iter, [], 0⟩] scope pos) 0 (.ref e) .none cenv)
    ((Md w).den (.compStart (.GeneratorExp (.Tuple [.Name xb p1, .Name xa p2] ke pe) [⟨.Tuple [.Name xa pa, .Name xb pb] kt pt, iter, [], 0⟩] scope pos) 0 (.ref e) .none cenv)) [] s := by
 have loop := seg_pairs (w := w) (A := A) (iter := iter) (pa := pa) (pb := pb) (pt := pt) (p1 := p1) (p2 := p2) (pe := pe) (kt := kt) (ke := ke) (scope := scope) (pos := pos) (b := b) (t := t) hh hei hab hCe hCi hkd hxa hxb da db hp hco b.size 0 s s m (Nat.sub_zero _) (Nat.zero_le _) he hit hn (GenSince.refl _ _ _)
 have W := (WalksT.enumerateD (drawsBy (w := w) (A := A.in1) hh it b t) e hei (by simpa using hei) (by simp)).toU
 show Seg _ A _ _ _ _ _ ((compStart (.GeneratorExp (.Tuple [.Name xb p1, .Name xa p2] ke pe) [⟨.Tuple [.Name xa pa, .Name xb pb] kt pt, iter, [], 0⟩] scope pos) 0 (.ref e) .none cenv).onRaise (leaving cenv)) [] s
 unfold compStart
 rw [Sem.onRaise_eq_wrap]
 show Seg _ A _ _ _ _ _ ((ask >>= _).wrap _ _ _ _) [] s
 refine seg_bind_wrap (wpAny_askSetting ?_)
 have hself : ∀ (A' : Around) (Q : Value → Shared → Prop) (E : Value → Shared → Prop), Q (.ref e) s → wpAny (Md w) A' (pyIter (.ref e)) Q E s := fun A' Q E q => by
  obtain ⟨old, hE⟩ := he
  exact wpAny_pyIter_enum hE q
 split
 ·exact seg_again rfl loop
 ·first
   | exact seg_bind_wrap (wpAny_rule (seg_bind_wrap (wpAny_standAt (seg_bind_wrap (hself _ _ _ (seg_again rfl loop))))))
   | (refine seg_bind_wrap (wpAny_rule ?_); show Seg _ A _ _ _ _ _ ((standAt iter.pos >>= _).wrap _ _ _ _) [] s; exact seg_bind_wrap (wpAny_standAt (seg_bind_wrap (hself _ _ _ (seg_again rfl loop)))))
end
end
section
structure GenP (w : World) (A : Around) (a : Addr) (gi : Nat) (C e it : Addr) (b : Array UInt8) (i : Nat) (s : Shared) : Prop where
 gen : s.heap.IsGen a gi
 lim : s.heap.NoLimit
 goes : ∃ gs, s.gens[gi]? = some gs ∧ ∀ s'' : Shared, (∀ c ∈ [C, e, it], ∀ o, s.heap.get? c = some o → s''.heap.get? c = some o) → gs.Goes (Md w) A.in1 (PR C [e, it]) (PY C [e, it] [e, it] b) (b.size - i) (.send .none) s''
section
variable {w : World} {A : Around} {E : Value → Shared → Prop} {s : Shared} {a C e it : Addr} {gi i : Nat} {b : Array UInt8}
theorem GenP.frame {h' : Heap} {tk : Nat} (st : GenP w A a gi C e it b i s) (k : ∀ c ∈ [a, cStatics, C, e, it], ∀ o, s.heap.get? c = some o → h'.get? c = some o) : GenP w A a gi C e it b i { s with heap := h', toks := tk } :=
 ⟨let ⟨o, nm, qn, ho, r⟩ := st.gen; ⟨o, nm, qn, k a (by simp) o ho, r⟩, let ⟨mc, hns, hnn⟩ := st.lim; ⟨mc, hns.at' fun o e => k cStatics (by simp) o e, hnn⟩,
  let ⟨gs, hgs, hgo⟩ := st.goes; ⟨gs, hgs, fun s'' hal => hgo s'' fun c hc o x => hal c hc o (k c (List.mem_cons_of_mem _ (List.mem_cons_of_mem _ hc)) o x)⟩⟩
theorem gp_next {Q : Option Value → Shared → Prop} (hh : A.handled = none) (hroom : A.depth < recursionLimit) (ha : a ∉ [C, e, it]) (hcs : cStatics ∉ [C, e, it]) (hi : i < b.size) (st : GenP w A a gi C e it b i s)
  (hQ : ∀ T u u' h' tk gn, h'.get? T = some (pairObj b i u u') → GenP w A a gi C e it b (i + 1) { s with heap := h', toks := tk, gens := gn } → (∀ c o, c ∉ [C, e, it] → s.heap.get? c = some o → h'.get? c = some o) → GenOnlyQ gi s.gens gn → Q (some (.ref T)) { s with heap := h', toks := tk, gens := gn }) :
  wpAny (Md w) A (pyNext (.ref a)) Q E s := by
 obtain ⟨hg, hl, gs, hgs, hgo⟩ := st
 obtain ⟨m, hm⟩ : ∃ m, b.size - i = m + 1 := ⟨_, ns2 hi⟩
 rw [hm] at hgo
 have nin : ∀ c, c ∉ [C, e, it] → c ≠ C ∧ c ∉ [e, it] := fun c hc => ⟨fun q => hc (by simp [q]), fun q => hc (List.mem_cons_of_mem _ q)⟩
 refine wpAny_pyNext_genexpQ (P := fun n s₀ s₁ => n = 0 ∧ GenSince C [e, it] s₀ s₁) hh hl hroom hg hgs (hgo _ fun _ _ _ e => e) (fun v s₁ gs' hb hv => ?_) (fun s₁ hp h' hk => ?_)
 ·obtain ⟨⟨T, u, u', rfl, hT⟩, ⟨h₁, tk₁, rfl, hk₁⟩, hkap⟩ := hv
  have hidx : b.size - 1 - (m + 1 - 1) = i := ns4 hm hi
  rw [hidx] at hT
  refine hQ T u u' h₁ tk₁ _ hT ⟨let ⟨o, nm, qn, ho, r⟩ := hg; ⟨o, nm, qn, hk₁ a o (nin a ha).1 (nin a ha).2 ho, r⟩, (let ⟨mc, hns, hnn⟩ := hl; ⟨mc, hns.at' fun o e => hk₁ cStatics o (nin _ hcs).1 (nin _ hcs).2 e, hnn⟩), gs', setGen_self (gs := .running) (setGen_self hgs), fun s'' hal => ?_⟩
   (fun c o hc x => hk₁ c o (nin c hc).1 (nin c hc).2 x) (GenOnlyQ.of ((GenOnly.setGen s gi .running).trans (GenOnly.setGen _ gi gs')) (setGen_self (gs := .running) (setGen_self hgs)) hb)
  have e' : b.size - (i + 1) = m := ns1 hm
  rw [e']
  exact hkap s'' hal
 ·exact absurd hp.1 (Nat.succ_ne_zero m)
theorem gp_done {Q : Option Value → Shared → Prop} (hh : A.handled = none) (hroom : A.depth < recursionLimit) (st : GenP w A a gi C e it b b.size s)
  (hQ : ∀ h' tk gn, (∀ c o, c ∉ [C, e, it] → s.heap.get? c = some o → h'.get? c = some o) → GenOnlyQ gi s.gens gn → gn[gi]? = some .finished → Q none { s with heap := h', toks := tk, gens := gn }) :
  wpAny (Md w) A (pyNext (.ref a)) Q E s := by
 obtain ⟨hg, hl, gs, hgs, hgo⟩ := st
 rw [Nat.sub_self] at hgo
 have nin : ∀ c, c ∉ [C, e, it] → c ≠ C ∧ c ∉ [e, it] := fun c hc => ⟨fun q => hc (by simp [q]), fun q => hc (List.mem_cons_of_mem _ q)⟩
 refine wpAny_pyNext_genexpQ (P := fun n s₀ s₁ => n = 0 ∧ GenSince C [e, it] s₀ s₁) hh hl hroom hg hgs (hgo _ fun _ _ _ e => e) (fun v s₁ gs' hb hv => ?_) (fun s₁ hp h' hk => ?_)
 ·obtain ⟨_, _, hkap⟩ := hv
  exact False.elim (hkap s₁ fun _ _ _ e => e)
 ·obtain ⟨_, h₁, tk₁, rfl, hk₁⟩ := hp
  have hf := setGen_self (x := GenState.finished) (gs := .running) (setGen_self (x := GenState.running) hgs)
  exact hQ _ _ _ (fun c o hc x => hk c o (hk₁ c o (nin c hc).1 (nin c hc).2 x)) (GenOnlyQ.of ((GenOnly.setGen s gi .running).trans (GenOnly.setGen _ gi .finished)) hf rfl) hf
noncomputable def KV (b : Array UInt8) (i : Nat) (kvs : List (Int × Value)) : Prop := kvs.length = i ∧ ∀ j, j < i → ∃ t, kvs[j]? = some ((KBw.bInts b).getD j 0, .int (j : Int) t)
theorem kv_stored {kvs : List (Int × Value)} {t : Tok} (hnd : (KBw.bInts b).Nodup) (hi : i < b.size) (h : KV b i kvs) : stored kvs ((KBw.bInts b).getD i 0) (.int (i : Int) t) = kvs ++ [((KBw.bInts b).getD i 0, .int (i : Int) t)] ∧ KV b (i + 1) (kvs ++ [((KBw.bInts b).getD i 0, .int (i : Int) t)]) := by
 obtain ⟨h1, h2⟩ := h
 have hlen : (KBw.bInts b).length = b.size := KBw.ints_length ..
 have hno : ¬ (kvs.any fun kv => decide (kv.1 = (KBw.bInts b).getD i 0)) = true := by
  intro q
  obtain ⟨kv, hm, hq⟩ := List.any_eq_true.mp q
  obtain ⟨j, hj, rfl⟩ := List.getElem_of_mem hm
  obtain ⟨t', e⟩ := h2 j (by omega)
  rw [List.getElem?_eq_getElem hj] at e
  injection e with e
  rw [e] at hq
  have hq : (KBw.bInts b).getD j 0 = (KBw.bInts b).getD i 0 := of_decide_eq_true hq
  have hj' : j < (KBw.bInts b).length := by omega
  have hi' : i < (KBw.bInts b).length := by omega
  rw [List.getD_eq_getElem?_getD, List.getD_eq_getElem?_getD, List.getElem?_eq_getElem hj', List.getElem?_eq_getElem hi'] at hq
  exact List.pairwise_iff_getElem.mp hnd j i hj' hi' (by omega) hq
 refine ⟨by unfold stored; rw [if_neg hno], by simp [h1], fun j hj => ?_⟩
 by_cases hji : j = i
 ·subst hji
  exact ⟨t, by rw [List.getElem?_append_right (by omega), h1]; simp⟩
 ·obtain ⟨t', e⟩ := h2 j (by omega)
  exact ⟨t', by rw [List.getElem?_append_left (by omega)]; exact e⟩
theorem kv_zero : KV b 0 [] := ⟨rfl, fun j hj => absurd hj (Nat.not_lt_zero j)⟩
theorem entry_du : entryFor table "dict.update.loop" = some Builtin.«dict.update.loop» := entryFor_of_tree (by kernel_rfl)
theorem plain_du : plainId "dict.update.loop" = true := by decide +kernel
theorem dict_loop {R : Result → Shared → Prop} {D : Addr} (hh : A.handled = none) (hroom : A.in1.depth < recursionLimit) (ha : a ∉ [C, e, it]) (hcs : cStatics ∉ [C, e, it]) (hD : D ∉ [a, cStatics, C, e, it]) (hnd : (KBw.bInts b).Nodup) (hb : b.size ≤ 1000) :
  ∀ (k i : Nat) (s : Shared) (kvs : List (Int × Value)), b.size - i = k → i ≤ b.size → GenP w A.in1 a gi C e it b i s → s.heap.DictOf (intKind rw_iw0008_01.prog w) D kvs → KV b i kvs →
   (∀ h' tk gn kvs', h'.DictOf (intKind rw_iw0008_01.prog w) D kvs' → KV b b.size kvs' → (∀ c o, c ∉ [D, C, e, it] → s.heap.get? c = some o → h'.get? c = some o) → GenOnlyQ gi s.gens gn → gn[gi]? = some .finished → R (.ok (.ret .none)) { s with heap := h', toks := tk, gens := gn }) →
   codeAny (Md w) A (.builtin "dict.update.loop" ⟨[.ref D, .ref a, rawInt i, .none], []⟩) R s := by
 intro k
 have hDn : D ∉ [C, e, it] := fun q => hD (List.mem_cons_of_mem _ (List.mem_cons_of_mem _ q))
 induction k with
 | zero =>
  intro i s kvs hk hi st hd hkv hR
  have hin : i = b.size := Nat.le_antisymm hi (Nat.le_of_sub_eq_zero hk)
  subst hin
  refine codeAny_builtin entry_du ?_
  rw [Around.under_plainId plain_du _]
  show wpAny _ A.in1 (pyNext (.ref a) >>= _) _ _ s
  refine wpAny_bind (gp_done (by exact hh) hroom st fun h' tk gn hk hg hf => ?_)
  show wpAny _ A.in1 (Builtin.Dict.addKeywords D [] >>= _) _ _ _
  refine wpAny_bind (wpAny_pure (wpAny_pure (hR _ _ _ kvs ?_ hkv (fun c o hc x => hk c o (fun q => hc (List.mem_cons_of_mem _ q)) x) hg hf)))
  obtain ⟨o, es, ep, ho, r⟩ := hd
  exact ⟨o, es, ep, hk D o hDn ho, r⟩
 | succ k ih =>
  intro i s kvs hk hi st hd hkv hR
  have hlt : i < b.size := Nat.lt_of_sub_eq_succ hk
  refine codeAny_builtin entry_du ?_
  rw [Around.under_plainId plain_du _]
  show wpAny _ A.in1 (pyNext (.ref a) >>= _) _ _ s
  refine wpAny_bind (gp_next (by exact hh) hroom ha hcs hlt st fun T u u' h' tk gn hT st' hk' hg => ?_)
  have hd' : h'.DictOf (intKind rw_iw0008_01.prog w) D kvs := by
   obtain ⟨o, es, ep, ho, r⟩ := hd
   exact ⟨o, es, ep, hk' D o hDn ho, r⟩
  show wpAny _ A.in1 (holding [Value.ref T] _ >>= _) _ _ _
  refine wpAny_bind (wpAny_holding (wpAny_bind (wpAny_tryCatch ?_)))
  unfold Builtin.Dict.pairItems
  refine wpAny_bind (wpAny_typeOf (T := "tuple") ⟨_, hT, rfl⟩ ?_)
  rw [if_pos (by decide)]
  refine wpAny_bind (wpAny_seqItems hT rfl ?_)
  refine wpAny_pure ?_
  have ek : ((b.getD i 0).toNat : Int) = (KBw.bInts b).getD i 0 := by
   unfold KBw.bInts
   rw [List.getD_eq_getElem?_getD, List.getElem?_map, Array.getElem?_toList, Array.getD_eq_getD_getElem?, Array.getElem?_eq_getElem hlt]
   rfl
  rw [ek]
  show wpAny _ A.in1 (holding [Value.int ((KBw.bInts b).getD i 0) u, Value.int (i : Int) u'] (dictSet D (Value.int ((KBw.bInts b).getD i 0) u) (Value.int (i : Int) u'))) _ _ _
  obtain ⟨est, hkv'⟩ := kv_stored (t := u') hnd hlt hkv
  refine wpAny_holding (wpAny_dictSet_pairs (knd := intKind rw_iw0008_01.prog w) (k := (KBw.bInts b).getD i 0) (intKind_is _ _ _ _) hd' (fun h₂ hd₂ hs₂ => ?_) (by rw [hkv.1, sizeLine_eq]; omega))
  replace hs₂ : Heap.SameBut D h' h₂ := hs₂
  rw [est] at hd₂
  have st₂ := st'.frame (h' := h₂) (tk := tk + 1) fun c hc o x => hs₂.extBut c o (fun q => hD (q ▸ hc)) x
  rw [show (i : Int) + 1 = ((i + 1 : Nat) : Int) by omega]
  refine wpAny_pure ⟨plainId_quiet plain_du _, ih (i + 1) _ _ (ns1 hk) hlt st₂ hd₂ hkv' fun h₃ tk₃ gn₃ kvs' hd₃ hkv₃ hk₃ hg₃ hf₃ => ?_⟩
  refine hR h₃ tk₃ gn₃ kvs' hd₃ hkv₃ (fun c o hc x => hk₃ c o hc (hs₂.extBut c o (fun q => hc (by simp [q])) (hk' c o (fun q => hc (List.mem_cons_of_mem _ q)) x))) (hg.trans hg₃) hf₃
end
end
theorem gen_getattr_none : typeLookup (.type "generator") "__getattr__" = pure none := by rw [typeLookup_type, builtinLookup_eq_fast]; kernel_rfl
theorem gen_keys_none : typeLookup (.type "generator") "keys" = pure none := by rw [typeLookup_type, builtinLookup_eq_fast]; kernel_rfl
theorem gen_slot_ga : Slot "generator" "__getattribute__" "object.__getattribute__" :=
 .of (owner := "object") (n := "__getattribute__") (by rw [typeLookup_type, builtinLookup_eq_fast]; kernel_rfl) (by decide +kernel) (by decide +kernel) (by decide +kernel)
  (by first | exact .inl (by decide +kernel) | exact .inr (by decide +kernel)) (by rw [isSubtype_type]; kernel_rfl)
theorem gen_entry_ga : entryFor table "object.__getattribute__" = some Builtin.«object.__getattribute__» := entryFor_of_tree (by kernel_rfl)
theorem gen_args_ga (a b : Value) : argsOk "object.__getattribute__" ⟨[a, b], []⟩ := by
 unfold argsOk; kernel_rfl
theorem gen_miss (a : Addr) (fs : Array Value) (sl : Array (Option Value)) (name : Str) (u : Tok) (hmiss : typeLookup (.type "generator") name = pure none) (hname : (["__module__", "__name__", "__qualname__", "__doc__", "__annotations__"] : List Str).contains name = false) (hsz : name.length + 100 ≤ sizeLine := by size_fits) :
  Meets (Builtin.«object.__getattribute__» ⟨[.ref a, .str name u], []⟩) (fun A R s => s.heap.get? a = some { cls := .type "generator", dict := none, data := .fields fs, slots := sl } ∧ raisesAttr (.ref a) name A R s) :=
 Meets.of_wp fun prog w A R s hs => by
  obtain ⟨hp, g, d, tk, os⟩ := s
  obtain ⟨hx, hs⟩ := hs
  have hT : (⟨hp, g, d, tk, os⟩ : Shared).TypeIs (.ref a) "generator" := ⟨_, hx, rfl⟩
  unfold Builtin.«object.__getattribute__»
  repeat (any_goals (first | assumption | with_reducible (first | refine wpAny_bind ?_ | refine wpAny_pure ?_ | refine wpAny_holding ?_ | refine wpAny_standAt ?_ | refine wpAny_point ?_ | refine wpAny_rule ?_ | refine wpAny_letGo ?_ | refine wpAny_mkInt' ?_ | refine wpAny_fresh' ?_ | refine wpAny_alloc' ?_ | refine wpAny_attempt ?_ | refine wpAny_throw ?_ | ((show wpAny _ _ (mkStr _) _ _ _); refine wpAny_mkStr' ?_) | refine wpAny_of_eq (by assumption) ?_ | refine wpAny_typeOf (by assumption) ?_ | refine wpAny_specialOf_val (by assumption) (by assumption) ?_ | refine wpAny_specialOf (by assumption) (by assumption) ?_ | refine wpAny_isInstance_val (by assumption) (by assumption) ?_ | refine wpAny_isInstance (by assumption) (by assumption) ?_ | refine wpAny_call ?_ | refine wpAny_runValue ?_ | refine wpAny_run ?_) | wp_delta | ((with_reducible apply wpAny_load'); focus (heap_get; done)) | ((with_reducible apply wpAny_update'); focus (heap_get; done)) | ((with_reducible apply wpAny_loadPart'); focus (heap_get; done)) | ((with_reducible apply wpAny_updatePart'); focus (heap_get; done)) | ((with_reducible apply wpAny_handled_none); focus (assumption; done)) | ((with_reducible apply wpAny_ite_false); focus (rfl; done)) | ((with_reducible apply wpAny_ite_true); focus (rfl; done)) | ((with_reducible apply wpAny_ite_false); focus (simp [*]; done)) | ((with_reducible apply wpAny_ite_true); focus (simp [*]; done)) | with_reducible_and_instances refine wpAny_pure ?_ | with_reducible_and_instances refine wpAny_bind ?_))
  simp only [hname, Bool.false_eq_true, if_false]
  repeat (any_goals (first | assumption | with_reducible (first | refine wpAny_bind ?_ | refine wpAny_pure ?_ | refine wpAny_holding ?_ | refine wpAny_standAt ?_ | refine wpAny_point ?_ | refine wpAny_rule ?_ | refine wpAny_letGo ?_ | refine wpAny_mkInt' ?_ | refine wpAny_fresh' ?_ | refine wpAny_alloc' ?_ | refine wpAny_attempt ?_ | refine wpAny_throw ?_ | ((show wpAny _ _ (mkStr _) _ _ _); refine wpAny_mkStr' ?_) | refine wpAny_of_eq (by assumption) ?_ | refine wpAny_typeOf (by assumption) ?_ | refine wpAny_specialOf_val (by assumption) (by assumption) ?_ | refine wpAny_specialOf (by assumption) (by assumption) ?_ | refine wpAny_isInstance_val (by assumption) (by assumption) ?_ | refine wpAny_isInstance (by assumption) (by assumption) ?_ | refine wpAny_call ?_ | refine wpAny_runValue ?_ | refine wpAny_run ?_) | wp_delta | ((with_reducible apply wpAny_load'); focus (heap_get; done)) | ((with_reducible apply wpAny_update'); focus (heap_get; done)) | ((with_reducible apply wpAny_loadPart'); focus (heap_get; done)) | ((with_reducible apply wpAny_updatePart'); focus (heap_get; done)) | ((with_reducible apply wpAny_handled_none); focus (assumption; done)) | ((with_reducible apply wpAny_ite_false); focus (rfl; done)) | ((with_reducible apply wpAny_ite_true); focus (rfl; done)) | ((with_reducible apply wpAny_ite_false); focus (simp [*]; done)) | ((with_reducible apply wpAny_ite_true); focus (simp [*]; done)) | with_reducible_and_instances refine wpAny_pure ?_ | with_reducible_and_instances refine wpAny_bind ?_))
  exact wpAny_raiseAttrError hs.1 hs.2 (attrMsg_fits (by decide +kernel) hsz)
theorem keys_gen {w : World} {A : Around} {E : Value → Shared → Prop} {s : Shared} {a : Addr} {fs : Array Value} {Q : Option Value → Shared → Prop}
  (hx : s.heap.get? a = some { cls := .type "generator", dict := none, data := .fields fs, slots := #[] }) (hA : A.handled = none)
  (h : ∀ h' tk, (∀ b o, s.heap.get? b = some o → h'.get? b = some o) → Q none { s with heap := h', toks := tk }) :
  wpAny (Md w) A (getAttr? (.ref a) "keys") Q E s := by
 obtain ⟨hp, g, d, tk, os⟩ := s
 have hT : ∀ tk', (⟨hp, g, d, tk', os⟩ : Shared).TypeIs (.ref a) "generator" := fun _ => ⟨_, hx, rfl⟩
 have f1 := sub_AttributeError
 have f3 := gen_slot_ga.lookup
 have f4 := gen_slot_ga.bind (.ref a)
 have f5 := gen_getattr_none
 unfold getAttr? getAttrBy? getAttrBy
 repeat (any_goals (first | assumption | exact hT _ | ((with_reducible show wpAny _ _ (call (Value.builtin "object.__getattribute__") _ _) _ _ _); refine call_meets gen_slot_ga (hT _) gen_entry_ga (gen_args_ga _ _) (gen_miss a fs #[] "keys" _ gen_keys_none (by decide +kernel)) ⟨hx, hA, fun h' tk' e hx' => ?_⟩) | wp_step))
 obtain ⟨t', u', he⟩ := hx'.there
 show wpAny _ _ (getattributeRaised _ _ (.type "generator") _ _ _ _) _ _ _
 unfold getattributeRaised
 repeat (any_goals (first | assumption | with_reducible (first | refine wpAny_bind ?_ | refine wpAny_pure ?_ | refine wpAny_holding ?_ | refine wpAny_standAt ?_ | refine wpAny_point ?_ | refine wpAny_rule ?_ | refine wpAny_letGo ?_ | refine wpAny_mkInt' ?_ | refine wpAny_fresh' ?_ | refine wpAny_alloc' ?_ | refine wpAny_attempt ?_ | refine wpAny_throw ?_ | ((show wpAny _ _ (mkStr _) _ _ _); refine wpAny_mkStr' ?_) | refine wpAny_of_eq (by assumption) ?_ | refine wpAny_typeOf (by assumption) ?_ | refine wpAny_specialOf_val (by assumption) (by assumption) ?_ | refine wpAny_specialOf (by assumption) (by assumption) ?_ | refine wpAny_isInstance_val (by assumption) (by assumption) ?_ | refine wpAny_isInstance (by assumption) (by assumption) ?_ | refine wpAny_call ?_ | refine wpAny_runValue ?_ | refine wpAny_run ?_) | wp_delta | ((with_reducible apply wpAny_load'); focus (heap_get; done)) | ((with_reducible apply wpAny_update'); focus (heap_get; done)) | ((with_reducible apply wpAny_loadPart'); focus (heap_get; done)) | ((with_reducible apply wpAny_updatePart'); focus (heap_get; done)) | ((with_reducible apply wpAny_handled_none); focus (assumption; done)) | ((with_reducible apply wpAny_ite_false); focus (rfl; done)) | ((with_reducible apply wpAny_ite_true); focus (rfl; done)) | ((with_reducible apply wpAny_ite_false); focus (simp [*]; done)) | ((with_reducible apply wpAny_ite_true); focus (simp [*]; done)) | with_reducible_and_instances refine wpAny_pure ?_ | with_reducible_and_instances refine wpAny_bind ?_))
 exact h _ _ hx'.keeps
theorem call_dict_gen {w : World} {A : Around} {E : Value → Shared → Prop} {s : Shared} {a C e it : Addr} {gi : Nat} {b : Array UInt8} {fs : Array Value} {Q : Value → Shared → Prop}
  (hh : A.handled = none) (hroom : A.in1.in1.depth < recursionLimit) (ha : a ∉ [C, e, it]) (hcs : cStatics ∉ [C, e, it]) (hlt : ∀ c ∈ [a, cStatics, C, e, it], c < s.heap.objs.size) (hnd : (KBw.bInts b).Nodup) (hb : b.size ≤ 1000)
  (hx : s.heap.get? a = some { cls := .type "generator", dict := none, data := .fields fs, slots := #[] }) (st : GenP w A.in1.in1 a gi C e it b 0 s)
  (hQ : ∀ h' tk gn kvs', h'.DictOf (intKind rw_iw0008_01.prog w) s.heap.objs.size kvs' → KV b b.size kvs' → (∀ c o, c ∉ [C, e, it] → s.heap.get? c = some o → h'.get? c = some o) → GenOnlyQ gi s.gens gn → gn[gi]? = some .finished → Q (.ref s.heap.objs.size) { s with heap := h', toks := tk, gens := gn }) :
  wpAny (Md w) A (call (.type "dict") [.ref a]) Q E s := by
 refine callType_codes (Q₁ := fun obj s₁ => obj = .ref s.heap.objs.size ∧ s₁ = { s with heap := s.heap.push { cls := .type "dict", data := .dict #[] } }) F.kt_called_dict (F.kt_typeCall_dict_1 _) F.entry_dict_init (kt_code_dict_new _ ⟨rfl, rfl⟩) ?_
 rintro obj s₁ ⟨rfl, rfl⟩
 have hnew : (s.heap.push { cls := .type "dict", data := .dict #[] }).DictOf (intKind rw_iw0008_01.prog w) s.heap.objs.size [] := Heap.DictOf.new s.heap
 have hx' : (s.heap.push { cls := .type "dict", data := .dict #[] }).get? a = some { cls := .type "generator", dict := none, data := .fields fs, slots := #[] } := Heap.get?_push_of_some _ hx
 refine ⟨hnew.typeIs, F.args_dict_init_2 _ _, ?_⟩
 unfold Builtin.«dict.__init__»
 refine wpAny_bind ?_
 unfold Builtin.Dict.selfAndRest
 refine wpAny_bind (wpAny_notOrdered_dict hnew.typeIs ?_)
 show wpAny _ _ (pure (s.heap.objs.size, [Value.ref a])) _ _ _
 refine wpAny_pure ?_
 show wpAny _ _ (Builtin.Dict.updateFrom "dict.__init__" s.heap.objs.size (.ref a) [] .none) _ _ _
 unfold Builtin.Dict.updateFrom
 refine wpAny_bind (wpAny_typeOf (T := "generator") ⟨_, hx', rfl⟩ ?_)
 rw [if_pos (by decide)]
 refine wpAny_bind (keys_gen hx' (by exact hh) fun h₂ tk₂ hk₂ => ?_)
 have kk : ∀ c o, s.heap.get? c = some o → h₂.get? c = some o := fun c o x => hk₂ c o (Heap.get?_push_of_some _ x)
 have st₂ := st.frame (h' := h₂) (tk := tk₂) fun c _ o x => kk c o x
 have hd₂ : h₂.DictOf (intKind rw_iw0008_01.prog w) s.heap.objs.size [] := by
  obtain ⟨o, es, ep, ho, r⟩ := hnew
  exact ⟨o, es, ep, hk₂ _ o ho, r⟩
 have hDn : s.heap.objs.size ∉ [a, cStatics, C, e, it] := fun q => Nat.lt_irrefl _ (hlt _ q)
 simp only [Option.isNone_none, if_true]
 refine wpAny_bind (wpAny_rule (wpAny_bind (wpAny_pyIter_gen st₂.gen ?_)))
 refine wpAny_pure ⟨plainId_quiet plain_du _, ?_⟩
 refine dict_loop (A := A.in1) (gi := gi) (by exact hh) hroom ha hcs hDn hnd hb b.size 0 _ [] (Nat.sub_zero _) (Nat.zero_le _) st₂ hd₂ kv_zero fun h₃ tk₃ gn₃ kvs' hd₃ hkv hk₃ hg₃ hf₃ => ?_
 exact ⟨rfl, hQ h₃ tk₃ gn₃ kvs' hd₃ hkv (fun c o hc x => hk₃ c o (fun q => by
  rcases List.mem_cons.mp q with rfl | q
  ·exact absurd (Heap.lt_size x) (Nat.lt_irrefl _)
  ·exact hc q) (kk c o x)) hg₃ hf₃⟩
section
open Builtin
noncomputable def asciiOf (x : Str) : Array UInt8 := x.cps.foldl (fun acc y => acc ++ (_codecs.asciiCodec.bytesOf y).toArray) #[]
theorem foldl_ascii (l : List Nat) : ∀ acc : Array UInt8, (l.foldl (fun acc y => acc ++ (_codecs.asciiCodec.bytesOf y).toArray) acc).toList = acc.toList ++ l.map fun c => c.toUInt8 := by
 induction l with
 | nil => intro acc; simp
 | cons c l ih => intro acc; rw [List.foldl_cons, ih]; simp [_codecs.asciiCodec]
theorem asciiOf_list (x : Str) : (asciiOf x).toList = x.cps.toList.map fun c => c.toUInt8 := by
 unfold asciiOf
 rw [← Array.foldl_toList, foldl_ascii]
 simp
theorem asciiOf_size (x : Str) : (asciiOf x).size = x.cps.size := by
 have := congrArg List.length (asciiOf_list x)
 simpa using this
theorem for_two {β : Type} (f : Nat → β → Sem (ForInStep β)) (a b : β) (n : Nat) (h0 : 0 < n → f 0 a = pure (.yield b)) (h1 : 1 < n → f 1 b = pure (.done b)) (hz : n = 0 → a = b) : forIn ([:n] : Std.Legacy.Range) a f = pure b := by
 rw [Std.Legacy.Range.forIn_eq_forIn_range']
 have hs : ([:n] : Std.Legacy.Range).size = n := by simp [Std.Legacy.Range.size]
 rw [hs]
 rcases n with _ | _ | n
 ·rw [hz rfl]; rfl
 ·show (f 0 a >>= _) = _
  rw [h0 (Nat.zero_lt_succ _), pure_bind]; rfl
 ·show (f 0 a >>= _) = _
  rw [h0 (Nat.zero_lt_succ _), pure_bind]
  show (f 1 b >>= _) = _
  rw [h1 (by omega), pure_bind]
theorem ite_no {α : Type} {c : Prop} [Decidable c] {a b r : α} (h : ¬c) (k : b = r) : (if c then a else b) = r := (if_neg h).trans k
theorem narrow_ascii (id : String) (self : Value) (x : Str) (h : ∀ c ∈ x.cps, c < 128) (hz : x.cps.size ≤ 1000) : _codecs.encodeNarrow id _codecs.asciiCodec none self x = pure (asciiOf x) := by
 have hbad : ∀ c ∈ x.cps, _codecs.asciiCodec.bad c = false := fun c hc => by
  have := h c hc
  simp [_codecs.asciiCodec]; omega
 have hline : ¬ (asciiOf x).size > sizeLine := by rw [asciiOf_size, sizeLine_eq]; omega
 refine Eq.trans (congrArg (fun m => Bind.bind m _) (for_two _ _ ⟨x.cps.size, asciiOf x, {}⟩ x.length ?_ ?_ ?_)) ?_
 ·intro hn
  have hx0 : x.cps[0]? = some x.cps[0] := Array.getElem?_eq_getElem hn
  refine (ite_no (by simp) ?_)
  generalize x.cps[0]? = o at hx0 ⊢
  subst hx0
  refine (if_pos (by rw [hbad _ (Array.getElem_mem hn)]; rfl)).trans ?_
  have e1 : Array.findIdx? _codecs.asciiCodec.bad x.cps = none := Array.findIdx?_eq_none_iff.mpr hbad
  have e0 : x.cps.extract 0 x.cps.size = x.cps := by simp
  show (pure (ForInStep.yield (_, _, _)) : Sem _) = _
  rw [show x.cps.extract 0 = x.cps from e0, e1]
  show pure (ForInStep.yield (0 + x.cps.size, Array.foldl _ #[] (x.cps.extract 0 x.cps.size), _)) = _
  rw [Nat.zero_add, show x.cps.extract 0 x.cps.size = x.cps from e0]
  rfl
 ·intro hn
  refine ite_no hline ?_
  have hx1 : x.cps[x.cps.size]? = none := Array.getElem?_eq_none (Nat.le_refl _)
  generalize x.cps[x.cps.size]? = o at hx1 ⊢
  subst hx1
  rfl
 ·intro hn
  have e : asciiOf x = #[] := Array.size_eq_zero_iff.mp ((asciiOf_size x).trans hn)
  rw [e, show x.cps.size = 0 from hn]
 ·rfl
end
theorem gen_pairs_make {w : World} {A : Around} {E : Value → Shared → Prop} {s : Shared} {Q : Value → Shared → Prop} {g : Heap} {L : Addr} {m mg mb : Str → Option Value} (G : Gd w mg mb g) (F : Fr g L s.heap m)
  {iter : Expr} {xa xb : Str} {pa pb pt p1 p2 pe : Pos} {kt ke : Nat} {scope : Scope} {pos : Pos} {b : Array UInt8} {t : Tok} {env : Env} {c P : Addr} {ps : Array Value}
  (hcd : env.code = .ref c) (hok : s.heap.IsCode c P ps) (hP : g.get? P = none) (hgl : env.globals = mainGlobals)
  (hco : scope.isCoroutine = false) (hclos : closureFor scope env = pure []) (hcell : ∀ y ∈ scope.names, y.2 ≠ .cell) (h0 : scope.names.lookup (".0" : Str) = some NameKind.local) (hkind : scope.kind = .function)
  (hxa : scope.names.lookup xa = some .local) (hxb : scope.names.lookup xb = some .local) (hab : xa ≠ xb) (da : (xa == ("__debug__" : Str)) = false) (db : (xb == ("__debug__" : Str)) = false)
  (hroom : A.depth < recursionLimit) (hs : ∀ x, genFold iter env x = pure x)
  (hiter : ∀ Q' : Value → Shared → Prop, (∀ h1 tk e it, IsEnum h1 e it 0 .none → KBw.IsBytesIter h1 it b t 0 → e ≠ it → s.heap.objs.size ≤ it → s.heap.objs.size ≤ e → (∀ b o, s.heap.get? b = some o → h1.get? b = some o) → Q' (.ref e) { s with heap := h1, toks := tk }) → wpAny (Md w) A (eval iter env) Q' E s)
  (hQ : ∀ h' tk gs a C e it u1 x1 u2 x2 ps', gs.bare = true → s.heap.objs.size ≤ it → s.heap.objs.size ≤ e → s.heap.objs.size ≤ C → s.heap.objs.size ≤ a → a ∉ [C, e, it] → (∀ z ∈ [a, C, e, it], z < h'.objs.size) →
   h'.get? a = some { cls := .type "generator", dict := none, data := .fields #[.int s.gens.size 0, .str u1 x1, .str u2 x2], slots := #[] } →
   (∀ A' : Around, A'.handled = none → GenP w A' a s.gens.size C e it b 0 { s with heap := h', toks := tk, gens := s.gens.push gs }) → (∀ z o, z ≠ P → s.heap.get? z = some o → h'.get? z = some o) → h'.IsCode c P ps' →
   Q (.ref a) { s with heap := h', toks := tk, gens := s.gens.push gs }) :
  wpAny (Md w) A (eval (.GeneratorExp (.Tuple [.Name xb p1, .Name xa p2] ke pe) [⟨.Tuple [.Name xa pa, .Name xb pb] kt pt, iter, [], 0⟩] scope pos) env) Q E s := by
 refine wpAny_GeneratorExp_make hco hclos hcell h0 hkind hroom (hiter _ fun h1 tk1 e it hE hI hei lit lle k1 => ?_) hs
 have hPg : ∀ z o, g.get? z = some o → z ≠ P := fun z o e q => by rw [q, hP] at e; cases e
 refine wpAny_pyIter_enum hE ?_
 have kg1 : Keep g h1 := fun z o x => k1 z o (F.keep z o x)
 refine ⟨G.P.nolimit.keeps kg1, ?_⟩
 have hok1 : h1.IsCode c P ps := hok.keeps k1
 refine wpAny_genexprCode hcd hok1 fun code h2 tk2 ps' hx2 hok2 => ?_
 have kg2 : Keep g h2 := fun z o x => hx2 z o (hPg z o x) (kg1 z o x)
 obtain ⟨bm, ob, b1, b2, b3, b4, b5, b6⟩ := G.P.bmain
 rw [hgl]
 refine wpAny_builtinsFor (G.P.g.keeps kg2) b1 b2 (kg2 _ _ b3) b4 b5 b6 ?_
 intro h3 hn3 hs3
 have hPs : P < s.heap.objs.size := hok.lt.2
 have ePi : e ≠ P := by intro q; rw [q] at lle; exact absurd hPs (Nat.not_lt.mpr lle)
 have iPi : it ≠ P := by intro q; rw [q] at lit; exact absurd hPs (Nat.not_lt.mpr lit)
 have k12 : ∀ z o, z ≠ P → s.heap.get? z = some o → h2.get? z = some o := fun z o n x => hx2 z o n (k1 z o x)
 have k3 : ∀ z o, h2.get? z = some o → h3.get? z = some o := fun z o x => hs3.extBut z o (Nat.ne_of_lt (Heap.lt_size x)) (Heap.get?_push_of_some _ x)
 have sz3 : h3.objs.size = h2.objs.size + 1 := by rw [hs3.1, Heap.size_push]
 have hE2 : IsEnum h2 e it 0 .none := hx2 _ _ ePi hE
 have hI2 : KBw.IsBytesIter h2 it b t 0 := by
  obtain ⟨oi, ho, r⟩ := hI
  exact ⟨oi, hx2 _ _ iPi ho, r⟩
 have le2 : s.heap.objs.size ≤ h2.objs.size := by
  exact Nat.le_of_lt (Nat.lt_of_le_of_lt lle (Heap.lt_size (hx2 _ _ ePi hE)))
 have elt : e < h2.objs.size := Heap.lt_size hE2
 have ilt : it < h2.objs.size := by obtain ⟨oi, ho, r⟩ := hI2; exact Heap.lt_size ho
 generalize hgo : ({ cls := .type "generator", data := .fields #[.int s.gens.size 0, .str "<genexpr>" (tk2 + 1), .str (env.qual ++ "<genexpr>") (tk2 + 1 + 1)] } : Obj) = go
 have k4 : ∀ z o, h2.get? z = some o → (h3.push go).get? z = some o := fun z o x => Heap.get?_push_of_some _ (k3 z o x)
 have hga : (h3.push go).get? h3.objs.size = some go := Heap.get?_push_size _ (by subst hgo; rfl)
 refine hQ (h3.push go) _ _ h3.objs.size h2.objs.size e it (Str.ofString "<genexpr>") (tk2 + 1) (env.qual ++ "<genexpr>") (tk2 + 1 + 1) ps' rfl lit lle le2 (by omega) ?_ ?_ (by rw [hga, ← hgo]) (fun A' hA => ?_) (fun z o n x => k4 z o (k12 z o n x)) (hok2.keeps k4)
 ·simp only [List.mem_cons, List.not_mem_nil, or_false, not_or]
  exact ⟨fun q => by have q : h3.objs.size = h2.objs.size := q; omega, fun q => absurd elt (Nat.not_lt.mpr (by rw [← q, sz3]; exact Nat.le_succ _)), fun q => absurd ilt (Nat.not_lt.mpr (by rw [← q, sz3]; exact Nat.le_succ _))⟩
 ·intro z hz
  rw [Heap.size_push]
  simp only [List.mem_cons, List.not_mem_nil, or_false] at hz
  rcases hz with h | h | h | h <;> rw [h]
  ·exact Nat.lt_succ_self _
  ·rw [sz3]; exact Nat.lt_succ_of_lt (Nat.lt_succ_self _)
  ·rw [sz3]; exact Nat.lt_succ_of_lt (Nat.lt_succ_of_lt elt)
  ·rw [sz3]; exact Nat.lt_succ_of_lt (Nat.lt_succ_of_lt ilt)
 ·refine ⟨⟨_, _, _, hga, by subst hgo; rfl, by subst hgo; exact ⟨rfl, rfl⟩⟩, G.P.nolimit.keeps fun z o x => k4 z o (kg2 z o x), _, Array.getElem?_push_size .., fun s'' hal => ⟨rfl, ?_⟩⟩
  rw [Nat.sub_zero]
  refine seg_pairs0 (A := A'.in1) (t := t) (b := b) (cenv := genEnv scope [] h2.objs.size code builtinsNs env) (by exact hA) hei hab (fun q => ?_) (fun q => ?_) hkind hxa hxb da db (by simp [genEnv, hkind]) hco s'' _ ⟨.none, hal e (by simp) _ (k4 _ _ hE2)⟩ ?_ ((hn3.keeps fun z o x => Heap.get?_push_of_some _ x).at' fun o x => hal _ (List.mem_cons_self ..) o x)
  ·exact absurd elt (Nat.not_lt.mpr (Nat.le_of_eq q))
  ·exact absurd ilt (Nat.not_lt.mpr (Nat.le_of_eq q))
  ·obtain ⟨oi, ho, r⟩ := hI2
   exact ⟨oi, hal it (by simp) _ (k4 _ _ ho), r⟩
section
noncomputable def genCode (P : Params) (f Lg : Addr) : Code := match (K0 P).lookup f with
 | some o => (match o.data with
  | .func fd => (match fd.body with
   | .stmts b => .func b (envOf fd.qualname fd.scope Lg f fd.code)
   | _ => .func [] default)
  | _ => .func [] default)
 | none => .func [] default
section
variable {w : World} {A : Around} {s : Shared} {f : Addr} {o : Obj} {name qual : Str} {params : Arguments} {body : List Stmt} {scope : Scope} {dV kV doc pm cdv ct : Value} {an : Option Addr} {args : Args} {binds : List (Str × Value)} {R : Result → Shared → Prop} {mg mb : Str → Option Value}
theorem enterGen (G : Gd w mg mb s.heap) (hf : (K0 w.params).lookup f = some o) (hd : o.data = .func (fnOf name qual params body scope dV kV doc pm an cdv ct)) (hcd : codeIn (K0 w.params) cdv qual = true)
  (hroom : A.depth < recursionLimit) (hbind : BindsTo s (fnOf name qual params body scope dV kV doc pm an cdv ct) args binds)
  (hcell : ∀ x ∈ scope.names, x.2 ≠ .cell) (hloc : ∀ x ∈ binds, scope.names.lookup x.1 = some .local)
  (h : ∀ Lg a h' tk', a ≠ Lg → Fr s.heap Lg h' (fun y => pairsMap binds.reverse y) → h'.IsGen a s.gens.size → s.heap.get? a = none →
   R (.ok (.ret (.ref a))) { s with gens := s.gens.push (.fresh (genCode w.params f Lg)), toks := tk', heap := h' })
  (hco : scope.isCoroutine = false) (hgen : scope.isGenerator = true) (hk : scope.kind = .function) :
  codeAny (Md w) A (.call (.ref f) args) R s := by
 refine codeAny_call_generator (fd := fnOf name qual params body scope dV kV doc pm an cdv ct) (body := body) hroom (G.K _ _ hf) hd hco hgen rfl (codeRec_of G.K hcd) (hbind _ _ _ _ ?_)
 refine wpAny_newFunctionEnv hcell hloc (fun h₁ hns hsb => ?_) hk
 have k1 : Keep s.heap h₁ := fun b o e => hsb.extBut b o (Nat.ne_of_lt (Heap.lt_size e)) (Heap.get?_push_of_some _ e)
 have hsz : h₁.objs.size = s.heap.objs.size + 1 := by rw [hsb.1, Heap.size_push]
 refine ⟨G.T.nolimit.keeps k1, ?_⟩
 have e1 : genCode w.params f s.heap.objs.size = .func body (envOf qual scope s.heap.objs.size f cdv) := by
  unfold genCode
  rw [hf]
  dsimp only
  rw [hd]
 have := h s.heap.objs.size h₁.objs.size (h₁.push { cls := .type "generator", data := .fields #[.int s.gens.size 0, .str name (s.toks + binds.length), .str qual (s.toks + binds.length + 1)] }) (s.toks + binds.length + 1 + 1) (by rw [hsz]; exact Nat.succ_ne_self _)
  ⟨(by rw [show (fun y => pairsMap binds.reverse y) = (fun y => binds.reverse.lookup y) from funext fun y => (lookup_pairs y _).symm]; exact hns.push _), fun b o e => Heap.get?_push_of_some _ (k1 b o e), Nat.le_refl _⟩
  ⟨_, _, _, Heap.get?_push_size _ rfl, rfl, rfl, rfl⟩ (Heap.get?_none_of_le (by rw [hsz]; exact Nat.le_succ _))
 rw [e1] at this
 exact this
end
theorem val_at {vals pre rest : List Int} {x : Int} (h : vals = pre ++ x :: rest) : vals.getD (vals.length - 1 - rest.length) 0 = x := by
 subst h
 have : (pre ++ x :: rest).length - 1 - rest.length = pre.length := by simp
 rw [this, List.getD_eq_getElem?_getD]
 simp
theorem seg_loop {M : Model} {A : Around} {R : GenEnd} {Y : Protocol} {c : Code} {fs : List Frame} (I : Nat → Nat → Shared → Shared → Prop)
  (step : ∀ k n s₀ s, I k n s₀ s → (∀ k' n' s₀' s', k' < k → I k' n' s₀' s' → Seg M A R Y n' s₀' c (M.den c) fs s') → Seg M A R Y n s₀ c (M.den c) fs s) :
  ∀ k n s₀ s, I k n s₀ s → Seg M A R Y n s₀ c (M.den c) fs s := by
 intro k
 induction k using Nat.strongRecOn with
 | _ k ih => exact fun n s₀ s h => step k n s₀ s h fun k' n' s₀' s' hk h' => ih k' hk n' s₀' s' h'
theorem ints_cons {vs : List Value} {a : Int} {r : List Int} (h : IntsAre vs (a :: r)) : ∃ t vs', vs = .int a t :: vs' ∧ IntsAre vs' r := by
 cases h with | cons _ t h => exact ⟨_, _, rfl, h⟩
theorem news_lv {g h h' : Heap} {Lg lv : Addr} {x1 x2 : Addr × Obj} {l l' : Obj} {r : List (Addr × Obj)} (N : News g Lg h (x1 :: x2 :: (lv, l) :: r)) (k : ∀ b o, b ≠ lv → h.get? b = some o → h'.get? b = some o) (hl : h'.get? lv = some l') (h1 : x1.1 ≠ lv) (h2 : x2.1 ≠ lv) (hr : ∀ p ∈ r, p.1 ≠ lv) :
  News g Lg h' (x1 :: x2 :: (lv, l') :: r) := fun p hp => by
 rcases List.mem_cons.mp hp with rfl | hp
 ·exact ⟨k _ _ h1 (N _ (.head _)).1, (N _ (.head _)).2⟩
 rcases List.mem_cons.mp hp with rfl | hp
 ·exact ⟨k _ _ h2 (N _ (.tail _ (.head _))).1, (N _ (.tail _ (.head _))).2⟩
 rcases List.mem_cons.mp hp with rfl | hp
 ·exact ⟨hl, (N _ (.tail _ (.tail _ (.head _)))).2⟩
 ·have n := N p (.tail _ (.tail _ (.tail _ hp)))
  exact ⟨k _ _ (hr p hp) n.1, n.2⟩
theorem and_small {x m : Int} (hx : 0 ≤ x ∧ x < 256) (h : 0 ≤ m) : (Builtin.bitAnd x m).natAbs < 2 ^ 64 := by
 rw [bitAnd_pp hx.1 h]
 have : x.toNat &&& m.toNat ≤ x.toNat := Nat.and_le_left
 omega
theorem byte_small {x : Int} (hx : 0 ≤ x ∧ x < 256) : x.natAbs < 2 ^ 64 := by omega
theorem app1 {vals pre r : List Int} {x : Int} (h : vals = pre ++ x :: r) : vals = (pre ++ [x]) ++ r := by rw [h]; simp
theorem kn_lt {f cv lv N : Nat} {o1 o2 o3 : Obj} {led : List (Addr × Obj)} (h1 : f < N) (h2 : cv < N) (h3 : lv < N) (h4 : ∀ p ∈ led, p.1 < N) : ∀ p ∈ ((f, o1) :: (cv, o2) :: (lv, o3) :: led : List (Addr × Obj)), p.1 < N := fun p hp => by
 rcases List.mem_cons.mp hp with rfl | hp
 ·exact h1
 rcases List.mem_cons.mp hp with rfl | hp
 ·exact h2
 rcases List.mem_cons.mp hp with rfl | hp
 ·exact h3
 ·exact h4 p hp
theorem three_of {l : List Int} {n : Nat} (h : l.length = 3 * (n + 1) + k) : ∃ a b c r, l = a :: b :: c :: r := by
 match l, h with
 | a :: b :: c :: r, _ => exact ⟨a, b, c, r, rfl⟩
 | [], h => simp at h; omega
 | [_], h => simp at h; omega
 | [_, _], h => simp at h; omega
theorem one_of {l : List Int} (h : l.length = 3 * 0 + Int.toNat 1) : ∃ a, l = [a] := by
 match l, h with
 | [a], _ => exact ⟨a, rfl⟩
theorem two_of' {l : List Int} (h : l.length = 3 * 0 + Int.toNat 2) : ∃ a b, l = [a, b] := by
 match l, h with
 | [a, b], _ => exact ⟨a, b, rfl⟩
theorem zero_of {l : List Int} {k : Nat} (h : l.length = k * 0 + Int.toNat 0) : l = [] := by
 match l, h with
 | [], _ => rfl
 | a :: r, h => simp at h
theorem news_lv4 {g h h' : Heap} {Lg lv : Addr} {x0 x1 x2 : Addr × Obj} {l l' : Obj} {r : List (Addr × Obj)} (N : News g Lg h (x0 :: x1 :: x2 :: (lv, l) :: r)) (k : ∀ b o, b ≠ lv → h.get? b = some o → h'.get? b = some o) (hl : h'.get? lv = some l') (h0 : x0.1 ≠ lv) (h1 : x1.1 ≠ lv) (h2 : x2.1 ≠ lv) (hr : ∀ p ∈ r, p.1 ≠ lv) :
  News g Lg h' (x0 :: x1 :: x2 :: (lv, l') :: r) := fun p hp => by
 rcases List.mem_cons.mp hp with rfl | hp
 ·exact ⟨k _ _ h0 (N _ (.head _)).1, (N _ (.head _)).2⟩
 ·exact news_lv (fun q hq => N q (.tail _ hq)) k hl h1 h2 hr p hp
theorem kn_lt4 {f cs cv lv N : Nat} {o0 o1 o2 o3 : Obj} {led : List (Addr × Obj)} (h1 : f < N) (h0 : cs < N) (h2 : cv < N) (h3 : lv < N) (h4 : ∀ p ∈ led, p.1 < N) : ∀ p ∈ ((f, o1) :: (cs, o0) :: (cv, o2) :: (lv, o3) :: led : List (Addr × Obj)), p.1 < N := fun p hp => by
 rcases List.mem_cons.mp hp with rfl | hp
 ·exact h1
 ·exact kn_lt h0 h2 h3 h4 p hp
theorem four_of' {l : List Int} {n k : Nat} (h : l.length = 4 * (n + 1) + k) : ∃ a b c d r, l = a :: b :: c :: d :: r := by
 match l, h with
 | a :: b :: c :: d :: r, _ => exact ⟨a, b, c, d, r, rfl⟩
 | [], h => simp at h; omega
 | [_], h => simp at h; omega
 | [_, _], h => simp at h; omega
 | [_, _, _], h => simp at h; omega
theorem two_of4 {l : List Int} (h : l.length = 4 * 0 + Int.toNat 2) : ∃ a b, l = [a, b] := by
 match l, h with
 | [a, b], _ => exact ⟨a, b, rfl⟩
theorem three_of4 {l : List Int} (h : l.length = 4 * 0 + Int.toNat 3) : ∃ a b c, l = [a, b, c] := by
 match l, h with
 | [a, b, c], _ => exact ⟨a, b, c, rfl⟩
theorem idx_byte {ms : List Int} (hl : ms.length = 64) (k : Int) : 0 ≤ (ms.idxOf k : Int) ∧ (ms.idxOf k : Int) < 256 := by
 have := List.idxOf_le_length (a := k) (l := ms)
 omega
end
section
section
variable {M : Model} {A : Around} {E : Value → Shared → Prop} {s : Shared} {g : Heap} {L a : Addr} {m : Str → Option Value} {cn : Str} {cs : Scope} {ccd : Value} {cl : List (Str × Addr)} {x : Str} {v : Value} {c : Addr} {o : Obj} {v₀ : Option Value} {own rest : List (Addr × Obj)} {Q : Unit → Shared → Prop}
theorem storeC (F : Fr g L s.heap m) (N : News g L s.heap (own ++ (c, o) :: rest)) (h1 : ∀ p ∈ own, p.1 ≠ c) (h2 : ∀ p ∈ rest, p.1 ≠ c) (hc : cl.lookup x = some c) (hd : o.data = .cell v₀)
  (h : ∀ h' o', Fr g L h' m → News g L h' (own ++ (c, o') :: rest) → o'.data = .cell (some v) → Q () { s with heap := h' })
  (hk : cs.kind = .function) (hx : (envX cn cs L a ccd cl).kindOf x = some .cell) : wpAny M A (storeName (envX cn cs L a ccd cl) x v) Q E s := by
 have hmem := N (c, o) (List.mem_append_right _ (.head _))
 refine wpAny_storeName_cell hk hx hc ⟨o, hmem.1, hd⟩ fun h' hv hs => ?_
 obtain ⟨o', ho', hd'⟩ := hv
 refine h h' o' ⟨F.ns.sameBut hs (Ne.symm hmem.2.1), fun b ob e => (hs.2 b (fun q => ?_)).trans (F.keep b ob e), F.above⟩ (N.setAt h1 h2 hs ho') hd'
 rw [q, hmem.2.2] at e; cases e
end
theorem gen_st {w : World} {A : Around} {s : Shared} {g : Heap} {Lg lv a : Addr} {gi Nn : Nat} {m : Str → Option Value} {kn : List (Addr × Obj)} {wr : List Addr} {vals : List Int} {c : Code} (hgen : s.heap.IsGen a gi) (hlim : s.heap.NoLimit) (hgs : s.gens[gi]? = some (.fresh c)) (F : Fr g Lg s.heap m) (N : News g Lg s.heap kn) (hL : Lg < Nn) (hkn : ∀ p ∈ kn, p.1 < Nn)
  (hseg : ∀ (s'' : Shared) ot, Fr g Lg s''.heap m → News g Lg s''.heap (kn ++ ot) → Oth g Lg lv s''.heap ot → Seg (Md w) A.in1 (GR wr) (GY Nn wr vals) vals.length s'' c ((Md w).den c) [] s'') : GenSt w A a gi Nn wr vals 0 s :=
 ⟨hgen, hlim, _, hgs, fun s'' hal => by
  obtain ⟨F2, ot, N2, X2⟩ := resume_facts (lv := lv) (kn := kn) (ot := []) F (by rw [List.append_nil]; exact N) hal hL hkn
  exact ⟨rfl, hseg s'' ot F2 N2 X2⟩⟩
inductive GenN (g h' : Heap) (L Lg a : Addr) (gi : Nat) (mg : Str → Option Value) (news : List (Addr × Obj)) : Prop
 | mk (oa oL nm qn) (c : oa.cls = .type "generator") (d : oa.data = .fields #[.int gi 0, nm, qn]) (s : oa.slots = #[]) (n : ∀ h'' : Heap, h''.get? Lg = some oL → h''.Ns Lg mg) (N : News g L h' ((a, oa) :: (Lg, oL) :: news)) (w : ∀ p ∈ news, p.1 ≠ a ∧ p.1 ≠ Lg) (x : a ≠ L) (y : Lg ≠ L) : GenN g h' L Lg a gi mg news
theorem gen_news {g h h' : Heap} {L Lg a : Addr} {gi : Nat} {m mg : Str → Option Value} {news : List (Addr × Obj)} (F : Fr g L h m) (N : News g L h news) (k : Keep h h') (hLg : h.get? Lg = none) (hns : h'.Ns Lg mg) (hgen : h'.IsGen a gi) (ha : h.get? a = none) (hne : a ≠ Lg) :
  GenN g h' L Lg a gi mg news := by
 obtain ⟨oa, nm, qn, h1, h2, h3, h4⟩ := hgen
 obtain ⟨oL, es, ep, e, r⟩ := hns
 have new : ∀ b, h.get? b = none → b ≠ L ∧ g.get? b = none := fun b e => by
  refine ⟨fun q => ?_, fresh_below F.keep e⟩
  obtain ⟨o, _, _, e', _⟩ := F.ns
  rw [q, e'] at e; cases e
 refine ⟨oa, oL, nm, qn, h2, h3, h4, fun h'' e' => ⟨oL, es, ep, e', r⟩, fun p hp => ?_, fun p hp => ⟨fun q => ?_, fun q => ?_⟩, (new a ha).1, (new Lg hLg).1⟩
 ·rcases List.mem_cons.mp hp with rfl | hp
  ·exact ⟨h1, new a ha⟩
  rcases List.mem_cons.mp hp with rfl | hp
  ·exact ⟨e, new Lg hLg⟩
  ·exact ⟨k _ _ (N p hp).1, (N p hp).2⟩
 ·have := (N p hp).1
  rw [q, ha] at this; cases this
 ·have := (N p hp).1
  rw [q, hLg] at this; cases this
noncomputable def BareTo (a b : Array GenState) : Prop := ((∀ y ∈ a, y.bare = true) → ∀ y ∈ b, y.bare = true) ∧ ∀ (i : Nat) x, a[i]? = some x → b[i]? = some x
theorem bare_push {a b : Array GenState} {c : Code} (h : GenOnlyQ a.size (a.push (.fresh c)) b) : BareTo a b := ⟨fun ha => h.bare fun y hy => by
 rcases Array.mem_push.mp hy with hy | rfl
 ·exact ha y hy
 ·rfl, fun i x e => by
  have hi : i < a.size := (Array.getElem?_eq_some_iff.mp e).1
  have e2 : (a.push (.fresh c))[i]? = some x := by rw [Array.getElem?_push_lt hi, ← e, Array.getElem?_eq_getElem hi]
  rcases h with rfl | ⟨h, _⟩
  ·exact e2
  ·rw [h.2 i (Nat.ne_of_lt hi)]; exact e2⟩
theorem BareTo.trans {a b c : Array GenState} (x : BareTo a b) (y : BareTo b c) : BareTo a c := ⟨fun h => y.1 (x.1 h), fun i v e => y.2 i v (x.2 i v e)⟩
end
theorem bitOr_pp {x y : Int} (hx : 0 ≤ x) (hy : 0 ≤ y) : Builtin.bitOr x y = ((x.toNat ||| y.toNat : Nat) : Int) := by
 have h1 : decide (0 ≤ Builtin.bitNot x) = false := decide_eq_false (by unfold Builtin.bitNot; omega)
 have h2 : decide (0 ≤ Builtin.bitNot y) = false := decide_eq_false (by unfold Builtin.bitNot; omega)
 have e1 : Builtin.bitNot (Builtin.bitNot x) = x := by unfold Builtin.bitNot; omega
 have e2 : Builtin.bitNot (Builtin.bitNot y) = y := by unfold Builtin.bitNot; omega
 unfold Builtin.bitOr Builtin.bitAnd
 rw [h1, h2]
 dsimp only
 rw [e1, e2]
 unfold Builtin.bitNot
 omega
theorem and_lt {x m : Int} (hx : 0 ≤ x) (h : 0 ≤ m) : 0 ≤ Builtin.bitAnd x m ∧ Builtin.bitAnd x m ≤ m := by
 rw [bitAnd_pp hx h]
 have : x.toNat &&& m.toNat ≤ m.toNat := Nat.and_le_right
 omega
theorem or_lt {x y : Int} {k : Nat} (hx : 0 ≤ x ∧ x < (2 : Int) ^ k) (hy : 0 ≤ y ∧ y < (2 : Int) ^ k) : 0 ≤ Builtin.bitOr x y ∧ Builtin.bitOr x y < (2 : Int) ^ k := by
 rw [bitOr_pp hx.1 hy.1]
 have h1 : x.toNat < 2 ^ k := (Int.toNat_lt hx.1).2 (by exact_mod_cast hx.2)
 have h2 : y.toNat < 2 ^ k := (Int.toNat_lt hy.1).2 (by exact_mod_cast hy.2)
 have := Nat.or_lt_two_pow h1 h2
 refine ⟨Int.natCast_nonneg _, ?_⟩
 have p2 : (2 : Int) ^ k = ((2 ^ k : Nat) : Int) := by norm_cast
 rw [p2]
 exact_mod_cast this
section
theorem zip_go {w : World} {A : Around} {E : Value → Shared → Prop} {s : Shared} {elts : List Expr} {x1} {pos : Pos} {z TI TO i1 i2 l1 : Addr} {xs : Array Value} {b : Array UInt8} {t : Tok} {k T : Nat} {Q : Unit → Shared → Prop} (D : ZB z TI TO i1 i2 l1) (S : ZipSt s.heap z TI TO i1 i2 l1 xs b t (rawInt T) k)
  (hQ : ∀ h', ZipSt h' z TI TO i1 i2 l1 xs b t .none k → (∀ c o, c ≠ z → s.heap.get? c = some o → h'.get? c = some o) → Q () { s with heap := h' }) :
  wpAny (Md w) A (letOwnedTupleGo (.Tuple elts x1 pos) (.ref z) (.ref T)) Q E s := by
 obtain ⟨hz, hTI, ⟨a, c0, hTO⟩, h1, h2, hl1⟩ := S
 refine wpAny_letOwnedTupleGo_zip hz fun h' hz' hs' => hQ h' ⟨hz', hs'.extBut _ _ D.TIz hTI, ⟨_, _, hs'.extBut _ _ D.TOz hTO⟩, h1.extBut hs'.extBut D.i1z, bi_at h2 fun o e => hs'.extBut _ _ D.i2z e, hl1.extBut hs'.extBut D.l1z⟩ fun c o hc e => hs'.extBut c o hc e
section
variable {w : World} {A : Around} {s : Shared} {env : Env} {g : Heap} {L : Addr} {E : Value → Shared → Prop}
noncomputable abbrev zF (z TI TO i1 i2 : Addr) : List Addr := [z, TI, TO, i1, i2]
inductive FZ (w : World) (A : Around) (g : Heap) (L : Addr) (env : Env) (elts : List Expr) (x1) (tpos : Pos) (body : List Stmt) (Q : Flow → Shared → Prop) (xv : Value) (s₁ : Shared) : Prop
 | mk (z TI TO i1 i2 l : Addr) (xs : Array Value) (b : Array UInt8) (t : Tok) (m : Str → Option Value) (news : List (Addr × Obj)) (e : xv = .ref z) (D : ZB z TI TO i1 i2 l) (S : ZipSt s₁.heap z TI TO i1 i2 l xs b t .none 0) (hsz : xs.size ≤ b.size) (F : Fr g L s₁.heap m) (N : News g L s₁.heap news) (hl : g.IsList l xs)
  (hzs : ∀ c ∈ zF z TI TO i1 i2, c ≠ L ∧ g.get? c = none) (hnz : ∀ p ∈ news, p.1 ∉ zF z TI TO i1 i2)
  (J : Nat → (Str → Option Value) → List (Addr × Obj) → Prop) (h0 : J 0 m news)
  (step : ∀ i (zs : List (Addr × Obj)) Q', (∀ h' tk' m' news', Fr g L h' m' → News g L h' (news' ++ zs) → (∀ p ∈ news', p.1 ∉ zF z TI TO i1 i2) → J (i + 1) m' news' → Q' .next { s₁ with heap := h', toks := tk' }) →
   ∀ x y u m news h tk T, xs[i]? = some x → b[i]? = some y → J i m news → Fr g L h m → News g L h ((T, ({ cls := .type "tuple", data := .seq #[x, .int (y.toNat : Int) u] } : Obj)) :: (news ++ zs)) → zs.map (·.1) = zF z TI TO i1 i2 → (∀ p ∈ news, p.1 ∉ zF z TI TO i1 i2) → (∀ p ∈ news, p.1 ≠ T) →
   wpAny (Md w) A (assign (.Tuple elts x1 tpos) env (.ref T)) (fun _ s₂ => wpAny (Md w) A (execs body env) Q' (fun _ _ => False) s₂) (fun _ _ => False) { s₁ with heap := h, toks := tk })
  (done : ∀ m news h tk, J xs.size m news → Fr g L h m → News g L h news → Q .next { s₁ with heap := h, toks := tk }) : FZ w A g L env elts x1 tpos body Q xv s₁
inductive ZI (g : Heap) (L : Addr) (s₁ : Shared) (z TI TO i1 i2 l : Addr) (xs : Array Value) (b : Array UInt8) (t : Tok) (J : Nat → (Str → Option Value) → List (Addr × Obj) → Prop) (n : Nat) (s' : Shared) : Prop
 | mk (h tk m news i) (e : s' = { s₁ with heap := h, toks := tk }) (F : Fr g L h m) (N : News g L h news) (hn : ∀ p ∈ news, p.1 ∉ zF z TI TO i1 i2) (S : ZipSt h z TI TO i1 i2 l xs b t .none i) (j : J i m news) (hi : i ≤ xs.size) (hk : n = xs.size + 1 - i) : ZI g L s₁ z TI TO i1 i2 l xs b t J n s'
inductive ZO (g h : Heap) (L z TI TO i1 i2 : Addr) (zs : List (Addr × Obj)) : Prop
 | mk (e : zs.map (·.1) = zF z TI TO i1 i2) (N : News g L h zs) (st : ∀ {l xs b t k h'}, ZipSt h z TI TO i1 i2 l xs b t .none k → News g L h' zs → h'.IsList l xs → ZipSt h' z TI TO i1 i2 l xs b t .none k) : ZO g h L z TI TO i1 i2 zs
theorem zo_ex {g h : Heap} {L z TI TO i1 i2 l : Addr} {xs : Array Value} {b : Array UInt8} {t : Tok} {k : Nat} (S : ZipSt h z TI TO i1 i2 l xs b t .none k) (hzs : ∀ c ∈ zF z TI TO i1 i2, c ≠ L ∧ g.get? c = none) : ∃ zs, ZO g h L z TI TO i1 i2 zs := by
 obtain ⟨hz, hTI, ⟨a, c, hTO⟩, ⟨o1, ho1, r1⟩, ⟨o2, ho2, r2⟩, hl⟩ := S
 obtain ⟨oz, ez⟩ : ∃ o, h.get? z = some o := ⟨_, hz⟩
 obtain ⟨oI, eI⟩ : ∃ o, h.get? TI = some o := ⟨_, hTI⟩
 obtain ⟨oO, eO⟩ : ∃ o, h.get? TO = some o := ⟨_, hTO⟩
 refine ⟨[(z, oz), (TI, oI), (TO, oO), (i1, o1), (i2, o2)], rfl, fun p hp => ?_, fun {l xs b t k h'} S' N hl' => ?_⟩
 ·have m := hzs p.1 (List.mem_map_of_mem hp)
  simp only [List.mem_cons, List.not_mem_nil, or_false] at hp
  rcases hp with rfl | rfl | rfl | rfl | rfl
  ·exact ⟨ez, m⟩
  ·exact ⟨eI, m⟩
  ·exact ⟨eO, m⟩
  ·exact ⟨ho1, m⟩
  ·exact ⟨ho2, m⟩
 ·obtain ⟨z', TI', ⟨a', c', TO'⟩, ⟨p1, q1, s1⟩, ⟨p2, q2, s2⟩, _⟩ := S'
  rw [ho1] at q1; cases q1
  rw [ho2] at q2; cases q2
  have gz := (N _ (.head _)).1
  have g1 := (N _ (.tail _ (.head _))).1
  have g2 := (N _ (.tail _ (.tail _ (.head _)))).1
  exact ⟨gz.trans (ez.symm.trans z'), g1.trans (eI.symm.trans TI'), ⟨a', c', g2.trans (eO.symm.trans TO')⟩, ⟨o1, (N _ (.tail _ (.tail _ (.tail _ (.head _))))).1, s1⟩, ⟨o2, (N _ (.tail _ (.tail _ (.tail _ (.tail _ (.head _)))))).1, s2⟩, hl'⟩
theorem For_zip {elts : List Expr} {x1} {tpos : Pos} {body : List Stmt} {pos : Pos} {iter : Expr} {Q : Flow → Shared → Prop} (hh : A.handled = none)
  (h : wpAny (Md w) A (eval iter env) (fun xv s₁ => Stop (FZ w A g L env elts x1 tpos body Q xv s₁)) E s)
  (hs : ∀ x, foldedSetIterable iter env x = pure x := by intro _; rfl) :
  wpAny (Md w) A (exec (.For (.Tuple elts x1 tpos) iter body [] pos) env) Q E s := by
 refine wpAny_For (wpAny_mono h (fun xv s₁ h₁ => ?_) fun _ _ e => e) hs
 obtain ⟨z, TI, TO, i1, i2, l, xs, b, t, m, news, rfl, D, S, hsz, F, N, hl, hzs, hnz, J, hJ, step, done⟩ := h₁
 refine wpAny_pyIter_zip S.hz ?_
 have mz : z ∈ zF z TI TO i1 i2 := .head _
 have mTO : TO ∈ zF z TI TO i1 i2 := .tail _ (.tail _ (.head _))
 have m1 : i1 ∈ zF z TI TO i1 i2 := .tail _ (.tail _ (.tail _ (.head _)))
 have m2 : i2 ∈ zF z TI TO i1 i2 := .tail _ (.tail _ (.tail _ (.tail _ (.head _))))
 have keepF : ∀ {h h' : Heap} {m news}, Fr g L h m → News g L h news → (∀ p ∈ news, p.1 ∉ zF z TI TO i1 i2) → (∀ c o, c ≠ z → c ≠ TO → c ≠ i1 → c ≠ i2 → h.get? c = some o → h'.get? c = some o) → Fr g L h' m ∧ News g L h' news := fun {h h' m news} F N hn hk => by
  have kk : ∀ c o, c ∉ zF z TI TO i1 i2 → h.get? c = some o → h'.get? c = some o := fun c o hc e => hk c o (fun q => hc (q ▸ mz)) (fun q => hc (q ▸ mTO)) (fun q => hc (q ▸ m1)) (fun q => hc (q ▸ m2)) e
  exact ⟨⟨F.ns.at' fun o e => kk L o (fun q => (hzs L q).1 rfl) e, fun c o e => kk c o (fun q => by rw [(hzs c q).2] at e; cases e) (F.keep c o e), F.above⟩, fun p hp => ⟨kk _ _ (hn p hp) (N p hp).1, (N p hp).2⟩⟩
 refine codeAny_forLoop_any (ZI g L s₁ z TI TO i1 i2 l xs b t J) ?_ (xs.size + 1) ⟨s₁.heap, s₁.toks, m, news, 0, rfl, F, N, hnz, S, hJ, Nat.zero_le _, rfl⟩
 rintro n s' ⟨h, tk, m, news, i, rfl, F, N, hn, S, hJ, hi, rfl⟩
 rcases Nat.lt_or_eq_of_le hi with hlt | rfl
 ·have hx : xs[i]? = some xs[i] := by simp [hlt]
  have hy : b[i]? = some b[i] := by simp [Nat.lt_of_lt_of_le hlt hsz]
  refine zb_item D S hx hy fun h₁ tk₁ S₁ hT hk₁ => zip_go D S₁ fun h₂ S₂ hk₂ => ?_
  have FN := keepF F N hn hk₁
  have FN2 := keepF FN.1 FN.2 hn fun c o c1 _ _ _ e => hk₂ c o c1 e
  have hT₂ : IsPair h₂ h.objs.size _ _ := hk₂ _ _ (Nat.ne_of_gt (Heap.lt_size S.hz)) hT
  obtain ⟨zs, Xe, XN, Xst⟩ := zo_ex S₂ hzs
  exact wpAny_mono (step i zs (fun fl s₃ => fl = .next ∧ ZI g L s₁ z TI TO i1 i2 l xs b t J (xs.size + 1 - (i + 1)) s₃)
   (fun h' tk' m' news' F' N' hn' hJ' => ⟨rfl, h', tk', m', news', i + 1, rfl, F', fun p hp => N' p (List.mem_append_left _ hp), hn', Xst S₂ (fun p hp => N' p (List.mem_append_right _ hp)) (hl.at fun o e => F'.keep _ o e), hJ', hlt, rfl⟩)
   _ _ _ m news h₂ _ h.objs.size hx hy hJ FN2.1 (fun p hp => by
    rcases List.mem_cons.mp hp with rfl | hp
    ·exact ⟨hT₂, Nat.ne_of_gt F.ns.lt, fresh_below F.keep size_free⟩
    ·exact (List.mem_append.mp hp).elim (FN2.2 p) (XN p)) Xe hn (fun p hp => Nat.ne_of_lt (Heap.lt_size (N p hp).1)))
   (fun _ s₂ h₂' => wpAny_mono h₂' (fun fl s₃ ⟨e, h₃⟩ => by subst e; exact ⟨_, dec1 hlt, h₃⟩) fun _ _ e => e.elim) fun _ _ e => e.elim
 ·refine zb_end hh D S (by simp) fun h₁ hk₁ => wpAny_execs_nil ?_
  have FN := keepF F N hn hk₁
  exact done m news h₁ _ hJ FN.1 FN.2
end
end
section
theorem sched_add {den : Code → Sem Fin} {p : Program} {w : World} : ∀ (m k : Nat) (c c' : Config), schedN den p w m c = .running c' → schedN den p w (m + k) c = schedN den p w k c'
 | 0, k, c, c', h => by
  have h : SRun.running c = SRun.running c' := h
  cases h
  rw [Nat.zero_add]
 | m + 1, k, c, c', h => by
  rw [show m + 1 + k = m + k + 1 by omega]
  simp only [schedN] at h ⊢
  cases hs : sstep den p w c with
  | go c₂ => rw [hs] at h; exact sched_add m k c₂ c' h
  | halt o s => rw [hs] at h; cases h
structure Way (p : Program) (w : World) (n₀ : Nat) (s : Shared) (t : Thread) (s' : Shared) (t' : Thread) : Prop where
 go : ∃ m, schedN (denote table) p w m (.single s t) = .running (.single s' t')
 life : s'.heap.life = s.heap.life
 os : s'.os = s.os
 old : ∀ b o, b < n₀ → b ≠ mainNs → b ≠ cStatics → s.heap.get? b = some o → s'.heap.get? b = some o
section
variable {p : Program} {w : World} {n₀ : Nat} {s s' s'' : Shared} {t t' t'' : Thread}
theorem Way.refl : Way p w n₀ s t s t := ⟨⟨0, rfl⟩, rfl, rfl, fun _ _ _ _ _ e => e⟩
theorem Way.trans (x : Way p w n₀ s t s' t') (y : Way p w n₀ s' t' s'' t'') : Way p w n₀ s t s'' t'' :=
 let ⟨m, a⟩ := x.go
 let ⟨k, b⟩ := y.go
 ⟨⟨m + k, (sched_add m k _ _ a).trans b⟩, y.life.trans x.life, y.os.trans x.os, fun z o h1 h2 h3 e => y.old z o h1 h2 h3 (x.old z o h1 h2 h3 e)⟩
theorem Way.asleep (x : Way p w n₀ s t s' t') (h : s.asleep) : s'.asleep := Shared.asleep_of_life x.life h
theorem way_step (hr : s.asleep) (hk : stepOk n₀ none t = true) (hs : step (denote table) p w s t = .go s' t') : Way p w n₀ s t s' t' := by
 obtain ⟨hc, hk⟩ := Bool.and_eq_true_iff.mp hk
 have e : sstep (denote table) p w (.single s t) = .go (.single s' t') := by
  rcases sstep_single (denote table) p w s t hc hr with e | e
  ·rw [e, hs]; rfl
  ·rw [hs] at e; cases e
 refine ⟨⟨1, by simp only [schedN, e]⟩, step_life (denote table) p w s s' t t' hs, step_os_same hs (by revert hk; cases t.cur <;> simp), fun b o h1 h2 h3 h5 => ?_⟩
 rw [step_heap (denote table) p w s s' t t' hs]
 revert hk
 cases t.cur <;> intro hk <;> try exact h5
 case update a _ f _ =>
  have : b ≠ a := by
   rintro rfl
   simp only [Bool.or_eq_true, Nat.ble_eq, beq_iff_eq] at hk
   rcases hk with ((q | q) | q) | q
   ·exact absurd h1 (Nat.not_lt.mpr q)
   ·exact h2 q
   ·exact h3 q
   ·cases q
  exact (Heap.get?_update_ne _ _ _ _ this).trans h5
 case alloc x _ => exact Heap.get?_push_of_some x h5
theorem way_go : ∀ {n : Nat} {s s' : Shared} {t t' : Thread}, s.asleep → topGo table p w n₀ none n s t = some (s', t') → Way p w n₀ s t s' t'
 | 0, s, s', t, t', _, h => by
  obtain ⟨rfl, rfl⟩ : s = s' ∧ t = t' := by simpa [topGo] using h
  exact .refl
 | n + 1, s, s', t, t', hr, h => by
  unfold topGo at h
  cases ht : through t with
  | true => rw [ht] at h; cases h
  | false =>
   rw [ht] at h
   cases hk : stepOk n₀ none t with
   | false => rw [hk] at h; cases h
   | true =>
    rw [hk] at h
    cases hs : step (denote table) p w s t with
    | halt o s₂ => rw [hs] at h; cases h
    | go s₂ t₂ =>
     rw [hs] at h
     have x := way_step hr hk hs
     exact x.trans (way_go (x.asleep hr) h)
end
section
variable {α : Type} {p : Program} {w : World} {n₀ : Nat} {B : List Frame} {K' : α → Sem Fin} {H' : Value → Sem Fin} {gd : Bool → Bool} {lv : List Value → List Value} {res : α → Flow}
theorem way_seg (hB : splitAtGen B = none) : ∀ (n : Nat) (s : Shared) (t t' : Thread) (f : Flow) (s' : Shared) (c' : Code) (p' : Pos), s.asleep → Rel2 (fun a => .pure (.done (res a))) K' deadEnd H' gd lv B t t' →
  segRun table p w n₀ none B.length n s t = some (f, s', c', p') → ∃ a, res a = f ∧ Way p w n₀ s t' s' ⟨K' a, c', p', B⟩
 | 0, _, _, _, _, _, _, _, _, _, h => by simp [segRun] at h
 | n + 1, s, ⟨cur, code, pos, st⟩, ⟨cur', code', pos', st'⟩, f, s', c', p', hr, R, h => by
  obtain ⟨e1, e2, R⟩ := R
  dsimp only at e1 e2 R
  subst e1 e2
  unfold segRun at h
  cases he : endAt B.length ⟨cur, code, pos, st⟩ with
  | some g =>
   rw [he] at h
   obtain ⟨rfl, rfl, rfl, rfl⟩ : g = f ∧ s = s' ∧ code = c' ∧ pos = p' := by simpa using h
   rcases R with ⟨rfl, rfl, x, rfl, rfl⟩ | ⟨rfl, F⟩
   ·have hx : ∃ a, x = .pure a ∧ res a = g := by
     cases x with
     | pure a => simp only [endAt, Sem.wrap, beq_self_eq_true, Option.some.injEq] at he; exact ⟨a, rfl, he⟩
     | _ => simp [endAt, Sem.wrap] at he
    obtain ⟨a, rfl, rfl⟩ := hx
    exact ⟨a, rfl, .refl⟩
   ·have l := F.longer.1
    have : ((st.length == B.length) = false) := beq_eq_false_iff_ne.mpr (Nat.ne_of_gt l)
    simp only [endAt, this] at he
    cases he
  | none =>
   rw [he] at h
   cases hk : stepOk n₀ none ⟨cur, code, pos, st⟩ with
   | false => rw [hk] at h; cases h
   | true =>
    rw [hk] at h
    cases hs : step (denote table) p w s ⟨cur, code, pos, st⟩ with
    | halt o s₂ => rw [hs] at h; cases h
    | go s₂ t₂ =>
     rw [hs] at h
     have key : stepOk n₀ none ⟨cur', code, pos, st'⟩ = true ∧ ∃ t₂', step (denote table) p w s ⟨cur', code, pos, st'⟩ = .go s₂ t₂' ∧ Rel2 (fun a => .pure (.done (res a))) K' deadEnd H' gd lv B t₂ t₂' := by
      rcases R with ⟨rfl, rfl, x, rfl, rfl⟩ | ⟨rfl, F⟩
      ·have hp : ∀ a, x ≠ .pure a := by
        rintro a rfl
        simp [endAt, Sem.wrap] at he
       have hrr : ∀ e, x ≠ .raise e := by
        rintro e rfl
        obtain ⟨heap, gens, drawn, toks, os⟩ := s
        simp only [Sem.wrap, step] at hs
        cases hs
       obtain ⟨k1, _⟩ := okOuter (K' := K') (H' := H') hp hrr hk
       exact ⟨k1, step_outer hB hp hs⟩
      ·obtain ⟨k1, _⟩ := okInner hB F hk
       exact ⟨k1, step_inner hB F hs⟩
     obtain ⟨k1, t₂', k3, R'⟩ := key
     have x := way_step hr k1 k3
     obtain ⟨a, ha, hN⟩ := way_seg hB n s₂ t₂ t₂' f s' c' p' (x.asleep hr) R' h
     exact ⟨a, ha, x.trans hN⟩
end
theorem way_app {p : Program} {w : World} {n₀ : Nat} {env : Env} {q : Pos} {n : Nat} {s s' : Shared} {l rest : List Stmt} {c c' : Code} {pos p' : Pos} (hr : s.asleep) (h : segRun table p w n₀ none 1 n s (piecesOf l env c pos [topFrame q]) = some (.next, s', c', p')) :
  Way p w n₀ s (restOf (l ++ rest) env c pos [topFrame q]) s' (restOf rest env c' p' [topFrame q]) := by
 obtain ⟨a, ha, hN⟩ := way_seg (res := id) (K' := fun f => match f with | .next => (execs rest env).wrap doneF (PySem.W.leaveH env) id id | f => doneF f) (H' := PySem.W.leaveH env) (B := [topFrame q]) rfl n s (piecesOf l env c pos [topFrame q])
  ⟨(execs l env).wrap (fun f => match f with | .next => (execs rest env).wrap doneF (PySem.W.leaveH env) id id | f => doneF f) (PySem.W.leaveH env) id id, c, pos, [topFrame q]⟩ _ _ _ _ hr ⟨rfl, rfl, .inl ⟨rfl, rfl, _, rfl, rfl⟩⟩ h
 obtain rfl : a = .next := ha
 unfold restOf
 rw [execs_app_wrap]
 exact hN
end
theorem way_end {p : Program} {w : World} {s : Shared} {rest : List Stmt} {env : Env} {c : Code} {pos q : Pos} {A : Around} {R : Shared → Prop} (hr : s.asleep) (hin : (Ctx.over ⟨c, none, none, [], none⟩ [topFrame q]).In A)
  (h : wpAny (model p w) A (execs rest env) (fun f s' => f = .next ∧ R s' ∧ leftWithCleanup s'.gens = false) (fun _ _ => False) s) :
  ∃ s₁ t₁, (∃ m, schedN (denote table) p w m (.single s (restOf rest env c pos [topFrame q])) = .running (.single s₁ t₁)) ∧ through t₁ = true ∧ s₁.heap.life = s.heap.life ∧ ∃ s', R s' ∧ s₁.forget = s'.forget := by
 obtain ⟨e, s', hRuns, rfl, hR, hl⟩ : ∃ e s'', Runs (model p w) ⟨c, none, none, [], none⟩ pos ((execs rest env).wrap doneF (PySem.W.leaveH env) id id) [topFrame q] s e s'' ∧ (e = .ret (.ok (.ret .none)) ∧ R s'' ∧ leftWithCleanup s''.gens = false) :=
  runs_wrap_of_wp doneF (PySem.W.leaveH env) id id (execs rest env) (h _ pos hin) (fun a p' s' ⟨ha, hb⟩ => by subst ha; exact ⟨_, s', Runs.pop (.ok .next) Runs.done, rfl, hb⟩) (fun _ _ _ h => h.elim)
 obtain ⟨n, hn⟩ := halts_iff.mpr ⟨hRuns, hl⟩
 obtain ⟨s₁, hrun, hf, hc⟩ := runNI_real _ _ _ hn (outcomeOf_ends _)
 have hne : ∀ k s₂, runN (denote table) p w k s (restOf rest env c pos [topFrame q]) ≠ .halted (.unsupported "lifetime:generator-with-cleanup-left-suspended") s₂ := by
  intro k s₂ hk
  have a := runN_mono _ p w n k s _ _ s₁ hrun
  have b := runN_mono _ p w k n s _ _ s₂ hk
  rw [Nat.add_comm] at a
  have := a.symm.trans b
  injection this with a1 _
  cases a1
 obtain ⟨k, t', c', p', pre', hk, rfl, rfl⟩ := (runs_reach hRuns [] ⟨rfl, rfl, rfl, rfl⟩).runN
 obtain ⟨σ, tau, hk, hs, ht⟩ := runNI_running_real hk
 have hth : through tau = true := by
  obtain ⟨cur, code, pos, stack⟩ := tau
  injection ht with e1 _ _ e4
  subst e1
  cases stack with
  | nil => rfl
  | cons a b => cases e4
 exact ⟨σ, tau, ⟨k, (schedN_eq_runN _ _ _ s _ hr ⟨hc, hne⟩ k).trans (congrArg Run.lift hk)⟩, hth, by have e : σ.heap.life = s₁.heap.life := congrArg (fun x : Shared => x.heap.life) (a₁ := σ.forget) (a₂ := s₁.forget) (hs.trans hf.symm); exact e.trans (runN_life _ _ _ hrun), s', hR, hs⟩
local macro_rules | `(tactic| k_room) => `(tactic| ktr_room)
local macro_rules | `(tactic| walk_at $s:str) => let n := ((("|consQ=execs|binQ=eval BinOp|callQ=eval Call|asgQ=exec Assign|cmpQ=isTrue Compare|itrQ=isTrue|subQ=eval Subscript|metQ=eval Call Attribute|ifQ=exec If|unQI=QI|attQ=eval Attribute Name|rshQ=binaryOp RShift int int|lshQ=binaryOp LShift int int|encode_method=getMethod str|callWith_at=callWith ref|Stop.out=exec Assign cons ListComp|Stop.out=eval ListComp|Stop.out=call ref|Stop.out=exec Raise some none|Stop.out=exec Raise|Stop.out=exec Try|Stop.out=exec FunctionDef|Stop.out=Seg|Stop.out=call type:zip|Stop.out=call type:set|Stop.out=call type:dict|Stop.out=call type:enumerate|Stop.out=eval GeneratorExp|Stop.out=call builtin:str.encode|Stop.out=call builtin:str.join|Stop.out=setItem ref int|Stop.out=call builtin:list.pop|Stop.out=call builtin:bytes.decode|Stop.out=stop|Stop.out=exec For|argN=sN|argC=sC|iaddQ=inplaceOp Add ref ref'|appQ=call builtin:list.append'|unpackQ=assign Tuple'|unpackIQ=unpackItems ref'|nmL=nL|nmC=nC|nmM=nM|nmB=nB|nmFr=nF|callWith_at0=c0|StopR=sR|".splitOn ("=" ++ (if s.getString.startsWith "exec For" then "stop" else s.getString) ++ "|")).headD "").splitOn "|").getLastD ""; if n == "" then Lean.Macro.throwUnsupported else `(tactic| refine $(Lean.mkIdent n.toName) ?_)
local macro_rules | `(tactic| walk_at "eval Name") => `(tactic| k_dflt (first | walk_at "nL" | walk_at "nC" | walk_at "nM" | walk_at "nB" | walk_at "nF"))
local macro_rules | `(tactic| walk_at "execs cons") => `(tactic| (with_reducible walk_at "execs"; try dsimp only))
local macro_rules | `(tactic| walk_at "spliced") => `(tactic| first | with_reducible walk_at "sN" | k_dflt walk_at "sC")
local macro_rules | `(tactic| walk_at $s:str) => if ["inplaceOp Add ref ref", "call builtin:list.append", "assign Tuple", "unpackItems ref"].elem s.getString then `(tactic| (k_dflt walk_at $(Lean.Syntax.mkStrLit (s.getString ++ "'")); intro h' n' F' N'; (try dsimp only at N'); (try k_sweep))) else Lean.Macro.throwUnsupported
local macro_rules | `(tactic| k_inst) => `(tactic| exact inst_fr)
local macro_rules | `(tactic| k_ne) => `(tactic| exact neA)
theorem e64_spec {w : World} {mg mb : Str → Option Value} {A : Around} {s : Shared} {Q E : Value → Shared → Prop} (G : Gd w mg mb s.heap)
  (hd : A.depth + 1 < recursionLimit) (hu : A.units + 8 < cLine)
  (e lk : Addr) (bm : Array UInt8) (big : Bool) (he : Eng s.heap e bm big lk) (ms : List Int) (hk : KBw.bInts bm = ms) (hl : ms.length = 64) (v : Int) (t : Tok) (hv : 0 ≤ v ∧ v < 64)
  (hret : ∀ t' h' tk', Keep s.heap h' → 0 ≤ ms.getD v.toNat 0 → ms.getD v.toNat 0 < 256 → Q (.int (ms.getD v.toNat 0) t') {s with heap := h', toks := tk'}) :
  wpAny (model rw_iw0008_01.prog w) A (call (.ref 57) [.ref e, .int v t]) Q E s := by
 refine wpCall ?_
 have KX := G.K
 revert KX
 k_fill
 intro KX
 refine enterK (binds := [("self", .ref e), ("value", .int v t)]) G (by k_is) (by rfl) (by k_is) (by omega) (BindsTo.of_eq rfl) (by decide) (by rintro x (_ | ⟨_, _ | ⟨_, _ | _⟩⟩) <;> rfl) ?_ rfl rfl rfl
 intro L h₁ F N
 have T := G.T
 have F : Fr s.heap L h₁ (fun y => if y = "value" then some (.int v t) else if y = "self" then some (.ref e) else none) := F
 obtain ⟨dx, tb, k1, k2, k3, q1, q2, q3, nd, I⟩ := he.ex
 try dsimp only
 k_steps
 rename Fr _ _ _ _ => F2
 exact hret _ _ _ F2.keep (by assumption) (by assumption)
noncomputable def sixAt (v : Int) (i : Nat) : Int := v.fdiv (2 ^ (6 * i)) % 64
noncomputable def sixes (v : Int) (n : Nat) : List Int := (List.range n).map (sixAt v)
noncomputable def signs (ms as : List Int) : List Int := as.map fun a => ms.getD a.toNat 0
theorem sixAt_in (v : Int) (i : Nat) : 0 ≤ sixAt v i ∧ sixAt v i < 64 := by
 unfold sixAt; omega
theorem signs_in {ms as : List Int} (h : ∀ x ∈ ms, 0 ≤ x ∧ x < 256) : KBa.In (signs ms as) := by
 intro n hn
 obtain ⟨a, _, rfl⟩ := List.mem_map.mp hn
 exact KBw.getD_in h
theorem bInts_in {b : Array UInt8} {ms : List Int} (h : KBw.bInts b = ms) : ∀ x ∈ ms, 0 ≤ x ∧ x < 256 := fun x hx => KBw.ints_in (h ▸ hx)
noncomputable def sgn (ms : List Int) (V off : Int) : Int := ms.getD (Builtin.bitAnd (V.fdiv (2 ^ off.toNat)) 63).toNat 0
theorem sgn_eq (ms : List Int) (V : Int) (i : Nat) {off : Int} (h : off = ((6 * i : Nat) : Int)) : sgn ms V off = ms.getD (sixAt V i).toNat 0 := by
 unfold sgn sixAt
 rw [bitAnd_m6, h, Int.toNat_natCast]
theorem up_sixes (ms : List Int) (V : Int) (n : Nat) : (steps 0 6 n).map (sgn ms V) = signs ms (sixes V n) := by
 unfold steps signs sixes
 rw [List.map_map, List.map_map]
 refine List.map_congr_left fun i _ => ?_
 exact sgn_eq ms V i (by push_cast; omega)
theorem down_sixes (ms : List Int) (V : Int) (n : Nat) {a : Int} (ha : a = 6 * (n : Int) - 6) : (steps a (-6) n).map (sgn ms V) = signs ms (sixes V n).reverse := by
 unfold steps signs sixes
 rw [List.map_map, ← List.map_reverse, List.map_map]
 apply List.ext_getElem
 ·simp
 ·intro i h1 h2
  have hi : i < n := by simpa using h1
  simp only [List.getElem_map, List.getElem_range, List.getElem_reverse, Function.comp, List.length_range]
  obtain ⟨k, rfl⟩ := Nat.exists_eq_add_of_lt hi
  exact sgn_eq ms V _ (by rw [ha, Nat.add_sub_cancel, Nat.add_sub_cancel_left]; push_cast; omega)
section
open Builtin
theorem enc_self (x : Str) (t t1 : Tok) : Str.strSelf ⟨[.str x t, .str (Str.ofString "ascii") t1], []⟩ = pure (.str x t, x, [.str (Str.ofString "ascii") t1]) := by rfl
theorem enc_bind (v : Value) : Str.bindOptional "str.encode" "encode" 0 ["encoding", "errors"] [v] [] = pure [some v, none] := by kernel_rfl
theorem enc_c1 (t1 : Tok) : Str.codecArg "str.encode" "encode" "'encoding'" (some (.str (Str.ofString "ascii") t1)) = pure (some (Str.ofString "ascii")) := by kernel_rfl
theorem enc_c2 : Str.codecArg "str.encode" "encode" "'errors'" none = pure none := by rfl
theorem enc_norm : (_codecs.normalName (Str.ofString "ascii")).toString = "ascii" := by decide +kernel
theorem enc_road (x : Str) (t : Tok) : _codecs.encodeRoad "str.encode" (.str x t) x (Str.ofString "ascii") none = (_codecs.encodeNarrow "str.encode" _codecs.asciiCodec none (.str x t) x >>= fun b => mkBytes b) := by
 unfold _codecs.encodeRoad
 rw [enc_norm]
 first | rfl | kernel_rfl
theorem encode_eq (x : Str) (t t1 : Tok) : «str.encode» ⟨[.str x t, .str (Str.ofString "ascii") t1], []⟩ = (_codecs.encodeNarrow "str.encode" _codecs.asciiCodec none (.str x t) x >>= fun b => mkBytes b >>= fun v => ret v) := by
 unfold «str.encode»
 rw [enc_self, pure_bind]
 dsimp only
 rw [enc_bind, pure_bind]
 dsimp only
 rw [enc_c1, pure_bind, enc_c2, pure_bind]
 dsimp only [Option.getD_some]
 rw [enc_road, bind_assoc]
theorem slot_str_encode : Slot "str" "encode" "str.encode" :=
 .of (owner := "str") (n := "encode") (by rw [typeLookup_type, builtinLookup_eq_fast]; kernel_rfl) (by decide +kernel) (by decide +kernel) (by decide +kernel)
  (by first | exact .inl (by decide +kernel) | exact .inr (by decide +kernel)) (by rw [isSubtype_type]; kernel_rfl)
theorem entry_str_encode : entryFor table "str.encode" = some Builtin.«str.encode» := entryFor_of_tree (by kernel_rfl)
theorem args_str_encode (a b : Value) : argsOk "str.encode" ⟨[a, b], []⟩ := by unfold argsOk; kernel_rfl
theorem type_str_encode : typeOf (.builtin "str.encode") = pure (.type "method_descriptor") := by show builtinType _ = _; rw [builtinType_eq_fast]; kernel_rfl
theorem meets_encode (x : Str) (t t1 : Tok) (h : ∀ c ∈ x.cps, c < 128) (hz : x.cps.size ≤ 1000) :
  Meets («str.encode» ⟨[.str x t, .str (Str.ofString "ascii") t1], []⟩) (fun _ R s => ∀ t' k, R (.ok (.ret (.bytes (asciiOf x) t'))) { s with toks := k }) := by
 refine .of_wp fun prog w A R s hS => ?_
 rw [encode_eq, narrow_ascii _ _ _ h hz, pure_bind]
 refine wpAny_bind (wpAny_mkBytes ?_ ?_)
 ·exact wpAny_pure ⟨_, rfl, hS _ _⟩
 ·rw [asciiOf_size, sizeLine_eq]; omega
section
variable {w : World} {A : Around} {E : Value → Shared → Prop} {s : Shared}
theorem encode_K {x : Str} {t t1 : Tok} {Q : Value → Shared → Prop} (h : ∀ c ∈ x.cps, c < 128) (hz : x.cps.size ≤ 1000) (k : ∀ t' tk, Q (.bytes (asciiOf x) t') { s with toks := tk }) :
  wpAny (Md w) A (call (.builtin "str.encode") [.str x t, .str (Str.ofString "ascii") t1]) Q E s :=
 call_meets slot_str_encode rfl entry_str_encode (args_str_encode _ _) (meets_encode x t t1 h hz) k
theorem encode_method {M : Model} {pl : Sem Bool} {x : Str} {t : Tok} {Q : Value × List Value → Shared → Prop} (h : Q (.builtin "str.encode", [.str x t]) s) : wpAny M A (getMethod (.str x t) (Str.ofString "encode") pl) Q E s :=
 by with_reducible refine getMethod_builtin (typeIs_str _ _ _) F.plainAttrs_str slot_str_encode type_str_encode (fun _ e => nomatch e) h
end
end
section
open Builtin
noncomputable def h64S : Str := Str.ofString "./0123456789ABCDEFGHIJKLMNOPQRSTUVWXYZabcdefghijklmnopqrstuvwxyz"
noncomputable def bcryptS : Str := Str.ofString "./ABCDEFGHIJKLMNOPQRSTUVWXYZabcdefghijklmnopqrstuvwxyz0123456789"
noncomputable def h64B : Array UInt8 := [46, 47, 48, 49, 50, 51, 52, 53, 54, 55, 56, 57, 65, 66, 67, 68, 69, 70, 71, 72, 73, 74, 75, 76, 77, 78, 79, 80, 81, 82, 83, 84, 85, 86, 87, 88, 89, 90, 97, 98, 99, 100, 101, 102, 103, 104, 105, 106, 107, 108, 109, 110, 111, 112, 113, 114, 115, 116, 117, 118, 119, 120, 121, 122].toArray
noncomputable def bcryptB : Array UInt8 := [46, 47, 65, 66, 67, 68, 69, 70, 71, 72, 73, 74, 75, 76, 77, 78, 79, 80, 81, 82, 83, 84, 85, 86, 87, 88, 89, 90, 97, 98, 99, 100, 101, 102, 103, 104, 105, 106, 107, 108, 109, 110, 111, 112, 113, 114, 115, 116, 117, 118, 119, 120, 121, 122, 48, 49, 50, 51, 52, 53, 54, 55, 56, 57].toArray
inductive MapOf : Array UInt8 → Str → Prop
 | h64 : MapOf h64B h64S
 | bcrypt : MapOf bcryptB bcryptS
theorem l1_road {id : String} {b : Array UInt8} : _codecs.decodeRoad id b (Str.ofString "latin-1") none [] = (_codecs.runDecoder id _codecs.latin1Decoder none true b 0 [] >>= fun r => mkStr ⟨r.1⟩) := by kernel_rfl
theorem l1_entry {c : UInt8} {cs : List UInt8} {t t1 : Tok} : «bytes.decode» ⟨[.bytes (c :: cs).toArray t, .str (Str.ofString "latin-1") t1], []⟩ = (mkStr (Str.ofString "utf-8") >>= fun _ => mkStr (Str.ofString "latin-1") >>= fun e => mkStr (Str.ofString "bytes.decode") >>= fun d =>
  call (.builtin "_codecs.decode.text") [.bytes (c :: cs).toArray t, e, .none, d] >>= fun v => ret v) := by kernel_rfl
theorem l1_meets {b : Array UInt8} {t : Tok} {x : Str} {n : Nat} {t1 t2 : Tok} {d : Str} (hd : ∀ id, _codecs.runDecoder id _codecs.latin1Decoder none true b 0 [] = pure (x.cps, n)) :
  Meets («_codecs.decode.text» ⟨[.bytes b t, .str (Str.ofString "latin-1") t1, .none, .str d t2], []⟩) (fun _ R s => x.length ≤ sizeLine ∧ R (.ok (.ret (.str x s.toks))) { s with toks := s.toks + 1 }) := by
 refine .of_wp fun prog w A R s hS => ?_
 obtain ⟨hsz, h⟩ := hS
 show wpAny _ _ (Bytes.bytesLike _ (.bytes b t) >>= fun r => _) _ _ s
 refine wpAny_bind (wpAny_of_eq KBd.like_eq ?_)
 refine wpAny_bind (wpAny_of_eq KBd.held_eq ?_)
 show wpAny _ _ (_codecs.decodeRoad _ b (Str.ofString "latin-1") none [] >>= fun v => _) _ _ s
 rw [l1_road, hd]
 refine wpAny_bind (wpAny_bind (wpAny_pure ?_))
 exact wpAny_mkStr (wpAny_pure ⟨_, rfl, h⟩) hsz
theorem l1_decode {c : UInt8} {cs : List UInt8} {t t1 : Tok} {x : Str} {n : Nat} (hd : ∀ id, _codecs.runDecoder id _codecs.latin1Decoder none true (c :: cs).toArray 0 [] = pure (x.cps, n)) :
  Meets («bytes.decode» ⟨[.bytes (c :: cs).toArray t, .str (Str.ofString "latin-1") t1], []⟩) (fun _ R s => x.length ≤ sizeLine ∧ ∀ t' k, R (.ok (.ret (.str x t'))) { s with toks := k }) := by
 refine .of_wp fun prog w A R s hS => ?_
 obtain ⟨hsz, h⟩ := hS
 rw [l1_entry]
 refine wpAny_bind (wpAny_mkStr ?_ (by decide))
 refine wpAny_bind (wpAny_mkStr ?_ (by decide))
 refine wpAny_bind (wpAny_mkStr ?_ (by decide))
 exact wpAny_bind (call_function_meets KBd.kind_text KBd.plain_text KBd.entry_text (KBd.args_text _ _ _ _) (l1_meets hd) ⟨hsz, wpAny_pure ⟨_, rfl, h _ _⟩⟩)
theorem run_h64 (id : String) : _codecs.runDecoder id _codecs.latin1Decoder none true h64B 0 [] = pure (h64S.cps, 64) := by kernel_rfl
theorem run_bcrypt (id : String) : _codecs.runDecoder id _codecs.latin1Decoder none true bcryptB 0 [] = pure (bcryptS.cps, 64) := by kernel_rfl
theorem args_decode2 (a b : Value) : argsOk "bytes.decode" ⟨[a, b], []⟩ := by unfold argsOk; kernel_rfl
section
variable {w : World} {A : Around} {E : Value → Shared → Prop} {s : Shared}
theorem latin_K {b : Array UInt8} {x : Str} {t t1 : Tok} {Q : Value → Shared → Prop} (h : MapOf b x) (k : ∀ t' tk, Q (.str x t') { s with toks := tk }) :
  wpAny (Md w) A (call (.builtin "bytes.decode") [.bytes b t, .str (Str.ofString "latin-1") t1]) Q E s := by
 cases h with
 | h64 => exact call_meets FB.slot_bytes_decode (typeIs_bytes _ _ _) FB.entry_bytes_decode (args_decode2 _ _) (l1_decode run_h64) ⟨by rw [sizeLine_eq]; decide, k⟩
 | bcrypt => exact call_meets FB.slot_bytes_decode (typeIs_bytes _ _ _) FB.entry_bytes_decode (args_decode2 _ _) (l1_decode run_bcrypt) ⟨by rw [sizeLine_eq]; decide, k⟩
end
end
section
open Builtin
theorem lat_self (x : Str) (t t1 : Tok) : Str.strSelf ⟨[.str x t, .str (Str.ofString "latin-1") t1], []⟩ = pure (.str x t, x, [.str (Str.ofString "latin-1") t1]) := by rfl
theorem lat_c1 (t1 : Tok) : Str.codecArg "str.encode" "encode" "'encoding'" (some (.str (Str.ofString "latin-1") t1)) = pure (some (Str.ofString "latin-1")) := by kernel_rfl
theorem lat_norm : (_codecs.normalName (Str.ofString "latin-1")).toString = "latin_1" := by decide +kernel
theorem lat_road (x : Str) (t : Tok) : _codecs.encodeRoad "str.encode" (.str x t) x (Str.ofString "latin-1") none = (_codecs.encodeNarrow "str.encode" _codecs.latin1Codec none (.str x t) x >>= fun b => mkBytes b) := by
 unfold _codecs.encodeRoad
 rw [lat_norm]
 first | rfl | kernel_rfl
theorem lat_eq (x : Str) (t t1 : Tok) : «str.encode» ⟨[.str x t, .str (Str.ofString "latin-1") t1], []⟩ = (_codecs.encodeNarrow "str.encode" _codecs.latin1Codec none (.str x t) x >>= fun b => mkBytes b >>= fun v => ret v) := by
 unfold «str.encode»
 rw [lat_self, pure_bind]
 dsimp only
 rw [enc_bind, pure_bind]
 dsimp only
 rw [lat_c1, pure_bind, enc_c2, pure_bind]
 dsimp only [Option.getD_some]
 rw [lat_road, bind_assoc]
theorem lat_h64 (self : Value) : _codecs.encodeNarrow "str.encode" _codecs.latin1Codec none self h64S = pure h64B := by kernel_rfl
theorem lat_bcrypt (self : Value) : _codecs.encodeNarrow "str.encode" _codecs.latin1Codec none self bcryptS = pure bcryptB := by kernel_rfl
theorem lat_map {bm : Array UInt8} {x : Str} (h : MapOf bm x) (self : Value) : _codecs.encodeNarrow "str.encode" _codecs.latin1Codec none self x = pure bm := by
 cases h
 ·exact lat_h64 self
 ·exact lat_bcrypt self
theorem map_size {bm : Array UInt8} {x : Str} (h : MapOf bm x) : bm.size = 64 := by cases h <;> decide +kernel
theorem meets_lat {bm : Array UInt8} {x : Str} (h : MapOf bm x) (t t1 : Tok) :
  Meets («str.encode» ⟨[.str x t, .str (Str.ofString "latin-1") t1], []⟩) (fun _ R s => ∀ t' k, R (.ok (.ret (.bytes bm t'))) { s with toks := k }) := by
 refine .of_wp fun prog w A R s hS => ?_
 rw [lat_eq, lat_map h, pure_bind]
 refine wpAny_bind (wpAny_mkBytes ?_ ?_)
 ·exact wpAny_pure ⟨_, rfl, hS _ _⟩
 ·rw [map_size h, sizeLine_eq]; omega
theorem lat_K {w : World} {A : Around} {E : Value → Shared → Prop} {s : Shared} {bm : Array UInt8} {x : Str} {t t1 : Tok} {Q : Value → Shared → Prop} (h : MapOf bm x) (k : ∀ t' tk, Q (.bytes bm t') { s with toks := tk }) :
  wpAny (Md w) A (call (.builtin "str.encode") [.str x t, .str (Str.ofString "latin-1") t1]) Q E s :=
 call_meets slot_str_encode rfl entry_str_encode (args_str_encode _ _) (meets_lat h t t1) k
end
theorem d64_spec {w : World} {mg mb : Str → Option Value} {A : Around} {s : Shared} {Q E : Value → Shared → Prop} (G : Gd w mg mb s.heap)
  (hd : A.depth + 1 < recursionLimit) (hu : A.units + 8 < cLine) (hh : A.handled = none)
  (e lk : Addr) (bm : Array UInt8) (big : Bool) (he : Eng s.heap e bm big lk) (ms : List Int) (X : Lkup w s.heap lk ms) (v : Int) (t : Tok)
  {l : List Env} (S : Stk A l s.heap)
  (hexc : ∀ e h' tk', v ∉ ms → FlyN s.heap l e (.type "KeyError") h' → E (.ref e) { s with heap := h', toks := tk' })
  (hret : ∀ t' h' tk', Keep s.heap h' → v ∈ ms → Q (.int (ms.idxOf v : Int) t') {s with heap := h', toks := tk'}) :
  wpAny (model rw_iw0008_01.prog w) A (call (.ref 64) [.ref e, .int v t]) Q E s := by
 refine wpCall ?_
 have KX := G.K
 revert KX
 k_fill
 intro KX
 refine enterK (binds := [("self", .ref e), ("value", .int v t)]) G (by k_is) (by rfl) (by k_is) (by omega) (BindsTo.of_eq rfl) (by decide) (by rintro x (_ | ⟨_, _ | ⟨_, _ | _⟩⟩) <;> rfl) ?_ rfl rfl rfl
 intro L h₁ F N
 have T := G.T
 have F : Fr s.heap L h₁ (fun y => if y = "value" then some (.int v t) else if y = "self" then some (.ref e) else none) := F
 obtain ⟨dx, tb, k1, k2, k3, q1, q2, q3, nd, I⟩ := he.ex
 try dsimp only
 repeat' ((fail_if_success (with_reducible show wpAny _ _ (subscriptTail (Expr.Name (Str.ofString "_") _) _ _ _) _ _ _)); first | (k_unfold; (try dsimp only)) | walk1 | (dsimp only; walk1))
 have X' := X.keeps F.keep
 refine sub_of_getItem (by exact X') ?_
 by_cases hv : v ∈ ms
 ·refine getItem_hit (by exact X') hv ?_
  intro u
  exact hret _ _ _ F.keep hv
 ·refine getItem_miss (by exact X') hv (by exact hh) ?_
  intro h' e' hx
  exact leaveNewN S F rfl (fun q => ScopeKind.noConfusion q) (by exact hx) fun h'' R => hexc _ h'' _ hv R
theorem d64_ok {w : World} {mg mb : Str → Option Value} {A : Around} {s : Shared} {Q E : Value → Shared → Prop} (G : Gd w mg mb s.heap)
  (hd : A.depth + 1 < recursionLimit) (hu : A.units + 8 < cLine) (hh : A.handled = none)
  (e lk : Addr) (bm : Array UInt8) (big : Bool) (he : Eng s.heap e bm big lk) (ms : List Int) (X : Lkup w s.heap lk ms) (v : Int) (t : Tok)
  (hv : v ∈ ms)
  (hret : ∀ t' h' tk', Keep s.heap h' → Q (.int (ms.idxOf v : Int) t') {s with heap := h', toks := tk'}) :
  wpAny (model rw_iw0008_01.prog w) A (call (.ref 64) [.ref e, .int v t]) Q E s := by
 refine wpCall ?_
 have KX := G.K
 revert KX
 k_fill
 intro KX
 refine enterK (binds := [("self", .ref e), ("value", .int v t)]) G (by k_is) (by rfl) (by k_is) (by omega) (BindsTo.of_eq rfl) (by decide) (by rintro x (_ | ⟨_, _ | ⟨_, _ | _⟩⟩) <;> rfl) ?_ rfl rfl rfl
 intro L h₁ F N
 have T := G.T
 have F : Fr s.heap L h₁ (fun y => if y = "value" then some (.int v t) else if y = "self" then some (.ref e) else none) := F
 obtain ⟨dx, tb, k1, k2, k3, q1, q2, q3, nd, I⟩ := he.ex
 try dsimp only
 repeat' ((fail_if_success (with_reducible show wpAny _ _ (subscriptTail (Expr.Name (Str.ofString "_") _) _ _ _) _ _ _)); first | (k_unfold; (try dsimp only)) | walk1 | (dsimp only; walk1))
 have X' := X.keeps F.keep
 refine sub_of_getItem (by exact X') ?_
 refine getItem_hit (by exact X') hv ?_
 intro u
 exact hret _ _ _ F.keep
theorem dec6_spec {w : World} {mg mb : Str → Option Value} {A : Around} {s : Shared} {Q E : Value → Shared → Prop} {base : Heap} {l : List Env} (Gb : Gd w mg mb base) (K : Bel A l base s.heap)
  (hd : A.depth + 2 < recursionLimit) (hu : A.units + 12 < cLine) (hh : A.handled = none)
  (e lk : Addr) (bm : Array UInt8) (big : Bool) (he : Eng base e bm big lk) (ms : List Int) (X : Lkup w base lk ms) (b : Array UInt8) (t : Tok) (ks : List Int) (hb : KBw.bInts b = ks) (hz : ks.length ≤ 1000)
  (hexc : ∀ e h' tk', (ks.length ≠ 1 ∨ ks.getD 0 0 ∉ ms) → Fly s.heap l e (.type "ValueError") h' → E (.ref e) { s with heap := h', toks := tk' })
  (hret : ∀ t' h' tk', Keep s.heap h' → ks.getD 0 0 ∈ ms → ks.length = 1 → Q (.int (ms.idxOf (ks.getD 0 0) : Int) t') {s with heap := h', toks := tk'}) :
  wpAny (model rw_iw0008_01.prog w) A (call (.ref 189) [.ref e, .bytes b t]) Q E s := by
 have G : Gd w mg mb s.heap := Gb.keeps K.keep
 refine wpCall ?_
 have KX := G.K
 revert KX
 k_fill
 intro KX
 refine enterK (binds := [("self", .ref e), ("source", .bytes b t)]) G (by k_is) (by rfl) (by k_is) (by omega) (BindsTo.of_eq rfl) (by decide) (by rintro x (_ | ⟨_, _ | ⟨_, _ | _⟩⟩) <;> rfl) ?_ rfl rfl rfl
 intro L h₁ F N
 have T := G.T
 have F : Fr s.heap L h₁ (fun y => if y = "source" then some (.bytes b t) else if y = "self" then some (.ref e) else none) := F
 obtain ⟨dx, tb, k1, k2, k3, q1, q2, q3, nd, I⟩ := (he.keeps K.keep).ex
 try dsimp only
 k_steps
 ·refine Stop.mk ?_
  refine raise_V PySem.F.excCall_ValueError PySem.F.excRaise_ValueError (by exact hh) K.stk rfl (fun q => ScopeKind.noConfusion q) (fun _ _ h => h) ?_
  k_steps
  rename Fr _ _ _ _ => F3
  exact Stop.mk ⟨by rw [sizeLine_eq, List.length_singleton]; omega, _, F3, fun h' e R => hexc e h' _ (.inl (by omega)) R⟩
 ·refine Stop.mk (wpAny_Try_except ?_)
  k_steps
  refine Stop.mk ?_
  rename Fr _ _ _ _ => F2
  have k2 : Keep base _ := Keep.trans K.keep F2.keep
  refine d64_spec (by exact Gb.keeps k2) (by exact rm (b := 2) hd) (by exact rm (b := 11) hu) (by exact hh) e lk bm big (by exact he.keeps k2) ms (by exact X.keeps k2) _ _ (by exact (K.push F2 rfl (fun q => ScopeKind.noConfusion q)).stk) ?_ ?_
  ·intro e1 h1 tk1 hv Y
   refine caughtN (by exact Y) (by exact F2) (by exact K) rfl Gb (x := Str.ofString "KeyError") PyProof.Rows.Boot.KeyError (by decide +kernel) (by decide) kr_isExc_KeyError kr_notTuple_KeyError (by rw [isSubtype_type]; kernel_rfl) (by passes_own) ?_ rfl rfl rfl rfl (by decide)
   intro h2 g2 B T2 F4 tr
   have G2 := Gb.keeps (K.turn T2).keep
   have T := G2.T
   have KX := G2.K
   clear F2
   k_steps
   refine Stop.mk ?_
   refine raise_H PySem.F.excCall_ValueError PySem.F.excRaise_ValueError (by rfl) ?_
   k_steps
   rename Fr _ _ _ _ => F5
   obtain ⟨oe, vs, T', oT, ts, he', hc, hd', h1', h2', _⟩ := tr
   refine Stop.mk ⟨by rw [sizeLine_eq, List.length_singleton]; omega, ⟨oe, vs, he', hd', h2'⟩, fun h3 e3 hm _ => ?_⟩
   exact leaveH (K.turn T2).stk F5 rfl (fun q => ScopeKind.noConfusion q) hm rfl fun h4 R => hexc e3 h4 _ (.inr hv) (R.back T2)
  ·intro t' h1 tk1 kk hv
   exact hret t' h1 tk1 (Keep.trans F2.keep kk) hv (by omega)
noncomputable abbrev ndArgs (n : Nat) : Arguments := { posonlyargs := [], args := [{ arg := "c", annotation := none, pos := ⟨n, 19, n, 20⟩ : PySem.Arg }], vararg := none, kwonlyargs := [], kw_defaults := [], kwarg := none, defaults := [] : PySem.Arguments }
noncomputable abbrev ndBody (n : Nat) : List Stmt := [(PySem.Stmt.Return (value := (some (PySem.Expr.Call (func := (PySem.Expr.Attribute (PySem.Expr.Name "self" ⟨n, 19, n, 23⟩) "_decode64" ⟨n, 19, n, 33⟩)) (args := [(PySem.Expr.Name "c" ⟨n, 34, n, 35⟩)]) (keywords := []) (pos := ⟨n, 19, n, 36⟩)))) (pos := ⟨n, 12, n, 36⟩))]
noncomputable abbrev ndScope : Scope := { kind := PySem.ScopeKind.function, names := [(PySem.Str.ofString "c", PySem.NameKind.local), (PySem.Str.ofString "self", PySem.NameKind.free)], isGenerator := false, isCoroutine := false, more := [] : PySem.Scope }
theorem nd_spec_D12 {w : World} {mg mb : Str → Option Value} {A : Around} {s : Shared} {Q E : Value → Shared → Prop} (G : Gd w mg mb s.heap)
  (hd : A.depth + 2 < recursionLimit) (hu : A.units + 11 < cLine) (hh : A.handled = none) {f c' cs : Addr} {doc pm ctv : Value} (ho : s.heap.get? f = some (fnMade "decode" mkD12.qual (ndArgs 233) (ndBody 234) ndScope [("self", cs)] doc pm c' ctv))
  (hcd : s.heap.CodeRec (.ref c') mkD12.qual) {oc : Obj}
  (e lk : Addr) (hoc : s.heap.get? cs = some oc) (hdc : oc.data = .cell (some (.ref e))) (bm : Array UInt8) (big : Bool) (he : Eng s.heap e bm big lk) (ms : List Int) (X : Lkup w s.heap lk ms) (v : Int) (t : Tok)
  {l : List Env} (S : Stk A l s.heap)
  (hexc : ∀ e h' tk', v ∉ ms → FlyN s.heap l e (.type "KeyError") h' → E (.ref e) { s with heap := h', toks := tk' })
  (hret : ∀ t' h' tk', Keep s.heap h' → v ∈ ms → Q (.int (ms.idxOf v : Int) t') {s with heap := h', toks := tk'}) :
  wpAny (model rw_iw0008_01.prog w) A (call (.ref f) [.int v t]) Q E s := by
 refine wpCall ?_
 have KX := G.K
 revert KX
 k_fill
 intro KX
 refine enterN (binds := [("c", .int v t)]) G ho rfl hcd (by omega) (BindsTo.of_eq rfl) (by rintro x (_ | ⟨_, _ | _⟩) <;> rfl) (by decide) ?_ rfl rfl rfl
 intro L h₁ F N
 have T := G.T
 have F : Fr s.heap L h₁ (fun y => if y = "c" then some (.int v t) else none) := F
 obtain ⟨dx, tb, k1, k2, k3, q1, q2, q3, nd, I⟩ := he.ex
 try dsimp only
 k_steps
 refine Stop.mk ?_
 rename Fr _ _ _ _ => F2
 refine d64_spec (by exact G.keeps F2.keep) (by exact rm (b := 2) hd) (by exact rm (b := 11) hu) (by exact hh) e lk bm big (by exact he.keeps F2.keep) ms (by exact X.keeps F2.keep) _ _ (by exact S.push F2 rfl (fun q => ScopeKind.noConfusion q)) ?_ ?_
 ·intro e1 h1 tk1 hv Y
  exact leaveOnN S.stack F2 rfl Y fun h2 R => hexc _ _ _ hv R
 ·intro t' h1 tk1 kk hv
  exact hret t' h1 tk1 (Keep.trans F2.keep kk) hv
theorem nd_spec_D24 {w : World} {mg mb : Str → Option Value} {A : Around} {s : Shared} {Q E : Value → Shared → Prop} (G : Gd w mg mb s.heap)
  (hd : A.depth + 2 < recursionLimit) (hu : A.units + 11 < cLine) (hh : A.handled = none) {f c' cs : Addr} {doc pm ctv : Value} (ho : s.heap.get? f = some (fnMade "decode" mkD24.qual (ndArgs 249) (ndBody 250) ndScope [("self", cs)] doc pm c' ctv))
  (hcd : s.heap.CodeRec (.ref c') mkD24.qual) {oc : Obj}
  (e lk : Addr) (hoc : s.heap.get? cs = some oc) (hdc : oc.data = .cell (some (.ref e))) (bm : Array UInt8) (big : Bool) (he : Eng s.heap e bm big lk) (ms : List Int) (X : Lkup w s.heap lk ms) (v : Int) (t : Tok)
  {l : List Env} (S : Stk A l s.heap)
  (hexc : ∀ e h' tk', v ∉ ms → FlyN s.heap l e (.type "KeyError") h' → E (.ref e) { s with heap := h', toks := tk' })
  (hret : ∀ t' h' tk', Keep s.heap h' → v ∈ ms → Q (.int (ms.idxOf v : Int) t') {s with heap := h', toks := tk'}) :
  wpAny (model rw_iw0008_01.prog w) A (call (.ref f) [.int v t]) Q E s := by
 refine wpCall ?_
 have KX := G.K
 revert KX
 k_fill
 intro KX
 refine enterN (binds := [("c", .int v t)]) G ho rfl hcd (by omega) (BindsTo.of_eq rfl) (by rintro x (_ | ⟨_, _ | _⟩) <;> rfl) (by decide) ?_ rfl rfl rfl
 intro L h₁ F N
 have T := G.T
 have F : Fr s.heap L h₁ (fun y => if y = "c" then some (.int v t) else none) := F
 obtain ⟨dx, tb, k1, k2, k3, q1, q2, q3, nd, I⟩ := he.ex
 try dsimp only
 k_steps
 refine Stop.mk ?_
 rename Fr _ _ _ _ => F2
 refine d64_spec (by exact G.keeps F2.keep) (by exact rm (b := 2) hd) (by exact rm (b := 11) hu) (by exact hh) e lk bm big (by exact he.keeps F2.keep) ms (by exact X.keeps F2.keep) _ _ (by exact S.push F2 rfl (fun q => ScopeKind.noConfusion q)) ?_ ?_
 ·intro e1 h1 tk1 hv Y
  exact leaveOnN S.stack F2 rfl Y fun h2 R => hexc _ _ _ hv R
 ·intro t' h1 tk1 kk hv
  exact hret t' h1 tk1 (Keep.trans F2.keep kk) hv
theorem nd_spec_Di {w : World} {mg mb : Str → Option Value} {A : Around} {s : Shared} {Q E : Value → Shared → Prop} (G : Gd w mg mb s.heap)
  (hd : A.depth + 2 < recursionLimit) (hu : A.units + 11 < cLine) (hh : A.handled = none) {f c' cs : Addr} {doc pm ctv : Value} (ho : s.heap.get? f = some (fnMade "decode" mkDi.qual (ndArgs 201) (ndBody 202) ndScope [("self", cs)] doc pm c' ctv))
  (hcd : s.heap.CodeRec (.ref c') mkDi.qual) {oc : Obj}
  (e lk : Addr) (hoc : s.heap.get? cs = some oc) (hdc : oc.data = .cell (some (.ref e))) (bm : Array UInt8) (big : Bool) (he : Eng s.heap e bm big lk) (ms : List Int) (X : Lkup w s.heap lk ms) (v : Int) (t : Tok)
  {l : List Env} (S : Stk A l s.heap)
  (hexc : ∀ e h' tk', v ∉ ms → FlyN s.heap l e (.type "KeyError") h' → E (.ref e) { s with heap := h', toks := tk' })
  (hret : ∀ t' h' tk', Keep s.heap h' → v ∈ ms → Q (.int (ms.idxOf v : Int) t') {s with heap := h', toks := tk'}) :
  wpAny (model rw_iw0008_01.prog w) A (call (.ref f) [.int v t]) Q E s := by
 refine wpCall ?_
 have KX := G.K
 revert KX
 k_fill
 intro KX
 refine enterN (binds := [("c", .int v t)]) G ho rfl hcd (by omega) (BindsTo.of_eq rfl) (by rintro x (_ | ⟨_, _ | _⟩) <;> rfl) (by decide) ?_ rfl rfl rfl
 intro L h₁ F N
 have T := G.T
 have F : Fr s.heap L h₁ (fun y => if y = "c" then some (.int v t) else none) := F
 obtain ⟨dx, tb, k1, k2, k3, q1, q2, q3, nd, I⟩ := he.ex
 try dsimp only
 k_steps
 refine Stop.mk ?_
 rename Fr _ _ _ _ => F2
 refine d64_spec (by exact G.keeps F2.keep) (by exact rm (b := 2) hd) (by exact rm (b := 11) hu) (by exact hh) e lk bm big (by exact he.keeps F2.keep) ms (by exact X.keeps F2.keep) _ _ (by exact S.push F2 rfl (fun q => ScopeKind.noConfusion q)) ?_ ?_
 ·intro e1 h1 tk1 hv Y
  exact leaveOnN S.stack F2 rfl Y fun h2 R => hexc _ _ _ hv R
 ·intro t' h1 tk1 kk hv
  exact hret t' h1 tk1 (Keep.trans F2.keep kk) hv
theorem dec12_spec {w : World} {mg mb : Str → Option Value} {A : Around} {s : Shared} {Q E : Value → Shared → Prop} {base : Heap} {l : List Env} (Gb : Gd w mg mb base) (K : Bel A l base s.heap)
  (TB : Tabs s.heap) (hP : ∀ P ∈ PS, base.get? P = none)
  (hd : A.depth + 3 < recursionLimit) (hu : A.units + 15 < cLine) (hh : A.handled = none)
  (e lk : Addr) (bm : Array UInt8) (big : Bool) (he : Eng base e bm big lk) (ms : List Int) (hl : ms.length = 64) (X : Lkup w base lk ms) (b : Array UInt8) (t : Tok) (ks : List Int) (hb : KBw.bInts b = ks) (hz : ks.length ≤ 1000)
  (hexc : ∀ e h' tk', (ks.length ≠ 2 ∨ ∃ k ∈ ks, k ∉ ms) → FlyT s.heap l e (.type "ValueError") h' → E (.ref e) { s with heap := h', toks := tk' })
  (hret : ∀ t' h' tk', KeepT s.heap h' → (∀ k ∈ ks, k ∈ ms) → ks.length = 2 → Q (.int (decV ms (if big then ks.reverse else ks)) t') {s with heap := h', toks := tk'}) :
  wpAny (model rw_iw0008_01.prog w) A (call (.ref 196) [.ref e, .bytes b t]) Q E s := by
 have K' := K.hid TB hP
 have G : Gd w mg mb s.heap := Gb.keeps K.keep
 have G' : Gd w mg mb (hideAll s.heap PS) := Gb.keeps K'.keep
 refine wpCall ?_
 have KX := G'.K
 revert KX
 k_fill
 intro KX
 refine enterKCT (binds := [("self", .ref e), ("source", .bytes b t)]) G TB (by k_is) (by rfl) (by k_is) (by omega) (BindsTo.of_eq rfl) rfl (by decide +kernel) ?_ rfl rfl rfl
 intro L h₁ tk cells led F N XL Y hlt
 have T := G'.T
 have F : Fr (hideAll s.heap PS) L h₁ (fun y => if y = "source" then some (.bytes b t) else none) := F
 k_cells Y
 obtain ⟨dx, tb, k1, k2, k3, q1, q2, q3, nd, I⟩ := (he.keeps K'.keep).ex
 try dsimp only
 rename _ = Data.cell _ => hself
 have hself : _ = Data.cell (some (.ref e)) := hself
 simp only [List.cons_append, List.nil_append] at N
 generalize hg : hideAll s.heap PS = g at *
 have C : CodeHd g 195 191 := ⟨_, _, _, _, _, _, _, _, _, KX _ _ (by k_is), rfl, rfl, rfl, rfl, rfl, rfl, rfl, rfl, by decide⟩
 k_steps
 ·refine Stop.mk ?_
  rename News _ _ _ _ => N1
  refine raise_VT PySem.F.excCall_ValueError PySem.F.excRaise_ValueError (by exact hh) K'.stk rfl (fun q => ScopeKind.noConfusion q) (fun _ _ h => h) ?_
  k_steps
  rename Fr _ _ _ _ => F3
  rename News _ _ _ _ => N3
  exact Stop.mk ⟨by rw [sizeLine_eq, List.length_singleton]; omega, _, F3, fun h' e R o => hexc e h' _ (.inl (by omega)) (flyT_of TB hg K'.stk KtsTurn.refl XL (news := [_]) F3 N3 rfl o)⟩
 ·refine Stop.mk ?_
  rename Fr _ _ _ _ => F1
  rename News _ _ _ _ => N1
  refine nestDef_K rfl rfl rfl ?_
  refine nestT (x := mkD12) in_D12 F1 (news := [_]) N1 XL G'.P C rfl ?_ rfl ?_
  ·intro p hp q
   rw [List.mem_singleton.mp hp] at q
   exact absurd (hlt _ q) (Nat.not_lt.mpr (Nat.le_succ _))
  intro f c' ctv doc h2 tk2 led2 F2 N2 XL2 CL hn2 hf2
  simp only [List.cons_append, List.nil_append] at N2
  clear F1 N1
  k_steps
  rename Fr _ _ _ _ => F3
  rename News _ _ _ _ => N3
  refine Stop.mk ?_
  refine tryBy (fun env v s' => ∃ a h' tk', v = .ref a ∧ s' = { s with heap := h', toks := tk' } ∧ (∃ k ∈ ks, k ∉ ms) ∧ ∃ G, Fr g L G (fun y => if y = "decode" then some (.ref f) else if y = "source" then some (.bytes b t) else none) ∧ News g L G led2 ∧ FlyN G (env :: l) a (.type "KeyError") h') ?_ ?_
  ·k_steps
   ·rename big = true => hbig
    refine Stop.mk ?_
    rename Fr _ _ _ _ => F4
    rename News _ _ _ _ => N4
    refine nd_spec_D12 (by exact Gb.keeps (K'.keep.trans F4.keep)) (by exact rm (b := 3) hd) (by exact rm (b := 14) hu) (by exact hh) (by exact N4.get (List.Mem.head _)) (by exact codeL_at (news := [_, _]) CL F4 N4) e lk (by exact N4.get (List.Mem.tail _ (List.Mem.head _))) hself bm big (by exact he.keeps (K'.keep.trans F4.keep)) ms (by exact X.keeps (K'.keep.trans F4.keep)) _ _ (by exact (K'.push F4 rfl (fun q => ScopeKind.noConfusion q)).stk) ?_ ?_
    ·intro e1 h1 tk1 hv Y
     exact ⟨e1, h1, tk1, rfl, rfl, ⟨_, getD_mem (by omega), hv⟩, _, F4, fun p hp => N4 p (List.mem_append_right [_, _] hp), Y⟩
    intro t1 h1 tk1 kk hv1
    replace F4 := F4.kept kk
    replace N4 := newsKeep N4 kk
    k_steps
    refine Stop.mk ?_
    rename Fr _ _ _ _ => F4
    rename News _ _ _ _ => N4
    refine nd_spec_D12 (by exact Gb.keeps (K'.keep.trans F4.keep)) (by exact rm (b := 3) hd) (by exact rm (b := 14) hu) (by exact hh) (by exact N4.get (List.Mem.head _)) (by exact codeL_at (news := [_, _]) CL F4 N4) e lk (by exact N4.get (List.Mem.tail _ (List.Mem.head _))) hself bm big (by exact he.keeps (K'.keep.trans F4.keep)) ms (by exact X.keeps (K'.keep.trans F4.keep)) _ _ (by exact (K'.push F4 rfl (fun q => ScopeKind.noConfusion q)).stk) ?_ ?_
    ·intro e1 h1 tk1 hv Y
     exact ⟨e1, h1, tk1, rfl, rfl, ⟨_, getD_mem (by omega), hv⟩, _, F4, fun p hp => N4 p (List.mem_append_right [_, _] hp), Y⟩
    intro t1 h1 tk1 kk hv2
    replace F4 := F4.kept kk
    replace N4 := newsKeep N4 kk
    k_steps
    rename Fr _ _ _ _ => F4
    rename News _ _ _ _ => N4
    have hln : ks.length = 2 := by omega
    simp only [hbig, if_true, decV_two_rev hln] at hret
    exact hret _ _ _ (XL2.keepT (news := []) (by rw [hg]; exact F4) fun p hp => (N4 p (List.mem_append_right [_, _] hp)).1) (all_two hln (by assumption) (by assumption)) hln
   ·rename big = false => hbig
    refine Stop.mk ?_
    rename Fr _ _ _ _ => F4
    rename News _ _ _ _ => N4
    refine nd_spec_D12 (by exact Gb.keeps (K'.keep.trans F4.keep)) (by exact rm (b := 3) hd) (by exact rm (b := 14) hu) (by exact hh) (by exact N4.get (List.Mem.head _)) (by exact codeL_at (news := [_, _]) CL F4 N4) e lk (by exact N4.get (List.Mem.tail _ (List.Mem.head _))) hself bm big (by exact he.keeps (K'.keep.trans F4.keep)) ms (by exact X.keeps (K'.keep.trans F4.keep)) _ _ (by exact (K'.push F4 rfl (fun q => ScopeKind.noConfusion q)).stk) ?_ ?_
    ·intro e1 h1 tk1 hv Y
     exact ⟨e1, h1, tk1, rfl, rfl, ⟨_, getD_mem (by omega), hv⟩, _, F4, fun p hp => N4 p (List.mem_append_right [_, _] hp), Y⟩
    intro t1 h1 tk1 kk hv1
    replace F4 := F4.kept kk
    replace N4 := newsKeep N4 kk
    k_steps
    refine Stop.mk ?_
    rename Fr _ _ _ _ => F4
    rename News _ _ _ _ => N4
    refine nd_spec_D12 (by exact Gb.keeps (K'.keep.trans F4.keep)) (by exact rm (b := 3) hd) (by exact rm (b := 14) hu) (by exact hh) (by exact N4.get (List.Mem.head _)) (by exact codeL_at (news := [_, _]) CL F4 N4) e lk (by exact N4.get (List.Mem.tail _ (List.Mem.head _))) hself bm big (by exact he.keeps (K'.keep.trans F4.keep)) ms (by exact X.keeps (K'.keep.trans F4.keep)) _ _ (by exact (K'.push F4 rfl (fun q => ScopeKind.noConfusion q)).stk) ?_ ?_
    ·intro e1 h1 tk1 hv Y
     exact ⟨e1, h1, tk1, rfl, rfl, ⟨_, getD_mem (by omega), hv⟩, _, F4, fun p hp => N4 p (List.mem_append_right [_, _] hp), Y⟩
    intro t1 h1 tk1 kk hv2
    replace F4 := F4.kept kk
    replace N4 := newsKeep N4 kk
    k_steps
    rename Fr _ _ _ _ => F4
    rename News _ _ _ _ => N4
    have hln : ks.length = 2 := by omega
    simp only [hbig, Bool.false_eq_true, if_false, decV_two hln] at hret
    exact hret _ _ _ (XL2.keepT (news := []) (by rw [hg]; exact F4) fun p hp => (N4 p (List.mem_append_right [_, _] hp)).1) (all_two hln (by assumption) (by assumption)) hln
  ·rintro _ _ ⟨a, h', tk', rfl, rfl, hbad, GG, F4, N4, Y⟩
   refine caughtNT (by exact Y) (by exact F4) (by exact K') rfl Gb (x := Str.ofString "KeyError") PyProof.Rows.Boot.KeyError (by decide +kernel) (by decide) kr_isExc_KeyError kr_notTuple_KeyError (by rw [isSubtype_type]; kernel_rfl) (by passes_own) ?_ rfl rfl rfl rfl (by decide)
   intro h2 g2 B T2 F5 tr off
   have N5 := turn_news (env := envOfC _ _ L 196 _) K'.stk rfl T2 N4 off
   have G2 := Gb.keeps (K'.turn T2).keep
   have T := G2.T
   have KX := G2.K
   clear F4 F3 N3 I
   k_steps
   refine Stop.mk ?_
   refine raise_H PySem.F.excCall_ValueError PySem.F.excRaise_ValueError (by rfl) ?_
   k_steps
   rename Fr _ _ _ _ => F6
   rename News _ _ _ _ => N6
   obtain ⟨oe, vs, T', oT, ts, he', hc, hd', h1', h2', _⟩ := tr
   refine Stop.mk ⟨by rw [sizeLine_eq, List.length_singleton]; omega, ⟨oe, vs, he', hd', h2'⟩, fun h3 e3 hm _ => ?_⟩
   exact leaveHT (K'.turn T2).stk F6 rfl (fun q => ScopeKind.noConfusion q) hm rfl fun h4 R o => hexc e3 h4 _ (.inr hbad) (flyT_of TB hg K'.stk T2 XL2 (news := []) F6 N6 rfl o)
theorem dec24_spec {w : World} {mg mb : Str → Option Value} {A : Around} {s : Shared} {Q E : Value → Shared → Prop} {base : Heap} {l : List Env} (Gb : Gd w mg mb base) (K : Bel A l base s.heap)
  (TB : Tabs s.heap) (hP : ∀ P ∈ PS, base.get? P = none)
  (hd : A.depth + 3 < recursionLimit) (hu : A.units + 15 < cLine) (hh : A.handled = none)
  (e lk : Addr) (bm : Array UInt8) (big : Bool) (he : Eng base e bm big lk) (ms : List Int) (hl : ms.length = 64) (X : Lkup w base lk ms) (b : Array UInt8) (t : Tok) (ks : List Int) (hb : KBw.bInts b = ks) (hz : ks.length ≤ 1000)
  (hexc : ∀ e h' tk', (ks.length ≠ 4 ∨ ∃ k ∈ ks, k ∉ ms) → FlyT s.heap l e (.type "ValueError") h' → E (.ref e) { s with heap := h', toks := tk' })
  (hret : ∀ t' h' tk', KeepT s.heap h' → (∀ k ∈ ks, k ∈ ms) → ks.length = 4 → Q (.int (decV ms (if big then ks.reverse else ks)) t') {s with heap := h', toks := tk'}) :
  wpAny (model rw_iw0008_01.prog w) A (call (.ref 203) [.ref e, .bytes b t]) Q E s := by
 have K' := K.hid TB hP
 have G : Gd w mg mb s.heap := Gb.keeps K.keep
 have G' : Gd w mg mb (hideAll s.heap PS) := Gb.keeps K'.keep
 refine wpCall ?_
 have KX := G'.K
 revert KX
 k_fill
 intro KX
 refine enterKCT (binds := [("self", .ref e), ("source", .bytes b t)]) G TB (by k_is) (by rfl) (by k_is) (by omega) (BindsTo.of_eq rfl) rfl (by decide +kernel) ?_ rfl rfl rfl
 intro L h₁ tk cells led F N XL Y hlt
 have T := G'.T
 have F : Fr (hideAll s.heap PS) L h₁ (fun y => if y = "source" then some (.bytes b t) else none) := F
 k_cells Y
 obtain ⟨dx, tb, k1, k2, k3, q1, q2, q3, nd, I⟩ := (he.keeps K'.keep).ex
 try dsimp only
 rename _ = Data.cell _ => hself
 have hself : _ = Data.cell (some (.ref e)) := hself
 simp only [List.cons_append, List.nil_append] at N
 generalize hg : hideAll s.heap PS = g at *
 have C : CodeHd g 202 198 := ⟨_, _, _, _, _, _, _, _, _, KX _ _ (by k_is), rfl, rfl, rfl, rfl, rfl, rfl, rfl, rfl, by decide⟩
 k_steps
 ·refine Stop.mk ?_
  rename News _ _ _ _ => N1
  refine raise_VT PySem.F.excCall_ValueError PySem.F.excRaise_ValueError (by exact hh) K'.stk rfl (fun q => ScopeKind.noConfusion q) (fun _ _ h => h) ?_
  k_steps
  rename Fr _ _ _ _ => F3
  rename News _ _ _ _ => N3
  exact Stop.mk ⟨by rw [sizeLine_eq, List.length_singleton]; omega, _, F3, fun h' e R o => hexc e h' _ (.inl (by omega)) (flyT_of TB hg K'.stk KtsTurn.refl XL (news := [_]) F3 N3 rfl o)⟩
 ·refine Stop.mk ?_
  rename Fr _ _ _ _ => F1
  rename News _ _ _ _ => N1
  refine nestDef_K rfl rfl rfl ?_
  refine nestT (x := mkD24) in_D24 F1 (news := [_]) N1 XL G'.P C rfl ?_ rfl ?_
  ·intro p hp q
   rw [List.mem_singleton.mp hp] at q
   exact absurd (hlt _ q) (Nat.not_lt.mpr (Nat.le_succ _))
  intro f c' ctv doc h2 tk2 led2 F2 N2 XL2 CL hn2 hf2
  simp only [List.cons_append, List.nil_append] at N2
  clear F1 N1
  k_steps
  rename Fr _ _ _ _ => F3
  rename News _ _ _ _ => N3
  refine Stop.mk ?_
  refine tryBy (fun env v s' => ∃ a h' tk', v = .ref a ∧ s' = { s with heap := h', toks := tk' } ∧ (∃ k ∈ ks, k ∉ ms) ∧ ∃ G, Fr g L G (fun y => if y = "decode" then some (.ref f) else if y = "source" then some (.bytes b t) else none) ∧ News g L G led2 ∧ FlyN G (env :: l) a (.type "KeyError") h') ?_ ?_
  ·k_steps
   ·rename big = true => hbig
    refine Stop.mk ?_
    rename Fr _ _ _ _ => F4
    rename News _ _ _ _ => N4
    refine nd_spec_D24 (by exact Gb.keeps (K'.keep.trans F4.keep)) (by exact rm (b := 3) hd) (by exact rm (b := 14) hu) (by exact hh) (by exact N4.get (List.Mem.head _)) (by exact codeL_at (news := [_, _]) CL F4 N4) e lk (by exact N4.get (List.Mem.tail _ (List.Mem.head _))) hself bm big (by exact he.keeps (K'.keep.trans F4.keep)) ms (by exact X.keeps (K'.keep.trans F4.keep)) _ _ (by exact (K'.push F4 rfl (fun q => ScopeKind.noConfusion q)).stk) ?_ ?_
    ·intro e1 h1 tk1 hv Y
     exact ⟨e1, h1, tk1, rfl, rfl, ⟨_, getD_mem (by omega), hv⟩, _, F4, fun p hp => N4 p (List.mem_append_right [_, _] hp), Y⟩
    intro t1 h1 tk1 kk hv1
    replace F4 := F4.kept kk
    replace N4 := newsKeep N4 kk
    k_steps
    refine Stop.mk ?_
    rename Fr _ _ _ _ => F4
    rename News _ _ _ _ => N4
    refine nd_spec_D24 (by exact Gb.keeps (K'.keep.trans F4.keep)) (by exact rm (b := 3) hd) (by exact rm (b := 14) hu) (by exact hh) (by exact N4.get (List.Mem.head _)) (by exact codeL_at (news := [_, _]) CL F4 N4) e lk (by exact N4.get (List.Mem.tail _ (List.Mem.head _))) hself bm big (by exact he.keeps (K'.keep.trans F4.keep)) ms (by exact X.keeps (K'.keep.trans F4.keep)) _ _ (by exact (K'.push F4 rfl (fun q => ScopeKind.noConfusion q)).stk) ?_ ?_
    ·intro e1 h1 tk1 hv Y
     exact ⟨e1, h1, tk1, rfl, rfl, ⟨_, getD_mem (by omega), hv⟩, _, F4, fun p hp => N4 p (List.mem_append_right [_, _] hp), Y⟩
    intro t1 h1 tk1 kk hv2
    replace F4 := F4.kept kk
    replace N4 := newsKeep N4 kk
    k_steps
    refine Stop.mk ?_
    rename Fr _ _ _ _ => F4
    rename News _ _ _ _ => N4
    refine nd_spec_D24 (by exact Gb.keeps (K'.keep.trans F4.keep)) (by exact rm (b := 3) hd) (by exact rm (b := 14) hu) (by exact hh) (by exact N4.get (List.Mem.head _)) (by exact codeL_at (news := [_, _]) CL F4 N4) e lk (by exact N4.get (List.Mem.tail _ (List.Mem.head _))) hself bm big (by exact he.keeps (K'.keep.trans F4.keep)) ms (by exact X.keeps (K'.keep.trans F4.keep)) _ _ (by exact (K'.push F4 rfl (fun q => ScopeKind.noConfusion q)).stk) ?_ ?_
    ·intro e1 h1 tk1 hv Y
     exact ⟨e1, h1, tk1, rfl, rfl, ⟨_, getD_mem (by omega), hv⟩, _, F4, fun p hp => N4 p (List.mem_append_right [_, _] hp), Y⟩
    intro t1 h1 tk1 kk hv3
    replace F4 := F4.kept kk
    replace N4 := newsKeep N4 kk
    k_steps
    refine Stop.mk ?_
    rename Fr _ _ _ _ => F4
    rename News _ _ _ _ => N4
    refine nd_spec_D24 (by exact Gb.keeps (K'.keep.trans F4.keep)) (by exact rm (b := 3) hd) (by exact rm (b := 14) hu) (by exact hh) (by exact N4.get (List.Mem.head _)) (by exact codeL_at (news := [_, _]) CL F4 N4) e lk (by exact N4.get (List.Mem.tail _ (List.Mem.head _))) hself bm big (by exact he.keeps (K'.keep.trans F4.keep)) ms (by exact X.keeps (K'.keep.trans F4.keep)) _ _ (by exact (K'.push F4 rfl (fun q => ScopeKind.noConfusion q)).stk) ?_ ?_
    ·intro e1 h1 tk1 hv Y
     exact ⟨e1, h1, tk1, rfl, rfl, ⟨_, getD_mem (by omega), hv⟩, _, F4, fun p hp => N4 p (List.mem_append_right [_, _] hp), Y⟩
    intro t1 h1 tk1 kk hv4
    replace F4 := F4.kept kk
    replace N4 := newsKeep N4 kk
    k_steps
    rename Fr _ _ _ _ => F4
    rename News _ _ _ _ => N4
    have hln : ks.length = 4 := by omega
    simp only [hbig, if_true, decV_four_rev hln] at hret
    exact hret _ _ _ (XL2.keepT (news := []) (by rw [hg]; exact F4) fun p hp => (N4 p (List.mem_append_right [_, _] hp)).1) (all_four hln (by assumption) (by assumption) (by assumption) (by assumption)) hln
   ·rename big = false => hbig
    refine Stop.mk ?_
    rename Fr _ _ _ _ => F4
    rename News _ _ _ _ => N4
    refine nd_spec_D24 (by exact Gb.keeps (K'.keep.trans F4.keep)) (by exact rm (b := 3) hd) (by exact rm (b := 14) hu) (by exact hh) (by exact N4.get (List.Mem.head _)) (by exact codeL_at (news := [_, _]) CL F4 N4) e lk (by exact N4.get (List.Mem.tail _ (List.Mem.head _))) hself bm big (by exact he.keeps (K'.keep.trans F4.keep)) ms (by exact X.keeps (K'.keep.trans F4.keep)) _ _ (by exact (K'.push F4 rfl (fun q => ScopeKind.noConfusion q)).stk) ?_ ?_
    ·intro e1 h1 tk1 hv Y
     exact ⟨e1, h1, tk1, rfl, rfl, ⟨_, getD_mem (by omega), hv⟩, _, F4, fun p hp => N4 p (List.mem_append_right [_, _] hp), Y⟩
    intro t1 h1 tk1 kk hv1
    replace F4 := F4.kept kk
    replace N4 := newsKeep N4 kk
    k_steps
    refine Stop.mk ?_
    rename Fr _ _ _ _ => F4
    rename News _ _ _ _ => N4
    refine nd_spec_D24 (by exact Gb.keeps (K'.keep.trans F4.keep)) (by exact rm (b := 3) hd) (by exact rm (b := 14) hu) (by exact hh) (by exact N4.get (List.Mem.head _)) (by exact codeL_at (news := [_, _]) CL F4 N4) e lk (by exact N4.get (List.Mem.tail _ (List.Mem.head _))) hself bm big (by exact he.keeps (K'.keep.trans F4.keep)) ms (by exact X.keeps (K'.keep.trans F4.keep)) _ _ (by exact (K'.push F4 rfl (fun q => ScopeKind.noConfusion q)).stk) ?_ ?_
    ·intro e1 h1 tk1 hv Y
     exact ⟨e1, h1, tk1, rfl, rfl, ⟨_, getD_mem (by omega), hv⟩, _, F4, fun p hp => N4 p (List.mem_append_right [_, _] hp), Y⟩
    intro t1 h1 tk1 kk hv2
    replace F4 := F4.kept kk
    replace N4 := newsKeep N4 kk
    k_steps
    refine Stop.mk ?_
    rename Fr _ _ _ _ => F4
    rename News _ _ _ _ => N4
    refine nd_spec_D24 (by exact Gb.keeps (K'.keep.trans F4.keep)) (by exact rm (b := 3) hd) (by exact rm (b := 14) hu) (by exact hh) (by exact N4.get (List.Mem.head _)) (by exact codeL_at (news := [_, _]) CL F4 N4) e lk (by exact N4.get (List.Mem.tail _ (List.Mem.head _))) hself bm big (by exact he.keeps (K'.keep.trans F4.keep)) ms (by exact X.keeps (K'.keep.trans F4.keep)) _ _ (by exact (K'.push F4 rfl (fun q => ScopeKind.noConfusion q)).stk) ?_ ?_
    ·intro e1 h1 tk1 hv Y
     exact ⟨e1, h1, tk1, rfl, rfl, ⟨_, getD_mem (by omega), hv⟩, _, F4, fun p hp => N4 p (List.mem_append_right [_, _] hp), Y⟩
    intro t1 h1 tk1 kk hv3
    replace F4 := F4.kept kk
    replace N4 := newsKeep N4 kk
    k_steps
    refine Stop.mk ?_
    rename Fr _ _ _ _ => F4
    rename News _ _ _ _ => N4
    refine nd_spec_D24 (by exact Gb.keeps (K'.keep.trans F4.keep)) (by exact rm (b := 3) hd) (by exact rm (b := 14) hu) (by exact hh) (by exact N4.get (List.Mem.head _)) (by exact codeL_at (news := [_, _]) CL F4 N4) e lk (by exact N4.get (List.Mem.tail _ (List.Mem.head _))) hself bm big (by exact he.keeps (K'.keep.trans F4.keep)) ms (by exact X.keeps (K'.keep.trans F4.keep)) _ _ (by exact (K'.push F4 rfl (fun q => ScopeKind.noConfusion q)).stk) ?_ ?_
    ·intro e1 h1 tk1 hv Y
     exact ⟨e1, h1, tk1, rfl, rfl, ⟨_, getD_mem (by omega), hv⟩, _, F4, fun p hp => N4 p (List.mem_append_right [_, _] hp), Y⟩
    intro t1 h1 tk1 kk hv4
    replace F4 := F4.kept kk
    replace N4 := newsKeep N4 kk
    k_steps
    rename Fr _ _ _ _ => F4
    rename News _ _ _ _ => N4
    have hln : ks.length = 4 := by omega
    simp only [hbig, Bool.false_eq_true, if_false, decV_four hln] at hret
    exact hret _ _ _ (XL2.keepT (news := []) (by rw [hg]; exact F4) fun p hp => (N4 p (List.mem_append_right [_, _] hp)).1) (all_four hln (by assumption) (by assumption) (by assumption) (by assumption)) hln
  ·rintro _ _ ⟨a, h', tk', rfl, rfl, hbad, GG, F4, N4, Y⟩
   refine caughtNT (by exact Y) (by exact F4) (by exact K') rfl Gb (x := Str.ofString "KeyError") PyProof.Rows.Boot.KeyError (by decide +kernel) (by decide) kr_isExc_KeyError kr_notTuple_KeyError (by rw [isSubtype_type]; kernel_rfl) (by passes_own) ?_ rfl rfl rfl rfl (by decide)
   intro h2 g2 B T2 F5 tr off
   have N5 := turn_news (env := envOfC _ _ L 203 _) K'.stk rfl T2 N4 off
   have G2 := Gb.keeps (K'.turn T2).keep
   have T := G2.T
   have KX := G2.K
   clear F4 F3 N3 I
   k_steps
   refine Stop.mk ?_
   refine raise_H PySem.F.excCall_ValueError PySem.F.excRaise_ValueError (by rfl) ?_
   k_steps
   rename Fr _ _ _ _ => F6
   rename News _ _ _ _ => N6
   obtain ⟨oe, vs, T', oT, ts, he', hc, hd', h1', h2', _⟩ := tr
   refine Stop.mk ⟨by rw [sizeLine_eq, List.length_singleton]; omega, ⟨oe, vs, he', hd', h2'⟩, fun h3 e3 hm _ => ?_⟩
   exact leaveHT (K'.turn T2).stk F6 rfl (fun q => ScopeKind.noConfusion q) hm rfl fun h4 R o => hexc e3 h4 _ (.inr hbad) (flyT_of TB hg K'.stk T2 XL2 (news := []) F6 N6 rfl o)
section
local macro_rules | `(tactic| walk_at "binaryOp LShift int int") => `(tactic| walk_at "stop")
inductive JI (f : Addr) (x5 : List (Addr × Obj)) (q : Int) (ms : List Int) (b : Array UInt8) (t u : Tok) (big : Bool) (cs : List Int) (i : Nat) (m : Str → Option Value) (news : List (Addr × Obj)) : Prop
 | mk (uc u0 tc tp) (hm : m = (fun y => if y = (Str.ofString "c") then uc else if y = "out" then some (.int (decV ms (cs.take i).reverse) u0) else if y = "decode" then some (.ref f) else if y = "chars" then some (.int ((q + (-q).fmod 6).fdiv 6) tc) else if y = "pad" then some (.int ((-q).fmod 6) tp) else if y = "big" then some (.bool big) else if y = "bits" then some (.int q u) else if y = "source" then some (.bytes b t) else none)) (hn : news = x5) (a : ∀ k ∈ cs.take i, k ∈ ms) : JI f x5 q ms b t u big cs i m news
inductive SI (w : World) (A : Around) (g : Heap) (L : Addr) (m : Str → Option Value) (news : List (Addr × Obj)) (n : Nat) (cs : List Int) (s : Shared) (xv : Value) (s₁ : Shared) : Prop
 | mk (h5 tk5) (e : s₁ = { s with heap := h5, toks := tk5 }) (F : Fr g L h5 m) (N : News g L h5 news) (src : Src1 w A g L news xv n (fun i v => ∃ u, v = .int (cs.getD i 0) u) s₁) : SI w A g L m news n cs s xv s₁
noncomputable def decR (q : Int) (big : Bool) (ms ks : List Int) : Int := if q = 30 then decV ms (if big then ks.reverse else ks) else if big then (decV ms ks.reverse).fdiv 4 else decV ms ks % 2 ^ 64
theorem decI_spec {w : World} {mg mb : Str → Option Value} {A : Around} {s : Shared} {Q E : Value → Shared → Prop} {base : Heap} {l : List Env} (Gb : Gd w mg mb base) (K : Bel A l base s.heap)
  (TB : Tabs s.heap) (hP : ∀ P ∈ PS, base.get? P = none)
  (hd : A.depth + 3 < recursionLimit) (hu : A.units + 15 < cLine) (hh : A.handled = none)
  (e lk : Addr) (bm : Array UInt8) (big : Bool) (he : Eng base e bm big lk) (ms : List Int) (hl : ms.length = 64) (X : Lkup w base lk ms) (b : Array UInt8) (t u : Tok) (ks : List Int) (hb : KBw.bInts b = ks) (hz : ks.length ≤ 1000)
  {q : Int} {n : Nat} (hq : q = 30 ∧ n = 5 ∨ q = 64 ∧ n = 11)
  (hexc : ∀ e h' tk', (ks.length ≠ n ∨ ∃ k ∈ ks, k ∉ ms) → FlyT s.heap l e (.type "ValueError") h' → E (.ref e) { s with heap := h', toks := tk' })
  (hret : ∀ t' h' tk', KeepT s.heap h' → (∀ k ∈ ks, k ∈ ms) → ks.length = n → Q (.int (decR q big ms ks) t') {s with heap := h', toks := tk'}) :
  wpAny (model rw_iw0008_01.prog w) A (call (.ref 182) [.ref e, .bytes b t, .int q u]) Q E s := by
 have K' := K.hid TB hP
 have G : Gd w mg mb s.heap := Gb.keeps K.keep
 have G' : Gd w mg mb (hideAll s.heap PS) := Gb.keeps K'.keep
 have hqn : (q + (-q).fmod 6).fdiv 6 = (n : Int) := by rcases hq with ⟨rfl, rfl⟩ | ⟨rfl, rfl⟩ <;> decide
 refine wpCall ?_
 have KX := G'.K
 revert KX
 k_fill
 intro KX
 refine enterKCT (binds := [("self", .ref e), ("source", .bytes b t), ("bits", .int q u)]) G TB (by k_is) (by rfl) (by k_is) (by omega) (BindsTo.of_eq rfl) rfl (by decide +kernel) ?_ rfl rfl rfl
 intro L h₁ tk cells led F N XL Y hlt
 have T := G'.T
 have F : Fr (hideAll s.heap PS) L h₁ (fun y => if y = "bits" then some (.int q u) else if y = "source" then some (.bytes b t) else none) := F
 k_cells Y
 obtain ⟨dx, tb, k1, k2, k3, q1, q2, q3, nd, I⟩ := (he.keeps K'.keep).ex
 try dsimp only
 rename _ = Data.cell _ => hself
 have hself : _ = Data.cell (some (.ref e)) := hself
 simp only [List.cons_append, List.nil_append] at N
 generalize hg : hideAll s.heap PS = g at *
 have C : CodeHd g 181 177 := ⟨_, _, _, _, _, _, _, _, _, KX _ _ (by k_is), rfl, rfl, rfl, rfl, rfl, rfl, rfl, rfl, by decide⟩
 k_steps
 ·refine Stop.mk ?_
  rename News _ _ _ _ => N1
  rename ¬ _ = _ => hne
  rw [hqn] at hne
  refine raise_VT PySem.F.excCall_ValueError PySem.F.excRaise_ValueError (by exact hh) K'.stk rfl (fun q => ScopeKind.noConfusion q) (fun _ _ h => h) ?_
  k_steps
  rename Fr _ _ _ _ => F3
  rename News _ _ _ _ => N3
  exact Stop.mk ⟨by rw [sizeLine_eq, List.length_singleton]; omega, _, F3, fun h' e R o => hexc e h' _ (.inl (by omega)) (flyT_of TB hg K'.stk KtsTurn.refl XL (news := [_, _]) F3 N3 rfl o)⟩
 ·refine Stop.mk ?_
  rename Fr _ _ _ _ => F1
  rename News _ _ _ _ => N1
  rename _ = (q + (-q).fmod 6).fdiv 6 => hln
  have hln : ks.length = n := by rw [hqn] at hln; omega
  have hbz : b.size ≤ 1000 := by rw [← KBw.ints_length, hb]; omega
  refine nestDef_K rfl rfl rfl ?_
  refine nestT (x := mkDi) in_Di F1 (news := [_]) N1 XL G'.P C rfl ?_ rfl ?_
  ·intro p hp q
   rw [List.mem_singleton.mp hp] at q
   exact absurd (hlt _ q) (Nat.not_lt.mpr (Nat.le_succ _))
  intro f c' ctv doc h2 tk2 led2 F2 N2 XL2 CL hn2 hf2
  simp only [List.cons_append, List.nil_append] at N2
  clear F1 N1
  k_steps
  rename Fr _ _ _ _ => F3
  rename News _ _ _ _ => N3
  obtain ⟨x5, e5⟩ := nmAll N3
  obtain ⟨m5, em⟩ := frMap F3
  obtain ⟨cs, hcs⟩ : ∃ cs : List Int, cs = if big then ks else ks.reverse := ⟨_, rfl⟩
  have hcl : cs.length = ks.length := by rw [hcs]; split <;> simp
  have hcm : ∀ k ∈ cs, k ∈ ks := by rw [hcs]; split <;> simp
  refine Stop.mk ?_
  refine tryByP (fun env v s' => ∃ a h' tk', v = .ref a ∧ s' = { s with heap := h', toks := tk' } ∧ (∃ k ∈ ks, k ∉ ms) ∧ ∃ G m cv ct, Fr g L G m ∧ m (Str.ofString "c") = some (.int cv ct) ∧ (0 ≤ cv ∧ cv < 256) ∧ News g L G led2 ∧ FlyN G (env :: l) a (.type "KeyError") h') ?_ ?_
  ·intro E' hE' hpo
   k_steps
   refine Stop.mk ?_
   refine ForW (g := g) (L := L) (wpAny_mono (Q := fun xv s₁ => Stop (SI w (A.deeper (envOfC (Str.ofString "Base64Engine._decode_int") (cS 22) L 182 (.ref 181))) g L m5 x5 ks.length cs s xv s₁)) ?_ (fun xv s₁ X0 => ?_) fun _ _ e => e) hpo (by intro _; rfl) (by intro _ _; rfl)
   ·k_steps
    ·rename big = true => hbig
     rename Fr _ _ _ _ => F4
     rename News _ _ _ _ => N4
     rw [if_pos hbig] at hcs
     subst em e5 hcs
     exact Stop.mk ⟨_, _, rfl, F4, N4, src1_fwd F4 N4 (by exact hh) hb⟩
    ·rename big = false => hbig
     rename Fr _ _ _ _ => F5
     rename News _ _ _ _ => N5
     rw [hbig, if_neg Bool.false_ne_true] at hcs
     refine rev_K (by exact F5) (by exact N5) hbz ?_
     intro R h5 tk5 F4 N6 hnR
     have eR := N6 _ (List.Mem.head _)
     subst em e5 hcs
     exact Stop.mk ⟨_, _, rfl, F4, news_tail N6, src1_bwd (by exact hh) hb hbz (by exact eR.1) eR.2.1 eR.2.2 (by exact hnR)⟩
   obtain ⟨h5, tk5, rfl, F4, N4, src⟩ := X0.out
   clear F3 N3 X0
   refine Stop.mk ⟨_, _, _, _, F4, N4, src, JI f x5 q ms b t u big cs, ?_, ?_, ?_⟩
   ·exact ⟨none, _, _, _, em.trans (map_none rfl), rfl, fun k hk => nomatch hk⟩
   ·rintro i I oI Q' hQ _ m news h tk hi ⟨u1, rfl⟩ ⟨uc, u0, tc, tp, rfl, rfl, hall⟩ F N hne0
    subst e5
    clear F4 N4
    have N : News g L h (_ :: _ :: (led2 ++ [(I, oI)])) := N
    have hi' : i < cs.length := by omega
    have hin : cs.getD i 0 ∈ ks := hcm _ (getD_mem hi')
    have hbyte := KBw.ints_in (b := b) (by rw [hb]; exact hin)
    k_steps
    refine Stop.mk ?_
    refine lshift_int_small (by decide) (by decide) (decV_small hl hall (by omega)) ?_
    k_steps
    refine Stop.mk ?_
    rename Fr _ _ _ _ => F4
    rename News _ _ _ _ => N4
    refine nd_spec_Di (by exact Gb.keeps (K'.keep.trans F4.keep)) (by exact rm (b := 3) hd) (by exact rm (b := 14) hu) (by exact hh) (by exact N4.get (List.Mem.head _)) (by exact CL _ F4.keep fun p hp => (N4 p (List.Mem.tail _ (List.Mem.tail _ (List.mem_append_left _ hp)))).1) e lk (by exact N4.get (List.Mem.tail _ (List.Mem.head _))) hself bm big (by exact he.keeps (K'.keep.trans F4.keep)) ms (by exact X.keeps (K'.keep.trans F4.keep)) _ _ (by exact (K'.push F4 rfl (fun q => ScopeKind.noConfusion q)).stk) ?_ ?_
    ·intro e1 h1 tk1 hv Y
     exact hE' _ _ ⟨e1, h1, tk1, rfl, rfl, ⟨_, hin, hv⟩, _, _, _, _, F4, rfl, hbyte, fun p hp => N4 p (List.Mem.tail _ (List.Mem.tail _ (List.mem_append_left _ hp))), Y⟩
    intro t1 h1 tk1 kk hv1
    replace F4 := F4.kept kk
    replace N4 := newsKeep N4 kk
    k_steps
    rename Fr _ _ _ _ => F6
    rename News _ _ _ _ => N6
    have hval : decV ms (cs.take i).reverse * 2 ^ Int.toNat 6 + (ms.idxOf (cs.getD i 0) : Int) = decV ms (cs.take (i + 1)).reverse := by
     rw [decV_step hi']
     show _ * 64 + _ = _
     omega
    rw [hval] at F6
    exact hQ _ _ _ _ F6 N6 hne0 ⟨_, _, tc, tp, funext (sm ["c", "out"]), rfl, take_rev_all hall hi' hv1⟩
   ·rintro m news h tk ⟨uc, u0, tc, tp, rfl, rfl, hall⟩ F N
    subst e5
    clear F4 N4
    rw [List.take_of_length_le (Nat.le_of_eq hcl)] at F hall
    have hall' : ∀ k ∈ ks, k ∈ ms := fun k hk => hall k (by rw [hcs]; split <;> simp [hk])
    rcases hq with ⟨rfl, rfl⟩ | ⟨rfl, rfl⟩
    ·k_steps
     rename Fr _ _ _ _ => F6
     rename News _ _ _ _ => N6
     rw [show decV ms cs.reverse = decR 30 big ms ks by rw [hcs, decR, if_pos rfl]; cases big <;> simp]
     exact hret _ _ _ (XL2.keepT (news := []) (by rw [hg]; exact F6) fun p hp => (N6 p (List.Mem.tail _ (List.Mem.tail _ hp))).1) hall' hln
    ·k_steps
     ·rename big = true => hbig
      rename Fr _ _ _ _ => F6
      rename News _ _ _ _ => N6
      rw [show (decV ms cs.reverse).fdiv (2 ^ Int.toNat ((-64 : Int).fmod 6)) = decR 64 big ms ks by unfold decR; rw [hcs, hbig, if_neg (show ¬ (64 : Int) = 30 by decide), if_pos rfl, if_pos rfl]; rfl]
      exact hret _ _ _ (XL2.keepT (news := []) (by rw [hg]; exact F6) fun p hp => (N6 p (List.Mem.tail _ (List.Mem.tail _ hp))).1) hall' hln
     ·rename big = false => hbig
      refine Stop.mk ?_
      refine lshift_int_small (by decide) (by decide) (by decide) ?_
      k_steps
      rename Fr _ _ _ _ => F6
      rename News _ _ _ _ => N6
      rw [show Builtin.bitAnd (decV ms cs.reverse) (1 * 2 ^ Int.toNat 64 - 1) = decR 64 big ms ks by
       unfold decR; rw [hcs, hbig, if_neg Bool.false_ne_true, List.reverse_reverse, bitAnd_m64 (decV_bound hl hall').1, if_neg (show ¬ (64 : Int) = 30 by decide), if_neg Bool.false_ne_true]]
      exact hret _ _ _ (XL2.keepT (news := []) (by rw [hg]; exact F6) fun p hp => (N6 p (List.Mem.tail _ (List.Mem.tail _ hp))).1) hall' hln
  ·rintro _ _ ⟨a, h', tk', rfl, rfl, hbad, GG, m, cv, ct, F4, hmc, hby, N4, Y⟩
   refine caughtNT (by exact Y) (by exact F4) (by exact K') rfl Gb (x := Str.ofString "KeyError") PyProof.Rows.Boot.KeyError (by decide +kernel) (by decide) kr_isExc_KeyError kr_notTuple_KeyError (by rw [isSubtype_type]; kernel_rfl) (by passes_own) ?_ rfl rfl rfl rfl (by decide)
   intro h2 g2 B T2 F5 tr off
   have N5 := turn_news (env := envOfC _ _ L 182 _) K'.stk rfl T2 N4 off
   have G2 := Gb.keeps (K'.turn T2).keep
   have T := G2.T
   have KX := G2.K
   clear F4 F3 N3 I
   k_steps
   refine Stop.mk ?_
   refine raise_H PySem.F.excCall_ValueError PySem.F.excRaise_ValueError (by rfl) ?_
   k_steps
   rename Fr _ _ _ _ => F6
   rename News _ _ _ _ => N6
   obtain ⟨oe, vs, T', oT, ts, he', hc, hd', h1', h2', _⟩ := tr
   refine Stop.mk ⟨by rw [sizeLine_eq, List.length_singleton]; omega, ⟨oe, vs, he', hd', h2'⟩, fun h3 e3 hm _ => ?_⟩
   exact leaveHT (K'.turn T2).stk F6 rfl (fun q => ScopeKind.noConfusion q) hm rfl fun h4 R o => hexc e3 h4 _ (.inr hbad) (flyT_of TB hg K'.stk T2 XL2 (news := []) F6 N6 rfl o)
end
theorem dec30_spec {w : World} {mg mb : Str → Option Value} {A : Around} {s : Shared} {Q E : Value → Shared → Prop} {base : Heap} {l : List Env} (Gb : Gd w mg mb base) (K : Bel A l base s.heap)
  (TB : Tabs s.heap) (hP : ∀ P ∈ PS, base.get? P = none)
  (hd : A.depth + 4 < recursionLimit) (hu : A.units + 18 < cLine) (hh : A.handled = none)
  (e lk : Addr) (bm : Array UInt8) (big : Bool) (he : Eng base e bm big lk) (ms : List Int) (hl : ms.length = 64) (X : Lkup w base lk ms) (b : Array UInt8) (t : Tok) (ks : List Int) (hb : KBw.bInts b = ks) (hz : ks.length ≤ 1000)
  (hexc : ∀ e h' tk', (ks.length ≠ 5 ∨ ∃ k ∈ ks, k ∉ ms) → FlyT s.heap l e (.type "ValueError") h' → E (.ref e) { s with heap := h', toks := tk' })
  (hret : ∀ t' h' tk', KeepT s.heap h' → (∀ k ∈ ks, k ∈ ms) → ks.length = 5 → Q (.int (decV ms (if big then ks.reverse else ks)) t') {s with heap := h', toks := tk'}) :
  wpAny (model rw_iw0008_01.prog w) A (call (.ref 210) [.ref e, .bytes b t]) Q E s := by
 have G : Gd w mg mb s.heap := Gb.keeps K.keep
 refine wpCall ?_
 have KX := G.K
 revert KX
 k_fill
 intro KX
 refine enterKC (binds := [("self", .ref e), ("source", .bytes b t)]) G (by k_is) (by rfl) (by k_is) (by omega) (BindsTo.of_eq rfl) rfl (by decide +kernel) ?_ rfl rfl rfl
 intro L h₁ tk cells F N Y
 have T := G.T
 have F : Fr s.heap L h₁ (fun y => if y = "source" then some (.bytes b t) else if y = "self" then some (.ref e) else none) := F
 obtain ⟨dx, tb, k1, k2, k3, q1, q2, q3, nd, I⟩ := (he.keeps K.keep).ex
 try dsimp only
 k_steps
 refine Stop.mk ?_
 rename Fr _ _ _ _ => F2
 refine decI_spec Gb (by exact K.push F2 rfl (fun q => ScopeKind.noConfusion q)) (by exact TB.keeps F2.keep) hP (by exact rm (b := 4) hd) (by exact rm (b := 18) hu) (by exact hh) e lk bm big he ms hl X b t _ ks hb hz (.inl ⟨rfl, rfl⟩) ?_ ?_
 ·intro e1 h1 tk1 hbad Y1
  exact leaveOnT K.stk.stack TB F2 rfl Y1 fun h2 R => hexc _ _ _ hbad R
 ·intro t' h1 tk1 kk hall hln
  exact hret t' h1 tk1 ((KeepT.of TB F2.keep).trans TB kk) hall hln
theorem dec64_spec {w : World} {mg mb : Str → Option Value} {A : Around} {s : Shared} {Q E : Value → Shared → Prop} {base : Heap} {l : List Env} (Gb : Gd w mg mb base) (K : Bel A l base s.heap)
  (TB : Tabs s.heap) (hP : ∀ P ∈ PS, base.get? P = none)
  (hd : A.depth + 4 < recursionLimit) (hu : A.units + 18 < cLine) (hh : A.handled = none)
  (e lk : Addr) (bm : Array UInt8) (big : Bool) (he : Eng base e bm big lk) (ms : List Int) (hl : ms.length = 64) (X : Lkup w base lk ms) (b : Array UInt8) (t : Tok) (ks : List Int) (hb : KBw.bInts b = ks) (hz : ks.length ≤ 1000)
  (hexc : ∀ e h' tk', (ks.length ≠ 11 ∨ ∃ k ∈ ks, k ∉ ms) → FlyT s.heap l e (.type "ValueError") h' → E (.ref e) { s with heap := h', toks := tk' })
  (hret : ∀ t' h' tk', KeepT s.heap h' → (∀ k ∈ ks, k ∈ ms) → ks.length = 11 → Q (.int (if big then (decV ms ks.reverse).fdiv 4 else decV ms ks % 2 ^ 64) t') {s with heap := h', toks := tk'}) :
  wpAny (model rw_iw0008_01.prog w) A (call (.ref 217) [.ref e, .bytes b t]) Q E s := by
 have G : Gd w mg mb s.heap := Gb.keeps K.keep
 refine wpCall ?_
 have KX := G.K
 revert KX
 k_fill
 intro KX
 refine enterKC (binds := [("self", .ref e), ("source", .bytes b t)]) G (by k_is) (by rfl) (by k_is) (by omega) (BindsTo.of_eq rfl) rfl (by decide +kernel) ?_ rfl rfl rfl
 intro L h₁ tk cells F N Y
 have T := G.T
 have F : Fr s.heap L h₁ (fun y => if y = "source" then some (.bytes b t) else if y = "self" then some (.ref e) else none) := F
 obtain ⟨dx, tb, k1, k2, k3, q1, q2, q3, nd, I⟩ := (he.keeps K.keep).ex
 try dsimp only
 k_steps
 refine Stop.mk ?_
 rename Fr _ _ _ _ => F2
 refine decI_spec Gb (by exact K.push F2 rfl (fun q => ScopeKind.noConfusion q)) (by exact TB.keeps F2.keep) hP (by exact rm (b := 4) hd) (by exact rm (b := 18) hu) (by exact hh) e lk bm big he ms hl X b t _ ks hb hz (.inr ⟨rfl, rfl⟩) ?_ ?_
 ·intro e1 h1 tk1 hbad Y1
  exact leaveOnT K.stk.stack TB F2 rfl Y1 fun h2 R => hexc _ _ _ hbad R
 ·intro t' h1 tk1 kk hall hln
  exact hret t' h1 tk1 ((KeepT.of TB F2.keep).trans TB kk) hall hln
theorem read_spec {w : World} {mg mb : Str → Option Value} {A : Around} {s : Shared} {Q E : Value → Shared → Prop} {base : Heap} {l : List Env} (Gb : Gd w mg mb base) (K : Bel A l base s.heap)
  (TB : Tabs s.heap) (hP : ∀ P ∈ PS, base.get? P = none) {f : Addr} (hf : FnAt s.heap 18 f)
  (hd : A.depth + 5 < recursionLimit) (hu : A.units + 21 < cLine) (hh : A.handled = none)
  (e lk : Addr) (bm : Array UInt8) (big : Bool) (he : Eng base e bm big lk) (ms : List Int) (hl : ms.length = 64) (X : Lkup w base lk ms) (size : Int) (hs : size = 6 ∨ size = 12 ∨ size = 24 ∨ size = 30 ∨ size = 64) (b : Array UInt8) (t u : Tok) (ks : List Int) (hb : KBw.bInts b = ks) (hz : ks.length ≤ 1000)
  (hbad : ∀ t' h' tk', AftT l s.heap h' → (ks.length ≠ nCh size ∨ ∃ k ∈ ks, k ∉ ms) → Q (.str (Str.ofString "ValueError") t') {s with heap := h', toks := tk'})
  (hret : ∀ t' h' tk', AftT l s.heap h' → ks.length = nCh size → (∀ k ∈ ks, k ∈ ms) → Q (.int (rdV ms big size ks) t') {s with heap := h', toks := tk'}) :
  wpAny (model rw_iw0008_01.prog w) A (call (.ref f) [.ref e, .int size u, .bytes b t]) Q E s := by
 have K' := K.hid TB hP
 have G : Gd w mg mb s.heap := Gb.keeps K.keep
 have G' : Gd w mg mb (hideAll s.heap PS) := Gb.keeps K'.keep
 refine wpCall ?_
 have KX := G'.K
 revert KX
 k_fill
 intro KX
 obtain ⟨o, pm, cd, doc, ho, hd', hc⟩ := hf.ex
 refine enterCT G TB (binds := [("engine", .ref e), ("size", .int size u), ("signs", .bytes b t)]) (by omega) ho hd' hc (BindsTo.of_eq rfl) rfl (by decide +kernel) ?_ rfl rfl rfl
 intro L h₁ tk cells led F N XL Y hlt
 have T := G'.T
 clear ho hd' hc
 have F : Fr (hideAll s.heap PS) L h₁ (fun y => if y = "signs" then some (.bytes b t) else if y = "size" then some (.int size u) else if y = "engine" then some (.ref e) else none) := F
 have hce := cells_none Y (by rfl)
 subst hce
 obtain ⟨dx, tb, k1, k2, k3, q1, q2, q3, nd, I⟩ := (he.keeps K'.keep).ex
 try dsimp only
 simp only [List.nil_append] at N
 have hgP : ∀ b ∈ PS, (hideAll s.heap PS).get? b = none := fun b hb => hideAll_none _ hb
 generalize hg : hideAll s.heap PS = g at *
 k_steps
 refine Stop.mk ?_
 rename Fr _ _ _ _ => F3
 rename News _ _ _ _ => N3
 refine tryBy (fun env v s' => ∃ a h' tk', v = .ref a ∧ s' = { s with heap := h', toks := tk' } ∧ (ks.length ≠ nCh size ∨ ∃ k ∈ ks, k ∉ ms) ∧ ∃ G m led', Fr g L G m ∧ News g L G led' ∧ Led s.heap g led' ∧ FlyT G (env :: l) a (.type "ValueError") h') ?_ ?_
 ·k_steps
  ·refine Stop.mk ?_
   rename Fr _ _ _ _ => F4
   rename News _ _ _ _ => N4
   have T4 : Tabs _ := XL.tabs (fun p hp => (N4 p hp).1) F4.keep
   refine dec6_spec Gb (by exact K'.push F4 rfl (fun q => ScopeKind.noConfusion q)) (by show A.depth + 1 + _ < _; omega) (by show A.units + 3 + _ < _; omega) (by exact hh) e lk bm big he ms X b _ ks hb hz ?_ ?_
   ·intro e1 h1 tk1 hbd Y
    exact ⟨e1, h1, tk1, rfl, rfl, by subst size; exact bad6 hbd, _, _, _, F4, N4, XL, FlyT.of T4 (K'.push F4 rfl (fun q => ScopeKind.noConfusion q)).stk Y⟩
   ·intro t1 h1 tk1 kk hall hln
    obtain ⟨led5, X5, F5, N5⟩ := XL.step (news := []) F4 N4 (KeepT.of T4 kk) (fun _ h => nomatch h)
    subst size
    have e6 := ok6 big hln hall
    rw [e6.1]
    exact hret _ _ _ (aft_of (news := []) TB hg KtsTurn.refl X5 F5 N5) hln e6.2
  ·refine Stop.mk ?_
   rename Fr _ _ _ _ => F4
   rename News _ _ _ _ => N4
   have T4 : Tabs _ := XL.tabs (fun p hp => (N4 p hp).1) F4.keep
   refine dec12_spec Gb (by exact K'.push F4 rfl (fun q => ScopeKind.noConfusion q)) (by exact T4) hP (by show A.depth + 1 + _ < _; omega) (by show A.units + 3 + _ < _; omega) (by exact hh) e lk bm big he ms hl X b _ ks hb hz ?_ ?_
   ·intro e1 h1 tk1 hbd Y
    exact ⟨e1, h1, tk1, rfl, rfl, by rw [show size = 12 from by first | assumption | exact sz_last hs ‹_› ‹_› ‹_› ‹_›]; exact hbd, _, _, _, F4, N4, XL, Y⟩
   ·intro t1 h1 tk1 kk hall hln
    obtain ⟨led5, X5, F5, N5⟩ := XL.step (news := []) F4 N4 kk (fun _ h => nomatch h)
    have hsz : size = 12 := by first | assumption | exact sz_last hs ‹_› ‹_› ‹_› ‹_›
    subst hsz
    exact hret _ _ _ (aft_of (news := []) TB hg KtsTurn.refl X5 F5 N5) hln hall
  ·refine Stop.mk ?_
   rename Fr _ _ _ _ => F4
   rename News _ _ _ _ => N4
   have T4 : Tabs _ := XL.tabs (fun p hp => (N4 p hp).1) F4.keep
   refine dec24_spec Gb (by exact K'.push F4 rfl (fun q => ScopeKind.noConfusion q)) (by exact T4) hP (by show A.depth + 1 + _ < _; omega) (by show A.units + 3 + _ < _; omega) (by exact hh) e lk bm big he ms hl X b _ ks hb hz ?_ ?_
   ·intro e1 h1 tk1 hbd Y
    exact ⟨e1, h1, tk1, rfl, rfl, by rw [show size = 24 from by first | assumption | exact sz_last hs ‹_› ‹_› ‹_› ‹_›]; exact hbd, _, _, _, F4, N4, XL, Y⟩
   ·intro t1 h1 tk1 kk hall hln
    obtain ⟨led5, X5, F5, N5⟩ := XL.step (news := []) F4 N4 kk (fun _ h => nomatch h)
    have hsz : size = 24 := by first | assumption | exact sz_last hs ‹_› ‹_› ‹_› ‹_›
    subst hsz
    exact hret _ _ _ (aft_of (news := []) TB hg KtsTurn.refl X5 F5 N5) hln hall
  ·refine Stop.mk ?_
   rename Fr _ _ _ _ => F4
   rename News _ _ _ _ => N4
   have T4 : Tabs _ := XL.tabs (fun p hp => (N4 p hp).1) F4.keep
   refine dec30_spec Gb (by exact K'.push F4 rfl (fun q => ScopeKind.noConfusion q)) (by exact T4) hP (by show A.depth + 1 + _ < _; omega) (by show A.units + 3 + _ < _; omega) (by exact hh) e lk bm big he ms hl X b _ ks hb hz ?_ ?_
   ·intro e1 h1 tk1 hbd Y
    exact ⟨e1, h1, tk1, rfl, rfl, by rw [show size = 30 from by first | assumption | exact sz_last hs ‹_› ‹_› ‹_› ‹_›]; exact hbd, _, _, _, F4, N4, XL, Y⟩
   ·intro t1 h1 tk1 kk hall hln
    obtain ⟨led5, X5, F5, N5⟩ := XL.step (news := []) F4 N4 kk (fun _ h => nomatch h)
    have hsz : size = 30 := by first | assumption | exact sz_last hs ‹_› ‹_› ‹_› ‹_›
    subst hsz
    exact hret _ _ _ (aft_of (news := []) TB hg KtsTurn.refl X5 F5 N5) hln hall
  ·refine Stop.mk ?_
   rename Fr _ _ _ _ => F4
   rename News _ _ _ _ => N4
   have T4 : Tabs _ := XL.tabs (fun p hp => (N4 p hp).1) F4.keep
   refine dec64_spec Gb (by exact K'.push F4 rfl (fun q => ScopeKind.noConfusion q)) (by exact T4) hP (by show A.depth + 1 + _ < _; omega) (by show A.units + 3 + _ < _; omega) (by exact hh) e lk bm big he ms hl X b _ ks hb hz ?_ ?_
   ·intro e1 h1 tk1 hbd Y
    exact ⟨e1, h1, tk1, rfl, rfl, by rw [show size = 64 from by first | assumption | exact sz_last hs ‹_› ‹_› ‹_› ‹_›]; exact hbd, _, _, _, F4, N4, XL, Y⟩
   ·intro t1 h1 tk1 kk hall hln
    obtain ⟨led5, X5, F5, N5⟩ := XL.step (news := []) F4 N4 kk (fun _ h => nomatch h)
    have hsz : size = 64 := by first | assumption | exact sz_last hs ‹_› ‹_› ‹_› ‹_›
    subst hsz
    exact hret _ _ _ (aft_of (news := []) TB hg KtsTurn.refl X5 F5 N5) hln hall
 ·rintro _ _ ⟨a, h', tk', rfl, rfl, hbd, GG, m, led4, F4, N4, X4, Y⟩
  refine comesT Y (by exact K'.stk.stack) rfl ?_
  intro h5 Z
  refine handleT (news := []) (by exact Z) (by exact F4) (by exact K') rfl Gb hgP (by exact N4) X4 (fun _ h => nomatch h) (x := Str.ofString "ValueError") PyProof.Rows.Boot.ValueError (by decide +kernel) (by decide) PySem.F.isExc_ValueError PySem.F.notTuple_ValueError (b := true) (by rw [isSubtype_type]; kernel_rfl) (by passes_own) ?_ rfl rfl rfl rfl (by decide)
  intro h6 g6 led6 T6 F6 N6 X6
  have G6 := Gb.keeps (K'.turn T6).keep
  have T := G6.T
  have KX := G6.K
  clear F4 F3 N3 I
  k_steps
  rename Fr _ _ _ _ => F7
  rename News _ _ _ _ => N7
  exact hbad _ _ _ (aft_of (news := []) TB hg T6 X6 F7 N7) hbd
theorem decS_6 {w : World} {mg mb : Str → Option Value} {A : Around} {s : Shared} {Q E : Value → Shared → Prop} (G : Gd w mg mb s.heap)
  (hd : A.depth + 3 < recursionLimit) (hu : A.units + 15 < cLine) (hh : A.handled = none) (e : Addr) (x : Str) (t : Tok) {l : List Env} (S : Stk A l s.heap)
  (hexc : ∀ e h' tk', Fly s.heap l e (.type "TypeError") h' → E (.ref e) { s with heap := h', toks := tk' }) :
  wpAny (model rw_iw0008_01.prog w) A (call (.ref 189) [.ref e, .str x t]) Q E s := by
 refine wpCall ?_
 have KX := G.K
 revert KX
 k_fill
 intro KX
 refine enterKC (binds := [("self", .ref e), ("source", .str x t)]) G (by k_is) (by rfl) (by k_is) (by omega) (BindsTo.of_eq rfl) rfl (by decide +kernel) ?_ rfl rfl rfl
 intro L h₁ tk cells F N Y
 have T := G.T
 have F : Fr s.heap L h₁ (fun y => if y = "source" then some (.str x t) else if y = "self" then some (.ref e) else none) := F
 try dsimp only
 k_steps
 refine Stop.mk ?_
 refine raise_V PySem.F.excCall_TypeError PySem.F.excRaise_TypeError (by exact hh) S rfl (fun q => ScopeKind.noConfusion q) (fun _ _ h => h) ?_
 k_steps
 rename Fr _ _ _ _ => F3
 exact Stop.mk ⟨by rw [sizeLine_eq, List.length_singleton]; omega, _, F3, fun h' e R => hexc e h' _ R⟩
theorem decS_12 {w : World} {mg mb : Str → Option Value} {A : Around} {s : Shared} {Q E : Value → Shared → Prop} (G : Gd w mg mb s.heap)
  (hd : A.depth + 3 < recursionLimit) (hu : A.units + 15 < cLine) (hh : A.handled = none) (e : Addr) (x : Str) (t : Tok) {l : List Env} (S : Stk A l s.heap)
  (hexc : ∀ e h' tk', Fly s.heap l e (.type "TypeError") h' → E (.ref e) { s with heap := h', toks := tk' }) :
  wpAny (model rw_iw0008_01.prog w) A (call (.ref 196) [.ref e, .str x t]) Q E s := by
 refine wpCall ?_
 have KX := G.K
 revert KX
 k_fill
 intro KX
 refine enterKC (binds := [("self", .ref e), ("source", .str x t)]) G (by k_is) (by rfl) (by k_is) (by omega) (BindsTo.of_eq rfl) rfl (by decide +kernel) ?_ rfl rfl rfl
 intro L h₁ tk cells F N Y
 have T := G.T
 have F : Fr s.heap L h₁ (fun y => if y = "source" then some (.str x t) else none) := F
 try dsimp only
 k_steps
 refine Stop.mk ?_
 refine raise_V PySem.F.excCall_TypeError PySem.F.excRaise_TypeError (by exact hh) S rfl (fun q => ScopeKind.noConfusion q) (fun _ _ h => h) ?_
 k_steps
 rename Fr _ _ _ _ => F3
 exact Stop.mk ⟨by rw [sizeLine_eq, List.length_singleton]; omega, _, F3, fun h' e R => hexc e h' _ R⟩
theorem decS_24 {w : World} {mg mb : Str → Option Value} {A : Around} {s : Shared} {Q E : Value → Shared → Prop} (G : Gd w mg mb s.heap)
  (hd : A.depth + 3 < recursionLimit) (hu : A.units + 15 < cLine) (hh : A.handled = none) (e : Addr) (x : Str) (t : Tok) {l : List Env} (S : Stk A l s.heap)
  (hexc : ∀ e h' tk', Fly s.heap l e (.type "TypeError") h' → E (.ref e) { s with heap := h', toks := tk' }) :
  wpAny (model rw_iw0008_01.prog w) A (call (.ref 203) [.ref e, .str x t]) Q E s := by
 refine wpCall ?_
 have KX := G.K
 revert KX
 k_fill
 intro KX
 refine enterKC (binds := [("self", .ref e), ("source", .str x t)]) G (by k_is) (by rfl) (by k_is) (by omega) (BindsTo.of_eq rfl) rfl (by decide +kernel) ?_ rfl rfl rfl
 intro L h₁ tk cells F N Y
 have T := G.T
 have F : Fr s.heap L h₁ (fun y => if y = "source" then some (.str x t) else none) := F
 try dsimp only
 k_steps
 refine Stop.mk ?_
 refine raise_V PySem.F.excCall_TypeError PySem.F.excRaise_TypeError (by exact hh) S rfl (fun q => ScopeKind.noConfusion q) (fun _ _ h => h) ?_
 k_steps
 rename Fr _ _ _ _ => F3
 exact Stop.mk ⟨by rw [sizeLine_eq, List.length_singleton]; omega, _, F3, fun h' e R => hexc e h' _ R⟩
theorem decS_I {w : World} {mg mb : Str → Option Value} {A : Around} {s : Shared} {Q E : Value → Shared → Prop} (G : Gd w mg mb s.heap)
  (hd : A.depth + 3 < recursionLimit) (hu : A.units + 15 < cLine) (hh : A.handled = none) (e : Addr) (x : Str) (t : Tok) (bits : Int) (u : Tok) {l : List Env} (S : Stk A l s.heap)
  (hexc : ∀ e h' tk', Fly s.heap l e (.type "TypeError") h' → E (.ref e) { s with heap := h', toks := tk' }) :
  wpAny (model rw_iw0008_01.prog w) A (call (.ref 182) [.ref e, .str x t, .int bits u]) Q E s := by
 refine wpCall ?_
 have KX := G.K
 revert KX
 k_fill
 intro KX
 refine enterKC (binds := [("self", .ref e), ("source", .str x t), ("bits", .int bits u)]) G (by k_is) (by rfl) (by k_is) (by omega) (BindsTo.of_eq rfl) rfl (by decide +kernel) ?_ rfl rfl rfl
 intro L h₁ tk cells F N Y
 have T := G.T
 have F : Fr s.heap L h₁ (fun y => if y = "bits" then some (.int bits u) else if y = "source" then some (.str x t) else none) := F
 try dsimp only
 k_steps
 refine Stop.mk ?_
 refine raise_V PySem.F.excCall_TypeError PySem.F.excRaise_TypeError (by exact hh) S rfl (fun q => ScopeKind.noConfusion q) (fun _ _ h => h) ?_
 k_steps
 rename Fr _ _ _ _ => F3
 exact Stop.mk ⟨by rw [sizeLine_eq, List.length_singleton]; omega, _, F3, fun h' e R => hexc e h' _ R⟩
theorem decS_30 {w : World} {mg mb : Str → Option Value} {A : Around} {s : Shared} {Q E : Value → Shared → Prop} (G : Gd w mg mb s.heap)
  (hd : A.depth + 4 < recursionLimit) (hu : A.units + 18 < cLine) (hh : A.handled = none) (e lk : Addr) (bm : Array UInt8) (big : Bool) (he : Eng s.heap e bm big lk) (x : Str) (t : Tok) {l : List Env} (S : Stk A l s.heap)
  (hexc : ∀ e h' tk', Fly s.heap l e (.type "TypeError") h' → E (.ref e) { s with heap := h', toks := tk' }) :
  wpAny (model rw_iw0008_01.prog w) A (call (.ref 210) [.ref e, .str x t]) Q E s := by
 refine wpCall ?_
 have KX := G.K
 revert KX
 k_fill
 intro KX
 refine enterKC (binds := [("self", .ref e), ("source", .str x t)]) G (by k_is) (by rfl) (by k_is) (by omega) (BindsTo.of_eq rfl) rfl (by decide +kernel) ?_ rfl rfl rfl
 intro L h₁ tk cells F N Y
 have T := G.T
 have F : Fr s.heap L h₁ (fun y => if y = "source" then some (.str x t) else if y = "self" then some (.ref e) else none) := F
 obtain ⟨dx, tb, k1, k2, k3, q1, q2, q3, nd, I⟩ := he.ex
 try dsimp only
 k_steps
 refine Stop.mk ?_
 rename Fr _ _ _ _ => F2
 refine decS_I (by exact G.keeps F2.keep) (by exact rm (b := 4) hd) (by exact rm (b := 18) hu) (by exact hh) e x t _ _ (by exact S.push F2 rfl (fun q => ScopeKind.noConfusion q)) ?_
 intro e1 h1 tk1 Y1
 exact leaveOn S.stack F2 rfl Y1 fun h2 R => hexc _ _ _ R
theorem decS_64 {w : World} {mg mb : Str → Option Value} {A : Around} {s : Shared} {Q E : Value → Shared → Prop} (G : Gd w mg mb s.heap)
  (hd : A.depth + 4 < recursionLimit) (hu : A.units + 18 < cLine) (hh : A.handled = none) (e lk : Addr) (bm : Array UInt8) (big : Bool) (he : Eng s.heap e bm big lk) (x : Str) (t : Tok) {l : List Env} (S : Stk A l s.heap)
  (hexc : ∀ e h' tk', Fly s.heap l e (.type "TypeError") h' → E (.ref e) { s with heap := h', toks := tk' }) :
  wpAny (model rw_iw0008_01.prog w) A (call (.ref 217) [.ref e, .str x t]) Q E s := by
 refine wpCall ?_
 have KX := G.K
 revert KX
 k_fill
 intro KX
 refine enterKC (binds := [("self", .ref e), ("source", .str x t)]) G (by k_is) (by rfl) (by k_is) (by omega) (BindsTo.of_eq rfl) rfl (by decide +kernel) ?_ rfl rfl rfl
 intro L h₁ tk cells F N Y
 have T := G.T
 have F : Fr s.heap L h₁ (fun y => if y = "source" then some (.str x t) else if y = "self" then some (.ref e) else none) := F
 obtain ⟨dx, tb, k1, k2, k3, q1, q2, q3, nd, I⟩ := he.ex
 try dsimp only
 k_steps
 refine Stop.mk ?_
 rename Fr _ _ _ _ => F2
 refine decS_I (by exact G.keeps F2.keep) (by exact rm (b := 4) hd) (by exact rm (b := 18) hu) (by exact hh) e x t _ _ (by exact S.push F2 rfl (fun q => ScopeKind.noConfusion q)) ?_
 intro e1 h1 tk1 Y1
 exact leaveOn S.stack F2 rfl Y1 fun h2 R => hexc _ _ _ R
theorem readS_spec {w : World} {mg mb : Str → Option Value} {A : Around} {s : Shared} {Q E : Value → Shared → Prop} {base : Heap} {l : List Env} (Gb : Gd w mg mb base) (K : Bel A l base s.heap)
  (TB : Tabs s.heap) (hP : ∀ P ∈ PS, base.get? P = none) {f : Addr} (hf : FnAt s.heap 18 f)
  (hd : A.depth + 5 < recursionLimit) (hu : A.units + 21 < cLine) (hh : A.handled = none)
  (e lk : Addr) (bm : Array UInt8) (big : Bool) (he : Eng base e bm big lk) (ms : List Int) (hl : ms.length = 64) (X : Lkup w base lk ms) (size : Int) (hs : size = 6 ∨ size = 12 ∨ size = 24 ∨ size = 30 ∨ size = 64) (x : Str) (t u : Tok)
  (hret : ∀ t' h' tk', AftT l s.heap h' → Q (.str (Str.ofString "TypeError") t') {s with heap := h', toks := tk'}) :
  wpAny (model rw_iw0008_01.prog w) A (call (.ref f) [.ref e, .int size u, .str x t]) Q E s := by
 have K' := K.hid TB hP
 have G : Gd w mg mb s.heap := Gb.keeps K.keep
 have G' : Gd w mg mb (hideAll s.heap PS) := Gb.keeps K'.keep
 refine wpCall ?_
 have KX := G'.K
 revert KX
 k_fill
 intro KX
 obtain ⟨o, pm, cd, doc, ho, hd', hc⟩ := hf.ex
 refine enterCT G TB (binds := [("engine", .ref e), ("size", .int size u), ("signs", .str x t)]) (by omega) ho hd' hc (BindsTo.of_eq rfl) rfl (by decide +kernel) ?_ rfl rfl rfl
 intro L h₁ tk cells led F N XL Y hlt
 have T := G'.T
 clear ho hd' hc
 have F : Fr (hideAll s.heap PS) L h₁ (fun y => if y = "signs" then some (.str x t) else if y = "size" then some (.int size u) else if y = "engine" then some (.ref e) else none) := F
 have hce := cells_none Y (by rfl)
 subst hce
 obtain ⟨dx, tb, k1, k2, k3, q1, q2, q3, nd, I⟩ := (he.keeps K'.keep).ex
 try dsimp only
 simp only [List.nil_append] at N
 have hgP : ∀ b ∈ PS, (hideAll s.heap PS).get? b = none := fun b hb => hideAll_none _ hb
 generalize hg : hideAll s.heap PS = g at *
 k_steps
 refine Stop.mk ?_
 rename Fr _ _ _ _ => F3
 rename News _ _ _ _ => N3
 refine tryBy (fun env v s' => ∃ a h' tk', v = .ref a ∧ s' = { s with heap := h', toks := tk' } ∧ ∃ G m led', Fr g L G m ∧ News g L G led' ∧ Led s.heap g led' ∧ FlyT G (env :: l) a (.type "TypeError") h') ?_ ?_
 ·k_steps
  ·refine Stop.mk ?_
   rename Fr _ _ _ _ => F4
   rename News _ _ _ _ => N4
   have T4 : Tabs _ := XL.tabs (fun p hp => (N4 p hp).1) F4.keep
   refine decS_6 (by exact G'.keeps F4.keep) (by show A.depth + 1 + _ < _; omega) (by show A.units + 3 + _ < _; omega) (by exact hh) e _ _ (by exact (K'.push F4 rfl (fun q => ScopeKind.noConfusion q)).stk) ?_
   intro e1 h1 tk1 Y
   exact ⟨e1, h1, tk1, rfl, rfl, _, _, _, F4, N4, XL, FlyT.of T4 (K'.push F4 rfl (fun q => ScopeKind.noConfusion q)).stk Y⟩
  ·refine Stop.mk ?_
   rename Fr _ _ _ _ => F4
   rename News _ _ _ _ => N4
   have T4 : Tabs _ := XL.tabs (fun p hp => (N4 p hp).1) F4.keep
   refine decS_12 (by exact G'.keeps F4.keep) (by show A.depth + 1 + _ < _; omega) (by show A.units + 3 + _ < _; omega) (by exact hh) e _ _ (by exact (K'.push F4 rfl (fun q => ScopeKind.noConfusion q)).stk) ?_
   intro e1 h1 tk1 Y
   exact ⟨e1, h1, tk1, rfl, rfl, _, _, _, F4, N4, XL, FlyT.of T4 (K'.push F4 rfl (fun q => ScopeKind.noConfusion q)).stk Y⟩
  ·refine Stop.mk ?_
   rename Fr _ _ _ _ => F4
   rename News _ _ _ _ => N4
   have T4 : Tabs _ := XL.tabs (fun p hp => (N4 p hp).1) F4.keep
   refine decS_24 (by exact G'.keeps F4.keep) (by show A.depth + 1 + _ < _; omega) (by show A.units + 3 + _ < _; omega) (by exact hh) e _ _ (by exact (K'.push F4 rfl (fun q => ScopeKind.noConfusion q)).stk) ?_
   intro e1 h1 tk1 Y
   exact ⟨e1, h1, tk1, rfl, rfl, _, _, _, F4, N4, XL, FlyT.of T4 (K'.push F4 rfl (fun q => ScopeKind.noConfusion q)).stk Y⟩
  ·refine Stop.mk ?_
   rename Fr _ _ _ _ => F4
   rename News _ _ _ _ => N4
   have T4 : Tabs _ := XL.tabs (fun p hp => (N4 p hp).1) F4.keep
   refine decS_30 (by exact G'.keeps F4.keep) (by show A.depth + 1 + _ < _; omega) (by show A.units + 3 + _ < _; omega) (by exact hh) e lk bm big (by exact he.keeps (K'.keep.trans F4.keep)) _ _ (by exact (K'.push F4 rfl (fun q => ScopeKind.noConfusion q)).stk) ?_
   intro e1 h1 tk1 Y
   exact ⟨e1, h1, tk1, rfl, rfl, _, _, _, F4, N4, XL, FlyT.of T4 (K'.push F4 rfl (fun q => ScopeKind.noConfusion q)).stk Y⟩
  ·refine Stop.mk ?_
   rename Fr _ _ _ _ => F4
   rename News _ _ _ _ => N4
   have T4 : Tabs _ := XL.tabs (fun p hp => (N4 p hp).1) F4.keep
   refine decS_64 (by exact G'.keeps F4.keep) (by show A.depth + 1 + _ < _; omega) (by show A.units + 3 + _ < _; omega) (by exact hh) e lk bm big (by exact he.keeps (K'.keep.trans F4.keep)) _ _ (by exact (K'.push F4 rfl (fun q => ScopeKind.noConfusion q)).stk) ?_
   intro e1 h1 tk1 Y
   exact ⟨e1, h1, tk1, rfl, rfl, _, _, _, F4, N4, XL, FlyT.of T4 (K'.push F4 rfl (fun q => ScopeKind.noConfusion q)).stk Y⟩
 ·rintro _ _ ⟨a, h', tk', rfl, rfl, GG, m, led4, F4, N4, X4, Y⟩
  refine comesT Y (by exact K'.stk.stack) rfl ?_
  intro h5 Z
  refine handleT (news := []) (by exact Z) (by exact F4) (by exact K') rfl Gb hgP (by exact N4) X4 (fun _ h => nomatch h) (x := Str.ofString "ValueError") PyProof.Rows.Boot.ValueError (by decide +kernel) (by decide) PySem.F.isExc_ValueError PySem.F.notTuple_ValueError (b := false) (by rw [isSubtype_type]; kernel_rfl) (by passes_own) ?_ rfl rfl rfl rfl (by decide)
  refine handleT (news := []) (by exact Z) (by exact F4) (by exact K') rfl Gb hgP (by exact N4) X4 (fun _ h => nomatch h) (x := Str.ofString "TypeError") PyProof.Rows.Boot.TypeError (by decide +kernel) (by decide) PySem.F.isExc_TypeError PySem.F.notTuple_TypeError (b := true) (by rw [isSubtype_type]; kernel_rfl) (by passes_own) ?_ rfl rfl rfl rfl (by decide)
  intro h6 g6 led6 T6 F6 N6 X6
  have G6 := Gb.keeps (K'.turn T6).keep
  have T := G6.T
  have KX := G6.K
  clear F4 F3 N3 I
  k_steps
  rename Fr _ _ _ _ => F7
  rename News _ _ _ _ => N7
  exact hret _ _ _ (aft_of (news := []) TB hg T6 X6 F7 N7)
noncomputable def padN (size : Int) : Nat := if size = 64 then 2 else 0
noncomputable def wrV (ms : List Int) (big : Bool) (size v : Int) : List Int := signs ms (if big then (sixes (v * 2 ^ padN size) (nCh size)).reverse else sixes v (nCh size))
theorem wr6 {ms : List Int} (big : Bool) {v : Int} (hl : ms.length = 64) (h : 0 ≤ v ∧ v ≤ 63) : List.take (clipAt ms.length (v + 1) - clipAt ms.length v) (List.drop (clipAt ms.length v) ms) = wrV ms big 6 v := by
 have e1 : clipAt ms.length v = v.toNat := clipAt_in h.1 (by rw [hl]; exact Int.le_trans h.2 (by decide))
 have e2 : clipAt ms.length (v + 1) = v.toNat + 1 := (clipAt_in (Int.le_trans h.1 (Int.le_add_of_nonneg_right (by decide))) (by rw [hl]; exact Int.add_le_add_right h.2 1)).trans (Int.toNat_add h.1 (by decide))
 rw [e1, e2, Nat.add_sub_cancel_left]
 have e3 : sixes v 1 = [v] := by
  have : sixAt v 0 = v := by unfold sixAt; simp; omega
  simp [sixes, this]
 have e4 : wrV ms big 6 v = [ms.getD v.toNat 0] := by
  have : nCh 6 = 1 := by decide
  cases big <;> simp [wrV, this, padN, e3, signs]
 rw [e4]
 have hlt : v.toNat < ms.length := by rw [hl]; exact (Int.toNat_lt h.1).2 (Int.lt_of_le_of_lt h.2 (by decide))
 rw [List.drop_eq_getElem_cons hlt, List.take_succ_cons, List.take_zero, List.getD_eq_getElem?_getD, List.getElem?_eq_getElem hlt]
 rfl
theorem wr12 (ms : List Int) (big : Bool) (v : Int) : signs ms (if big then (sixes v 2).reverse else sixes v 2) = wrV ms big 12 v := by
 have : nCh 12 = 2 := by decide
 simp [wrV, this, padN]
theorem wr24 (ms : List Int) (big : Bool) (v : Int) : signs ms (if big then (sixes v 4).reverse else sixes v 4) = wrV ms big 24 v := by
 have : nCh 24 = 4 := by decide
 simp [wrV, this, padN]
theorem wr30 (ms : List Int) (big : Bool) (v : Int) : signs ms (if big then (sixes (v * 2 ^ 0) 5).reverse else sixes v 5) = wrV ms big 30 v := by
 have : nCh 30 = 5 := by decide
 simp [wrV, this, padN]
theorem wr64 (ms : List Int) (big : Bool) (v : Int) : signs ms (if big then (sixes (v * 2 ^ 2) 11).reverse else sixes v 11) = wrV ms big 64 v := by
 have : nCh 64 = 11 := by decide
 simp [wrV, this, padN]
theorem enc6_ok {w : World} {mg mb : Str → Option Value} {A : Around} {s : Shared} {Q E : Value → Shared → Prop} (G : Gd w mg mb s.heap)
  (hd : A.depth + 1 < recursionLimit) (hu : A.units + 8 < cLine) (hh : A.handled = none)
  (e lk : Addr) (bm : Array UInt8) (big : Bool) (he : Eng s.heap e bm big lk) (ms : List Int) (hk : KBw.bInts bm = ms) (hl : ms.length = 64) (v : Int) (t : Tok)
  {l : List Env} (S : Stk A l s.heap)
  (hexc : ∀ e h' tk', v < 0 ∨ 63 < v → Fly s.heap l e (.type "ValueError") h' → E (.ref e) { s with heap := h', toks := tk' })
  (hret : ∀ b t h' tk', Keep s.heap h' → 0 ≤ v ∧ v ≤ 63 → KBw.bInts b = List.take (clipAt ms.length (v + 1) - clipAt ms.length v) (List.drop (clipAt ms.length v) ms) → Q (.bytes b t) {s with heap := h', toks := tk'}) :
  wpAny (model rw_iw0008_01.prog w) A (call (.ref 229) [.ref e, .int v t]) Q E s := by
 refine wpCall ?_
 have KX := G.K
 revert KX
 k_fill
 intro KX
 refine enterK (binds := [("self", .ref e), ("value", .int v t)]) G (by k_is) (by rfl) (by k_is) (by omega) (BindsTo.of_eq rfl) (by decide) (by rintro x (_ | ⟨_, _ | ⟨_, _ | _⟩⟩) <;> rfl) ?_ rfl rfl rfl
 intro L h₁ F N
 have T := G.T
 have F : Fr s.heap L h₁ (fun y => if y = "value" then some (.int v t) else if y = "self" then some (.ref e) else none) := F
 obtain ⟨dx, tb, k1, k2, k3, q1, q2, q3, nd, I⟩ := he.ex
 try dsimp only
 k_steps
 all_goals first
  | (rename KBw.bInts (KBy.picked _ _ _) = _ => hp; rename Fr _ _ _ _ => F2; exact hret _ _ _ _ F2.keep (by omega) hp)
  | skip
 all_goals refine raise_V PySem.F.excCall_ValueError PySem.F.excRaise_ValueError (by exact hh) S rfl (fun q => ScopeKind.noConfusion q) (fun _ _ h => h) ?_
 all_goals k_steps
 all_goals
  rename Fr _ _ _ _ => F3
  exact Stop.mk ⟨by rw [sizeLine_eq, List.length_singleton]; omega, _, F3, fun h' e R => hexc e h' _ (by omega) R⟩
theorem e12 (v : Int) (x y : Tok) : IntsAre [.int (Builtin.bitAnd v 63) x, .int (Builtin.bitAnd (v.fdiv (2 ^ Int.toNat 6)) 63) y] (sixes v 2) := by
 rw [bitAnd_m6, bitAnd_m6]
 have h0 : v % 64 = sixAt v 0 := by simp [sixAt]
 have h1 : v.fdiv (2 ^ Int.toNat 6) % 64 = sixAt v 1 := rfl
 rw [h0, h1]
 exact .cons _ _ (.cons _ _ .nil)
theorem enc12_spec {w : World} {mg mb : Str → Option Value} {A : Around} {s : Shared} {Q E : Value → Shared → Prop} (G : Gd w mg mb s.heap)
  (hd : A.depth + 2 < recursionLimit) (hu : A.units + 12 < cLine) (hh : A.handled = none)
  (e lk : Addr) (bm : Array UInt8) (big : Bool) (he : Eng s.heap e bm big lk) (ms : List Int) (hk : KBw.bInts bm = ms) (hl : ms.length = 64) (v : Int) (t : Tok)
  {l : List Env} (S : Stk A l s.heap)
  (hexc : ∀ e h' tk', v < 0 ∨ 4095 < v → Fly s.heap l e (.type "ValueError") h' → E (.ref e) { s with heap := h', toks := tk' })
  (hret : ∀ b t h' tk', Keep s.heap h' → 0 ≤ v ∧ v ≤ 4095 → KBw.bInts b = signs ms (if big then (sixes v 2).reverse else sixes v 2) → Q (.bytes b t) {s with heap := h', toks := tk'}) :
  wpAny (model rw_iw0008_01.prog w) A (call (.ref 234) [.ref e, .int v t]) Q E s := by
 refine wpCall ?_
 have KX := G.K
 revert KX
 k_fill
 intro KX
 refine enterKC (binds := [("self", .ref e), ("value", .int v t)]) G (by k_is) (by rfl) (by k_is) (by omega) (BindsTo.of_eq rfl) rfl (by decide +kernel) ?_ rfl rfl rfl
 intro L h₁ tk cells F N Y
 have T := G.T
 have F : Fr s.heap L h₁ (fun y => if y = "value" then some (.int v t) else none) := F
 k_cells Y
 obtain ⟨dx, tb, k1, k2, k3, q1, q2, q3, nd, I⟩ := he.ex
 try dsimp only
 rename _ = Data.cell _ => hself
 have hself : _ = Data.cell (some (.ref e)) := hself
 have hsix : ∀ a ∈ sixes v 2, 0 ≤ a ∧ a < 64 := fun a ha => by
  obtain ⟨i, _, rfl⟩ := List.mem_map.mp ha
  exact sixAt_in v i
 k_steps
 iterate 2
  ·refine Stop.mk ?_
   refine raise_V PySem.F.excCall_ValueError PySem.F.excRaise_ValueError (by exact hh) S rfl (fun q => ScopeKind.noConfusion q) (fun _ _ h => h) ?_
   k_steps
   rename Fr _ _ _ _ => F3
   exact Stop.mk ⟨by rw [sizeLine_eq, List.length_singleton]; omega, _, F3, fun h' e R => hexc e h' _ (by omega) R⟩
 ·refine Stop.mk ?_
  rename Fr _ _ _ _ => F2
  rename News _ _ _ _ => N2
  rename big = true => hbig
  have e1 := e12 v
  refine eval_comp (cl := [(Str.ofString "self", L + 1)]) IsI (fun a => IsI (ms.getD a.toNat 0)) ((sixes v 2).reverse) (fun a b v => isI_inj) (by rfl) (by rfl) (by rfl) (by rfl) (by rfl) ?_ (by intro _; rfl)
  k_steps
  rename Fr _ _ _ _ => F1
  rename News _ _ _ _ => N1
  rename _ ∧ _ => l1
  obtain ⟨R, eR⟩ := nm1 N1
  subst eR
  have N0 := news_sub (news' := [(L + 1, _)]) N1 (sub_cons (by k_mem) sub_nil)
  refine Stop.mk ⟨_, ⟨_, _, src_intsRev (by exact hh) ⟨_, N1.get (List.Mem.head _), rfl, rfl⟩ (N1.isList (List.Mem.tail _ (List.Mem.head _))) (Nat.ne_of_lt l1.1) (e1 _ _), by rw [sizeLine_eq]; exact (by decide : 2 ≤ 16777216), rfl, fun _ _ h => h, ?_⟩, ?_⟩
  ·intro C a va s₃ m₃ E'' ha hv F hm
   obtain ⟨ta, rfl⟩ := hv
   have ha : 0 ≤ a ∧ a < 64 := hsix _ (List.mem_reverse.mp ha)
   have ho := hide1 (R := R) (N1.get (show (L + 1, _) ∈ _ by k_mem)) (@Nat.ne_of_lt (L + 1) _ (by omega))
   have k0 : Keep s.heap _ := keep_hide F1 (N1.fresh (List.Mem.head _))
   have KX' := KX.keeps k0
   have T' := T.keeps k0
   have I' := inst_keeps k0 I
   clear F1 N1 N0 KX T I
   generalize hideAll _ [_] = g₁ at F ho k0 KX' T' I'
   k_steps
   refine Stop.mk ?_
   refine e64_spec (G.keeps (k0.trans F.keep)) (by exact rm (b := 2) hd) (by exact rm (b := 11) hu) e lk bm big (he.keeps (k0.trans F.keep)) ms hk hl a ta ha ?_
   intro t' h' tk' hk _ _
   exact Stop.mk ⟨⟨_, rfl⟩, ⟨_, _, rfl, hk⟩⟩
  ·intro D ys h' tk n' hR hkk hD hl'
   obtain ⟨N5, hn5⟩ := news_moreG F1 N0 hkk (by intro p hp; rw [List.mem_singleton.mp hp]; exact hide1 (R := R) (N1.get (show (L + 1, _) ∈ _ by k_mem)) (@Nat.ne_of_lt (L + 1) _ (by omega))) hD hl'
   have F5 : Fr s.heap L h' _ := fr_hide F1 (N1.fresh (List.Mem.head _)) (N1 _ (List.Mem.head _)).2.1 hkk
   have hys := of_ints (AllR.map (S := IsI) _ hR)
   clear F1 N1 N0
   k_steps
   refine KBa.make_K (by exact F5) (by exact N5) (by exact hh) (by exact N5.isList (List.Mem.head _)) hys (signs_in (bInts_in hk)) (by simp [sixes]) ?_
   intro h'' t' k F6 N6 hin
   exact hret _ _ _ _ F6.keep (by omega) ((KBa.ints_make hin).trans (by rw [if_pos hbig]; rfl))
 ·refine Stop.mk ?_
  rename Fr _ _ _ _ => F2
  rename News _ _ _ _ => N2
  rename big = false => hbig
  have e1 := e12 v
  refine eval_comp (cl := [(Str.ofString "self", L + 1)]) IsI (fun a => IsI (ms.getD a.toNat 0)) (sixes v 2) (fun a b v => isI_inj) (by rfl) (by rfl) (by rfl) (by rfl) (by rfl) ?_ (by intro _; rfl)
  k_steps
  rename Fr _ _ _ _ => F1
  rename News _ _ _ _ => N1
  refine Stop.mk ⟨_, ⟨_, _, src_ints (by exact hh) (N1.isList (List.Mem.head _)) (e1 _ _), by rw [sizeLine_eq]; exact (by decide : 2 ≤ 16777216), rfl, fun _ _ h => h, ?_⟩, ?_⟩
  ·intro C a va s₃ m₃ E'' ha hv F hm
   obtain ⟨ta, rfl⟩ := hv
   have ha : 0 ≤ a ∧ a < 64 := hsix _ ha
   have ho := N1.get (show (L + 1, _) ∈ _ by k_mem)
   have k0 : Keep s.heap _ := F1.keep
   have KX' := KX.keeps k0
   have T' := T.keeps k0
   have I' := inst_keeps k0 I
   clear F1 N1 KX T I
   k_steps
   refine Stop.mk ?_
   refine e64_spec (G.keeps (k0.trans F.keep)) (by exact rm (b := 2) hd) (by exact rm (b := 11) hu) e lk bm big (he.keeps (k0.trans F.keep)) ms hk hl a ta ha ?_
   intro t' h' tk' hk _ _
   exact Stop.mk ⟨⟨_, rfl⟩, ⟨_, _, rfl, hk⟩⟩
  ·intro D ys h' tk n' hR hkk hD hl'
   obtain ⟨N5, hn5⟩ := news_more F1 N1 (fun b o _ e => hkk b o e) hD hl'
   have F5 : Fr s.heap L h' _ := F1.kept hkk
   have hys := of_ints (AllR.map (S := IsI) _ hR)
   clear F1 N1
   k_steps
   refine KBa.make_K (by exact F5) (by exact N5) (by exact hh) (by exact N5.isList (List.Mem.head _)) hys (signs_in (bInts_in hk)) (by simp [sixes]) ?_
   intro h'' t' k F6 N6 hin
   exact hret _ _ _ _ F6.keep (by omega) ((KBa.ints_make hin).trans (by rw [if_neg (by rw [hbig]; decide)]; rfl))
theorem e24 (v : Int) (x y z u : Tok) : IntsAre [.int (Builtin.bitAnd v 63) x, .int (Builtin.bitAnd (v.fdiv (2 ^ Int.toNat 6)) 63) y, .int (Builtin.bitAnd (v.fdiv (2 ^ Int.toNat 12)) 63) z, .int (Builtin.bitAnd (v.fdiv (2 ^ Int.toNat 18)) 63) u] (sixes v 4) := by
 rw [bitAnd_m6, bitAnd_m6, bitAnd_m6, bitAnd_m6]
 have h0 : v % 64 = sixAt v 0 := by simp [sixAt]
 have h1 : v.fdiv (2 ^ Int.toNat 6) % 64 = sixAt v 1 := rfl
 have h2 : v.fdiv (2 ^ Int.toNat 12) % 64 = sixAt v 2 := rfl
 have h3 : v.fdiv (2 ^ Int.toNat 18) % 64 = sixAt v 3 := rfl
 rw [h0, h1, h2, h3]
 exact .cons _ _ (.cons _ _ (.cons _ _ (.cons _ _ .nil)))
theorem enc24_spec {w : World} {mg mb : Str → Option Value} {A : Around} {s : Shared} {Q E : Value → Shared → Prop} (G : Gd w mg mb s.heap)
  (hd : A.depth + 2 < recursionLimit) (hu : A.units + 12 < cLine) (hh : A.handled = none)
  (e lk : Addr) (bm : Array UInt8) (big : Bool) (he : Eng s.heap e bm big lk) (ms : List Int) (hk : KBw.bInts bm = ms) (hl : ms.length = 64) (v : Int) (t : Tok)
  {l : List Env} (S : Stk A l s.heap)
  (hexc : ∀ e h' tk', v < 0 ∨ 16777215 < v → Fly s.heap l e (.type "ValueError") h' → E (.ref e) { s with heap := h', toks := tk' })
  (hret : ∀ b t h' tk', Keep s.heap h' → 0 ≤ v ∧ v ≤ 16777215 → KBw.bInts b = signs ms (if big then (sixes v 4).reverse else sixes v 4) → Q (.bytes b t) {s with heap := h', toks := tk'}) :
  wpAny (model rw_iw0008_01.prog w) A (call (.ref 239) [.ref e, .int v t]) Q E s := by
 refine wpCall ?_
 have KX := G.K
 revert KX
 k_fill
 intro KX
 refine enterKC (binds := [("self", .ref e), ("value", .int v t)]) G (by k_is) (by rfl) (by k_is) (by omega) (BindsTo.of_eq rfl) rfl (by decide +kernel) ?_ rfl rfl rfl
 intro L h₁ tk cells F N Y
 have T := G.T
 have F : Fr s.heap L h₁ (fun y => if y = "value" then some (.int v t) else none) := F
 k_cells Y
 obtain ⟨dx, tb, k1, k2, k3, q1, q2, q3, nd, I⟩ := he.ex
 try dsimp only
 rename _ = Data.cell _ => hself
 have hself : _ = Data.cell (some (.ref e)) := hself
 have hsix : ∀ a ∈ sixes v 4, 0 ≤ a ∧ a < 64 := fun a ha => by
  obtain ⟨i, _, rfl⟩ := List.mem_map.mp ha
  exact sixAt_in v i
 k_steps
 iterate 2
  ·refine Stop.mk ?_
   refine raise_V PySem.F.excCall_ValueError PySem.F.excRaise_ValueError (by exact hh) S rfl (fun q => ScopeKind.noConfusion q) (fun _ _ h => h) ?_
   k_steps
   rename Fr _ _ _ _ => F3
   exact Stop.mk ⟨by rw [sizeLine_eq, List.length_singleton]; omega, _, F3, fun h' e R => hexc e h' _ (by omega) R⟩
 ·refine Stop.mk ?_
  rename Fr _ _ _ _ => F2
  rename News _ _ _ _ => N2
  rename big = true => hbig
  have e1 := e24 v
  refine eval_comp (cl := [(Str.ofString "self", L + 1)]) IsI (fun a => IsI (ms.getD a.toNat 0)) ((sixes v 4).reverse) (fun a b v => isI_inj) (by rfl) (by rfl) (by rfl) (by rfl) (by rfl) ?_ (by intro _; rfl)
  k_steps
  rename Fr _ _ _ _ => F1
  rename News _ _ _ _ => N1
  rename _ ∧ _ => l1
  obtain ⟨R, eR⟩ := nm1 N1
  subst eR
  have N0 := news_sub (news' := [(L + 1, _)]) N1 (sub_cons (by k_mem) sub_nil)
  refine Stop.mk ⟨_, ⟨_, _, src_intsRev (by exact hh) ⟨_, N1.get (List.Mem.head _), rfl, rfl⟩ (N1.isList (List.Mem.tail _ (List.Mem.head _))) (Nat.ne_of_lt l1.1) (e1 _ _ _ _), by rw [sizeLine_eq]; exact (by decide : 4 ≤ 16777216), rfl, fun _ _ h => h, ?_⟩, ?_⟩
  ·intro C a va s₃ m₃ E'' ha hv F hm
   obtain ⟨ta, rfl⟩ := hv
   have ha : 0 ≤ a ∧ a < 64 := hsix _ (List.mem_reverse.mp ha)
   have ho := hide1 (R := R) (N1.get (show (L + 1, _) ∈ _ by k_mem)) (@Nat.ne_of_lt (L + 1) _ (by omega))
   have k0 : Keep s.heap _ := keep_hide F1 (N1.fresh (List.Mem.head _))
   have KX' := KX.keeps k0
   have T' := T.keeps k0
   have I' := inst_keeps k0 I
   clear F1 N1 N0 KX T I
   generalize hideAll _ [_] = g₁ at F ho k0 KX' T' I'
   k_steps
   refine Stop.mk ?_
   refine e64_spec (G.keeps (k0.trans F.keep)) (by exact rm (b := 2) hd) (by exact rm (b := 11) hu) e lk bm big (he.keeps (k0.trans F.keep)) ms hk hl a ta ha ?_
   intro t' h' tk' hk _ _
   exact Stop.mk ⟨⟨_, rfl⟩, ⟨_, _, rfl, hk⟩⟩
  ·intro D ys h' tk n' hR hkk hD hl'
   obtain ⟨N5, hn5⟩ := news_moreG F1 N0 hkk (by intro p hp; rw [List.mem_singleton.mp hp]; exact hide1 (R := R) (N1.get (show (L + 1, _) ∈ _ by k_mem)) (@Nat.ne_of_lt (L + 1) _ (by omega))) hD hl'
   have F5 : Fr s.heap L h' _ := fr_hide F1 (N1.fresh (List.Mem.head _)) (N1 _ (List.Mem.head _)).2.1 hkk
   have hys := of_ints (AllR.map (S := IsI) _ hR)
   clear F1 N1 N0
   k_steps
   refine KBa.make_K (by exact F5) (by exact N5) (by exact hh) (by exact N5.isList (List.Mem.head _)) hys (signs_in (bInts_in hk)) (by simp [sixes]) ?_
   intro h'' t' k F6 N6 hin
   exact hret _ _ _ _ F6.keep (by omega) ((KBa.ints_make hin).trans (by rw [if_pos hbig]; rfl))
 ·refine Stop.mk ?_
  rename Fr _ _ _ _ => F2
  rename News _ _ _ _ => N2
  rename big = false => hbig
  have e1 := e24 v
  refine eval_comp (cl := [(Str.ofString "self", L + 1)]) IsI (fun a => IsI (ms.getD a.toNat 0)) (sixes v 4) (fun a b v => isI_inj) (by rfl) (by rfl) (by rfl) (by rfl) (by rfl) ?_ (by intro _; rfl)
  k_steps
  rename Fr _ _ _ _ => F1
  rename News _ _ _ _ => N1
  refine Stop.mk ⟨_, ⟨_, _, src_ints (by exact hh) (N1.isList (List.Mem.head _)) (e1 _ _ _ _), by rw [sizeLine_eq]; exact (by decide : 4 ≤ 16777216), rfl, fun _ _ h => h, ?_⟩, ?_⟩
  ·intro C a va s₃ m₃ E'' ha hv F hm
   obtain ⟨ta, rfl⟩ := hv
   have ha : 0 ≤ a ∧ a < 64 := hsix _ ha
   have ho := N1.get (show (L + 1, _) ∈ _ by k_mem)
   have k0 : Keep s.heap _ := F1.keep
   have KX' := KX.keeps k0
   have T' := T.keeps k0
   have I' := inst_keeps k0 I
   clear F1 N1 KX T I
   k_steps
   refine Stop.mk ?_
   refine e64_spec (G.keeps (k0.trans F.keep)) (by exact rm (b := 2) hd) (by exact rm (b := 11) hu) e lk bm big (he.keeps (k0.trans F.keep)) ms hk hl a ta ha ?_
   intro t' h' tk' hk _ _
   exact Stop.mk ⟨⟨_, rfl⟩, ⟨_, _, rfl, hk⟩⟩
  ·intro D ys h' tk n' hR hkk hD hl'
   obtain ⟨N5, hn5⟩ := news_more F1 N1 (fun b o _ e => hkk b o e) hD hl'
   have F5 : Fr s.heap L h' _ := F1.kept hkk
   have hys := of_ints (AllR.map (S := IsI) _ hR)
   clear F1 N1
   k_steps
   refine KBa.make_K (by exact F5) (by exact N5) (by exact hh) (by exact N5.isList (List.Mem.head _)) hys (signs_in (bInts_in hk)) (by simp [sixes]) ?_
   intro h'' t' k F6 N6 hin
   exact hret _ _ _ _ F6.keep (by omega) ((KBa.ints_make hin).trans (by rw [if_neg (by rw [hbig]; decide)]; rfl))
section
local macro_rules | `(tactic| walk_at "call type:range") => `(tactic| walk_at "stop")
theorem enc30_int {w : World} {mg mb : Str → Option Value} {A : Around} {s : Shared} {Q E : Value → Shared → Prop} (G : Gd w mg mb s.heap)
  (hd : A.depth + 2 < recursionLimit) (hu : A.units + 12 < cLine) (hh : A.handled = none)
  (e lk : Addr) (bm : Array UInt8) (big : Bool) (he : Eng s.heap e bm big lk) (ms : List Int) (hk : KBw.bInts bm = ms) (hl : ms.length = 64) (v : Int) (t : Tok) (tb : Tok) (hv : 0 ≤ v) (hv2 : v < 2 ^ 64)
  (hret : ∀ b t h' tk', Keep s.heap h' → KBw.bInts b = signs ms (if big then (sixes (v * 2 ^ 0) 5).reverse else sixes v 5) → Q (.bytes b t) {s with heap := h', toks := tk'}) :
  wpAny (model rw_iw0008_01.prog w) A (call (.ref 222) [.ref e, .int v t, .int 30 tb]) Q E s := by
 refine wpCall ?_
 have KX := G.K
 revert KX
 k_fill
 intro KX
 refine enterKC (binds := [("self", .ref e), ("value", .int v t), ("bits", .int 30 tb)]) G (by k_is) (by rfl) (by k_is) (by omega) (BindsTo.of_eq rfl) rfl (by decide +kernel) ?_ rfl rfl rfl
 intro L h₁ tk cells F N Y
 have T := G.T
 have F : Fr s.heap L h₁ (fun y => if y = "bits" then some (.int 30 tb) else none) := F
 k_cells Y
 obtain ⟨dx, tb', k1, k2, k3, q1, q2, q3, nd, I⟩ := he.ex
 rename_i ov os dv ds
 have hself : os.data = Data.cell (some (.ref e)) := ds
 have hval : ov.data = Data.cell (some (.int v t)) := dv
 try dsimp only
 k_steps
 ·refine Stop.mk (range3_N (by k_asm) (by k_asm) (by decide) (PyProof.noPylong_small (by decide)) ?_)
  intro r' h' F' N' l1
  try k_lt l1
  try k_sweep
  k_steps
  refine Stop.mk ?_
  rename Fr _ _ _ _ => F1
  rename News _ _ _ _ => N1
  rename big = true => hbig
  rename _ = Data.cell (some (.int _ _)) => hval'
  refine eval_comp (cl := [(Str.ofString "value", L + 1 + 1), (Str.ofString "self", L + 1)]) IsI (fun off => IsI (sgn ms (v * 2 ^ Int.toNat 0) off)) (steps 24 (-6) 5) (fun a b v => isI_inj) (by rfl) (by rfl) (by rfl) (by rfl) (by rfl) ?_ (by intro _; rfl)
  k_steps
  rename Fr _ _ _ _ => F1
  rename News _ _ _ _ => N1
  refine Stop.mk ⟨_, compAsk_range (by exact hh) (show IsRange _ _ 24 (-6) (-6) _ _ _ from N1.get (List.Mem.head _)) (by rfl) (by decide +kernel) (by decide +kernel) (by rw [sizeLine_eq]; omega) ?_, ?_⟩
  ·intro C a va s₃ m₃ E'' ha hv' F hm
   obtain ⟨ta, rfl⟩ := hv'
   have ha : 0 ≤ a ∧ a ≤ 66 := by
    obtain ⟨i, hi, rfl⟩ := List.mem_map.mp ha
    have := List.mem_range.mp hi
    omega
   have ho := N1.get (show (L + 1, _) ∈ _ by k_mem)
   have ho2 := N1.get (show (L + 1 + 1, _) ∈ _ by k_mem)
   have k0 : Keep s.heap _ := F1.keep
   have KX' := KX.keeps k0
   have T' := T.keeps k0
   have I' := inst_keeps k0 I
   clear F1 N1 KX T I
   k_steps
   refine Stop.mk ?_
   refine e64_spec (by exact G.keeps (k0.trans F.keep)) (by exact rm (b := 2) hd) (by exact rm (b := 11) hu) e lk bm big (by exact he.keeps (k0.trans F.keep)) ms hk hl _ _ (by rw [bitAnd_m6]; omega) ?_
   intro t' h' tk' hk _ _
   exact Stop.mk ⟨⟨_, rfl⟩, ⟨_, _, rfl, hk⟩⟩
  ·intro D ys h' tk n' hR hkk hD hl'
   obtain ⟨N5, hn5⟩ := news_more F1 N1 (fun b o _ e => hkk b o e) hD hl'
   have F5 : Fr s.heap L h' _ := F1.kept hkk
   have hys := of_ints (AllR.map (S := IsI) _ hR)
   rw [down_sixes ms _ 5 (by decide)] at hys
   clear F1 N1
   k_steps
   refine KBa.make_K (by exact F5) (by exact N5) (by exact hh) (by exact N5.isList (List.Mem.head _)) hys (signs_in (bInts_in hk)) (by simp [signs, sixes]) ?_
   intro h'' t' k F6 N6 hin
   exact hret _ _ _ _ F6.keep ((KBa.ints_make hin).trans (by rw [if_pos hbig]; rfl))
 ·refine Stop.mk (range3_N (by k_asm) (by k_asm) (by decide) (PyProof.noPylong_small (by decide)) ?_)
  intro r' h' F' N' l1
  try k_lt l1
  try k_sweep
  k_steps
  refine Stop.mk ?_
  rename Fr _ _ _ _ => F1
  rename News _ _ _ _ => N1
  rename big = false => hbig
  refine eval_comp (cl := [(Str.ofString "value", L + 1 + 1), (Str.ofString "self", L + 1)]) IsI (fun off => IsI (sgn ms (v) off)) (steps 0 6 5) (fun a b v => isI_inj) (by rfl) (by rfl) (by rfl) (by rfl) (by rfl) ?_ (by intro _; rfl)
  k_steps
  rename Fr _ _ _ _ => F1
  rename News _ _ _ _ => N1
  refine Stop.mk ⟨_, compAsk_range (by exact hh) (show IsRange _ _ 0 30 6 _ _ _ from N1.get (List.Mem.head _)) (by rfl) (by decide +kernel) (by decide +kernel) (by rw [sizeLine_eq]; omega) ?_, ?_⟩
  ·intro C a va s₃ m₃ E'' ha hv' F hm
   obtain ⟨ta, rfl⟩ := hv'
   have ha : 0 ≤ a ∧ a ≤ 66 := by
    obtain ⟨i, hi, rfl⟩ := List.mem_map.mp ha
    have := List.mem_range.mp hi
    omega
   have ho := N1.get (show (L + 1, _) ∈ _ by k_mem)
   have ho2 := N1.get (show (L + 1 + 1, _) ∈ _ by k_mem)
   have k0 : Keep s.heap _ := F1.keep
   have KX' := KX.keeps k0
   have T' := T.keeps k0
   have I' := inst_keeps k0 I
   clear F1 N1 KX T I
   k_steps
   refine Stop.mk ?_
   refine e64_spec (by exact G.keeps (k0.trans F.keep)) (by exact rm (b := 2) hd) (by exact rm (b := 11) hu) e lk bm big (by exact he.keeps (k0.trans F.keep)) ms hk hl _ _ (by rw [bitAnd_m6]; omega) ?_
   intro t' h' tk' hk _ _
   exact Stop.mk ⟨⟨_, rfl⟩, ⟨_, _, rfl, hk⟩⟩
  ·intro D ys h' tk n' hR hkk hD hl'
   obtain ⟨N5, hn5⟩ := news_more F1 N1 (fun b o _ e => hkk b o e) hD hl'
   have F5 : Fr s.heap L h' _ := F1.kept hkk
   have hys := of_ints (AllR.map (S := IsI) _ hR)
   rw [up_sixes] at hys
   clear F1 N1
   k_steps
   refine KBa.make_K (by exact F5) (by exact N5) (by exact hh) (by exact N5.isList (List.Mem.head _)) hys (signs_in (bInts_in hk)) (by simp [signs, sixes]) ?_
   intro h'' t' k F6 N6 hin
   exact hret _ _ _ _ F6.keep ((KBa.ints_make hin).trans (by rw [if_neg (by rw [hbig]; decide)]))
end
theorem enc30_spec {w : World} {mg mb : Str → Option Value} {A : Around} {s : Shared} {Q E : Value → Shared → Prop} (G : Gd w mg mb s.heap)
  (hd : A.depth + 3 < recursionLimit) (hu : A.units + 15 < cLine) (hh : A.handled = none)
  (e lk : Addr) (bm : Array UInt8) (big : Bool) (he : Eng s.heap e bm big lk) (ms : List Int) (hk : KBw.bInts bm = ms) (hl : ms.length = 64) (v : Int) (t : Tok)
  {l : List Env} (S : Stk A l s.heap)
  (hexc : ∀ e h' tk', v < 0 ∨ 1073741823 < v → Fly s.heap l e (.type "ValueError") h' → E (.ref e) { s with heap := h', toks := tk' })
  (hret : ∀ b t h' tk', Keep s.heap h' → 0 ≤ v ∧ v ≤ 1073741823 → KBw.bInts b = signs ms (if big then (sixes (v * 2 ^ 0) 5).reverse else sixes v 5) → Q (.bytes b t) {s with heap := h', toks := tk'}) :
  wpAny (model rw_iw0008_01.prog w) A (call (.ref 246) [.ref e, .int v t]) Q E s := by
 refine wpCall ?_
 have KX := G.K
 revert KX
 k_fill
 intro KX
 refine enterK (binds := [("self", .ref e), ("value", .int v t)]) G (by k_is) (by rfl) (by k_is) (by omega) (BindsTo.of_eq rfl) (by decide) (by rintro x (_ | ⟨_, _ | ⟨_, _ | _⟩⟩) <;> rfl) ?_ rfl rfl rfl
 intro L h₁ F N
 have T := G.T
 have F : Fr s.heap L h₁ (fun y => if y = "value" then some (.int v t) else if y = "self" then some (.ref e) else none) := F
 obtain ⟨dx, tb, k1, k2, k3, q1, q2, q3, nd, I⟩ := he.ex
 try dsimp only
 k_steps
 iterate 2
  ·refine Stop.mk ?_
   refine raise_V PySem.F.excCall_ValueError PySem.F.excRaise_ValueError (by exact hh) S rfl (fun q => ScopeKind.noConfusion q) (fun _ _ h => h) ?_
   k_steps
   rename Fr _ _ _ _ => F3
   exact Stop.mk ⟨by rw [sizeLine_eq, List.length_singleton]; omega, _, F3, fun h' e R => hexc e h' _ (by omega) R⟩
 ·refine Stop.mk ?_
  rename Fr _ _ _ _ => F2
  refine enc30_int (by exact G.keeps F2.keep) (by exact rm (b := 3) hd) (by exact rm (b := 15) hu) (by exact hh) e lk bm big (by exact he.keeps F2.keep) ms hk hl v _ _ (by omega) (by omega) ?_
  intro b t' h' tk' kk hb
  exact hret b t' h' tk' (Keep.trans F2.keep kk) (by omega) hb
section
local macro_rules | `(tactic| walk_at "call type:range") => `(tactic| walk_at "stop")
theorem enc64_int {w : World} {mg mb : Str → Option Value} {A : Around} {s : Shared} {Q E : Value → Shared → Prop} (G : Gd w mg mb s.heap)
  (hd : A.depth + 2 < recursionLimit) (hu : A.units + 12 < cLine) (hh : A.handled = none)
  (e lk : Addr) (bm : Array UInt8) (big : Bool) (he : Eng s.heap e bm big lk) (ms : List Int) (hk : KBw.bInts bm = ms) (hl : ms.length = 64) (v : Int) (t : Tok) (tb : Tok) (hv : 0 ≤ v) (hv2 : v < 2 ^ 64)
  (hret : ∀ b t h' tk', Keep s.heap h' → KBw.bInts b = signs ms (if big then (sixes (v * 2 ^ 2) 11).reverse else sixes v 11) → Q (.bytes b t) {s with heap := h', toks := tk'}) :
  wpAny (model rw_iw0008_01.prog w) A (call (.ref 222) [.ref e, .int v t, .int 64 tb]) Q E s := by
 refine wpCall ?_
 have KX := G.K
 revert KX
 k_fill
 intro KX
 refine enterKC (binds := [("self", .ref e), ("value", .int v t), ("bits", .int 64 tb)]) G (by k_is) (by rfl) (by k_is) (by omega) (BindsTo.of_eq rfl) rfl (by decide +kernel) ?_ rfl rfl rfl
 intro L h₁ tk cells F N Y
 have T := G.T
 have F : Fr s.heap L h₁ (fun y => if y = "bits" then some (.int 64 tb) else none) := F
 k_cells Y
 obtain ⟨dx, tb', k1, k2, k3, q1, q2, q3, nd, I⟩ := he.ex
 rename_i ov os dv ds
 have hself : os.data = Data.cell (some (.ref e)) := ds
 have hval : ov.data = Data.cell (some (.int v t)) := dv
 try dsimp only
 k_steps
 ·refine Stop.mk (range3_N (by k_asm) (by k_asm) (by decide) (PyProof.noPylong_small (by decide)) ?_)
  intro r' h' F' N' l1
  try k_lt l1
  try k_sweep
  k_steps
  refine Stop.mk ?_
  rename Fr _ _ _ _ => F1
  rename News _ _ _ _ => N1
  rename big = true => hbig
  rename _ = Data.cell (some (.int _ _)) => hval'
  refine eval_comp (cl := [(Str.ofString "value", L + 1 + 1), (Str.ofString "self", L + 1)]) IsI (fun off => IsI (sgn ms (v * 2 ^ Int.toNat 2) off)) (steps 60 (-6) 11) (fun a b v => isI_inj) (by rfl) (by rfl) (by rfl) (by rfl) (by rfl) ?_ (by intro _; rfl)
  k_steps
  rename Fr _ _ _ _ => F1
  rename News _ _ _ _ => N1
  refine Stop.mk ⟨_, compAsk_range (by exact hh) (show IsRange _ _ 60 (-6) (-6) _ _ _ from N1.get (List.Mem.head _)) (by rfl) (by decide +kernel) (by decide +kernel) (by rw [sizeLine_eq]; omega) ?_, ?_⟩
  ·intro C a va s₃ m₃ E'' ha hv' F hm
   obtain ⟨ta, rfl⟩ := hv'
   have ha : 0 ≤ a ∧ a ≤ 66 := by
    obtain ⟨i, hi, rfl⟩ := List.mem_map.mp ha
    have := List.mem_range.mp hi
    omega
   have ho := N1.get (show (L + 1, _) ∈ _ by k_mem)
   have ho2 := N1.get (show (L + 1 + 1, _) ∈ _ by k_mem)
   have k0 : Keep s.heap _ := F1.keep
   have KX' := KX.keeps k0
   have T' := T.keeps k0
   have I' := inst_keeps k0 I
   clear F1 N1 KX T I
   k_steps
   refine Stop.mk ?_
   refine e64_spec (by exact G.keeps (k0.trans F.keep)) (by exact rm (b := 2) hd) (by exact rm (b := 11) hu) e lk bm big (by exact he.keeps (k0.trans F.keep)) ms hk hl _ _ (by rw [bitAnd_m6]; omega) ?_
   intro t' h' tk' hk _ _
   exact Stop.mk ⟨⟨_, rfl⟩, ⟨_, _, rfl, hk⟩⟩
  ·intro D ys h' tk n' hR hkk hD hl'
   obtain ⟨N5, hn5⟩ := news_more F1 N1 (fun b o _ e => hkk b o e) hD hl'
   have F5 : Fr s.heap L h' _ := F1.kept hkk
   have hys := of_ints (AllR.map (S := IsI) _ hR)
   rw [down_sixes ms _ 11 (by decide)] at hys
   clear F1 N1
   k_steps
   refine KBa.make_K (by exact F5) (by exact N5) (by exact hh) (by exact N5.isList (List.Mem.head _)) hys (signs_in (bInts_in hk)) (by simp [signs, sixes]) ?_
   intro h'' t' k F6 N6 hin
   exact hret _ _ _ _ F6.keep ((KBa.ints_make hin).trans (by rw [if_pos hbig]; rfl))
 ·refine Stop.mk (range3_N (by k_asm) (by k_asm) (by decide) (PyProof.noPylong_small (by decide)) ?_)
  intro r' h' F' N' l1
  try k_lt l1
  try k_sweep
  k_steps
  refine Stop.mk ?_
  rename Fr _ _ _ _ => F1
  rename News _ _ _ _ => N1
  rename big = false => hbig
  refine eval_comp (cl := [(Str.ofString "value", L + 1 + 1), (Str.ofString "self", L + 1)]) IsI (fun off => IsI (sgn ms (v) off)) (steps 0 6 11) (fun a b v => isI_inj) (by rfl) (by rfl) (by rfl) (by rfl) (by rfl) ?_ (by intro _; rfl)
  k_steps
  rename Fr _ _ _ _ => F1
  rename News _ _ _ _ => N1
  refine Stop.mk ⟨_, compAsk_range (by exact hh) (show IsRange _ _ 0 66 6 _ _ _ from N1.get (List.Mem.head _)) (by rfl) (by decide +kernel) (by decide +kernel) (by rw [sizeLine_eq]; omega) ?_, ?_⟩
  ·intro C a va s₃ m₃ E'' ha hv' F hm
   obtain ⟨ta, rfl⟩ := hv'
   have ha : 0 ≤ a ∧ a ≤ 66 := by
    obtain ⟨i, hi, rfl⟩ := List.mem_map.mp ha
    have := List.mem_range.mp hi
    omega
   have ho := N1.get (show (L + 1, _) ∈ _ by k_mem)
   have ho2 := N1.get (show (L + 1 + 1, _) ∈ _ by k_mem)
   have k0 : Keep s.heap _ := F1.keep
   have KX' := KX.keeps k0
   have T' := T.keeps k0
   have I' := inst_keeps k0 I
   clear F1 N1 KX T I
   k_steps
   refine Stop.mk ?_
   refine e64_spec (by exact G.keeps (k0.trans F.keep)) (by exact rm (b := 2) hd) (by exact rm (b := 11) hu) e lk bm big (by exact he.keeps (k0.trans F.keep)) ms hk hl _ _ (by rw [bitAnd_m6]; omega) ?_
   intro t' h' tk' hk _ _
   exact Stop.mk ⟨⟨_, rfl⟩, ⟨_, _, rfl, hk⟩⟩
  ·intro D ys h' tk n' hR hkk hD hl'
   obtain ⟨N5, hn5⟩ := news_more F1 N1 (fun b o _ e => hkk b o e) hD hl'
   have F5 : Fr s.heap L h' _ := F1.kept hkk
   have hys := of_ints (AllR.map (S := IsI) _ hR)
   rw [up_sixes] at hys
   clear F1 N1
   k_steps
   refine KBa.make_K (by exact F5) (by exact N5) (by exact hh) (by exact N5.isList (List.Mem.head _)) hys (signs_in (bInts_in hk)) (by simp [signs, sixes]) ?_
   intro h'' t' k F6 N6 hin
   exact hret _ _ _ _ F6.keep ((KBa.ints_make hin).trans (by rw [if_neg (by rw [hbig]; decide)]))
end
theorem enc64_spec {w : World} {mg mb : Str → Option Value} {A : Around} {s : Shared} {Q E : Value → Shared → Prop} (G : Gd w mg mb s.heap)
  (hd : A.depth + 3 < recursionLimit) (hu : A.units + 15 < cLine) (hh : A.handled = none)
  (e lk : Addr) (bm : Array UInt8) (big : Bool) (he : Eng s.heap e bm big lk) (ms : List Int) (hk : KBw.bInts bm = ms) (hl : ms.length = 64) (v : Int) (t : Tok)
  {l : List Env} (S : Stk A l s.heap)
  (hexc : ∀ e h' tk', v < 0 ∨ 18446744073709551615 < v → Fly s.heap l e (.type "ValueError") h' → E (.ref e) { s with heap := h', toks := tk' })
  (hret : ∀ b t h' tk', Keep s.heap h' → 0 ≤ v ∧ v ≤ 18446744073709551615 → KBw.bInts b = signs ms (if big then (sixes (v * 2 ^ 2) 11).reverse else sixes v 11) → Q (.bytes b t) {s with heap := h', toks := tk'}) :
  wpAny (model rw_iw0008_01.prog w) A (call (.ref 253) [.ref e, .int v t]) Q E s := by
 refine wpCall ?_
 have KX := G.K
 revert KX
 k_fill
 intro KX
 refine enterK (binds := [("self", .ref e), ("value", .int v t)]) G (by k_is) (by rfl) (by k_is) (by omega) (BindsTo.of_eq rfl) (by decide) (by rintro x (_ | ⟨_, _ | ⟨_, _ | _⟩⟩) <;> rfl) ?_ rfl rfl rfl
 intro L h₁ F N
 have T := G.T
 have F : Fr s.heap L h₁ (fun y => if y = "value" then some (.int v t) else if y = "self" then some (.ref e) else none) := F
 obtain ⟨dx, tb, k1, k2, k3, q1, q2, q3, nd, I⟩ := he.ex
 try dsimp only
 k_steps
 iterate 2
  ·refine Stop.mk ?_
   refine raise_V PySem.F.excCall_ValueError PySem.F.excRaise_ValueError (by exact hh) S rfl (fun q => ScopeKind.noConfusion q) (fun _ _ h => h) ?_
   k_steps
   rename Fr _ _ _ _ => F3
   exact Stop.mk ⟨by rw [sizeLine_eq, List.length_singleton]; omega, _, F3, fun h' e R => hexc e h' _ (by omega) R⟩
 ·refine Stop.mk ?_
  rename Fr _ _ _ _ => F2
  refine enc64_int (by exact G.keeps F2.keep) (by exact rm (b := 3) hd) (by exact rm (b := 15) hu) (by exact hh) e lk bm big (by exact he.keeps F2.keep) ms hk hl v _ _ (by omega) (by omega) ?_
  intro b t' h' tk' kk hb
  exact hret b t' h' tk' (Keep.trans F2.keep kk) (by omega) hb
theorem written_spec {w : World} {mg mb : Str → Option Value} {A : Around} {s : Shared} {Q E : Value → Shared → Prop} {base : Heap} {l : List Env} (Gb : Gd w mg mb base) (K : Bel A l base s.heap)
  (TB : Tabs s.heap) (hP : ∀ P ∈ PS, base.get? P = none) {f : Addr} (hf : FnAt s.heap 17 f)
  (hd : A.depth + 5 < recursionLimit) (hu : A.units + 21 < cLine) (hh : A.handled = none)
  (e lk : Addr) (bm : Array UInt8) (big : Bool) (he : Eng base e bm big lk) (ms : List Int) (hk : KBw.bInts bm = ms) (hl : ms.length = 64) (size : Int) (hs : size = 6 ∨ size = 12 ∨ size = 24 ∨ size = 30 ∨ size = 64) (v : Int) (t u : Tok)
  (hbad : ∀ t' h' tk', AftT l s.heap h' → (v < 0 ∨ 2 ^ size.toNat ≤ v) → Q (.str (Str.ofString "ValueError") t') {s with heap := h', toks := tk'})
  (hret : ∀ b t' h' tk', AftT l s.heap h' → (0 ≤ v ∧ v < 2 ^ size.toNat) → KBw.bInts b = wrV ms big size v → Q (.bytes b t') {s with heap := h', toks := tk'}) :
  wpAny (model rw_iw0008_01.prog w) A (call (.ref f) [.ref e, .int size u, .int v t]) Q E s := by
 have K' := K.hid TB hP
 have G : Gd w mg mb s.heap := Gb.keeps K.keep
 have G' : Gd w mg mb (hideAll s.heap PS) := Gb.keeps K'.keep
 refine wpCall ?_
 have KX := G'.K
 revert KX
 k_fill
 intro KX
 obtain ⟨o, pm, cd, doc, ho, hd', hc⟩ := hf.ex
 refine enterCT G TB (binds := [("engine", .ref e), ("size", .int size u), ("number", .int v t)]) (by omega) ho hd' hc (BindsTo.of_eq rfl) rfl (by decide +kernel) ?_ rfl rfl rfl
 intro L h₁ tk cells led F N XL Y hlt
 have T := G'.T
 clear ho hd' hc
 have F : Fr (hideAll s.heap PS) L h₁ (fun y => if y = "number" then some (.int v t) else if y = "size" then some (.int size u) else if y = "engine" then some (.ref e) else none) := F
 have hce := cells_none Y (by rfl)
 subst hce
 obtain ⟨dx, tb, k1, k2, k3, q1, q2, q3, nd, I⟩ := (he.keeps K'.keep).ex
 try dsimp only
 simp only [List.nil_append] at N
 have hgP : ∀ b ∈ PS, (hideAll s.heap PS).get? b = none := fun b hb => hideAll_none _ hb
 generalize hg : hideAll s.heap PS = g at *
 k_steps
 refine Stop.mk ?_
 rename Fr _ _ _ _ => F3
 rename News _ _ _ _ => N3
 refine tryBy (fun env x' s' => ∃ a h' tk', x' = .ref a ∧ s' = { s with heap := h', toks := tk' } ∧ (v < 0 ∨ 2 ^ size.toNat ≤ v) ∧ ∃ G m led', Fr g L G m ∧ News g L G led' ∧ Led s.heap g led' ∧ FlyT G (env :: l) a (.type "ValueError") h') ?_ ?_
 ·k_steps
  ·refine Stop.mk ?_
   rename Fr _ _ _ _ => F4
   rename News _ _ _ _ => N4
   have T4 : Tabs _ := XL.tabs (fun p hp => (N4 p hp).1) F4.keep
   refine enc6_ok (by exact G'.keeps F4.keep) (by show A.depth + 1 + _ < _; omega) (by show A.units + 3 + _ < _; omega) (by exact hh) e lk bm big (by exact he.keeps (K'.keep.trans F4.keep)) ms hk hl _ _ (by exact (K'.push F4 rfl (fun q => ScopeKind.noConfusion q)).stk) ?_ ?_
   ·intro e1 h1 tk1 hbd Y
    exact ⟨e1, h1, tk1, rfl, rfl, by rw [show size = 6 from by first | assumption | exact sz_last hs ‹_› ‹_› ‹_› ‹_›]; show v < 0 ∨ 64 ≤ v; omega, _, _, _, F4, N4, XL, FlyT.of T4 (K'.push F4 rfl (fun q => ScopeKind.noConfusion q)).stk Y⟩
   ·intro b1 t1 h1 tk1 kk hv hb
    obtain ⟨led5, X5, F5, N5⟩ := XL.step (news := []) F4 N4 (KeepT.of T4 kk) (fun _ h => nomatch h)
    have hsz : size = 6 := by first | assumption | exact sz_last hs ‹_› ‹_› ‹_› ‹_›
    subst hsz
    exact hret _ _ _ _ (aft_of (news := []) TB hg KtsTurn.refl X5 F5 N5) (by show 0 ≤ v ∧ v < 64; omega) (hb.trans (wr6 big hl hv))
  ·refine Stop.mk ?_
   rename Fr _ _ _ _ => F4
   rename News _ _ _ _ => N4
   have T4 : Tabs _ := XL.tabs (fun p hp => (N4 p hp).1) F4.keep
   refine enc12_spec (by exact G'.keeps F4.keep) (by show A.depth + 1 + _ < _; omega) (by show A.units + 3 + _ < _; omega) (by exact hh) e lk bm big (by exact he.keeps (K'.keep.trans F4.keep)) ms hk hl _ _ (by exact (K'.push F4 rfl (fun q => ScopeKind.noConfusion q)).stk) ?_ ?_
   ·intro e1 h1 tk1 hbd Y
    exact ⟨e1, h1, tk1, rfl, rfl, by rw [show size = 12 from by first | assumption | exact sz_last hs ‹_› ‹_› ‹_› ‹_›]; show v < 0 ∨ 4096 ≤ v; omega, _, _, _, F4, N4, XL, FlyT.of T4 (K'.push F4 rfl (fun q => ScopeKind.noConfusion q)).stk Y⟩
   ·intro b1 t1 h1 tk1 kk hv hb
    obtain ⟨led5, X5, F5, N5⟩ := XL.step (news := []) F4 N4 (KeepT.of T4 kk) (fun _ h => nomatch h)
    have hsz : size = 12 := by first | assumption | exact sz_last hs ‹_› ‹_› ‹_› ‹_›
    subst hsz
    exact hret _ _ _ _ (aft_of (news := []) TB hg KtsTurn.refl X5 F5 N5) (by show 0 ≤ v ∧ v < 4096; omega) (hb.trans (wr12 _ _ _))
  ·refine Stop.mk ?_
   rename Fr _ _ _ _ => F4
   rename News _ _ _ _ => N4
   have T4 : Tabs _ := XL.tabs (fun p hp => (N4 p hp).1) F4.keep
   refine enc24_spec (by exact G'.keeps F4.keep) (by show A.depth + 1 + _ < _; omega) (by show A.units + 3 + _ < _; omega) (by exact hh) e lk bm big (by exact he.keeps (K'.keep.trans F4.keep)) ms hk hl _ _ (by exact (K'.push F4 rfl (fun q => ScopeKind.noConfusion q)).stk) ?_ ?_
   ·intro e1 h1 tk1 hbd Y
    exact ⟨e1, h1, tk1, rfl, rfl, by rw [show size = 24 from by first | assumption | exact sz_last hs ‹_› ‹_› ‹_› ‹_›]; show v < 0 ∨ 16777216 ≤ v; omega, _, _, _, F4, N4, XL, FlyT.of T4 (K'.push F4 rfl (fun q => ScopeKind.noConfusion q)).stk Y⟩
   ·intro b1 t1 h1 tk1 kk hv hb
    obtain ⟨led5, X5, F5, N5⟩ := XL.step (news := []) F4 N4 (KeepT.of T4 kk) (fun _ h => nomatch h)
    have hsz : size = 24 := by first | assumption | exact sz_last hs ‹_› ‹_› ‹_› ‹_›
    subst hsz
    exact hret _ _ _ _ (aft_of (news := []) TB hg KtsTurn.refl X5 F5 N5) (by show 0 ≤ v ∧ v < 16777216; omega) (hb.trans (wr24 _ _ _))
  ·refine Stop.mk ?_
   rename Fr _ _ _ _ => F4
   rename News _ _ _ _ => N4
   have T4 : Tabs _ := XL.tabs (fun p hp => (N4 p hp).1) F4.keep
   refine enc30_spec (by exact G'.keeps F4.keep) (by show A.depth + 1 + _ < _; omega) (by show A.units + 3 + _ < _; omega) (by exact hh) e lk bm big (by exact he.keeps (K'.keep.trans F4.keep)) ms hk hl _ _ (by exact (K'.push F4 rfl (fun q => ScopeKind.noConfusion q)).stk) ?_ ?_
   ·intro e1 h1 tk1 hbd Y
    exact ⟨e1, h1, tk1, rfl, rfl, by rw [show size = 30 from by first | assumption | exact sz_last hs ‹_› ‹_› ‹_› ‹_›]; show v < 0 ∨ 1073741824 ≤ v; omega, _, _, _, F4, N4, XL, FlyT.of T4 (K'.push F4 rfl (fun q => ScopeKind.noConfusion q)).stk Y⟩
   ·intro b1 t1 h1 tk1 kk hv hb
    obtain ⟨led5, X5, F5, N5⟩ := XL.step (news := []) F4 N4 (KeepT.of T4 kk) (fun _ h => nomatch h)
    have hsz : size = 30 := by first | assumption | exact sz_last hs ‹_› ‹_› ‹_› ‹_›
    subst hsz
    exact hret _ _ _ _ (aft_of (news := []) TB hg KtsTurn.refl X5 F5 N5) (by show 0 ≤ v ∧ v < 1073741824; omega) (hb.trans (wr30 _ _ _))
  ·refine Stop.mk ?_
   rename Fr _ _ _ _ => F4
   rename News _ _ _ _ => N4
   have T4 : Tabs _ := XL.tabs (fun p hp => (N4 p hp).1) F4.keep
   refine enc64_spec (by exact G'.keeps F4.keep) (by show A.depth + 1 + _ < _; omega) (by show A.units + 3 + _ < _; omega) (by exact hh) e lk bm big (by exact he.keeps (K'.keep.trans F4.keep)) ms hk hl _ _ (by exact (K'.push F4 rfl (fun q => ScopeKind.noConfusion q)).stk) ?_ ?_
   ·intro e1 h1 tk1 hbd Y
    exact ⟨e1, h1, tk1, rfl, rfl, by rw [show size = 64 from by first | assumption | exact sz_last hs ‹_› ‹_› ‹_› ‹_›]; show v < 0 ∨ 18446744073709551616 ≤ v; omega, _, _, _, F4, N4, XL, FlyT.of T4 (K'.push F4 rfl (fun q => ScopeKind.noConfusion q)).stk Y⟩
   ·intro b1 t1 h1 tk1 kk hv hb
    obtain ⟨led5, X5, F5, N5⟩ := XL.step (news := []) F4 N4 (KeepT.of T4 kk) (fun _ h => nomatch h)
    have hsz : size = 64 := by first | assumption | exact sz_last hs ‹_› ‹_› ‹_› ‹_›
    subst hsz
    exact hret _ _ _ _ (aft_of (news := []) TB hg KtsTurn.refl X5 F5 N5) (by show 0 ≤ v ∧ v < 18446744073709551616; omega) (hb.trans (wr64 _ _ _))
 ·rintro _ _ ⟨a, h', tk', rfl, rfl, hbd, GG, m, led4, F4, N4, X4, Y⟩
  refine comesT Y (by exact K'.stk.stack) rfl ?_
  intro h5 Z
  refine handleT (news := []) (by exact Z) (by exact F4) (by exact K') rfl Gb hgP (by exact N4) X4 (fun _ h => nomatch h) (x := Str.ofString "ValueError") PyProof.Rows.Boot.ValueError (by decide +kernel) (by decide) PySem.F.isExc_ValueError PySem.F.notTuple_ValueError (b := true) (by rw [isSubtype_type]; kernel_rfl) (by passes_own) ?_ rfl rfl rfl rfl (by decide)
  intro h6 g6 led6 T6 F6 N6 X6
  have G6 := Gb.keeps (K'.turn T6).keep
  have T := G6.T
  have KX := G6.K
  clear F4 F3 N3 I
  k_steps
  rename Fr _ _ _ _ => F7
  rename News _ _ _ _ => N7
  exact hbad _ _ _ (aft_of (news := []) TB hg T6 X6 F7 N7) hbd
section
noncomputable abbrev nvArgs : Arguments := { posonlyargs := [], args := [], vararg := none, kwonlyargs := [], kw_defaults := [], kwarg := none, defaults := [] : PySem.Arguments }
noncomputable abbrev nvBodyE : List Stmt := [(PySem.Stmt.Return (value := (some (PySem.Expr.Call (func := (PySem.Expr.Attribute (PySem.Expr.Name "values" ⟨58, 19, 58, 25⟩) "pop" ⟨58, 19, 58, 29⟩)) (args := [(PySem.Expr.Constant (PySem.Const.int 0) 0 ⟨58, 30, 58, 31⟩)]) (keywords := []) (pos := ⟨58, 19, 58, 32⟩)))) (pos := ⟨58, 12, 58, 32⟩))]
noncomputable abbrev nvScopeE : Scope := { kind := PySem.ScopeKind.function, names := [(PySem.Str.ofString "values", PySem.NameKind.free)], isGenerator := false, isCoroutine := false, more := [] : PySem.Scope }
section
variable {w : World} {A : Around} {s : Shared} {E Q : Value → Shared → Prop}
theorem pop0 {lv : Addr} {n : Nat} {v : Value} {vs : List Value} {u : Tok} (h : s.heap.get? lv = some (W.listOf (v :: vs).toArray n)) (hz : (v :: vs).length ≤ 1000)
  (k : ∀ h', (∀ b o, b ≠ lv → s.heap.get? b = some o → h'.get? b = some o) → h'.get? lv = some (W.listOf vs.toArray (n + 1)) → Q v { s with heap := h' }) : wpAny (Md w) A (call (.builtin "list.pop") [.ref lv, .int 0 u]) Q E s := by
 have hz' : (v :: vs).toArray.size ≤ sizeLine := by rw [List.size_toArray, sizeLine_eq]; omega
 have hk : seqIndex? 0 (v :: vs).toArray.size = some 0 := by simp [seqIndex?]
 have hy : (v :: vs).toArray[0]? = some v := by simp
 refine call_meets PySem.F.slot_list_pop ⟨_, h, rfl⟩ PySem.F.entry_list_pop (PySem.F.args_list_pop_2 _ _) (PySem.MeetsSeq.list_pop_at lv _ n 0 u 0 v rfl hk hy hz') ⟨h, k _ (fun b o hb e => (Heap.SameBut.update ..).extBut b o hb e) ?_⟩
 have q := PySem.IsL.update h (fun a => a.eraseIdxIfInBounds 0)
 have e1 : (v :: vs).toArray.eraseIdxIfInBounds 0 = vs.toArray := kl_erase [] vs v
 rw [e1, if_neg (by simp)] at q
 exact q
end
theorem enterNL {w : World} {A : Around} {s : Shared} {mg mb : Str → Option Value} {name : Str} {params : Arguments} {body : List Stmt} {scope : Scope} {clos : List (Str × Addr)} {f c' : Addr} {doc pm ctv : Value} {o : Obj} {qual : Str} {args : Args} {binds : List (Str × Value)} {R : Result → Shared → Prop} {base : Heap} (led : List (Addr × Obj)) (hled : ∀ p ∈ led, s.heap.get? p.1 = some p.2) (G : Gd w mg mb s.heap)
  (ho : s.heap.get? f = some o) (hd : o.data = .func (fnX name qual params body scope clos .none .none doc pm none (.ref c') ctv)) (hcd : s.heap.CodeRec (.ref c') qual) (hroom : A.depth < recursionLimit)
  (hbind : BindsTo s (fnX name qual params body scope clos .none .none doc pm none (.ref c') ctv) args binds) (hloc : ∀ y ∈ binds, scope.names.lookup y.1 = some .local) (hcell : ∀ x ∈ scope.names, x.2 ≠ .cell)
  (h : ∀ L h₁, Fr (hideAll s.heap (led.map (·.1))) L h₁ (fun y => pairsMap binds.reverse y) → News (hideAll s.heap (led.map (·.1))) L h₁ led →
   wpAny (Md w) (A.deeper (envX qual scope L f (.ref c') clos)) (execs body (envX qual scope L f (.ref c') clos))
    (RQ R) (RE (Md w) A (envX qual scope L f (.ref c') clos) R)
    { s with heap := h₁, toks := s.toks + binds.length })
  (hco : scope.isCoroutine = false) (hgen : scope.isGenerator = false) (hk : scope.kind = .function) : codeAny (Md w) A (.call (.ref f) args) R s := by
 refine codeAny_call_def (fd := fnX name qual params body scope clos .none .none doc pm none (.ref c') ctv) (body := body) (binds := binds) hroom ho hd G.T.nolimit hcd rfl hbind hcell hloc (fun h₁ hns hk₁ => ?_) hco hgen hk
 have lt : ∀ p ∈ led, p.1 < s.heap.objs.size := fun p hp => Heap.lt_size (hled p hp)
 refine h s.heap.objs.size h₁ ?_ fun p hp => ⟨hk₁ _ _ (hled p hp), Nat.ne_of_lt (lt p hp), hideAll_none _ (List.mem_map_of_mem hp)⟩
 rw [show (fun y => pairsMap binds.reverse y) = (fun y => binds.reverse.lookup y) from funext fun y => (lookup_pairs y _).symm]
 exact ⟨hns, fun b o e => hk₁ b o (of_hideAll _ e), Nat.le_of_eq (hideAll_size _ _)⟩
theorem fr_but {g h h' : Heap} {L lv : Addr} {m : Str → Option Value} (F : Fr g L h m) (hL : lv ≠ L) (hg : g.get? lv = none) (k : ∀ b o, b ≠ lv → h.get? b = some o → h'.get? b = some o) : Fr g L h' m :=
 ⟨F.ns.at' fun o e => k _ o (Ne.symm hL) e, fun b o e => k b o (fun q => by rw [q, hg] at e; cases e) (F.keep b o e), F.above⟩
theorem keep_hide1 {g h : Heap} {R : Addr} (F : Keep g h) (hR : g.get? R = none) : Keep g (hideAll h [R]) := fun b o e => hide1 (F b o e) fun q => by rw [q, hR] at e; cases e
theorem nvE_spec {w : World} {mg mb : Str → Option Value} {A : Around} {s : Shared} {Q E : Value → Shared → Prop} {base : Heap} (Gb : Gd w mg mb base) (kb : Keep base s.heap)
  (hd : A.depth < recursionLimit) {f c' cv lv : Addr} {doc pm ctv : Value} (ho : s.heap.get? f = some (fnMade "next_value" mkEb.qual nvArgs nvBodyE nvScopeE [("values", cv)] doc pm c' ctv))
  (hcd : s.heap.CodeRec (.ref c') mkEb.qual) {oc : Obj} (hoc : s.heap.get? cv = some oc) (hdc : oc.data = .cell (some (.ref lv))) {n : Nat} {v : Value} {vs : List Value} (hlv : s.heap.get? lv = some (W.listOf (v :: vs).toArray n)) (hz : (v :: vs).length ≤ 1000) (hbl : base.get? lv = none)
  (hret : ∀ h' tk', (∀ b o, b ≠ lv → s.heap.get? b = some o → h'.get? b = some o) → h'.get? lv = some (W.listOf vs.toArray (n + 1)) → Q v {s with heap := h', toks := tk'}) :
  wpAny (model rw_iw0008_01.prog w) A (call (.ref f) []) Q E s := by
 have G' : Gd w mg mb (hideAll s.heap [lv]) := Gb.keeps (keep_hide1 kb hbl)
 have hcl : cv ≠ lv := fun q => by
  rw [q, hlv] at hoc
  cases hoc
  cases hdc
 refine wpCall ?_
 have KX := G'.K
 revert KX
 k_fill
 intro KX
 refine enterNL (binds := []) (base := base) [(lv, _)] (by intro p hp; rw [List.mem_singleton.mp hp]; exact hlv) (Gb.keeps kb) ho rfl hcd (by omega) (BindsTo.of_eq rfl) (by intro y hy; cases hy) (by decide) ?_ rfl rfl rfl
 intro L h₁ F N
 have hoc' := hide1 hoc hcl
 have F : Fr (hideAll s.heap [lv]) L h₁ (fun _ => none) := F
 have N : News (hideAll s.heap [lv]) L h₁ [(lv, _)] := N
 have T := G'.T
 generalize hg : hideAll s.heap [lv] = g at *
 try dsimp only
 k_steps
 refine Stop.mk ?_
 rename Fr _ _ _ _ => F2
 rename News _ _ _ _ => N2
 refine pop0 (N2.get (.head _)) hz ?_
 intro h' k1 k2
 refine hret h' _ (fun b o hb e => k1 b o hb (F2.keep b o ?_)) k2
 rw [← hg]
 exact hide1 e hb
noncomputable abbrev nvBodyD : List Stmt := [(PySem.Stmt.Return (value := (some (PySem.Expr.Call (func := (PySem.Expr.Attribute (PySem.Expr.Name "self" ⟨118, 19, 118, 23⟩) "_decode64" ⟨118, 19, 118, 33⟩)) (args := [(PySem.Expr.Call (func := (PySem.Expr.Attribute (PySem.Expr.Name "values" ⟨118, 34, 118, 40⟩) "pop" ⟨118, 34, 118, 44⟩)) (args := [(PySem.Expr.Constant (PySem.Const.int 0) 0 ⟨118, 45, 118, 46⟩)]) (keywords := []) (pos := ⟨118, 34, 118, 47⟩))]) (keywords := []) (pos := ⟨118, 19, 118, 48⟩)))) (pos := ⟨118, 12, 118, 48⟩))]
noncomputable abbrev nvScopeD : Scope := { kind := PySem.ScopeKind.function, names := [(PySem.Str.ofString "self", PySem.NameKind.free), (PySem.Str.ofString "values", PySem.NameKind.free)], isGenerator := false, isCoroutine := false, more := [] : PySem.Scope }
theorem nvD_spec {w : World} {mg mb : Str → Option Value} {A : Around} {s : Shared} {Q E : Value → Shared → Prop} {base : Heap} (Gb : Gd w mg mb base) (kb : Keep base s.heap)
  (hd : A.depth + 2 < recursionLimit) (hu : A.units + 11 < cLine) (hh : A.handled = none) {f c' cv cs lv : Addr} {doc pm ctv : Value} (ho : s.heap.get? f = some (fnMade "next_value" mkDb.qual nvArgs nvBodyD nvScopeD [("values", cv), ("self", cs)] doc pm c' ctv))
  (hcd : s.heap.CodeRec (.ref c') mkDb.qual) {oc ocs : Obj} (e lk : Addr) (hos : s.heap.get? cs = some ocs) (hds : ocs.data = .cell (some (.ref e))) (bm : Array UInt8) (big : Bool) (he : Eng base e bm big lk) (ms : List Int) (X : Lkup w base lk ms) (hoc : s.heap.get? cv = some oc) (hdc : oc.data = .cell (some (.ref lv))) {n : Nat} {v : Int} {t : Tok} {vs : List Value} (hlv : s.heap.get? lv = some (W.listOf (.int v t :: vs).toArray n)) (hz : (.int v t :: vs).length ≤ 1000) (hv : v ∈ ms) (hbl : base.get? lv = none)
  (hret : ∀ t' h' tk', (∀ b o, b ≠ lv → s.heap.get? b = some o → h'.get? b = some o) → h'.get? lv = some (W.listOf vs.toArray (n + 1)) → Q (.int (ms.idxOf v : Int) t') {s with heap := h', toks := tk'}) :
  wpAny (model rw_iw0008_01.prog w) A (call (.ref f) []) Q E s := by
 have G' : Gd w mg mb (hideAll s.heap [lv]) := Gb.keeps (keep_hide1 kb hbl)
 have hcl : cv ≠ lv := fun q => by
  rw [q, hlv] at hoc
  cases hoc
  cases hdc
 have hsl : cs ≠ lv := fun q => by
  rw [q, hlv] at hos
  cases hos
  cases hds
 have kg : Keep base (hideAll s.heap [lv]) := keep_hide1 kb hbl
 refine wpCall ?_
 have KX := G'.K
 revert KX
 k_fill
 intro KX
 refine enterNL (binds := []) (base := base) [(lv, _)] (by intro p hp; rw [List.mem_singleton.mp hp]; exact hlv) (Gb.keeps kb) ho rfl hcd (by omega) (BindsTo.of_eq rfl) (by intro y hy; cases hy) (by decide) ?_ rfl rfl rfl
 intro L h₁ F N
 have hoc' := hide1 hoc hcl
 have hos' := hide1 hos hsl
 obtain ⟨dx, tb, k1, k2, k3, q1, q2, q3, nd, I⟩ := (he.keeps kg).ex
 have F : Fr (hideAll s.heap [lv]) L h₁ (fun _ => none) := F
 have N : News (hideAll s.heap [lv]) L h₁ [(lv, _)] := N
 have T := G'.T
 generalize hg : hideAll s.heap [lv] = g at *
 try dsimp only
 k_steps
 refine Stop.mk ?_
 rename Fr _ _ _ _ => F2
 rename News _ _ _ _ => N2
 refine pop0 (N2.get (.head _)) hz ?_
 intro h' k1 k2
 have n2 := N2 _ (List.Mem.head _)
 have F3 := fr_but F2 n2.2.1 n2.2.2 k1
 have kh : ∀ b o, b ≠ lv → s.heap.get? b = some o → h'.get? b = some o := fun b o hb e => k1 b o hb (F2.keep b o (by rw [← hg]; exact hide1 e hb))
 clear F2 N2 N
 k_steps
 refine Stop.mk ?_
 rename Fr _ _ _ _ => F4
 refine d64_ok (by exact Gb.keeps (kg.trans F4.keep)) (by exact rm (b := 2) hd) (by exact rm (b := 11) hu) (by exact hh) e lk bm big (by exact he.keeps (kg.trans F4.keep)) ms (by exact X.keeps (kg.trans F4.keep)) v t hv ?_
 intro t' h'' tk' kk
 exact hret _ h'' _ (fun b o hb e => kk b o (kh b o hb e)) (kk _ _ k2)
end
theorem gk {j ch : Int} {k : Nat} (h : j + (k : Int) = ch) (hj : j < ch) : ∃ k', k = k' + 1 := by
 cases k with
 | zero => exact absurd hj (by rw [← h]; exact Int.not_lt.2 (Int.le_of_eq (Int.add_zero j)))
 | succ k' => exact ⟨k', rfl⟩
theorem gk0 {j ch : Int} {k : Nat} (h : j + (k : Int) = ch) (hj : ¬ j < ch) : k = 0 := by
 cases k with
 | zero => rfl
 | succ k' => exact absurd (by rw [← h]; exact Int.lt_add_of_pos_right j (Int.natCast_pos.2 (Nat.succ_pos k'))) hj
theorem gj {j ch : Int} {k : Nat} (h : j + ((k + 1 : Nat) : Int) = ch) : j + 1 + (k : Int) = ch := by
 rw [← h, Int.natCast_succ, Int.add_assoc, Int.add_comm 1]
theorem g4 {r k t : Nat} (h : r + 4 = 4 * (k + 1) + t) : r = 4 * k + t := by
 rw [Nat.mul_succ, Nat.add_right_comm] at h
 exact Nat.add_right_cancel h
theorem g3 {r k t : Nat} (h : r + 3 = 3 * (k + 1) + t) : r = 3 * k + t := by
 rw [Nat.mul_succ, Nat.add_right_comm] at h
 exact Nat.add_right_cancel h
theorem gl4 {n : Nat} {ch tl : Int} (h : 4 * ch + tl = n) (ht : tl = 0 ∨ tl = 2 ∨ tl = 3) : n = 4 * ch.toNat + tl.toNat ∧ 0 + (ch.toNat : Int) = ch := by
 have h0 : 0 ≤ ch := by omega
 obtain ⟨c, rfl⟩ := Int.eq_ofNat_of_zero_le h0
 rcases ht with rfl | rfl | rfl <;> exact ⟨Int.ofNat.inj h.symm, Int.zero_add _⟩
theorem gl3 {n : Nat} {ch tl : Int} (h : 3 * ch + tl = n) (ht : 0 ≤ tl ∧ tl < 3) : n = 3 * ch.toNat + tl.toNat ∧ 0 + (ch.toNat : Int) = ch := by
 have h0 : 0 ≤ ch := by omega
 obtain ⟨c, rfl⟩ := Int.eq_ofNat_of_zero_le h0
 obtain ⟨t, rfl⟩ := Int.eq_ofNat_of_zero_le ht.1
 exact ⟨Int.ofNat.inj h.symm, Int.zero_add _⟩
theorem gt3 {tl : Int} (ht : 0 ≤ tl ∧ tl < 3) (h : tl ≠ 0) : tl = 1 ∨ tl = 2 := by
 obtain ⟨t, rfl⟩ := Int.eq_ofNat_of_zero_le ht.1
 exact (show ∀ t < 3, (t : Nat) ≠ (0 : Int) → (t : Int) = 1 ∨ (t : Int) = 2 by decide) t (Int.ofNat_lt.1 ht.2) h
inductive IE (g : Heap) (Lg e f c' cv lv : Addr) (doc pm ctv : Value) (oc : Obj) (led : List (Addr × Obj)) (en : List Int → List Int) (ks : List Int) (ch tl : Int) (tc tt : Tok) (k n' : Nat) (s₀ s' : Shared) : Prop
 | mk (ks' pre vs' lc uv1 uv2 uv3 j tj h' tk' ot') (i : IntsAre vs' ks') (b : ∀ x ∈ ks', 0 ≤ x ∧ x < 256) (l : ks'.length = 3 * k + tl.toNat) (z : ks'.length ≤ 900) (p : en ks = pre ++ en ks') (q : n' = (en ks').length) (r : j + k = ch) (a : s' = { s₀ with heap := h', toks := tk' })
  (F : Fr g Lg h' (fun y => if y = "idx" then some (.int j tj) else if y = "v3" then uv3 else if y = "v2" then uv2 else if y = "v1" then uv1 else if y = "tail" then some (.int tl tt) else if y = "chunks" then some (.int ch tc) else if y = "next_value" then some (.ref f) else if y = "self" then some (.ref e) else none))
  (N : News g Lg h' ((f, fnMade "next_value" mkEb.qual nvArgs nvBodyE nvScopeE [("values", cv)] doc pm c' ctv) :: (cv, oc) :: (lv, W.listOf (List.toArray vs') lc) :: (led ++ ot'))) (X : Oth g Lg lv s₀.heap ot') : IE g Lg e f c' cv lv doc pm ctv oc led en ks ch tl tc tt k n' s₀ s'
inductive ID (g : Heap) (Lg e f c' cs cv lv : Addr) (doc pm ctv : Value) (oc ocs : Obj) (led : List (Addr × Obj)) (ms : List Int) (de : List Int → List Int) (ks : List Int) (ch tl : Int) (tc tt : Tok) (k n' : Nat) (s₀ s' : Shared) : Prop
 | mk (ks' pre vs' lc uv1 uv2 uv3 uv4 j tj h' tk' ot') (i : IntsAre vs' ks') (b : ∀ x ∈ ks', x ∈ ms) (l : ks'.length = 4 * k + tl.toNat) (z : ks'.length ≤ 900) (p : de (ks.map fun k => (ms.idxOf k : Int)) = pre ++ de (ks'.map fun k => (ms.idxOf k : Int))) (q : n' = (de (ks'.map fun k => (ms.idxOf k : Int))).length) (r : j + k = ch) (a : s' = { s₀ with heap := h', toks := tk' })
  (F : Fr g Lg h' (fun y => if y = "idx" then some (.int j tj) else if y = "v4" then uv4 else if y = "v3" then uv3 else if y = "v2" then uv2 else if y = "v1" then uv1 else if y = "tail" then some (.int tl tt) else if y = "chunks" then some (.int ch tc) else if y = "next_value" then some (.ref f) else if y = "self" then some (.ref e) else none))
  (N : News g Lg h' ((f, fnMade "next_value" mkDb.qual nvArgs nvBodyD nvScopeD [("values", cv), ("self", cs)] doc pm c' ctv) :: (cs, ocs) :: (cv, oc) :: (lv, W.listOf (List.toArray vs') lc) :: (led ++ ot'))) (X : Oth g Lg lv s₀.heap ot') : ID g Lg e f c' cs cv lv doc pm ctv oc ocs led ms de ks ch tl tc tt k n' s₀ s'
structure EX (w : World) (mg mb : Str → Option Value) (g : Heap) (Lg f c' cv lv : Addr) (oc : Obj) (led : List (Addr × Obj)) : Prop where
 G : Gd w mg mb g
 hdc : oc.data = .cell (some (.ref lv))
 CL : CodeL g led c' mkEb.qual
 n1 : f ≠ lv
 n2 : cv ≠ lv
 hlg : g.get? lv = none
 hlL : lv ≠ Lg
theorem rdE {w : World} {mg mb : Str → Option Value} {A : Around} {s : Shared} {E : Value → Shared → Prop} {Q : Flow → Shared → Prop} {g : Heap} {env : Env} {f c' cv lv : Addr} {doc pm ctv : Value} {oc : Obj} {led ot : List (Addr × Obj)} {x : Str} {px pn pc pa : Pos} {m : Str → Option Value} {vs : List Value} {n : Nat} {a : Int} {r : List Int}
  (X : EX w mg mb g env.locals f c' cv lv oc led) (hd : A.depth < recursionLimit) (F : Fr g env.locals s.heap m) (N : News g env.locals s.heap ((f, fnMade "next_value" mkEb.qual nvArgs nvBodyE nvScopeE [("values", cv)] doc pm c' ctv) :: (cv, oc) :: (lv, W.listOf (List.toArray vs) n) :: (led ++ ot)))
  (hr : ∀ p ∈ led ++ ot, p.1 ≠ lv) (hi : IntsAre vs (a :: r)) (hl : vs.length ≤ 1000)
  (h : ∀ t vs' h' tk', IntsAre vs' r → vs'.length ≤ 1000 → Fr g env.locals h' (fun y => if y = x then some (.int a t) else m y) → News g env.locals h' ((f, fnMade "next_value" mkEb.qual nvArgs nvBodyE nvScopeE [("values", cv)] doc pm c' ctv) :: (cv, oc) :: (lv, W.listOf (List.toArray vs') (n + 1)) :: (led ++ ot)) → Q .next { s with heap := h', toks := tk' })
  (hm : m "next_value" = some (.ref f) := by rfl) (hk : env.scope.kind = .function := by rfl) (hn : env.kindOf "next_value" = some .local := by rfl) (hx : env.kindOf x = some .local := by rfl) (hp : (env.scope.kind == .class || (env.scope.kind == .module && env.locals != env.globals)) = false := by rfl) :
  wpAny (Md w) A (exec (.Assign [.Name x px] (.Call (.Name "next_value" pn) [] [] pc) pa) env) Q E s := by
 obtain ⟨t, vs', rfl, hi'⟩ := ints_cons hi
 refine asgQ (callQ (nameL F hm (callWith_meth0 rfl (N.get (.head _)) ?_) hk hn (by decide)))
 refine nvE_spec X.G F.keep hd (N.get (.head _)) (X.CL _ F.keep fun p hp => (N p (.tail _ (.tail _ (.tail _ (List.mem_append_left _ hp))))).1) (N.get (.tail _ (.head _))) X.hdc (N.get (.tail _ (.tail _ (.head _)))) hl X.hlg ?_
 intro h' tk' kk kl
 refine wpAny_storeName_local hx (fr_but F X.hlL X.hlg kk).ns (fun h'' hn' hs => ?_) hp
 exact h t vs' h'' _ hi' (Nat.le_of_succ_le hl) ((fr_but F X.hlL X.hlg kk).set hn' hs) ((news_lv N kk kl X.n1 X.n2 hr).set hs)
structure DX (w : World) (mg mb : Str → Option Value) (g : Heap) (Lg e lk f c' cs cv lv : Addr) (bm : Array UInt8) (big : Bool) (ms : List Int) (oc ocs : Obj) (led : List (Addr × Obj)) : Prop where
 G : Gd w mg mb g
 he : Eng g e bm big lk
 XK : Lkup w g lk ms
 hds : ocs.data = .cell (some (.ref e))
 hdc : oc.data = .cell (some (.ref lv))
 CL : CodeL g led c' mkDb.qual
 n1 : f ≠ lv
 n0 : cs ≠ lv
 n2 : cv ≠ lv
 hlg : g.get? lv = none
 hlL : lv ≠ Lg
theorem rdD {w : World} {mg mb : Str → Option Value} {A : Around} {s : Shared} {E : Value → Shared → Prop} {Q : Flow → Shared → Prop} {g : Heap} {env : Env} {e lk f c' cs cv lv : Addr} {bm : Array UInt8} {big : Bool} {ms : List Int} {doc pm ctv : Value} {oc ocs : Obj} {led ot : List (Addr × Obj)} {x : Str} {px pn pc pa : Pos} {m : Str → Option Value} {vs : List Value} {n : Nat} {a : Int} {r : List Int}
  (X : DX w mg mb g env.locals e lk f c' cs cv lv bm big ms oc ocs led) (hd : A.depth + 2 < recursionLimit) (hu : A.units + 11 < cLine) (hh : A.handled = none) (F : Fr g env.locals s.heap m) (N : News g env.locals s.heap ((f, fnMade "next_value" mkDb.qual nvArgs nvBodyD nvScopeD [("values", cv), ("self", cs)] doc pm c' ctv) :: (cs, ocs) :: (cv, oc) :: (lv, W.listOf (List.toArray vs) n) :: (led ++ ot)))
  (hr : ∀ p ∈ led ++ ot, p.1 ≠ lv) (hi : IntsAre vs (a :: r)) (hl : vs.length ≤ 1000) (ha : a ∈ ms)
  (h : ∀ t vs' h' tk', IntsAre vs' r → vs'.length ≤ 1000 → Fr g env.locals h' (fun y => if y = x then some (.int (ms.idxOf a : Int) t) else m y) → News g env.locals h' ((f, fnMade "next_value" mkDb.qual nvArgs nvBodyD nvScopeD [("values", cv), ("self", cs)] doc pm c' ctv) :: (cs, ocs) :: (cv, oc) :: (lv, W.listOf (List.toArray vs') (n + 1)) :: (led ++ ot)) → Q .next { s with heap := h', toks := tk' })
  (hm : m "next_value" = some (.ref f) := by rfl) (hk : env.scope.kind = .function := by rfl) (hn : env.kindOf "next_value" = some .local := by rfl) (hx : env.kindOf x = some .local := by rfl) (hp : (env.scope.kind == .class || (env.scope.kind == .module && env.locals != env.globals)) = false := by rfl) :
  wpAny (Md w) A (exec (.Assign [.Name x px] (.Call (.Name "next_value" pn) [] [] pc) pa) env) Q E s := by
 obtain ⟨t, vs', rfl, hi'⟩ := ints_cons hi
 refine asgQ (callQ (nameL F hm (callWith_meth0 rfl (N.get (.head _)) ?_) hk hn (by decide)))
 refine nvD_spec X.G F.keep hd hu hh (N.get (.head _)) (X.CL _ F.keep fun p hp => (N p (.tail _ (.tail _ (.tail _ (.tail _ (List.mem_append_left _ hp)))))).1) e lk (N.get (.tail _ (.head _))) X.hds bm big X.he ms X.XK (N.get (.tail _ (.tail _ (.head _)))) X.hdc (N.get (.tail _ (.tail _ (.tail _ (.head _))))) hl ha X.hlg ?_
 intro t' h' tk' kk kl
 refine wpAny_storeName_local hx (fr_but F X.hlL X.hlg kk).ns (fun h'' hn' hs => ?_) hp
 exact h t' vs' h'' _ hi' (Nat.le_of_succ_le hl) ((fr_but F X.hlL X.hlg kk).set hn' hs) ((news_lv4 N kk kl X.n1 X.n0 X.n2 hr).set hs)
noncomputable def encL : List Int → List Int
 | a :: b :: c :: r => Builtin.bitAnd a 63 :: Builtin.bitOr (Builtin.bitAnd b 15 * 2 ^ Int.toNat 2) (a.fdiv (2 ^ Int.toNat 6)) :: Builtin.bitOr (Builtin.bitAnd c 3 * 2 ^ Int.toNat 4) (b.fdiv (2 ^ Int.toNat 4)) :: c.fdiv (2 ^ Int.toNat 2) :: encL r
 | [a, b] => [Builtin.bitAnd a 63, Builtin.bitOr (Builtin.bitAnd b 15 * 2 ^ Int.toNat 2) (a.fdiv (2 ^ Int.toNat 6)), b.fdiv (2 ^ Int.toNat 4)]
 | [a] => [Builtin.bitAnd a 63, a.fdiv (2 ^ Int.toNat 6)]
 | [] => []
theorem segEL {w : World} {mg mb : Str → Option Value} {A : Around} {s : Shared} {g : Heap} {Lg : Addr} (G : Gd w mg mb g)
  (hd : A.depth + 3 < recursionLimit) (hu : A.units + 15 < cLine) (hh : A.handled = none) (e : Addr) {f c' cv lv : Addr} {doc pm ctv : Value} {oc : Obj} (hdc : oc.data = .cell (some (.ref lv))) {n : Nat} {vs : List Value} {ks : List Int} (hi : IntsAre vs ks) (hb : ∀ k ∈ ks, 0 ≤ k ∧ k < 256) (hlen : ks.length ≤ 900)
  {Nn : Nat} {ot led : List (Addr × Obj)} {tc tt : Tok} (ch tl : Int) (hch : 3 * ch + tl = ks.length) (htl : 0 ≤ tl ∧ tl < 3)
  (F : Fr g Lg s.heap (fun y => if y = "tail" then some (.int tl tt) else if y = "chunks" then some (.int ch tc) else if y = "next_value" then some (.ref f) else if y = "self" then some (.ref e) else none))
  (N : News g Lg s.heap ((f, fnMade "next_value" mkEb.qual nvArgs nvBodyE nvScopeE [("values", cv)] doc pm c' ctv) :: (cv, oc) :: (lv, W.listOf vs.toArray n) :: (led ++ ot))) (XO : Oth g Lg lv s.heap ot)
  (CL : CodeL g led c' mkEb.qual) (hne1 : f ≠ lv) (hne2 : cv ≠ lv) (hled : ∀ p ∈ led, p.1 ≠ lv) (hN : Lg < Nn ∧ f < Nn ∧ cv < Nn ∧ lv < Nn ∧ ∀ p ∈ led, p.1 < Nn) :
  Seg (Md w) A (GR [Lg, lv]) (GY Nn [Lg, lv] (encL ks)) (encL ks).length s (genCode w.params 98 Lg) ((Md w).den (genCode w.params 98 Lg)) [] s := by
 have KX := G.K
 have T := G.T
 generalize hgc : genCode w.params 98 Lg = gc
 unfold genCode at hgc
 revert KX
 have hw : model rw_iw0008_01.prog w = Md w := rfl
 revert hw
 k_fill
 intro hw KX
 rw [show (K0 w.params).lookup 98 = some _ from by k_is] at hgc
 dsimp only at hgc
 subst hgc
 have C : CodeHd g 90 88 := ⟨_, _, _, _, _, _, _, _, _, KX _ _ (by k_is), rfl, rfl, rfl, rfl, rfl, rfl, rfl, rfl, by decide⟩
 have hlg : g.get? lv = none := (N _ (.tail _ (.tail _ (.head _)))).2.2
 have hlL : lv ≠ Lg := (N _ (.tail _ (.tail _ (.head _)))).2.1
 have X0 : EX w mg mb g Lg f c' cv lv oc led := ⟨G, hdc, CL, hne1, hne2, hlg, hlL⟩
 refine seg_func ?_
 refine seg_st (over_func A _ _) ?_
 k_steps
 rename Fr _ _ _ _ => F1
 rename News _ _ _ _ => N1
 refine Stop.mk ?_
 refine seg_wh ?_
 intro fr hfs hfg hovl hdone
 refine seg_loop (IE g Lg e f c' cv lv doc pm ctv oc led encL ks ch tl tc tt) ?_ ch.toNat _ _ _ ?_
 ·rintro k n' s₀ s' ⟨ks', pre, vs', lc, uv1, uv2, uv3, j, tj, h', tk', ot', hi', hb', hk', hl', hpre, rfl, hj, rfl, F2, N2, XO⟩ ih
  clear F1 N1
  have hrest : ∀ p ∈ led ++ ot', p.1 ≠ lv := fun p hp => (List.mem_append.mp hp).elim (hled p) (XO.ne p)
  refine seg_whileLoop ?_
  rw [hovl]
  have hvl : vs'.length ≤ 1000 := by rw [hi'.length]; exact Nat.le_trans hl' (by decide)
  k_steps
  ·rename j < ch => hjc
   obtain ⟨k, rfl⟩ : ∃ k', k = k' + 1 := gk hj hjc
   obtain ⟨a, b, c, r, rfl⟩ := three_of hk'
   have ha := hb' a (by simp)
   have hb2 := hb' b (by simp)
   have hc := hb' c (by simp)
   have hp1 := app1 hpre
   have hp2 := app1 hp1
   have hp3 := app1 hp2
   have hp4 := app1 hp3
   refine Stop.mk ?_
   rename Fr _ _ _ _ => F4
   rename News _ _ _ _ => N4
   refine seg_st (hovl _ _ _) (rdE X0 (by exact rm (b := 1) hd) F4 N4 hrest hi' hvl ?_)
   clear F4 N4 hvl
   intro t1 vs1 h1 k1 hi1 hvl F4 N4
   rename Fr _ _ _ _ => F4
   rename News _ _ _ _ => N4
   refine seg_st (hovl _ _ _) (rdE X0 (by exact rm (b := 1) hd) F4 N4 hrest hi1 hvl ?_)
   clear F4 N4 hvl
   intro t2 vs2 h2 k2 hi2 hvl F4 N4
   rename Fr _ _ _ _ => F4
   rename News _ _ _ _ => N4
   refine seg_st (hovl _ _ _) (rdE X0 (by exact rm (b := 1) hd) F4 N4 hrest hi2 hvl ?_)
   clear F4 N4 hvl
   intro t3 vs3 h3 k3 hi3 hvl F4 N4
   show Seg _ _ _ _ ((encL r).length + 1 + 1 + 1 + 1) _ _ _ _ _
   refine seg_yd (hovl _ _ _) hfs hfg ?_ (by rfl) (by rfl)
   k_steps
   rename Fr _ _ _ _ => F4
   rename News _ _ _ _ => N4
   refine Stop.mk ⟨⟨_, congrArg (fun z => Value.int z _) (val_at hpre).symm⟩, XO.gkeep (kn := _ :: _ :: _ :: led) F4 N4, ?_⟩
   intro s1 hag
   obtain ⟨F5, ot1, N5, XO⟩ := resume_facts (lv := lv) (kn := _ :: _ :: _ :: led) F4 N4 hag hN.1 (kn_lt hN.2.1 hN.2.2.1 hN.2.2.2.1 hN.2.2.2.2)
   have N5 : News g Lg _ (_ :: _ :: _ :: (led ++ ot1)) := N5
   have hrest : ∀ p ∈ led ++ ot1, p.1 ≠ lv := fun p hp => (List.mem_append.mp hp).elim (hled p) (XO.ne p)
   clear F4 N4 hag
   refine seg_yd (hovl _ _ _) hfs hfg ?_ (by rfl) (by rfl)
   k_steps
   rename Fr _ _ _ _ => F4
   rename News _ _ _ _ => N4
   refine Stop.mk ⟨⟨_, congrArg (fun z => Value.int z _) (val_at hp1).symm⟩, XO.gkeep (kn := _ :: _ :: _ :: led) F4 N4, ?_⟩
   intro s2 hag
   obtain ⟨F5, ot2, N5, XO⟩ := resume_facts (lv := lv) (kn := _ :: _ :: _ :: led) F4 N4 hag hN.1 (kn_lt hN.2.1 hN.2.2.1 hN.2.2.2.1 hN.2.2.2.2)
   have N5 : News g Lg _ (_ :: _ :: _ :: (led ++ ot2)) := N5
   have hrest : ∀ p ∈ led ++ ot2, p.1 ≠ lv := fun p hp => (List.mem_append.mp hp).elim (hled p) (XO.ne p)
   clear F4 N4 hag
   refine seg_yd (hovl _ _ _) hfs hfg ?_ (by rfl) (by rfl)
   k_steps
   rename Fr _ _ _ _ => F4
   rename News _ _ _ _ => N4
   refine Stop.mk ⟨⟨_, congrArg (fun z => Value.int z _) (val_at hp2).symm⟩, XO.gkeep (kn := _ :: _ :: _ :: led) F4 N4, ?_⟩
   intro s3 hag
   obtain ⟨F5, ot3, N5, XO⟩ := resume_facts (lv := lv) (kn := _ :: _ :: _ :: led) F4 N4 hag hN.1 (kn_lt hN.2.1 hN.2.2.1 hN.2.2.2.1 hN.2.2.2.2)
   have N5 : News g Lg _ (_ :: _ :: _ :: (led ++ ot3)) := N5
   have hrest : ∀ p ∈ led ++ ot3, p.1 ≠ lv := fun p hp => (List.mem_append.mp hp).elim (hled p) (XO.ne p)
   clear F4 N4 hag
   refine seg_yd (hovl _ _ _) hfs hfg ?_ (by rfl) (by rfl)
   k_steps
   rename Fr _ _ _ _ => F4
   rename News _ _ _ _ => N4
   refine Stop.mk ⟨⟨_, congrArg (fun z => Value.int z _) (val_at hp3).symm⟩, XO.gkeep (kn := _ :: _ :: _ :: led) F4 N4, ?_⟩
   intro s4 hag
   obtain ⟨F5, ot4, N5, XO⟩ := resume_facts (lv := lv) (kn := _ :: _ :: _ :: led) F4 N4 hag hN.1 (kn_lt hN.2.1 hN.2.2.1 hN.2.2.2.1 hN.2.2.2.2)
   have N5 : News g Lg _ (_ :: _ :: _ :: (led ++ ot4)) := N5
   have hrest : ∀ p ∈ led ++ ot4, p.1 ≠ lv := fun p hp => (List.mem_append.mp hp).elim (hled p) (XO.ne p)
   clear F4 N4 hag
   refine seg_st (hovl _ _ _) ?_
   k_steps
   rename Fr _ _ _ _ => F4
   rename News _ _ _ _ => N4
   refine Stop.mk ?_
   refine seg_execs_nil ?_
   refine seg_again rfl ?_
   exact ih k _ _ _ (Nat.lt_succ_self k) ⟨r, _, vs3, _, _, _, _, j + 1, _, _, _, _, hi3, fun x hx => hb' x (by simp [hx]), g3 hk', Nat.le_trans (Nat.le_add_right _ 3) hl', hp4, rfl, gj hj, rfl, fr_to F4 (sm ["idx", "v3", "v2", "v1"]), N4, XO⟩
  ·rename ¬ j < ch => hjc
   have hk0 : k = 0 := gk0 hj hjc
   subst hk0
   refine Stop.mk ?_
   refine seg_execs_nil ?_
   refine hdone _ _ _ ?_
   refine seg_if (over_func A _ _) ?_
   k_steps
   ·rcases gt3 htl (by assumption) with ht | ht
    ·subst ht
     obtain ⟨a, rfl⟩ := one_of hk'
     have ha := hb' a (by simp)
     have hp1 := app1 hpre
     refine Stop.mk ?_
     rename Fr _ _ _ _ => F4
     rename News _ _ _ _ => N4
     refine seg_st (over_func A _ _) (rdE X0 (by exact rm (b := 1) hd) F4 N4 hrest hi' hvl ?_)
     clear F4 N4 hvl
     intro t1 vs1 h1 k1 hi1 hvl F4 N4
     refine seg_if (over_func A _ _) ?_
     k_steps
     refine Stop.mk ?_
     show Seg _ _ _ _ (0 + 1 + 1) _ _ _ _ _
     refine seg_yd (over_func A _ _) rfl rfl ?_ (by rfl) (by rfl)
     k_steps
     rename Fr _ _ _ _ => F4
     rename News _ _ _ _ => N4
     refine Stop.mk ⟨⟨_, congrArg (fun z => Value.int z _) (val_at hpre).symm⟩, XO.gkeep (kn := _ :: _ :: _ :: led) F4 N4, ?_⟩
     intro s1 hag
     obtain ⟨F5, ot1, N5, XO⟩ := resume_facts (lv := lv) (kn := _ :: _ :: _ :: led) F4 N4 hag hN.1 (kn_lt hN.2.1 hN.2.2.1 hN.2.2.2.1 hN.2.2.2.2)
     have N5 : News g Lg _ (_ :: _ :: _ :: (led ++ ot1)) := N5
     have hrest : ∀ p ∈ led ++ ot1, p.1 ≠ lv := fun p hp => (List.mem_append.mp hp).elim (hled p) (XO.ne p)
     clear F4 N4 hag
     refine seg_yd (over_func A _ _) rfl rfl ?_ (by rfl) (by rfl)
     k_steps
     rename Fr _ _ _ _ => F4
     rename News _ _ _ _ => N4
     refine Stop.mk ⟨⟨_, congrArg (fun z => Value.int z _) (val_at hp1).symm⟩, XO.gkeep (kn := _ :: _ :: _ :: led) F4 N4, ?_⟩
     intro s2 hag
     obtain ⟨F5, ot2, N5, XO⟩ := resume_facts (lv := lv) (kn := _ :: _ :: _ :: led) F4 N4 hag hN.1 (kn_lt hN.2.1 hN.2.2.1 hN.2.2.2.1 hN.2.2.2.2)
     have N5 : News g Lg _ (_ :: _ :: _ :: (led ++ ot2)) := N5
     have hrest : ∀ p ∈ led ++ ot2, p.1 ≠ lv := fun p hp => (List.mem_append.mp hp).elim (hled p) (XO.ne p)
     clear F4 N4 hag
     refine seg_execs_nil (seg_execs_nil (seg_execs_nil ?_))
     exact seg_end (.ok (.ret .none)) ⟨rfl, rfl, ⟨_, _, rfl, fun _ _ _ e => e⟩⟩
    ·subst ht
     obtain ⟨a, b, rfl⟩ := two_of' hk'
     have ha := hb' a (by simp)
     have hb2 := hb' b (by simp)
     have hp1 := app1 hpre
     have hp2 := app1 hp1
     refine Stop.mk ?_
     rename Fr _ _ _ _ => F4
     rename News _ _ _ _ => N4
     refine seg_st (over_func A _ _) (rdE X0 (by exact rm (b := 1) hd) F4 N4 hrest hi' hvl ?_)
     clear F4 N4 hvl
     intro t1 vs1 h1 k1 hi1 hvl F4 N4
     refine seg_if (over_func A _ _) ?_
     k_steps
     refine Stop.mk ?_
     refine seg_st (over_func A _ _) ?_
     k_steps
     refine Stop.mk ?_
     rename Fr _ _ _ _ => F4
     rename News _ _ _ _ => N4
     refine seg_st (over_func A _ _) (rdE X0 (by exact rm (b := 1) hd) F4 N4 hrest hi1 hvl ?_)
     clear F4 N4 hvl
     intro t2 vs2 h2 k2 hi2 hvl F4 N4
     show Seg _ _ _ _ (0 + 1 + 1 + 1) _ _ _ _ _
     refine seg_yd (over_func A _ _) rfl rfl ?_ (by rfl) (by rfl)
     k_steps
     rename Fr _ _ _ _ => F4
     rename News _ _ _ _ => N4
     refine Stop.mk ⟨⟨_, congrArg (fun z => Value.int z _) (val_at hpre).symm⟩, XO.gkeep (kn := _ :: _ :: _ :: led) F4 N4, ?_⟩
     intro s1 hag
     obtain ⟨F5, ot1, N5, XO⟩ := resume_facts (lv := lv) (kn := _ :: _ :: _ :: led) F4 N4 hag hN.1 (kn_lt hN.2.1 hN.2.2.1 hN.2.2.2.1 hN.2.2.2.2)
     have N5 : News g Lg _ (_ :: _ :: _ :: (led ++ ot1)) := N5
     have hrest : ∀ p ∈ led ++ ot1, p.1 ≠ lv := fun p hp => (List.mem_append.mp hp).elim (hled p) (XO.ne p)
     clear F4 N4 hag
     refine seg_yd (over_func A _ _) rfl rfl ?_ (by rfl) (by rfl)
     k_steps
     rename Fr _ _ _ _ => F4
     rename News _ _ _ _ => N4
     refine Stop.mk ⟨⟨_, congrArg (fun z => Value.int z _) (val_at hp1).symm⟩, XO.gkeep (kn := _ :: _ :: _ :: led) F4 N4, ?_⟩
     intro s2 hag
     obtain ⟨F5, ot2, N5, XO⟩ := resume_facts (lv := lv) (kn := _ :: _ :: _ :: led) F4 N4 hag hN.1 (kn_lt hN.2.1 hN.2.2.1 hN.2.2.2.1 hN.2.2.2.2)
     have N5 : News g Lg _ (_ :: _ :: _ :: (led ++ ot2)) := N5
     have hrest : ∀ p ∈ led ++ ot2, p.1 ≠ lv := fun p hp => (List.mem_append.mp hp).elim (hled p) (XO.ne p)
     clear F4 N4 hag
     refine seg_yd (over_func A _ _) rfl rfl ?_ (by rfl) (by rfl)
     k_steps
     rename Fr _ _ _ _ => F4
     rename News _ _ _ _ => N4
     refine Stop.mk ⟨⟨_, congrArg (fun z => Value.int z _) (val_at hp2).symm⟩, XO.gkeep (kn := _ :: _ :: _ :: led) F4 N4, ?_⟩
     intro s3 hag
     obtain ⟨F5, ot3, N5, XO⟩ := resume_facts (lv := lv) (kn := _ :: _ :: _ :: led) F4 N4 hag hN.1 (kn_lt hN.2.1 hN.2.2.1 hN.2.2.2.1 hN.2.2.2.2)
     have N5 : News g Lg _ (_ :: _ :: _ :: (led ++ ot3)) := N5
     have hrest : ∀ p ∈ led ++ ot3, p.1 ≠ lv := fun p hp => (List.mem_append.mp hp).elim (hled p) (XO.ne p)
     clear F4 N4 hag
     refine seg_execs_nil (seg_execs_nil (seg_execs_nil ?_))
     exact seg_end (.ok (.ret .none)) ⟨rfl, rfl, ⟨_, _, rfl, fun _ _ _ e => e⟩⟩
   ·rename tl = 0 => ht
    subst ht
    obtain rfl := zero_of hk'
    rename Fr _ _ _ _ => F4
    rename News _ _ _ _ => N4
    refine Stop.mk ?_
    refine seg_execs_nil (seg_execs_nil ?_)
    exact seg_end (.ok (.ret .none)) ⟨rfl, rfl, XO.gkeep (kn := _ :: _ :: _ :: led) F4 N4⟩
 ·exact ⟨ks, [], vs, n, none, none, none, 0, _, _, _, ot, hi, hb, (gl3 hch htl).1, hlen, rfl, rfl, (gl3 hch htl).2, rfl, fr_to F1 (sm ["idx", "v3", "v2", "v1"]), N1, XO⟩
noncomputable def encB : List Int → List Int
 | a :: b :: c :: r => a.fdiv (2 ^ Int.toNat 2) :: Builtin.bitOr (Builtin.bitAnd a 3 * 2 ^ Int.toNat 4) (b.fdiv (2 ^ Int.toNat 4)) :: Builtin.bitOr (Builtin.bitAnd b 15 * 2 ^ Int.toNat 2) (c.fdiv (2 ^ Int.toNat 6)) :: Builtin.bitAnd c 63 :: encB r
 | [a, b] => [a.fdiv (2 ^ Int.toNat 2), Builtin.bitOr (Builtin.bitAnd a 3 * 2 ^ Int.toNat 4) (b.fdiv (2 ^ Int.toNat 4)), Builtin.bitAnd b 15 * 2 ^ Int.toNat 2]
 | [a] => [a.fdiv (2 ^ Int.toNat 2), Builtin.bitAnd a 3 * 2 ^ Int.toNat 4]
 | [] => []
theorem segEB {w : World} {mg mb : Str → Option Value} {A : Around} {s : Shared} {g : Heap} {Lg : Addr} (G : Gd w mg mb g)
  (hd : A.depth + 3 < recursionLimit) (hu : A.units + 15 < cLine) (hh : A.handled = none) (e : Addr) {f c' cv lv : Addr} {doc pm ctv : Value} {oc : Obj} (hdc : oc.data = .cell (some (.ref lv))) {n : Nat} {vs : List Value} {ks : List Int} (hi : IntsAre vs ks) (hb : ∀ k ∈ ks, 0 ≤ k ∧ k < 256) (hlen : ks.length ≤ 900)
  {Nn : Nat} {ot led : List (Addr × Obj)} {tc tt : Tok} (ch tl : Int) (hch : 3 * ch + tl = ks.length) (htl : 0 ≤ tl ∧ tl < 3)
  (F : Fr g Lg s.heap (fun y => if y = "tail" then some (.int tl tt) else if y = "chunks" then some (.int ch tc) else if y = "next_value" then some (.ref f) else if y = "self" then some (.ref e) else none))
  (N : News g Lg s.heap ((f, fnMade "next_value" mkEb.qual nvArgs nvBodyE nvScopeE [("values", cv)] doc pm c' ctv) :: (cv, oc) :: (lv, W.listOf vs.toArray n) :: (led ++ ot))) (XO : Oth g Lg lv s.heap ot)
  (CL : CodeL g led c' mkEb.qual) (hne1 : f ≠ lv) (hne2 : cv ≠ lv) (hled : ∀ p ∈ led, p.1 ≠ lv) (hN : Lg < Nn ∧ f < Nn ∧ cv < Nn ∧ lv < Nn ∧ ∀ p ∈ led, p.1 < Nn) :
  Seg (Md w) A (GR [Lg, lv]) (GY Nn [Lg, lv] (encB ks)) (encB ks).length s (genCode w.params 105 Lg) ((Md w).den (genCode w.params 105 Lg)) [] s := by
 have KX := G.K
 have T := G.T
 generalize hgc : genCode w.params 105 Lg = gc
 unfold genCode at hgc
 revert KX
 have hw : model rw_iw0008_01.prog w = Md w := rfl
 revert hw
 k_fill
 intro hw KX
 rw [show (K0 w.params).lookup 105 = some _ from by k_is] at hgc
 dsimp only at hgc
 subst hgc
 have C : CodeHd g 90 88 := ⟨_, _, _, _, _, _, _, _, _, KX _ _ (by k_is), rfl, rfl, rfl, rfl, rfl, rfl, rfl, rfl, by decide⟩
 have hlg : g.get? lv = none := (N _ (.tail _ (.tail _ (.head _)))).2.2
 have hlL : lv ≠ Lg := (N _ (.tail _ (.tail _ (.head _)))).2.1
 have X0 : EX w mg mb g Lg f c' cv lv oc led := ⟨G, hdc, CL, hne1, hne2, hlg, hlL⟩
 refine seg_func ?_
 refine seg_st (over_func A _ _) ?_
 k_steps
 rename Fr _ _ _ _ => F1
 rename News _ _ _ _ => N1
 refine Stop.mk ?_
 refine seg_wh ?_
 intro fr hfs hfg hovl hdone
 refine seg_loop (IE g Lg e f c' cv lv doc pm ctv oc led encB ks ch tl tc tt) ?_ ch.toNat _ _ _ ?_
 ·rintro k n' s₀ s' ⟨ks', pre, vs', lc, uv1, uv2, uv3, j, tj, h', tk', ot', hi', hb', hk', hl', hpre, rfl, hj, rfl, F2, N2, XO⟩ ih
  clear F1 N1
  have hrest : ∀ p ∈ led ++ ot', p.1 ≠ lv := fun p hp => (List.mem_append.mp hp).elim (hled p) (XO.ne p)
  refine seg_whileLoop ?_
  rw [hovl]
  have hvl : vs'.length ≤ 1000 := by rw [hi'.length]; exact Nat.le_trans hl' (by decide)
  k_steps
  ·rename j < ch => hjc
   obtain ⟨k, rfl⟩ : ∃ k', k = k' + 1 := gk hj hjc
   obtain ⟨a, b, c, r, rfl⟩ := three_of hk'
   have ha := hb' a (by simp)
   have hb2 := hb' b (by simp)
   have hc := hb' c (by simp)
   have hp1 := app1 hpre
   have hp2 := app1 hp1
   have hp3 := app1 hp2
   have hp4 := app1 hp3
   refine Stop.mk ?_
   rename Fr _ _ _ _ => F4
   rename News _ _ _ _ => N4
   refine seg_st (hovl _ _ _) (rdE X0 (by exact rm (b := 1) hd) F4 N4 hrest hi' hvl ?_)
   clear F4 N4 hvl
   intro t1 vs1 h1 k1 hi1 hvl F4 N4
   rename Fr _ _ _ _ => F4
   rename News _ _ _ _ => N4
   refine seg_st (hovl _ _ _) (rdE X0 (by exact rm (b := 1) hd) F4 N4 hrest hi1 hvl ?_)
   clear F4 N4 hvl
   intro t2 vs2 h2 k2 hi2 hvl F4 N4
   rename Fr _ _ _ _ => F4
   rename News _ _ _ _ => N4
   refine seg_st (hovl _ _ _) (rdE X0 (by exact rm (b := 1) hd) F4 N4 hrest hi2 hvl ?_)
   clear F4 N4 hvl
   intro t3 vs3 h3 k3 hi3 hvl F4 N4
   show Seg _ _ _ _ ((encB r).length + 1 + 1 + 1 + 1) _ _ _ _ _
   refine seg_yd (hovl _ _ _) hfs hfg ?_ (by rfl) (by rfl)
   k_steps
   rename Fr _ _ _ _ => F4
   rename News _ _ _ _ => N4
   refine Stop.mk ⟨⟨_, congrArg (fun z => Value.int z _) (val_at hpre).symm⟩, XO.gkeep (kn := _ :: _ :: _ :: led) F4 N4, ?_⟩
   intro s1 hag
   obtain ⟨F5, ot1, N5, XO⟩ := resume_facts (lv := lv) (kn := _ :: _ :: _ :: led) F4 N4 hag hN.1 (kn_lt hN.2.1 hN.2.2.1 hN.2.2.2.1 hN.2.2.2.2)
   have N5 : News g Lg _ (_ :: _ :: _ :: (led ++ ot1)) := N5
   have hrest : ∀ p ∈ led ++ ot1, p.1 ≠ lv := fun p hp => (List.mem_append.mp hp).elim (hled p) (XO.ne p)
   clear F4 N4 hag
   refine seg_yd (hovl _ _ _) hfs hfg ?_ (by rfl) (by rfl)
   k_steps
   rename Fr _ _ _ _ => F4
   rename News _ _ _ _ => N4
   refine Stop.mk ⟨⟨_, congrArg (fun z => Value.int z _) (val_at hp1).symm⟩, XO.gkeep (kn := _ :: _ :: _ :: led) F4 N4, ?_⟩
   intro s2 hag
   obtain ⟨F5, ot2, N5, XO⟩ := resume_facts (lv := lv) (kn := _ :: _ :: _ :: led) F4 N4 hag hN.1 (kn_lt hN.2.1 hN.2.2.1 hN.2.2.2.1 hN.2.2.2.2)
   have N5 : News g Lg _ (_ :: _ :: _ :: (led ++ ot2)) := N5
   have hrest : ∀ p ∈ led ++ ot2, p.1 ≠ lv := fun p hp => (List.mem_append.mp hp).elim (hled p) (XO.ne p)
   clear F4 N4 hag
   refine seg_yd (hovl _ _ _) hfs hfg ?_ (by rfl) (by rfl)
   k_steps
   rename Fr _ _ _ _ => F4
   rename News _ _ _ _ => N4
   refine Stop.mk ⟨⟨_, congrArg (fun z => Value.int z _) (val_at hp2).symm⟩, XO.gkeep (kn := _ :: _ :: _ :: led) F4 N4, ?_⟩
   intro s3 hag
   obtain ⟨F5, ot3, N5, XO⟩ := resume_facts (lv := lv) (kn := _ :: _ :: _ :: led) F4 N4 hag hN.1 (kn_lt hN.2.1 hN.2.2.1 hN.2.2.2.1 hN.2.2.2.2)
   have N5 : News g Lg _ (_ :: _ :: _ :: (led ++ ot3)) := N5
   have hrest : ∀ p ∈ led ++ ot3, p.1 ≠ lv := fun p hp => (List.mem_append.mp hp).elim (hled p) (XO.ne p)
   clear F4 N4 hag
   refine seg_yd (hovl _ _ _) hfs hfg ?_ (by rfl) (by rfl)
   k_steps
   rename Fr _ _ _ _ => F4
   rename News _ _ _ _ => N4
   refine Stop.mk ⟨⟨_, congrArg (fun z => Value.int z _) (val_at hp3).symm⟩, XO.gkeep (kn := _ :: _ :: _ :: led) F4 N4, ?_⟩
   intro s4 hag
   obtain ⟨F5, ot4, N5, XO⟩ := resume_facts (lv := lv) (kn := _ :: _ :: _ :: led) F4 N4 hag hN.1 (kn_lt hN.2.1 hN.2.2.1 hN.2.2.2.1 hN.2.2.2.2)
   have N5 : News g Lg _ (_ :: _ :: _ :: (led ++ ot4)) := N5
   have hrest : ∀ p ∈ led ++ ot4, p.1 ≠ lv := fun p hp => (List.mem_append.mp hp).elim (hled p) (XO.ne p)
   clear F4 N4 hag
   refine seg_st (hovl _ _ _) ?_
   k_steps
   rename Fr _ _ _ _ => F4
   rename News _ _ _ _ => N4
   refine Stop.mk ?_
   refine seg_execs_nil ?_
   refine seg_again rfl ?_
   exact ih k _ _ _ (Nat.lt_succ_self k) ⟨r, _, vs3, _, _, _, _, j + 1, _, _, _, _, hi3, fun x hx => hb' x (by simp [hx]), g3 hk', Nat.le_trans (Nat.le_add_right _ 3) hl', hp4, rfl, gj hj, rfl, fr_to F4 (sm ["idx", "v3", "v2", "v1"]), N4, XO⟩
  ·rename ¬ j < ch => hjc
   have hk0 : k = 0 := gk0 hj hjc
   subst hk0
   refine Stop.mk ?_
   refine seg_execs_nil ?_
   refine hdone _ _ _ ?_
   refine seg_if (over_func A _ _) ?_
   k_steps
   ·rcases gt3 htl (by assumption) with ht | ht
    ·subst ht
     obtain ⟨a, rfl⟩ := one_of hk'
     have ha := hb' a (by simp)
     have hp1 := app1 hpre
     refine Stop.mk ?_
     rename Fr _ _ _ _ => F4
     rename News _ _ _ _ => N4
     refine seg_st (over_func A _ _) (rdE X0 (by exact rm (b := 1) hd) F4 N4 hrest hi' hvl ?_)
     clear F4 N4 hvl
     intro t1 vs1 h1 k1 hi1 hvl F4 N4
     refine seg_if (over_func A _ _) ?_
     k_steps
     refine Stop.mk ?_
     show Seg _ _ _ _ (0 + 1 + 1) _ _ _ _ _
     refine seg_yd (over_func A _ _) rfl rfl ?_ (by rfl) (by rfl)
     k_steps
     rename Fr _ _ _ _ => F4
     rename News _ _ _ _ => N4
     refine Stop.mk ⟨⟨_, congrArg (fun z => Value.int z _) (val_at hpre).symm⟩, XO.gkeep (kn := _ :: _ :: _ :: led) F4 N4, ?_⟩
     intro s1 hag
     obtain ⟨F5, ot1, N5, XO⟩ := resume_facts (lv := lv) (kn := _ :: _ :: _ :: led) F4 N4 hag hN.1 (kn_lt hN.2.1 hN.2.2.1 hN.2.2.2.1 hN.2.2.2.2)
     have N5 : News g Lg _ (_ :: _ :: _ :: (led ++ ot1)) := N5
     have hrest : ∀ p ∈ led ++ ot1, p.1 ≠ lv := fun p hp => (List.mem_append.mp hp).elim (hled p) (XO.ne p)
     clear F4 N4 hag
     refine seg_yd (over_func A _ _) rfl rfl ?_ (by rfl) (by rfl)
     k_steps
     rename Fr _ _ _ _ => F4
     rename News _ _ _ _ => N4
     refine Stop.mk ⟨⟨_, congrArg (fun z => Value.int z _) (val_at hp1).symm⟩, XO.gkeep (kn := _ :: _ :: _ :: led) F4 N4, ?_⟩
     intro s2 hag
     obtain ⟨F5, ot2, N5, XO⟩ := resume_facts (lv := lv) (kn := _ :: _ :: _ :: led) F4 N4 hag hN.1 (kn_lt hN.2.1 hN.2.2.1 hN.2.2.2.1 hN.2.2.2.2)
     have N5 : News g Lg _ (_ :: _ :: _ :: (led ++ ot2)) := N5
     have hrest : ∀ p ∈ led ++ ot2, p.1 ≠ lv := fun p hp => (List.mem_append.mp hp).elim (hled p) (XO.ne p)
     clear F4 N4 hag
     refine seg_execs_nil (seg_execs_nil (seg_execs_nil ?_))
     exact seg_end (.ok (.ret .none)) ⟨rfl, rfl, ⟨_, _, rfl, fun _ _ _ e => e⟩⟩
    ·subst ht
     obtain ⟨a, b, rfl⟩ := two_of' hk'
     have ha := hb' a (by simp)
     have hb2 := hb' b (by simp)
     have hp1 := app1 hpre
     have hp2 := app1 hp1
     refine Stop.mk ?_
     rename Fr _ _ _ _ => F4
     rename News _ _ _ _ => N4
     refine seg_st (over_func A _ _) (rdE X0 (by exact rm (b := 1) hd) F4 N4 hrest hi' hvl ?_)
     clear F4 N4 hvl
     intro t1 vs1 h1 k1 hi1 hvl F4 N4
     refine seg_if (over_func A _ _) ?_
     k_steps
     refine Stop.mk ?_
     refine seg_st (over_func A _ _) ?_
     k_steps
     refine Stop.mk ?_
     rename Fr _ _ _ _ => F4
     rename News _ _ _ _ => N4
     refine seg_st (over_func A _ _) (rdE X0 (by exact rm (b := 1) hd) F4 N4 hrest hi1 hvl ?_)
     clear F4 N4 hvl
     intro t2 vs2 h2 k2 hi2 hvl F4 N4
     show Seg _ _ _ _ (0 + 1 + 1 + 1) _ _ _ _ _
     refine seg_yd (over_func A _ _) rfl rfl ?_ (by rfl) (by rfl)
     k_steps
     rename Fr _ _ _ _ => F4
     rename News _ _ _ _ => N4
     refine Stop.mk ⟨⟨_, congrArg (fun z => Value.int z _) (val_at hpre).symm⟩, XO.gkeep (kn := _ :: _ :: _ :: led) F4 N4, ?_⟩
     intro s1 hag
     obtain ⟨F5, ot1, N5, XO⟩ := resume_facts (lv := lv) (kn := _ :: _ :: _ :: led) F4 N4 hag hN.1 (kn_lt hN.2.1 hN.2.2.1 hN.2.2.2.1 hN.2.2.2.2)
     have N5 : News g Lg _ (_ :: _ :: _ :: (led ++ ot1)) := N5
     have hrest : ∀ p ∈ led ++ ot1, p.1 ≠ lv := fun p hp => (List.mem_append.mp hp).elim (hled p) (XO.ne p)
     clear F4 N4 hag
     refine seg_yd (over_func A _ _) rfl rfl ?_ (by rfl) (by rfl)
     k_steps
     rename Fr _ _ _ _ => F4
     rename News _ _ _ _ => N4
     refine Stop.mk ⟨⟨_, congrArg (fun z => Value.int z _) (val_at hp1).symm⟩, XO.gkeep (kn := _ :: _ :: _ :: led) F4 N4, ?_⟩
     intro s2 hag
     obtain ⟨F5, ot2, N5, XO⟩ := resume_facts (lv := lv) (kn := _ :: _ :: _ :: led) F4 N4 hag hN.1 (kn_lt hN.2.1 hN.2.2.1 hN.2.2.2.1 hN.2.2.2.2)
     have N5 : News g Lg _ (_ :: _ :: _ :: (led ++ ot2)) := N5
     have hrest : ∀ p ∈ led ++ ot2, p.1 ≠ lv := fun p hp => (List.mem_append.mp hp).elim (hled p) (XO.ne p)
     clear F4 N4 hag
     refine seg_yd (over_func A _ _) rfl rfl ?_ (by rfl) (by rfl)
     k_steps
     rename Fr _ _ _ _ => F4
     rename News _ _ _ _ => N4
     refine Stop.mk ⟨⟨_, congrArg (fun z => Value.int z _) (val_at hp2).symm⟩, XO.gkeep (kn := _ :: _ :: _ :: led) F4 N4, ?_⟩
     intro s3 hag
     obtain ⟨F5, ot3, N5, XO⟩ := resume_facts (lv := lv) (kn := _ :: _ :: _ :: led) F4 N4 hag hN.1 (kn_lt hN.2.1 hN.2.2.1 hN.2.2.2.1 hN.2.2.2.2)
     have N5 : News g Lg _ (_ :: _ :: _ :: (led ++ ot3)) := N5
     have hrest : ∀ p ∈ led ++ ot3, p.1 ≠ lv := fun p hp => (List.mem_append.mp hp).elim (hled p) (XO.ne p)
     clear F4 N4 hag
     refine seg_execs_nil (seg_execs_nil (seg_execs_nil ?_))
     exact seg_end (.ok (.ret .none)) ⟨rfl, rfl, ⟨_, _, rfl, fun _ _ _ e => e⟩⟩
   ·rename tl = 0 => ht
    subst ht
    obtain rfl := zero_of hk'
    rename Fr _ _ _ _ => F4
    rename News _ _ _ _ => N4
    refine Stop.mk ?_
    refine seg_execs_nil (seg_execs_nil ?_)
    exact seg_end (.ok (.ret .none)) ⟨rfl, rfl, XO.gkeep (kn := _ :: _ :: _ :: led) F4 N4⟩
 ·exact ⟨ks, [], vs, n, none, none, none, 0, _, _, _, ot, hi, hb, (gl3 hch htl).1, hlen, rfl, rfl, (gl3 hch htl).2, rfl, fr_to F1 (sm ["idx", "v3", "v2", "v1"]), N1, XO⟩
section
theorem qb {a m n : Int} (hm : 0 < m) (h : 0 ≤ a ∧ a < n * m) : 0 ≤ a / m ∧ a / m < n := ⟨Int.ediv_nonneg h.1 (Int.le_of_lt hm), Int.ediv_lt_of_lt_mul hm h.2⟩
theorem rb (a : Int) {m : Int} (hm : 0 < m) : 0 ≤ a % m ∧ a % m < m := ⟨Int.emod_nonneg _ (Int.ne_of_gt hm), Int.emod_lt_of_pos _ hm⟩
section
variable {a u v : Int}
theorem b4 (h : 0 ≤ a ∧ a < 256) : 0 ≤ a / 4 ∧ a / 4 < 64 := qb (by decide) h
theorem b16 (h : 0 ≤ a ∧ a < 256) : 0 ≤ a / 16 ∧ a / 16 < 16 := qb (by decide) h
theorem b64 (h : 0 ≤ a ∧ a < 256) : 0 ≤ a / 64 ∧ a / 64 < 4 := qb (by decide) h
theorem c4 (h : 0 ≤ a ∧ a < 64) : 0 ≤ a / 4 ∧ a / 4 < 16 := qb (by decide) h
theorem c16 (h : 0 ≤ a ∧ a < 64) : 0 ≤ a / 16 ∧ a / 16 < 4 := qb (by decide) h
theorem x4 (hu : 0 ≤ u ∧ u < 16) (hv : 0 ≤ v ∧ v < 4) : 0 ≤ u * 4 + v ∧ u * 4 + v < 64 := by omega
theorem x16 (hu : 0 ≤ u ∧ u < 4) (hv : 0 ≤ v ∧ v < 16) : 0 ≤ u * 16 + v ∧ u * 16 + v < 64 := by omega
theorem y64 (hu : 0 ≤ u ∧ u < 4) (hv : 0 ≤ v ∧ v < 64) : 0 ≤ u * 64 + v ∧ u * 64 + v < 256 := by omega
theorem y16 (hu : 0 ≤ u ∧ u < 16) (hv : 0 ≤ v ∧ v < 16) : 0 ≤ u * 16 + v ∧ u * 16 + v < 256 := by omega
theorem y4 (hu : 0 ≤ u ∧ u < 64) (hv : 0 ≤ v ∧ v < 4) : 0 ≤ u * 4 + v ∧ u * 4 + v < 256 := by omega
theorem z16 (hu : 0 ≤ u ∧ u < 4) : 0 ≤ u * 16 ∧ u * 16 < 64 := by omega
theorem z4 (hu : 0 ≤ u ∧ u < 16) : 0 ≤ u * 4 ∧ u * 4 < 64 := by omega
end
theorem lt64 {a n : Int} (h : 0 ≤ a ∧ a < n) (k : n ≤ 64) : 0 ≤ a ∧ a < 64 := ⟨h.1, Int.lt_of_lt_of_le h.2 k⟩
theorem am {m q r : Int} (h : 0 ≤ r ∧ r < m) : (q * m + r) % m = r := by
 rw [Int.add_comm, Int.add_mul_emod_self_right, Int.emod_eq_of_lt h.1 h.2]
theorem ad {m q r : Int} (h : 0 ≤ r ∧ r < m) : (q * m + r) / m = q := by
 rw [Int.add_comm, Int.add_mul_ediv_right _ _ (Int.ne_of_gt (Int.lt_of_le_of_lt h.1 h.2)), Int.ediv_eq_zero_of_lt h.1 h.2, Int.zero_add]
theorem rc (a m : Int) : a / m * m + a % m = a := by rw [Int.mul_comm]; exact Int.mul_ediv_add_emod a m
theorem em {r m : Int} (h : 0 ≤ r ∧ r < m) : r % m = r := Int.emod_eq_of_lt h.1 h.2
theorem or_add {x y : Int} (k : Nat) (hx : 0 ≤ x) (hy : 0 ≤ y ∧ y < 2 ^ k) : Builtin.bitOr (x * 2 ^ k) y = x * 2 ^ k + y := by
 have hp : (0 : Int) < 2 ^ k := Int.pow_pos (by decide)
 rw [bitOr_pp (Int.mul_nonneg hx (Int.le_of_lt hp)) hy.1]
 have e : ((2 : Int) ^ k) = ((2 ^ k : Nat) : Int) := by norm_cast
 obtain ⟨a, rfl⟩ := Int.eq_ofNat_of_zero_le hx
 obtain ⟨b, rfl⟩ := Int.eq_ofNat_of_zero_le hy.1
 have hb : b < 2 ^ k := by have := hy.2; rw [e] at this; exact_mod_cast this
 have h1 : ((a : Int) * 2 ^ k).toNat = 2 ^ k * a := by
  rw [e, Nat.mul_comm]; norm_cast
 rw [h1, Int.toNat_natCast, ← Nat.two_pow_add_eq_or_of_lt hb, e]
 push_cast
 rw [Int.mul_comm]
theorem or_comm' {x y : Int} (hx : 0 ≤ x) (hy : 0 ≤ y) : Builtin.bitOr x y = Builtin.bitOr y x := by rw [bitOr_pp hx hy, bitOr_pp hy hx, Nat.or_comm]
theorem or2 {x y : Int} (hx : 0 ≤ x) (hy : 0 ≤ y ∧ y < 4) : Builtin.bitOr (x * 2 ^ Int.toNat 2) y = x * 4 + y := or_add 2 hx hy
theorem or4 {x y : Int} (hx : 0 ≤ x) (hy : 0 ≤ y ∧ y < 16) : Builtin.bitOr (x * 2 ^ Int.toNat 4) y = x * 16 + y := or_add 4 hx hy
theorem or6 {x y : Int} (hx : 0 ≤ x) (hy : 0 ≤ y ∧ y < 64) : Builtin.bitOr (x * 2 ^ Int.toNat 6) y = x * 64 + y := or_add 6 hx hy
theorem or2' {x y : Int} (hx : 0 ≤ x) (hy : 0 ≤ y ∧ y < 4) : Builtin.bitOr y (x * 2 ^ Int.toNat 2) = x * 4 + y := (or_comm' hy.1 (Int.mul_nonneg hx (by decide))).trans (or2 hx hy)
theorem or4' {x y : Int} (hx : 0 ≤ x) (hy : 0 ≤ y ∧ y < 16) : Builtin.bitOr y (x * 2 ^ Int.toNat 4) = x * 16 + y := (or_comm' hy.1 (Int.mul_nonneg hx (by decide))).trans (or4 hx hy)
theorem or6' {x y : Int} (hx : 0 ≤ x) (hy : 0 ≤ y ∧ y < 64) : Builtin.bitOr y (x * 2 ^ Int.toNat 6) = x * 64 + y := (or_comm' hy.1 (Int.mul_nonneg hx (by decide))).trans (or6 hx hy)
theorem fd2 (a : Int) : a.fdiv (2 ^ Int.toNat 2) = a / 4 := Int.fdiv_eq_ediv_of_nonneg _ (by decide)
theorem fd4 (a : Int) : a.fdiv (2 ^ Int.toNat 4) = a / 16 := Int.fdiv_eq_ediv_of_nonneg _ (by decide)
theorem fd6 (a : Int) : a.fdiv (2 ^ Int.toNat 6) = a / 64 := Int.fdiv_eq_ediv_of_nonneg _ (by decide)
theorem mul2 (a : Int) : a * 2 ^ Int.toNat 2 = a * 4 := rfl
theorem mul4 (a : Int) : a * 2 ^ Int.toNat 4 = a * 16 := rfl
noncomputable def Oct (l : List Int) : Prop := ∀ x ∈ l, 0 ≤ x ∧ x < 256
theorem Oct.tail {a : Int} {l : List Int} (h : Oct (a :: l)) : Oct l := fun x hx => h x (List.mem_cons_of_mem _ hx)
theorem Oct.head {a : Int} {l : List Int} (h : Oct (a :: l)) : 0 ≤ a ∧ a < 256 := h a (List.mem_cons_self ..)
section
variable {a b c : Int} (ha : 0 ≤ a ∧ a < 256) (hb : 0 ≤ b ∧ b < 256) (hc : 0 ≤ c ∧ c < 256)
include ha in
theorem encL1 : encL [a] = [a % 64, a / 64] := by simp only [encL, bitAnd_m6, fd6]
include ha hb in
theorem encL2 : encL [a, b] = [a % 64, b % 16 * 4 + a / 64, b / 16] := by
 simp only [encL, bitAnd_m6, bitAnd_m4, fd6, fd4]
 rw [or2 (rb _ (by decide)).1 (b64 ha)]
include ha hb hc in
theorem encL3 (r : List Int) : encL (a :: b :: c :: r) = a % 64 :: (b % 16 * 4 + a / 64) :: (c % 4 * 16 + b / 16) :: c / 4 :: encL r := by
 simp only [encL, bitAnd_m6, bitAnd_m4, bitAnd_m2, fd6, fd4, fd2]
 rw [or2 (rb _ (by decide)).1 (b64 ha), or4 (rb _ (by decide)).1 (b16 hb)]
include ha in
theorem encB1 : encB [a] = [a / 4, a % 4 * 16] := by simp only [encB, bitAnd_m2, fd2, mul4]
include ha hb in
theorem encB2 : encB [a, b] = [a / 4, a % 4 * 16 + b / 16, b % 16 * 4] := by
 simp only [encB, bitAnd_m2, bitAnd_m4, fd4, fd2]
 rw [or4 (rb _ (by decide)).1 (b16 hb), mul2]
include ha hb hc in
theorem encB3 (r : List Int) : encB (a :: b :: c :: r) = a / 4 :: (a % 4 * 16 + b / 16) :: (b % 16 * 4 + c / 64) :: c % 64 :: encB r := by
 simp only [encB, bitAnd_m6, bitAnd_m4, bitAnd_m2, fd6, fd4, fd2]
 rw [or4 (rb _ (by decide)).1 (b16 hb), or2 (rb _ (by decide)).1 (b64 hc)]
end
theorem cons_eq {a b : Int} {l r : List Int} (h : a = b) (k : l = r) : a :: l = b :: r := by rw [h, k]
noncomputable abbrev In (n : Int) (l : List Int) : Prop := ∀ x ∈ l, 0 ≤ x ∧ x < n
theorem in_cons {n a : Int} {l : List Int} (h : 0 ≤ a ∧ a < n) (k : In n l) : In n (a :: l) := List.forall_mem_cons.mpr ⟨h, k⟩
theorem in_nil {n : Int} : In n [] := fun _ h => nomatch h
theorem encL_in : ∀ {ks : List Int}, Oct ks → In 64 (encL ks)
 | [], _ => in_nil
 | [a], h => by rw [encL1 h.head]; exact in_cons (rb a (by decide)) (in_cons (lt64 (b64 h.head) (by decide)) in_nil)
 | [a, b], h => by rw [encL2 h.head h.tail.head]; exact in_cons (rb a (by decide)) (in_cons (x4 (rb b (by decide)) (b64 h.head)) (in_cons (lt64 (b16 h.tail.head) (by decide)) in_nil))
 | a :: b :: c :: r, h => by
  have ha := h.head
  have hb := h.tail.head
  have hc := h.tail.tail.head
  rw [encL3 ha hb hc]
  exact in_cons (rb a (by decide)) (in_cons (x4 (rb b (by decide)) (b64 ha)) (in_cons (x16 (rb c (by decide)) (b16 hb)) (in_cons (b4 hc) (encL_in h.tail.tail.tail))))
theorem encB_in : ∀ {ks : List Int}, Oct ks → In 64 (encB ks)
 | [], _ => in_nil
 | [a], h => by rw [encB1 h.head]; exact in_cons (b4 h.head) (in_cons (z16 (rb a (by decide))) in_nil)
 | [a, b], h => by rw [encB2 h.head h.tail.head]; exact in_cons (b4 h.head) (in_cons (x16 (rb a (by decide)) (b16 h.tail.head)) (in_cons (z4 (rb b (by decide))) in_nil))
 | a :: b :: c :: r, h => by
  have ha := h.head
  have hb := h.tail.head
  have hc := h.tail.tail.head
  rw [encB3 ha hb hc]
  exact in_cons (b4 ha) (in_cons (x16 (rb a (by decide)) (b16 hb)) (in_cons (x4 (rb b (by decide)) (b64 hc)) (in_cons (rb c (by decide)) (encB_in h.tail.tail.tail))))
theorem encL_len : ∀ ks : List Int, (encL ks).length ≤ 2 * ks.length
 | a :: b :: c :: r => by have := encL_len r; simp only [encL, List.length_cons]; omega
 | [a, b] => by simp [encL]
 | [a] => by simp [encL]
 | [] => by simp [encL]
theorem encB_len : ∀ ks : List Int, (encB ks).length ≤ 2 * ks.length
 | a :: b :: c :: r => by have := encB_len r; simp only [encB, List.length_cons]; omega
 | [a, b] => by simp [encB]
 | [a] => by simp [encB]
 | [] => by simp [encB]
end
noncomputable def decL : List Int → List Int
 | a :: b :: c :: d :: r => Builtin.bitOr a (Builtin.bitAnd b 3 * 2 ^ Int.toNat 6) :: Builtin.bitOr (b.fdiv (2 ^ Int.toNat 2)) (Builtin.bitAnd c 15 * 2 ^ Int.toNat 4) :: Builtin.bitOr (c.fdiv (2 ^ Int.toNat 4)) (d * 2 ^ Int.toNat 2) :: decL r
 | [a, b, c] => [Builtin.bitOr a (Builtin.bitAnd b 3 * 2 ^ Int.toNat 6), Builtin.bitOr (b.fdiv (2 ^ Int.toNat 2)) (Builtin.bitAnd c 15 * 2 ^ Int.toNat 4)]
 | [a, b] => [Builtin.bitOr a (Builtin.bitAnd b 3 * 2 ^ Int.toNat 6)]
 | [_] => []
 | [] => []
theorem segDL {w : World} {mg mb : Str → Option Value} {A : Around} {s : Shared} {g : Heap} {Lg : Addr} (G : Gd w mg mb g)
  (hd : A.depth + 4 < recursionLimit) (hu : A.units + 18 < cLine) (hh : A.handled = none) (e lk : Addr) (bm : Array UInt8) (big : Bool) (he : Eng g e bm big lk) (ms : List Int) (hl : ms.length = 64) (XK : Lkup w g lk ms) {f c' cs cv lv : Addr} {doc pm ctv : Value} {oc ocs : Obj} (hds : ocs.data = .cell (some (.ref e))) (hdc : oc.data = .cell (some (.ref lv))) {n : Nat} {vs : List Value} {ks : List Int} (hi : IntsAre vs ks) (hb : ∀ k ∈ ks, k ∈ ms) (hlen : ks.length ≤ 900)
  {Nn : Nat} {ot led : List (Addr × Obj)} {tc tt : Tok} (ch tl : Int) (hch : 4 * ch + tl = ks.length) (htl : tl = 0 ∨ tl = 2 ∨ tl = 3)
  (F : Fr g Lg s.heap (fun y => if y = "tail" then some (.int tl tt) else if y = "chunks" then some (.int ch tc) else if y = "next_value" then some (.ref f) else if y = "self" then some (.ref e) else none))
  (N : News g Lg s.heap ((f, fnMade "next_value" mkDb.qual nvArgs nvBodyD nvScopeD [("values", cv), ("self", cs)] doc pm c' ctv) :: (cs, ocs) :: (cv, oc) :: (lv, W.listOf vs.toArray n) :: (led ++ ot))) (XO : Oth g Lg lv s.heap ot)
  (CL : CodeL g led c' mkDb.qual) (hne1 : f ≠ lv) (hne0 : cs ≠ lv) (hne2 : cv ≠ lv) (hled : ∀ p ∈ led, p.1 ≠ lv) (hN : Lg < Nn ∧ f < Nn ∧ cs < Nn ∧ cv < Nn ∧ lv < Nn ∧ ∀ p ∈ led, p.1 < Nn) :
  Seg (Md w) A (GR [Lg, lv]) (GY Nn [Lg, lv] (decL (ks.map fun k => (ms.idxOf k : Int)))) (decL (ks.map fun k => (ms.idxOf k : Int))).length s (genCode w.params 119 Lg) ((Md w).den (genCode w.params 119 Lg)) [] s := by
 have KX := G.K
 have T := G.T
 generalize hgc : genCode w.params 119 Lg = gc
 unfold genCode at hgc
 revert KX
 have hw : model rw_iw0008_01.prog w = Md w := rfl
 revert hw
 k_fill
 intro hw KX
 rw [show (K0 w.params).lookup 119 = some _ from by k_is] at hgc
 dsimp only at hgc
 subst hgc
 have C : CodeHd g 111 107 := ⟨_, _, _, _, _, _, _, _, _, KX _ _ (by k_is), rfl, rfl, rfl, rfl, rfl, rfl, rfl, rfl, by decide⟩
 have hlg : g.get? lv = none := (N _ (.tail _ (.tail _ (.tail _ (.head _))))).2.2
 have hlL : lv ≠ Lg := (N _ (.tail _ (.tail _ (.tail _ (.head _))))).2.1
 have X0 : DX w mg mb g Lg e lk f c' cs cv lv bm big ms oc ocs led := ⟨G, he, XK, hds, hdc, CL, hne1, hne0, hne2, hlg, hlL⟩
 refine seg_func ?_
 refine seg_st (over_func A _ _) ?_
 k_steps
 rename Fr _ _ _ _ => F1
 rename News _ _ _ _ => N1
 refine Stop.mk ?_
 refine seg_wh ?_
 intro fr hfs hfg hovl hdone
 refine seg_loop (ID g Lg e f c' cs cv lv doc pm ctv oc ocs led ms decL ks ch tl tc tt) ?_ ch.toNat _ _ _ ?_
 ·rintro k n' s₀ s' ⟨ks', pre, vs', lc, uv1, uv2, uv3, uv4, j, tj, h', tk', ot', hi', hb', hk', hl', hpre, rfl, hj, rfl, F2, N2, XO⟩ ih
  clear F1 N1
  have hrest : ∀ p ∈ led ++ ot', p.1 ≠ lv := fun p hp => (List.mem_append.mp hp).elim (hled p) (XO.ne p)
  refine seg_whileLoop ?_
  rw [hovl]
  have hvl : vs'.length ≤ 1000 := by rw [hi'.length]; exact Nat.le_trans hl' (by decide)
  k_steps
  ·rename j < ch => hjc
   obtain ⟨k, rfl⟩ : ∃ k', k = k' + 1 := gk hj hjc
   obtain ⟨a, b, c, d, r, rfl⟩ := four_of' hk'
   have ha := idx_byte hl a
   have hb2 := idx_byte hl b
   have hc := idx_byte hl c
   have hd2 := idx_byte hl d
   have hp1 := app1 hpre
   have hp2 := app1 hp1
   have hp3 := app1 hp2
   refine Stop.mk ?_
   rename Fr _ _ _ _ => F4
   rename News _ _ _ _ => N4
   refine seg_st (hovl _ _ _) (rdD X0 (by exact rm (b := 3) hd) (by exact rm (b := 14) hu) (by exact hh) F4 N4 hrest hi' hvl (hb' _ (by simp)) ?_)
   clear F4 N4 hvl
   intro t1 vs1 h1 k1 hi1 hvl F4 N4
   rename Fr _ _ _ _ => F4
   rename News _ _ _ _ => N4
   refine seg_st (hovl _ _ _) (rdD X0 (by exact rm (b := 3) hd) (by exact rm (b := 14) hu) (by exact hh) F4 N4 hrest hi1 hvl (hb' _ (by simp)) ?_)
   clear F4 N4 hvl
   intro t2 vs2 h2 k2 hi2 hvl F4 N4
   rename Fr _ _ _ _ => F4
   rename News _ _ _ _ => N4
   refine seg_st (hovl _ _ _) (rdD X0 (by exact rm (b := 3) hd) (by exact rm (b := 14) hu) (by exact hh) F4 N4 hrest hi2 hvl (hb' _ (by simp)) ?_)
   clear F4 N4 hvl
   intro t3 vs3 h3 k3 hi3 hvl F4 N4
   rename Fr _ _ _ _ => F4
   rename News _ _ _ _ => N4
   refine seg_st (hovl _ _ _) (rdD X0 (by exact rm (b := 3) hd) (by exact rm (b := 14) hu) (by exact hh) F4 N4 hrest hi3 hvl (hb' _ (by simp)) ?_)
   clear F4 N4 hvl
   intro t4 vs4 h4 k4 hi4 hvl F4 N4
   show Seg _ _ _ _ ((decL (r.map fun k => (ms.idxOf k : Int))).length + 1 + 1 + 1) _ _ _ _ _
   refine seg_yd (hovl _ _ _) hfs hfg ?_ (by rfl) (by rfl)
   k_steps
   rename Fr _ _ _ _ => F4
   rename News _ _ _ _ => N4
   refine Stop.mk ⟨⟨_, congrArg (fun z => Value.int z _) (val_at hpre).symm⟩, XO.gkeep (kn := _ :: _ :: _ :: _ :: led) F4 N4, ?_⟩
   intro s1 hag
   obtain ⟨F5, ot1, N5, XO⟩ := resume_facts (lv := lv) (kn := _ :: _ :: _ :: _ :: led) F4 N4 hag hN.1 (kn_lt4 hN.2.1 hN.2.2.1 hN.2.2.2.1 hN.2.2.2.2.1 hN.2.2.2.2.2)
   have N5 : News g Lg _ (_ :: _ :: _ :: _ :: (led ++ ot1)) := N5
   have hrest : ∀ p ∈ led ++ ot1, p.1 ≠ lv := fun p hp => (List.mem_append.mp hp).elim (hled p) (XO.ne p)
   clear F4 N4 hag
   refine seg_yd (hovl _ _ _) hfs hfg ?_ (by rfl) (by rfl)
   k_steps
   rename Fr _ _ _ _ => F4
   rename News _ _ _ _ => N4
   refine Stop.mk ⟨⟨_, congrArg (fun z => Value.int z _) (val_at hp1).symm⟩, XO.gkeep (kn := _ :: _ :: _ :: _ :: led) F4 N4, ?_⟩
   intro s2 hag
   obtain ⟨F5, ot2, N5, XO⟩ := resume_facts (lv := lv) (kn := _ :: _ :: _ :: _ :: led) F4 N4 hag hN.1 (kn_lt4 hN.2.1 hN.2.2.1 hN.2.2.2.1 hN.2.2.2.2.1 hN.2.2.2.2.2)
   have N5 : News g Lg _ (_ :: _ :: _ :: _ :: (led ++ ot2)) := N5
   have hrest : ∀ p ∈ led ++ ot2, p.1 ≠ lv := fun p hp => (List.mem_append.mp hp).elim (hled p) (XO.ne p)
   clear F4 N4 hag
   refine seg_yd (hovl _ _ _) hfs hfg ?_ (by rfl) (by rfl)
   k_steps
   rename Fr _ _ _ _ => F4
   rename News _ _ _ _ => N4
   refine Stop.mk ⟨⟨_, congrArg (fun z => Value.int z _) (val_at hp2).symm⟩, XO.gkeep (kn := _ :: _ :: _ :: _ :: led) F4 N4, ?_⟩
   intro s3 hag
   obtain ⟨F5, ot3, N5, XO⟩ := resume_facts (lv := lv) (kn := _ :: _ :: _ :: _ :: led) F4 N4 hag hN.1 (kn_lt4 hN.2.1 hN.2.2.1 hN.2.2.2.1 hN.2.2.2.2.1 hN.2.2.2.2.2)
   have N5 : News g Lg _ (_ :: _ :: _ :: _ :: (led ++ ot3)) := N5
   have hrest : ∀ p ∈ led ++ ot3, p.1 ≠ lv := fun p hp => (List.mem_append.mp hp).elim (hled p) (XO.ne p)
   clear F4 N4 hag
   refine seg_st (hovl _ _ _) ?_
   k_steps
   rename Fr _ _ _ _ => F4
   rename News _ _ _ _ => N4
   refine Stop.mk ?_
   refine seg_execs_nil ?_
   refine seg_again rfl ?_
   exact ih k _ _ _ (Nat.lt_succ_self k) ⟨r, _, vs4, _, _, _, _, _, j + 1, _, _, _, _, hi4, fun x hx => hb' x (by simp [hx]), g4 hk', Nat.le_trans (Nat.le_add_right _ 4) hl', hp3, rfl, gj hj, rfl, fr_to F4 (sm ["idx", "v4", "v3", "v2", "v1"]), N4, XO⟩
  ·rename ¬ j < ch => hjc
   have hk0 : k = 0 := gk0 hj hjc
   subst hk0
   refine Stop.mk ?_
   refine seg_execs_nil ?_
   refine hdone _ _ _ ?_
   refine seg_if (over_func A _ _) ?_
   k_steps
   ·rcases htl.resolve_left (by assumption) with ht | ht
    ·subst ht
     obtain ⟨a, b, rfl⟩ := two_of4 hk'
     have ha := idx_byte hl a
     have hb2 := idx_byte hl b
     have hp1 := app1 hpre
     refine Stop.mk ?_
     rename Fr _ _ _ _ => F4
     rename News _ _ _ _ => N4
     refine seg_st (over_func A _ _) (rdD X0 (by exact rm (b := 3) hd) (by exact rm (b := 14) hu) (by exact hh) F4 N4 hrest hi' hvl (hb' _ (by simp)) ?_)
     clear F4 N4 hvl
     intro t1 vs1 h1 k1 hi1 hvl F4 N4
     rename Fr _ _ _ _ => F4
     rename News _ _ _ _ => N4
     refine seg_st (over_func A _ _) (rdD X0 (by exact rm (b := 3) hd) (by exact rm (b := 14) hu) (by exact hh) F4 N4 hrest hi1 hvl (hb' _ (by simp)) ?_)
     clear F4 N4 hvl
     intro t2 vs2 h2 k2 hi2 hvl F4 N4
     show Seg _ _ _ _ (0 + 1) _ _ _ _ _
     refine seg_yd (over_func A _ _) rfl rfl ?_ (by rfl) (by rfl)
     k_steps
     rename Fr _ _ _ _ => F4
     rename News _ _ _ _ => N4
     refine Stop.mk ⟨⟨_, congrArg (fun z => Value.int z _) (val_at hpre).symm⟩, XO.gkeep (kn := _ :: _ :: _ :: _ :: led) F4 N4, ?_⟩
     intro s1 hag
     obtain ⟨F5, ot1, N5, XO⟩ := resume_facts (lv := lv) (kn := _ :: _ :: _ :: _ :: led) F4 N4 hag hN.1 (kn_lt4 hN.2.1 hN.2.2.1 hN.2.2.2.1 hN.2.2.2.2.1 hN.2.2.2.2.2)
     have N5 : News g Lg _ (_ :: _ :: _ :: _ :: (led ++ ot1)) := N5
     have hrest : ∀ p ∈ led ++ ot1, p.1 ≠ lv := fun p hp => (List.mem_append.mp hp).elim (hled p) (XO.ne p)
     clear F4 N4 hag
     refine seg_if (over_func A _ _) ?_
     k_steps
     refine Stop.mk ?_
     rename Fr _ _ _ _ => F4
     rename News _ _ _ _ => N4
     refine seg_execs_nil (seg_execs_nil (seg_execs_nil ?_))
     exact seg_end (.ok (.ret .none)) ⟨rfl, rfl, XO.gkeep (kn := _ :: _ :: _ :: _ :: led) F4 N4⟩
    ·subst ht
     obtain ⟨a, b, c, rfl⟩ := three_of4 hk'
     have ha := idx_byte hl a
     have hb2 := idx_byte hl b
     have hc := idx_byte hl c
     have hp1 := app1 hpre
     have hp2 := app1 hp1
     refine Stop.mk ?_
     rename Fr _ _ _ _ => F4
     rename News _ _ _ _ => N4
     refine seg_st (over_func A _ _) (rdD X0 (by exact rm (b := 3) hd) (by exact rm (b := 14) hu) (by exact hh) F4 N4 hrest hi' hvl (hb' _ (by simp)) ?_)
     clear F4 N4 hvl
     intro t1 vs1 h1 k1 hi1 hvl F4 N4
     rename Fr _ _ _ _ => F4
     rename News _ _ _ _ => N4
     refine seg_st (over_func A _ _) (rdD X0 (by exact rm (b := 3) hd) (by exact rm (b := 14) hu) (by exact hh) F4 N4 hrest hi1 hvl (hb' _ (by simp)) ?_)
     clear F4 N4 hvl
     intro t2 vs2 h2 k2 hi2 hvl F4 N4
     show Seg _ _ _ _ (0 + 1 + 1) _ _ _ _ _
     refine seg_yd (over_func A _ _) rfl rfl ?_ (by rfl) (by rfl)
     k_steps
     rename Fr _ _ _ _ => F4
     rename News _ _ _ _ => N4
     refine Stop.mk ⟨⟨_, congrArg (fun z => Value.int z _) (val_at hpre).symm⟩, XO.gkeep (kn := _ :: _ :: _ :: _ :: led) F4 N4, ?_⟩
     intro s1 hag
     obtain ⟨F5, ot1, N5, XO⟩ := resume_facts (lv := lv) (kn := _ :: _ :: _ :: _ :: led) F4 N4 hag hN.1 (kn_lt4 hN.2.1 hN.2.2.1 hN.2.2.2.1 hN.2.2.2.2.1 hN.2.2.2.2.2)
     have N5 : News g Lg _ (_ :: _ :: _ :: _ :: (led ++ ot1)) := N5
     have hrest : ∀ p ∈ led ++ ot1, p.1 ≠ lv := fun p hp => (List.mem_append.mp hp).elim (hled p) (XO.ne p)
     clear F4 N4 hag
     refine seg_if (over_func A _ _) ?_
     k_steps
     refine Stop.mk ?_
     rename Fr _ _ _ _ => F4
     rename News _ _ _ _ => N4
     refine seg_st (over_func A _ _) (rdD X0 (by exact rm (b := 3) hd) (by exact rm (b := 14) hu) (by exact hh) F4 N4 hrest hi2 hvl (hb' _ (by simp)) ?_)
     clear F4 N4 hvl
     intro t3 vs3 h3 k3 hi3 hvl F4 N4
     refine seg_yd (over_func A _ _) rfl rfl ?_ (by rfl) (by rfl)
     k_steps
     rename Fr _ _ _ _ => F4
     rename News _ _ _ _ => N4
     refine Stop.mk ⟨⟨_, congrArg (fun z => Value.int z _) (val_at hp1).symm⟩, XO.gkeep (kn := _ :: _ :: _ :: _ :: led) F4 N4, ?_⟩
     intro s2 hag
     obtain ⟨F5, ot2, N5, XO⟩ := resume_facts (lv := lv) (kn := _ :: _ :: _ :: _ :: led) F4 N4 hag hN.1 (kn_lt4 hN.2.1 hN.2.2.1 hN.2.2.2.1 hN.2.2.2.2.1 hN.2.2.2.2.2)
     have N5 : News g Lg _ (_ :: _ :: _ :: _ :: (led ++ ot2)) := N5
     have hrest : ∀ p ∈ led ++ ot2, p.1 ≠ lv := fun p hp => (List.mem_append.mp hp).elim (hled p) (XO.ne p)
     clear F4 N4 hag
     refine seg_execs_nil (seg_execs_nil (seg_execs_nil ?_))
     exact seg_end (.ok (.ret .none)) ⟨rfl, rfl, ⟨_, _, rfl, fun _ _ _ e => e⟩⟩
   ·rename tl = 0 => ht
    subst ht
    obtain rfl := zero_of hk'
    rename Fr _ _ _ _ => F4
    rename News _ _ _ _ => N4
    refine Stop.mk ?_
    refine seg_execs_nil (seg_execs_nil ?_)
    exact seg_end (.ok (.ret .none)) ⟨rfl, rfl, XO.gkeep (kn := _ :: _ :: _ :: _ :: led) F4 N4⟩
 ·exact ⟨ks, [], vs, n, none, none, none, none, 0, _, _, _, ot, hi, hb, (gl4 hch htl).1, hlen, rfl, rfl, (gl4 hch htl).2, rfl, fr_to F1 (sm ["idx", "v4", "v3", "v2", "v1"]), N1, XO⟩
noncomputable def decB : List Int → List Int
 | a :: b :: c :: d :: r => Builtin.bitOr (a * 2 ^ Int.toNat 2) (b.fdiv (2 ^ Int.toNat 4)) :: Builtin.bitOr (Builtin.bitAnd b 15 * 2 ^ Int.toNat 4) (c.fdiv (2 ^ Int.toNat 2)) :: Builtin.bitOr (Builtin.bitAnd c 3 * 2 ^ Int.toNat 6) d :: decB r
 | [a, b, c] => [Builtin.bitOr (a * 2 ^ Int.toNat 2) (b.fdiv (2 ^ Int.toNat 4)), Builtin.bitOr (Builtin.bitAnd b 15 * 2 ^ Int.toNat 4) (c.fdiv (2 ^ Int.toNat 2))]
 | [a, b] => [Builtin.bitOr (a * 2 ^ Int.toNat 2) (b.fdiv (2 ^ Int.toNat 4))]
 | [_] => []
 | [] => []
theorem segDB {w : World} {mg mb : Str → Option Value} {A : Around} {s : Shared} {g : Heap} {Lg : Addr} (G : Gd w mg mb g)
  (hd : A.depth + 4 < recursionLimit) (hu : A.units + 18 < cLine) (hh : A.handled = none) (e lk : Addr) (bm : Array UInt8) (big : Bool) (he : Eng g e bm big lk) (ms : List Int) (hl : ms.length = 64) (XK : Lkup w g lk ms) {f c' cs cv lv : Addr} {doc pm ctv : Value} {oc ocs : Obj} (hds : ocs.data = .cell (some (.ref e))) (hdc : oc.data = .cell (some (.ref lv))) {n : Nat} {vs : List Value} {ks : List Int} (hi : IntsAre vs ks) (hb : ∀ k ∈ ks, k ∈ ms) (hlen : ks.length ≤ 900)
  {Nn : Nat} {ot led : List (Addr × Obj)} {tc tt : Tok} (ch tl : Int) (hch : 4 * ch + tl = ks.length) (htl : tl = 0 ∨ tl = 2 ∨ tl = 3)
  (F : Fr g Lg s.heap (fun y => if y = "tail" then some (.int tl tt) else if y = "chunks" then some (.int ch tc) else if y = "next_value" then some (.ref f) else if y = "self" then some (.ref e) else none))
  (N : News g Lg s.heap ((f, fnMade "next_value" mkDb.qual nvArgs nvBodyD nvScopeD [("values", cv), ("self", cs)] doc pm c' ctv) :: (cs, ocs) :: (cv, oc) :: (lv, W.listOf vs.toArray n) :: (led ++ ot))) (XO : Oth g Lg lv s.heap ot)
  (CL : CodeL g led c' mkDb.qual) (hne1 : f ≠ lv) (hne0 : cs ≠ lv) (hne2 : cv ≠ lv) (hled : ∀ p ∈ led, p.1 ≠ lv) (hN : Lg < Nn ∧ f < Nn ∧ cs < Nn ∧ cv < Nn ∧ lv < Nn ∧ ∀ p ∈ led, p.1 < Nn) :
  Seg (Md w) A (GR [Lg, lv]) (GY Nn [Lg, lv] (decB (ks.map fun k => (ms.idxOf k : Int)))) (decB (ks.map fun k => (ms.idxOf k : Int))).length s (genCode w.params 126 Lg) ((Md w).den (genCode w.params 126 Lg)) [] s := by
 have KX := G.K
 have T := G.T
 generalize hgc : genCode w.params 126 Lg = gc
 unfold genCode at hgc
 revert KX
 have hw : model rw_iw0008_01.prog w = Md w := rfl
 revert hw
 k_fill
 intro hw KX
 rw [show (K0 w.params).lookup 126 = some _ from by k_is] at hgc
 dsimp only at hgc
 subst hgc
 have C : CodeHd g 111 107 := ⟨_, _, _, _, _, _, _, _, _, KX _ _ (by k_is), rfl, rfl, rfl, rfl, rfl, rfl, rfl, rfl, by decide⟩
 have hlg : g.get? lv = none := (N _ (.tail _ (.tail _ (.tail _ (.head _))))).2.2
 have hlL : lv ≠ Lg := (N _ (.tail _ (.tail _ (.tail _ (.head _))))).2.1
 have X0 : DX w mg mb g Lg e lk f c' cs cv lv bm big ms oc ocs led := ⟨G, he, XK, hds, hdc, CL, hne1, hne0, hne2, hlg, hlL⟩
 refine seg_func ?_
 refine seg_st (over_func A _ _) ?_
 k_steps
 rename Fr _ _ _ _ => F1
 rename News _ _ _ _ => N1
 refine Stop.mk ?_
 refine seg_wh ?_
 intro fr hfs hfg hovl hdone
 refine seg_loop (ID g Lg e f c' cs cv lv doc pm ctv oc ocs led ms decB ks ch tl tc tt) ?_ ch.toNat _ _ _ ?_
 ·rintro k n' s₀ s' ⟨ks', pre, vs', lc, uv1, uv2, uv3, uv4, j, tj, h', tk', ot', hi', hb', hk', hl', hpre, rfl, hj, rfl, F2, N2, XO⟩ ih
  clear F1 N1
  have hrest : ∀ p ∈ led ++ ot', p.1 ≠ lv := fun p hp => (List.mem_append.mp hp).elim (hled p) (XO.ne p)
  refine seg_whileLoop ?_
  rw [hovl]
  have hvl : vs'.length ≤ 1000 := by rw [hi'.length]; exact Nat.le_trans hl' (by decide)
  k_steps
  ·rename j < ch => hjc
   obtain ⟨k, rfl⟩ : ∃ k', k = k' + 1 := gk hj hjc
   obtain ⟨a, b, c, d, r, rfl⟩ := four_of' hk'
   have ha := idx_byte hl a
   have hb2 := idx_byte hl b
   have hc := idx_byte hl c
   have hd2 := idx_byte hl d
   have hp1 := app1 hpre
   have hp2 := app1 hp1
   have hp3 := app1 hp2
   refine Stop.mk ?_
   rename Fr _ _ _ _ => F4
   rename News _ _ _ _ => N4
   refine seg_st (hovl _ _ _) (rdD X0 (by exact rm (b := 3) hd) (by exact rm (b := 14) hu) (by exact hh) F4 N4 hrest hi' hvl (hb' _ (by simp)) ?_)
   clear F4 N4 hvl
   intro t1 vs1 h1 k1 hi1 hvl F4 N4
   rename Fr _ _ _ _ => F4
   rename News _ _ _ _ => N4
   refine seg_st (hovl _ _ _) (rdD X0 (by exact rm (b := 3) hd) (by exact rm (b := 14) hu) (by exact hh) F4 N4 hrest hi1 hvl (hb' _ (by simp)) ?_)
   clear F4 N4 hvl
   intro t2 vs2 h2 k2 hi2 hvl F4 N4
   rename Fr _ _ _ _ => F4
   rename News _ _ _ _ => N4
   refine seg_st (hovl _ _ _) (rdD X0 (by exact rm (b := 3) hd) (by exact rm (b := 14) hu) (by exact hh) F4 N4 hrest hi2 hvl (hb' _ (by simp)) ?_)
   clear F4 N4 hvl
   intro t3 vs3 h3 k3 hi3 hvl F4 N4
   rename Fr _ _ _ _ => F4
   rename News _ _ _ _ => N4
   refine seg_st (hovl _ _ _) (rdD X0 (by exact rm (b := 3) hd) (by exact rm (b := 14) hu) (by exact hh) F4 N4 hrest hi3 hvl (hb' _ (by simp)) ?_)
   clear F4 N4 hvl
   intro t4 vs4 h4 k4 hi4 hvl F4 N4
   show Seg _ _ _ _ ((decB (r.map fun k => (ms.idxOf k : Int))).length + 1 + 1 + 1) _ _ _ _ _
   refine seg_yd (hovl _ _ _) hfs hfg ?_ (by rfl) (by rfl)
   k_steps
   rename Fr _ _ _ _ => F4
   rename News _ _ _ _ => N4
   refine Stop.mk ⟨⟨_, congrArg (fun z => Value.int z _) (val_at hpre).symm⟩, XO.gkeep (kn := _ :: _ :: _ :: _ :: led) F4 N4, ?_⟩
   intro s1 hag
   obtain ⟨F5, ot1, N5, XO⟩ := resume_facts (lv := lv) (kn := _ :: _ :: _ :: _ :: led) F4 N4 hag hN.1 (kn_lt4 hN.2.1 hN.2.2.1 hN.2.2.2.1 hN.2.2.2.2.1 hN.2.2.2.2.2)
   have N5 : News g Lg _ (_ :: _ :: _ :: _ :: (led ++ ot1)) := N5
   have hrest : ∀ p ∈ led ++ ot1, p.1 ≠ lv := fun p hp => (List.mem_append.mp hp).elim (hled p) (XO.ne p)
   clear F4 N4 hag
   refine seg_yd (hovl _ _ _) hfs hfg ?_ (by rfl) (by rfl)
   k_steps
   rename Fr _ _ _ _ => F4
   rename News _ _ _ _ => N4
   refine Stop.mk ⟨⟨_, congrArg (fun z => Value.int z _) (val_at hp1).symm⟩, XO.gkeep (kn := _ :: _ :: _ :: _ :: led) F4 N4, ?_⟩
   intro s2 hag
   obtain ⟨F5, ot2, N5, XO⟩ := resume_facts (lv := lv) (kn := _ :: _ :: _ :: _ :: led) F4 N4 hag hN.1 (kn_lt4 hN.2.1 hN.2.2.1 hN.2.2.2.1 hN.2.2.2.2.1 hN.2.2.2.2.2)
   have N5 : News g Lg _ (_ :: _ :: _ :: _ :: (led ++ ot2)) := N5
   have hrest : ∀ p ∈ led ++ ot2, p.1 ≠ lv := fun p hp => (List.mem_append.mp hp).elim (hled p) (XO.ne p)
   clear F4 N4 hag
   refine seg_yd (hovl _ _ _) hfs hfg ?_ (by rfl) (by rfl)
   k_steps
   rename Fr _ _ _ _ => F4
   rename News _ _ _ _ => N4
   refine Stop.mk ⟨⟨_, congrArg (fun z => Value.int z _) (val_at hp2).symm⟩, XO.gkeep (kn := _ :: _ :: _ :: _ :: led) F4 N4, ?_⟩
   intro s3 hag
   obtain ⟨F5, ot3, N5, XO⟩ := resume_facts (lv := lv) (kn := _ :: _ :: _ :: _ :: led) F4 N4 hag hN.1 (kn_lt4 hN.2.1 hN.2.2.1 hN.2.2.2.1 hN.2.2.2.2.1 hN.2.2.2.2.2)
   have N5 : News g Lg _ (_ :: _ :: _ :: _ :: (led ++ ot3)) := N5
   have hrest : ∀ p ∈ led ++ ot3, p.1 ≠ lv := fun p hp => (List.mem_append.mp hp).elim (hled p) (XO.ne p)
   clear F4 N4 hag
   refine seg_st (hovl _ _ _) ?_
   k_steps
   rename Fr _ _ _ _ => F4
   rename News _ _ _ _ => N4
   refine Stop.mk ?_
   refine seg_execs_nil ?_
   refine seg_again rfl ?_
   exact ih k _ _ _ (Nat.lt_succ_self k) ⟨r, _, vs4, _, _, _, _, _, j + 1, _, _, _, _, hi4, fun x hx => hb' x (by simp [hx]), g4 hk', Nat.le_trans (Nat.le_add_right _ 4) hl', hp3, rfl, gj hj, rfl, fr_to F4 (sm ["idx", "v4", "v3", "v2", "v1"]), N4, XO⟩
  ·rename ¬ j < ch => hjc
   have hk0 : k = 0 := gk0 hj hjc
   subst hk0
   refine Stop.mk ?_
   refine seg_execs_nil ?_
   refine hdone _ _ _ ?_
   refine seg_if (over_func A _ _) ?_
   k_steps
   ·rcases htl.resolve_left (by assumption) with ht | ht
    ·subst ht
     obtain ⟨a, b, rfl⟩ := two_of4 hk'
     have ha := idx_byte hl a
     have hb2 := idx_byte hl b
     have hp1 := app1 hpre
     refine Stop.mk ?_
     rename Fr _ _ _ _ => F4
     rename News _ _ _ _ => N4
     refine seg_st (over_func A _ _) (rdD X0 (by exact rm (b := 3) hd) (by exact rm (b := 14) hu) (by exact hh) F4 N4 hrest hi' hvl (hb' _ (by simp)) ?_)
     clear F4 N4 hvl
     intro t1 vs1 h1 k1 hi1 hvl F4 N4
     rename Fr _ _ _ _ => F4
     rename News _ _ _ _ => N4
     refine seg_st (over_func A _ _) (rdD X0 (by exact rm (b := 3) hd) (by exact rm (b := 14) hu) (by exact hh) F4 N4 hrest hi1 hvl (hb' _ (by simp)) ?_)
     clear F4 N4 hvl
     intro t2 vs2 h2 k2 hi2 hvl F4 N4
     show Seg _ _ _ _ (0 + 1) _ _ _ _ _
     refine seg_yd (over_func A _ _) rfl rfl ?_ (by rfl) (by rfl)
     k_steps
     rename Fr _ _ _ _ => F4
     rename News _ _ _ _ => N4
     refine Stop.mk ⟨⟨_, congrArg (fun z => Value.int z _) (val_at hpre).symm⟩, XO.gkeep (kn := _ :: _ :: _ :: _ :: led) F4 N4, ?_⟩
     intro s1 hag
     obtain ⟨F5, ot1, N5, XO⟩ := resume_facts (lv := lv) (kn := _ :: _ :: _ :: _ :: led) F4 N4 hag hN.1 (kn_lt4 hN.2.1 hN.2.2.1 hN.2.2.2.1 hN.2.2.2.2.1 hN.2.2.2.2.2)
     have N5 : News g Lg _ (_ :: _ :: _ :: _ :: (led ++ ot1)) := N5
     have hrest : ∀ p ∈ led ++ ot1, p.1 ≠ lv := fun p hp => (List.mem_append.mp hp).elim (hled p) (XO.ne p)
     clear F4 N4 hag
     refine seg_if (over_func A _ _) ?_
     k_steps
     refine Stop.mk ?_
     rename Fr _ _ _ _ => F4
     rename News _ _ _ _ => N4
     refine seg_execs_nil (seg_execs_nil (seg_execs_nil ?_))
     exact seg_end (.ok (.ret .none)) ⟨rfl, rfl, XO.gkeep (kn := _ :: _ :: _ :: _ :: led) F4 N4⟩
    ·subst ht
     obtain ⟨a, b, c, rfl⟩ := three_of4 hk'
     have ha := idx_byte hl a
     have hb2 := idx_byte hl b
     have hc := idx_byte hl c
     have hp1 := app1 hpre
     have hp2 := app1 hp1
     refine Stop.mk ?_
     rename Fr _ _ _ _ => F4
     rename News _ _ _ _ => N4
     refine seg_st (over_func A _ _) (rdD X0 (by exact rm (b := 3) hd) (by exact rm (b := 14) hu) (by exact hh) F4 N4 hrest hi' hvl (hb' _ (by simp)) ?_)
     clear F4 N4 hvl
     intro t1 vs1 h1 k1 hi1 hvl F4 N4
     rename Fr _ _ _ _ => F4
     rename News _ _ _ _ => N4
     refine seg_st (over_func A _ _) (rdD X0 (by exact rm (b := 3) hd) (by exact rm (b := 14) hu) (by exact hh) F4 N4 hrest hi1 hvl (hb' _ (by simp)) ?_)
     clear F4 N4 hvl
     intro t2 vs2 h2 k2 hi2 hvl F4 N4
     show Seg _ _ _ _ (0 + 1 + 1) _ _ _ _ _
     refine seg_yd (over_func A _ _) rfl rfl ?_ (by rfl) (by rfl)
     k_steps
     rename Fr _ _ _ _ => F4
     rename News _ _ _ _ => N4
     refine Stop.mk ⟨⟨_, congrArg (fun z => Value.int z _) (val_at hpre).symm⟩, XO.gkeep (kn := _ :: _ :: _ :: _ :: led) F4 N4, ?_⟩
     intro s1 hag
     obtain ⟨F5, ot1, N5, XO⟩ := resume_facts (lv := lv) (kn := _ :: _ :: _ :: _ :: led) F4 N4 hag hN.1 (kn_lt4 hN.2.1 hN.2.2.1 hN.2.2.2.1 hN.2.2.2.2.1 hN.2.2.2.2.2)
     have N5 : News g Lg _ (_ :: _ :: _ :: _ :: (led ++ ot1)) := N5
     have hrest : ∀ p ∈ led ++ ot1, p.1 ≠ lv := fun p hp => (List.mem_append.mp hp).elim (hled p) (XO.ne p)
     clear F4 N4 hag
     refine seg_if (over_func A _ _) ?_
     k_steps
     refine Stop.mk ?_
     rename Fr _ _ _ _ => F4
     rename News _ _ _ _ => N4
     refine seg_st (over_func A _ _) (rdD X0 (by exact rm (b := 3) hd) (by exact rm (b := 14) hu) (by exact hh) F4 N4 hrest hi2 hvl (hb' _ (by simp)) ?_)
     clear F4 N4 hvl
     intro t3 vs3 h3 k3 hi3 hvl F4 N4
     refine seg_yd (over_func A _ _) rfl rfl ?_ (by rfl) (by rfl)
     k_steps
     rename Fr _ _ _ _ => F4
     rename News _ _ _ _ => N4
     refine Stop.mk ⟨⟨_, congrArg (fun z => Value.int z _) (val_at hp1).symm⟩, XO.gkeep (kn := _ :: _ :: _ :: _ :: led) F4 N4, ?_⟩
     intro s2 hag
     obtain ⟨F5, ot2, N5, XO⟩ := resume_facts (lv := lv) (kn := _ :: _ :: _ :: _ :: led) F4 N4 hag hN.1 (kn_lt4 hN.2.1 hN.2.2.1 hN.2.2.2.1 hN.2.2.2.2.1 hN.2.2.2.2.2)
     have N5 : News g Lg _ (_ :: _ :: _ :: _ :: (led ++ ot2)) := N5
     have hrest : ∀ p ∈ led ++ ot2, p.1 ≠ lv := fun p hp => (List.mem_append.mp hp).elim (hled p) (XO.ne p)
     clear F4 N4 hag
     refine seg_execs_nil (seg_execs_nil (seg_execs_nil ?_))
     exact seg_end (.ok (.ret .none)) ⟨rfl, rfl, ⟨_, _, rfl, fun _ _ _ e => e⟩⟩
   ·rename tl = 0 => ht
    subst ht
    obtain rfl := zero_of hk'
    rename Fr _ _ _ _ => F4
    rename News _ _ _ _ => N4
    refine Stop.mk ?_
    refine seg_execs_nil (seg_execs_nil ?_)
    exact seg_end (.ok (.ret .none)) ⟨rfl, rfl, XO.gkeep (kn := _ :: _ :: _ :: _ :: led) F4 N4⟩
 ·exact ⟨ks, [], vs, n, none, none, none, none, 0, _, _, _, ot, hi, hb, (gl4 hch htl).1, hlen, rfl, rfl, (gl4 hch htl).2, rfl, fr_to F1 (sm ["idx", "v4", "v3", "v2", "v1"]), N1, XO⟩
theorem decL4 {p q u v : Int} (hp : 0 ≤ p ∧ p < 64) (hq : 0 ≤ q ∧ q < 64) (hu : 0 ≤ u ∧ u < 64) (hv : 0 ≤ v ∧ v < 64) (r : List Int) : decL (p :: q :: u :: v :: r) = (q % 4 * 64 + p) :: (u % 16 * 16 + q / 4) :: (v * 4 + u / 16) :: decL r := by
 simp only [decL, bitAnd_m4, bitAnd_m2, fd4, fd2]
 rw [or6' (rb _ (by decide)).1 hp, or4' (rb _ (by decide)).1 (c4 hq), or2' hv.1 (c16 hu)]
theorem decL3 {p q u : Int} (hp : 0 ≤ p ∧ p < 64) (hq : 0 ≤ q ∧ q < 64) (hu : 0 ≤ u ∧ u < 64) : decL [p, q, u] = [q % 4 * 64 + p, u % 16 * 16 + q / 4] := by
 simp only [decL, bitAnd_m4, bitAnd_m2, fd4, fd2]
 rw [or6' (rb _ (by decide)).1 hp, or4' (rb _ (by decide)).1 (c4 hq)]
theorem decL2 {p q : Int} (hp : 0 ≤ p ∧ p < 64) (hq : 0 ≤ q ∧ q < 64) : decL [p, q] = [q % 4 * 64 + p] := by
 simp only [decL, bitAnd_m2]
 rw [or6' (rb _ (by decide)).1 hp]
theorem decB4 {p q u v : Int} (hp : 0 ≤ p ∧ p < 64) (hq : 0 ≤ q ∧ q < 64) (hu : 0 ≤ u ∧ u < 64) (hv : 0 ≤ v ∧ v < 64) (r : List Int) : decB (p :: q :: u :: v :: r) = (p * 4 + q / 16) :: (q % 16 * 16 + u / 4) :: (u % 4 * 64 + v) :: decB r := by
 simp only [decB, bitAnd_m4, bitAnd_m2, fd4, fd2]
 rw [or6 (rb _ (by decide)).1 hv, or4 (rb _ (by decide)).1 (c4 hu), or2 hp.1 (c16 hq)]
theorem decB3 {p q u : Int} (hp : 0 ≤ p ∧ p < 64) (hq : 0 ≤ q ∧ q < 64) (hu : 0 ≤ u ∧ u < 64) : decB [p, q, u] = [p * 4 + q / 16, q % 16 * 16 + u / 4] := by
 simp only [decB, bitAnd_m4, fd4, fd2]
 rw [or4 (rb _ (by decide)).1 (c4 hu), or2 hp.1 (c16 hq)]
theorem decB2 {p q : Int} (hp : 0 ≤ p ∧ p < 64) (hq : 0 ≤ q ∧ q < 64) : decB [p, q] = [p * 4 + q / 16] := by
 simp only [decB, fd4]
 rw [or2 hp.1 (c16 hq)]
theorem decL_in : ∀ {ks : List Int}, In 64 ks → In 256 (decL ks)
 | [], _ => in_nil
 | [_], _ => in_nil
 | [a, b], h => by
  rw [decL2 (h a (.head _)) (h b (.tail _ (.head _)))]; exact in_cons (y64 (rb b (by decide)) (h a (.head _))) in_nil
 | [a, b, c], h => by
  have ha := h a (.head _)
  have hb := h b (.tail _ (.head _))
  have hc := h c (.tail _ (.tail _ (.head _)))
  rw [decL3 ha hb hc]; exact in_cons (y64 (rb b (by decide)) ha) (in_cons (y16 (rb c (by decide)) (c4 hb)) in_nil)
 | a :: b :: c :: d :: r, h => by
  have ha := h a (.head _)
  have hb := h b (.tail _ (.head _))
  have hc := h c (.tail _ (.tail _ (.head _)))
  have hd := h d (.tail _ (.tail _ (.tail _ (.head _))))
  rw [decL4 ha hb hc hd]
  exact in_cons (y64 (rb b (by decide)) ha) (in_cons (y16 (rb c (by decide)) (c4 hb)) (in_cons (y4 hd (c16 hc)) (decL_in fun k hk => h k (.tail _ (.tail _ (.tail _ (.tail _ hk)))))))
theorem decB_in : ∀ {ks : List Int}, In 64 ks → In 256 (decB ks)
 | [], _ => in_nil
 | [_], _ => in_nil
 | [a, b], h => by
  rw [decB2 (h a (.head _)) (h b (.tail _ (.head _)))]; exact in_cons (y4 (h a (.head _)) (c16 (h b (.tail _ (.head _))))) in_nil
 | [a, b, c], h => by
  have ha := h a (.head _)
  have hb := h b (.tail _ (.head _))
  have hc := h c (.tail _ (.tail _ (.head _)))
  rw [decB3 ha hb hc]; exact in_cons (y4 ha (c16 hb)) (in_cons (y16 (rb b (by decide)) (c4 hc)) in_nil)
 | a :: b :: c :: d :: r, h => by
  have ha := h a (.head _)
  have hb := h b (.tail _ (.head _))
  have hc := h c (.tail _ (.tail _ (.head _)))
  have hd := h d (.tail _ (.tail _ (.tail _ (.head _))))
  rw [decB4 ha hb hc hd]
  exact in_cons (y4 ha (c16 hb)) (in_cons (y16 (rb b (by decide)) (c4 hc)) (in_cons (y64 (rb c (by decide)) hd) (decB_in fun k hk => h k (.tail _ (.tail _ (.tail _ (.tail _ hk)))))))
theorem decL_len : ∀ ks : List Int, (decL ks).length ≤ ks.length
 | a :: b :: c :: d :: r => by have := decL_len r; simp only [decL, List.length_cons]; omega
 | [a, b, c] => by simp [decL]
 | [a, b] => by simp [decL]
 | [a] => by simp [decL]
 | [] => by simp [decL]
theorem decB_len : ∀ ks : List Int, (decB ks).length ≤ ks.length
 | a :: b :: c :: d :: r => by have := decB_len r; simp only [decB, List.length_cons]; omega
 | [a, b, c] => by simp [decB]
 | [a, b] => by simp [decB]
 | [a] => by simp [decB]
 | [] => by simp [decB]
noncomputable def octV (ms : List Int) (big : Bool) (ks : List Int) : List Int := if big then decB (ks.map fun k => (ms.idxOf k : Int)) else decL (ks.map fun k => (ms.idxOf k : Int))
theorem idx_in {ms ks : List Int} (hl : ms.length = 64) (h : ∀ k ∈ ks, k ∈ ms) : ∀ x ∈ ks.map fun k => (ms.idxOf k : Int), 0 ≤ x ∧ x < 64 := fun x hx => by
 obtain ⟨k, hk, rfl⟩ := List.mem_map.mp hx
 have := List.idxOf_lt_length_iff.mpr (h k hk)
 omega
theorem octV_in {ms ks : List Int} {big : Bool} (hl : ms.length = 64) (h : ∀ k ∈ ks, k ∈ ms) : ∀ a ∈ octV ms big ks, 0 ≤ a ∧ a < 256 := by
 cases big
 ·exact decL_in (idx_in hl h)
 ·exact decB_in (idx_in hl h)
theorem octV_len (ms : List Int) (big : Bool) (ks : List Int) : (octV ms big ks).length ≤ ks.length := by
 cases big
 ·exact Nat.le_trans (decL_len _) (by simp)
 ·exact Nat.le_trans (decB_len _) (by simp)
theorem gcall_98 {w : World} {mg mb : Str → Option Value} {A : Around} {s : Shared} {Q E : Value → Shared → Prop} (G : Gd w mg mb s.heap) (hd : A.depth + 1 < recursionLimit) (e f : Addr) (ch tl : Int) (tc tt : Tok)
  (hret : ∀ Lg a h' tk', a ≠ Lg → Fr s.heap Lg h' (fun y => if y = "tail" then some (.int tl tt) else if y = "chunks" then some (.int ch tc) else if y = "next_value" then some (.ref f) else if y = "self" then some (.ref e) else none) → h'.IsGen a s.gens.size → s.heap.get? a = none →
   Q (.ref a) { s with gens := s.gens.push (.fresh (genCode w.params 98 Lg)), toks := tk', heap := h' }) :
  wpAny (model rw_iw0008_01.prog w) A (call (.ref 98) [.ref e, .ref f, .int ch tc, .int tl tt]) Q E s := by
 refine wpCall ?_
 have KX := G.K
 revert KX
 k_fill
 intro KX
 exact enterGen (binds := [("self", .ref e), ("next_value", .ref f), ("chunks", .int ch tc), ("tail", .int tl tt)]) G (by k_is) (by rfl) (by k_is) (by omega) (BindsTo.of_eq rfl) (by decide) (by rintro x (_ | ⟨_, _ | ⟨_, _ | ⟨_, _ | ⟨_, _ | _⟩⟩⟩⟩) <;> rfl) hret rfl rfl rfl
theorem gcall_105 {w : World} {mg mb : Str → Option Value} {A : Around} {s : Shared} {Q E : Value → Shared → Prop} (G : Gd w mg mb s.heap) (hd : A.depth + 1 < recursionLimit) (e f : Addr) (ch tl : Int) (tc tt : Tok)
  (hret : ∀ Lg a h' tk', a ≠ Lg → Fr s.heap Lg h' (fun y => if y = "tail" then some (.int tl tt) else if y = "chunks" then some (.int ch tc) else if y = "next_value" then some (.ref f) else if y = "self" then some (.ref e) else none) → h'.IsGen a s.gens.size → s.heap.get? a = none →
   Q (.ref a) { s with gens := s.gens.push (.fresh (genCode w.params 105 Lg)), toks := tk', heap := h' }) :
  wpAny (model rw_iw0008_01.prog w) A (call (.ref 105) [.ref e, .ref f, .int ch tc, .int tl tt]) Q E s := by
 refine wpCall ?_
 have KX := G.K
 revert KX
 k_fill
 intro KX
 exact enterGen (binds := [("self", .ref e), ("next_value", .ref f), ("chunks", .int ch tc), ("tail", .int tl tt)]) G (by k_is) (by rfl) (by k_is) (by omega) (BindsTo.of_eq rfl) (by decide) (by rintro x (_ | ⟨_, _ | ⟨_, _ | ⟨_, _ | ⟨_, _ | _⟩⟩⟩⟩) <;> rfl) hret rfl rfl rfl
theorem gcall_119 {w : World} {mg mb : Str → Option Value} {A : Around} {s : Shared} {Q E : Value → Shared → Prop} (G : Gd w mg mb s.heap) (hd : A.depth + 1 < recursionLimit) (e f : Addr) (ch tl : Int) (tc tt : Tok)
  (hret : ∀ Lg a h' tk', a ≠ Lg → Fr s.heap Lg h' (fun y => if y = "tail" then some (.int tl tt) else if y = "chunks" then some (.int ch tc) else if y = "next_value" then some (.ref f) else if y = "self" then some (.ref e) else none) → h'.IsGen a s.gens.size → s.heap.get? a = none →
   Q (.ref a) { s with gens := s.gens.push (.fresh (genCode w.params 119 Lg)), toks := tk', heap := h' }) :
  wpAny (model rw_iw0008_01.prog w) A (call (.ref 119) [.ref e, .ref f, .int ch tc, .int tl tt]) Q E s := by
 refine wpCall ?_
 have KX := G.K
 revert KX
 k_fill
 intro KX
 exact enterGen (binds := [("self", .ref e), ("next_value", .ref f), ("chunks", .int ch tc), ("tail", .int tl tt)]) G (by k_is) (by rfl) (by k_is) (by omega) (BindsTo.of_eq rfl) (by decide) (by rintro x (_ | ⟨_, _ | ⟨_, _ | ⟨_, _ | ⟨_, _ | _⟩⟩⟩⟩) <;> rfl) hret rfl rfl rfl
theorem gcall_126 {w : World} {mg mb : Str → Option Value} {A : Around} {s : Shared} {Q E : Value → Shared → Prop} (G : Gd w mg mb s.heap) (hd : A.depth + 1 < recursionLimit) (e f : Addr) (ch tl : Int) (tc tt : Tok)
  (hret : ∀ Lg a h' tk', a ≠ Lg → Fr s.heap Lg h' (fun y => if y = "tail" then some (.int tl tt) else if y = "chunks" then some (.int ch tc) else if y = "next_value" then some (.ref f) else if y = "self" then some (.ref e) else none) → h'.IsGen a s.gens.size → s.heap.get? a = none →
   Q (.ref a) { s with gens := s.gens.push (.fresh (genCode w.params 126 Lg)), toks := tk', heap := h' }) :
  wpAny (model rw_iw0008_01.prog w) A (call (.ref 126) [.ref e, .ref f, .int ch tc, .int tl tt]) Q E s := by
 refine wpCall ?_
 have KX := G.K
 revert KX
 k_fill
 intro KX
 exact enterGen (binds := [("self", .ref e), ("next_value", .ref f), ("chunks", .int ch tc), ("tail", .int tl tt)]) G (by k_is) (by rfl) (by k_is) (by omega) (BindsTo.of_eq rfl) (by decide) (by rintro x (_ | ⟨_, _ | ⟨_, _ | ⟨_, _ | ⟨_, _ | _⟩⟩⟩⟩) <;> rfl) hret rfl rfl rfl
theorem gwrap_71 {w : World} {mg mb : Str → Option Value} {A : Around} {s : Shared} {Q E : Value → Shared → Prop} (G : Gd w mg mb s.heap) (hd : A.depth + 2 < recursionLimit) (hu : A.units + 10 < cLine) (e lk : Addr) (bm : Array UInt8) (big : Bool) (he : Eng s.heap e bm big lk) (f : Addr) (ch tl : Int) (tc tt : Tok)
  (hret : ∀ Lg a h' tk', a ≠ Lg → Keep s.heap h' → s.heap.get? Lg = none → h'.Ns Lg (fun y => if y = "tail" then some (.int tl tt) else if y = "chunks" then some (.int ch tc) else if y = "next_value" then some (.ref f) else if y = "self" then some (.ref e) else none) → s.heap.objs.size ≤ Lg → h'.IsGen a s.gens.size → s.heap.get? a = none →
   Q (.ref a) { s with gens := s.gens.push (.fresh (genCode w.params (if big then 105 else 98) Lg)), toks := tk', heap := h' }) :
  wpAny (model rw_iw0008_01.prog w) A (call (.ref 71) [.ref e, .ref f, .int ch tc, .int tl tt]) Q E s := by
 refine wpCall ?_
 have KX := G.K
 revert KX
 k_fill
 intro KX
 refine enterKC (binds := [("self", .ref e), ("next_value", .ref f), ("chunks", .int ch tc), ("tail", .int tl tt)]) G (by k_is) (by rfl) (by k_is) (by omega) (BindsTo.of_eq rfl) rfl (by decide +kernel) ?_ rfl rfl rfl
 intro L h₁ tk cells F N Y
 have T := G.T
 have F : Fr s.heap L h₁ (fun y => if y = "tail" then some (.int tl tt) else if y = "chunks" then some (.int ch tc) else if y = "next_value" then some (.ref f) else if y = "self" then some (.ref e) else none) := F
 obtain ⟨dx, tb, k1, k2, k3, q1, q2, q3, nd, I⟩ := he.ex
 try dsimp only
 k_steps
 ·rename big = true => hbig
  refine Stop.mk ?_
  rename Fr _ _ _ _ => F2
  refine gcall_105 (by exact G.keeps F2.keep) (by exact rm (b := 2) hd) e f ch tl _ _ ?_
  intro Lg a h' tk' ne F3 hg ha
  have hsz : s.heap.objs.size ≤ Lg := Nat.le_trans F2.above (Nat.le_trans (Nat.le_of_lt F2.ns.lt) F3.above)
  simp only [hbig, if_true] at hret
  exact hret Lg a h' tk' ne (Keep.trans F2.keep F3.keep) (Heap.get?_none_of_le hsz) F3.ns hsz hg (fresh_below F2.keep ha)
 ·rename big = false => hbig
  refine Stop.mk ?_
  rename Fr _ _ _ _ => F2
  refine gcall_98 (by exact G.keeps F2.keep) (by exact rm (b := 2) hd) e f ch tl _ _ ?_
  intro Lg a h' tk' ne F3 hg ha
  have hsz : s.heap.objs.size ≤ Lg := Nat.le_trans F2.above (Nat.le_trans (Nat.le_of_lt F2.ns.lt) F3.above)
  simp only [hbig, Bool.false_eq_true, if_false] at hret
  exact hret Lg a h' tk' ne (Keep.trans F2.keep F3.keep) (Heap.get?_none_of_le hsz) F3.ns hsz hg (fresh_below F2.keep ha)
theorem gwrap_78 {w : World} {mg mb : Str → Option Value} {A : Around} {s : Shared} {Q E : Value → Shared → Prop} (G : Gd w mg mb s.heap) (hd : A.depth + 2 < recursionLimit) (hu : A.units + 10 < cLine) (e lk : Addr) (bm : Array UInt8) (big : Bool) (he : Eng s.heap e bm big lk) (f : Addr) (ch tl : Int) (tc tt : Tok)
  (hret : ∀ Lg a h' tk', a ≠ Lg → Keep s.heap h' → s.heap.get? Lg = none → h'.Ns Lg (fun y => if y = "tail" then some (.int tl tt) else if y = "chunks" then some (.int ch tc) else if y = "next_value" then some (.ref f) else if y = "self" then some (.ref e) else none) → s.heap.objs.size ≤ Lg → h'.IsGen a s.gens.size → s.heap.get? a = none →
   Q (.ref a) { s with gens := s.gens.push (.fresh (genCode w.params (if big then 126 else 119) Lg)), toks := tk', heap := h' }) :
  wpAny (model rw_iw0008_01.prog w) A (call (.ref 78) [.ref e, .ref f, .int ch tc, .int tl tt]) Q E s := by
 refine wpCall ?_
 have KX := G.K
 revert KX
 k_fill
 intro KX
 refine enterKC (binds := [("self", .ref e), ("next_value", .ref f), ("chunks", .int ch tc), ("tail", .int tl tt)]) G (by k_is) (by rfl) (by k_is) (by omega) (BindsTo.of_eq rfl) rfl (by decide +kernel) ?_ rfl rfl rfl
 intro L h₁ tk cells F N Y
 have T := G.T
 have F : Fr s.heap L h₁ (fun y => if y = "tail" then some (.int tl tt) else if y = "chunks" then some (.int ch tc) else if y = "next_value" then some (.ref f) else if y = "self" then some (.ref e) else none) := F
 obtain ⟨dx, tb, k1, k2, k3, q1, q2, q3, nd, I⟩ := he.ex
 try dsimp only
 k_steps
 ·rename big = true => hbig
  refine Stop.mk ?_
  rename Fr _ _ _ _ => F2
  refine gcall_126 (by exact G.keeps F2.keep) (by exact rm (b := 2) hd) e f ch tl _ _ ?_
  intro Lg a h' tk' ne F3 hg ha
  have hsz : s.heap.objs.size ≤ Lg := Nat.le_trans F2.above (Nat.le_trans (Nat.le_of_lt F2.ns.lt) F3.above)
  simp only [hbig, if_true] at hret
  exact hret Lg a h' tk' ne (Keep.trans F2.keep F3.keep) (Heap.get?_none_of_le hsz) F3.ns hsz hg (fresh_below F2.keep ha)
 ·rename big = false => hbig
  refine Stop.mk ?_
  rename Fr _ _ _ _ => F2
  refine gcall_119 (by exact G.keeps F2.keep) (by exact rm (b := 2) hd) e f ch tl _ _ ?_
  intro Lg a h' tk' ne F3 hg ha
  have hsz : s.heap.objs.size ≤ Lg := Nat.le_trans F2.above (Nat.le_trans (Nat.le_of_lt F2.ns.lt) F3.above)
  simp only [hbig, Bool.false_eq_true, if_false] at hret
  exact hret Lg a h' tk' ne (Keep.trans F2.keep F3.keep) (Heap.get?_none_of_le hsz) F3.ns hsz hg (fresh_below F2.keep ha)
section
local macro_rules | `(tactic| walk_at "call type:list") => `(tactic| walk_at "stop")
noncomputable def encV (big : Bool) (ks : List Int) : List Int := if big then encB ks else encL ks
theorem segE {w : World} {mg mb : Str → Option Value} {A : Around} {s : Shared} {g : Heap} {Lg : Addr} (big : Bool) (G : Gd w mg mb g)
  (hd : A.depth + 3 < recursionLimit) (hu : A.units + 15 < cLine) (hh : A.handled = none) (e : Addr) {f c' cv lv : Addr} {doc pm ctv : Value} {oc : Obj} (hdc : oc.data = .cell (some (.ref lv))) {n : Nat} {vs : List Value} {ks : List Int} (hi : IntsAre vs ks) (hb : ∀ k ∈ ks, 0 ≤ k ∧ k < 256) (hlen : ks.length ≤ 900)
  {Nn : Nat} {ot led : List (Addr × Obj)} {tc tt : Tok} (ch tl : Int) (hch : 3 * ch + tl = ks.length) (htl : 0 ≤ tl ∧ tl < 3)
  (F : Fr g Lg s.heap (fun y => if y = "tail" then some (.int tl tt) else if y = "chunks" then some (.int ch tc) else if y = "next_value" then some (.ref f) else if y = "self" then some (.ref e) else none))
  (N : News g Lg s.heap ((f, fnMade "next_value" mkEb.qual nvArgs nvBodyE nvScopeE [("values", cv)] doc pm c' ctv) :: (cv, oc) :: (lv, W.listOf vs.toArray n) :: (led ++ ot))) (XO : Oth g Lg lv s.heap ot)
  (CL : CodeL g led c' mkEb.qual) (hne1 : f ≠ lv) (hne2 : cv ≠ lv) (hled : ∀ p ∈ led, p.1 ≠ lv) (hN : Lg < Nn ∧ f < Nn ∧ cv < Nn ∧ lv < Nn ∧ ∀ p ∈ led, p.1 < Nn) :
  Seg (Md w) A (GR [Lg, lv]) (GY Nn [Lg, lv] (encV big ks)) (encV big ks).length s (genCode w.params (if big then 105 else 98) Lg) ((Md w).den (genCode w.params (if big then 105 else 98) Lg)) [] s := by
 cases big
 ·exact segEL G hd hu hh e hdc hi hb hlen ch tl hch htl F N XO CL hne1 hne2 hled hN
 ·exact segEB G hd hu hh e hdc hi hb hlen ch tl hch htl F N XO CL hne1 hne2 hled hN
theorem div3 (n : Nat) : 3 * (n : Int).fdiv 3 + (n : Int).fmod 3 = n ∧ 0 ≤ (n : Int).fmod 3 ∧ (n : Int).fmod 3 < 3 := by
 rw [Int.fdiv_eq_ediv_of_nonneg _ (by decide), Int.fmod_eq_emod_of_nonneg _ (by decide)]
 exact ⟨Int.mul_ediv_add_emod _ _, Int.emod_nonneg _ (by decide), Int.emod_lt_of_pos _ (by decide)⟩
theorem led_ne {g h h₀ : Heap} {lv : Addr} {led : List (Addr × Obj)} {its : Array Value} {n : Nat} (X : Led h₀ g led) (N : ∀ p ∈ led, h.get? p.1 = some p.2) (hl : h.get? lv = some (W.listOf its n)) : ∀ p ∈ led, p.1 ≠ lv := fun p hp q => by
 obtain ⟨vs, hd⟩ := X.kind p hp
 have := N p hp
 rw [q, hl] at this
 rw [← Option.some.inj this] at hd
 cases hd
theorem kn_sub {x1 x2 x3 x4 : Addr × Obj} {r : List (Addr × Obj)} : ∀ p ∈ (x1 :: x3 :: x2 :: r), p ∈ (x1 :: x2 :: x3 :: x4 :: r) := fun p hp => by
 rcases List.mem_cons.mp hp with rfl | hp
 ·exact .head _
 rcases List.mem_cons.mp hp with rfl | hp
 ·exact .tail _ (.tail _ (.head _))
 rcases List.mem_cons.mp hp with rfl | hp
 ·exact .tail _ (.head _)
 ·exact .tail _ (.tail _ (.tail _ (.tail _ hp)))
theorem news_kn {g h : Heap} {L : Addr} {xa xl x1 x2 x3 x4 : Addr × Obj} {r : List (Addr × Obj)} (N : News g L h (xa :: xl :: x1 :: x2 :: x3 :: x4 :: r)) : News g L h (x1 :: x3 :: x2 :: r) := fun p hp => N p (.tail _ (.tail _ (kn_sub p hp)))
theorem news_at {g h : Heap} {L Lg : Addr} {r : List (Addr × Obj)} (N : News g L h r) (k : ∀ p ∈ r, p.1 ≠ Lg) : News g Lg h r := fun p hp => ⟨(N p hp).1, k p hp, (N p hp).2.2⟩
theorem encV_in {big : Bool} {ks : List Int} (h : ∀ k ∈ ks, 0 ≤ k ∧ k < 256) : ∀ a ∈ encV big ks, 0 ≤ a ∧ a < 64 := by
 cases big
 ·exact encL_in h
 ·exact encB_in h
theorem encV_len (big : Bool) (ks : List Int) : (encV big ks).length ≤ 2 * ks.length := by
 cases big
 ·exact encL_len ks
 ·exact encB_len ks
theorem encB_spec {w : World} {mg mb : Str → Option Value} {A : Around} {s : Shared} {Q E : Value → Shared → Prop} {base : Heap} (Gb : Gd w mg mb base) (kb : Keep base s.heap)
  (TB : Tabs s.heap) (hP : ∀ P ∈ PS, base.get? P = none)
  (hd : A.depth + 6 < recursionLimit) (hu : A.units + 30 < cLine) (hh : A.handled = none)
  (e lk : Addr) (bm : Array UInt8) (big : Bool) (he : Eng base e bm big lk) (ms : List Int) (hk : KBw.bInts bm = ms) (hl : ms.length = 64) (b : Array UInt8) (t : Tok) (ks : List Int) (hb : KBw.bInts b = ks) (hz : ks.length ≤ 400)
  (hret : ∀ b' t' h' tk' gn', KeepT s.heap h' → BareTo s.gens gn' → KBw.bInts b' = signs ms (encV big ks) → Q (.bytes b' t') {s with heap := h', toks := tk', gens := gn'}) :
  wpAny (model rw_iw0008_01.prog w) A (call (.ref 91) [.ref e, .bytes b t]) Q E s := by
 have kb' := keep_hideT kb hP
 have G : Gd w mg mb s.heap := Gb.keeps kb
 have G' : Gd w mg mb (hideAll s.heap PS) := Gb.keeps kb'
 refine wpCall ?_
 have KX := G'.K
 revert KX
 k_fill
 intro KX
 refine enterKCT' (binds := [("self", .ref e), ("source", .bytes b t)]) G TB (by k_is) (by rfl) (by k_is) (by omega) (BindsTo.of_eq rfl) rfl (by decide +kernel) ?_ rfl rfl rfl
 intro L h₁ tk cells led F N XL Y hlt hll
 have T := G'.T
 have F : Fr (hideAll s.heap PS) L h₁ (fun y => if y = "source" then some (.bytes b t) else none) := F
 k_cells Y
 obtain ⟨dx, tb, k1, k2, k3, q1, q2, q3, nd, I⟩ := (he.keeps kb').ex
 try dsimp only
 simp only [List.cons_append, List.nil_append] at N
 generalize hg : hideAll s.heap PS = g at *
 have C : CodeHd g 90 88 := ⟨_, _, _, _, _, _, _, _, _, KX _ _ (by k_is), rfl, rfl, rfl, rfl, rfl, rfl, rfl, rfl, by decide⟩
 k_steps
 refine Stop.mk ?_
 rename Fr _ _ _ _ => F1
 rename News _ _ _ _ => N1
 refine list_K (by exact hh) (by exact F1) (by exact N1) hb (Nat.le_trans hz (by decide)) ?_
 intro lv vs n h2 tk2 F2 N2 hn2 hi hlL
 obtain ⟨hnt, hnc1, hnc2, hnl⟩ : _ ∧ L + 1 + 1 ≠ lv ∧ L + 1 ≠ lv ∧ ∀ p ∈ led, p.1 ≠ lv := by simpa only [List.forall_mem_cons] using hn2
 have N3 : News g L h2 ([(lv, W.listOf vs.toArray n)] ++ (L + 1 + 1, _) :: (L + 1, _) :: led) := fun p hp => N2 p (by
  rcases List.mem_cons.mp hp with rfl | hp
  ·exact .head _
  ·exact .tail _ (.tail _ hp))
 clear N2 N1 hn2
 try (k_unfold; (try dsimp only))
 refine storeC (own := [(lv, _)]) F2 N3 ?_ ?_ (by rfl) (by assumption) ?_ (by rfl) (by rfl)
 ·intro p hp; rw [List.mem_singleton.mp hp]; exact Ne.symm hnc1
 ·intro p hp
  rcases List.mem_cons.mp hp with rfl | hp
  ·exact Nat.ne_of_lt (Nat.lt_succ_self _)
  ·exact Nat.ne_of_lt (Nat.lt_trans (hll p hp) (Nat.lt_succ_of_lt (Nat.lt_succ_self _)))
 intro h3 oc F3 N4 hoc
 clear F2 N3
 have N4 : News g L h3 ((lv, W.listOf vs.toArray n) :: (L + 1 + 1, oc) :: (L + 1, _) :: led) := N4
 k_steps
 rename Fr _ _ _ _ => F1
 rename News _ _ _ _ => N1
 refine Stop.mk ?_
 refine nestDef_K rfl rfl rfl ?_
 refine nestT (x := mkEb) in_Eb F1 (news := [_, _, _]) N1 XL G'.P C rfl ?_ rfl ?_
 ·intro p hp q
  obtain ⟨ps, e1⟩ := (XL.tabs (fun p hp => (N1 p (List.Mem.tail _ (List.Mem.tail _ (List.Mem.tail _ hp)))).1) F1.keep).there q
  rcases List.mem_cons.mp hp with rfl | hp
  ·have := (N1 _ (List.Mem.head _)).1
   rw [e1] at this
   cases this
  rcases List.mem_cons.mp hp with rfl | hp
  ·exact absurd (hlt _ q) (Nat.not_lt.mpr (Nat.le_succ_of_le (Nat.le_succ _)))
  ·rw [List.mem_singleton.mp hp] at q
   exact absurd (hlt _ q) (Nat.not_lt.mpr (Nat.le_succ _))
 intro f c' ctv doc h4 tk4 led2 F2 N2 XL2 CL hn2 hf2
 simp only [List.cons_append, List.nil_append] at N2
 clear F1 N1
 k_steps
 rename Fr _ _ _ _ => F3
 rename News _ _ _ _ => N3
 refine Stop.mk ?_
 refine gwrap_71 (by exact G'.keeps F3.keep) (by exact rm (b := 3) hd) (by exact rm (b := 13) hu) e lk bm big (by exact he.keeps (kb'.trans F3.keep)) f _ _ _ _ ?_
 intro Lg a h5 tk5 hne kk hLgn hns hsz hgen hga
 obtain ⟨oa, oL, nm, qn, ca, da, sa, nsL, N5, hnew, haL, hLL⟩ := gen_news F3 N3 kk hLgn hns hgen hga hne
 have F5 := F3.kept kk
 have hgl : g.objs.size ≤ Lg := Nat.le_trans F3.above (Nat.le_trans (Nat.le_of_lt F3.ns.lt) hsz)
 clear F3 N3 hgen hga hns hLgn kk
 k_steps
 rename Fr _ _ _ _ => F6
 rename News _ _ _ _ => N6
 refine eval_compX (cl := [(Str.ofString "self", L + 1)]) (by rfl) (by rfl) (by rfl) (by rfl) (by rfl) ?_ (by intro _; rfl)
 k_steps
 refine Stop.mk ?_
 rename Fr _ _ _ _ => F7
 rename News _ _ _ _ => N7
 have hgn : Heap.IsGen _ a s.gens.size := ⟨oa, nm, qn, (N7 _ (List.Mem.head _)).1, ca, da, sa⟩
 have hbyte : ∀ k ∈ ks, 0 ≤ k ∧ k < 256 := fun k hk => KBw.ints_in (b := b) (by rw [hb]; exact hk)
 have hlv7 := (N7 _ (List.Mem.tail _ (List.Mem.tail _ (List.Mem.tail _ (List.Mem.head _))))).1
 have Fg : Fr g Lg _ _ := ⟨nsL _ (N7 _ (List.Mem.tail _ (List.Mem.head _))).1, F7.keep, hgl⟩
 obtain ⟨d1, d2, d3⟩ := div3 ks.length
 have hLa : Lg ≠ lv := fun q => (hnew (lv, _) (by k_mem)).2 q.symm
 have hal : a ≠ lv := fun q => (hnew (lv, _) (by k_mem)).1 q.symm
 have hfl : f ≠ lv := Ne.symm (hn2 (lv, _) (by k_mem))
 have kn7 := news_kn N7
 have hledl := led_ne (led := led2) XL2 (fun p hp => (kn7 p (.tail _ (.tail _ (.tail _ hp)))).1) hlv7
 have Kg := news_at kn7 fun p hp => (hnew p (kn_sub p hp)).2
 have hself := (N7 _ (List.Mem.tail _ (List.Mem.tail _ (List.Mem.tail _ (List.Mem.tail _ (List.Mem.tail _ (List.Mem.head _))))))).1
 have hlim := G'.T.nolimit.keeps F7.keep
 have hLgg := (N7 _ (List.Mem.tail _ (List.Mem.head _))).2.2
 have hlvg := (N7 _ (List.Mem.tail _ (List.Mem.tail _ (List.Mem.tail _ (List.Mem.head _))))).2.2
 refine wpAny_pyIter_gen hgn ?_
 refine ⟨a, List.range _, [Lg, lv], [], s.gens.size, (encV big ks).length, _, GenSt w _ a s.gens.size _ [Lg, lv] (encV big ks), fun _ _ => True, fun i y => ∃ t, y = .int (ms.getD ((encV big ks).getD i 0).toNat 0) t, rfl, srcX_fn (by exact hh) (by exact rm (b := 1) hd) (Heap.lt_size (N7 _ (List.Mem.head _)).1) (by obtain ⟨_, hn, _⟩ := hlim; exact hn.lt) ?_ ?_ ?_, ?_, ?_, fun b hb => List.mem_range.mp hb, (fun b hb => nomatch hb), (fun _ _ _ _ _ => trivial), trivial, ?_, ?_⟩
 ·intro b hb
  rcases List.mem_cons.mp hb with rfl | hb
  ·exact Heap.lt_size (N7 _ (List.Mem.tail _ (List.Mem.head _))).1
  ·rw [List.mem_singleton.mp hb]
   exact Heap.lt_size hlv7
 ·intro q
  rcases List.mem_cons.mp q with q | q
  ·exact hne q
  ·exact hal (List.mem_singleton.mp q)
 ·obtain ⟨mc, hn, _⟩ := G'.T.nolimit
  obtain ⟨o, _, _, e1, _⟩ := hn
  intro q
  rcases List.mem_cons.mp q with q | q
  ·rw [q, hLgg] at e1; cases e1
  ·rw [List.mem_singleton.mp q, hlvg] at e1; cases e1
 ·have := encV_len big ks; omega
 ·refine gen_st (lv := lv) hgn hlim (by exact Array.getElem?_push_size ..) Fg Kg (Heap.lt_size (N7 _ (List.Mem.tail _ (List.Mem.head _))).1) (fun p hp => Heap.lt_size (kn7 p hp).1) ?_
  intro s'' ot Fs Ns Xs
  exact segE big G' (by exact rm (b := 4) hd) (by exact rm (b := 19) hu) (by exact hh) e hoc hi hbyte (by omega) _ _ d1 ⟨d2, d3⟩ Fs Ns Xs CL hfl hnc1 hledl ⟨Heap.lt_size (N7 _ (List.Mem.tail _ (List.Mem.head _))).1, Heap.lt_size (kn7 _ (.head _)).1, Heap.lt_size (kn7 _ (.tail _ (.head _))).1, Heap.lt_size hlv7, fun p hp => Heap.lt_size (kn7 p (.tail _ (.tail _ (.tail _ hp)))).1⟩
 ·rintro C i v s₃ m₃ E'' hin ⟨tv, rfl⟩ _ hC hns3 hm3 hk3
  have ha := encV_in hbyte _ (getD_mem hin)
  have F : Fr (hideAll _ [Lg, lv]) C s₃.heap m₃ := ⟨hns3, fun b o e1 => hk3 b o (fun q => by rw [hideAll_none _ q] at e1; cases e1) (fun q => nomatch q) (of_hideAll _ e1), by rw [hideAll_size]; exact hC⟩
  have k0 : Keep g (hideAll _ [Lg, lv]) := fun b o e1 => hideAll_get _ (F7.keep b o e1) (fun q => by
   rcases List.mem_cons.mp q with q | q
   ·rw [q, hLgg] at e1; cases e1
   ·rw [List.mem_singleton.mp q, hlvg] at e1; cases e1)
  have ho := hideAll_get [Lg, lv] hself (fun q => by
   rcases List.mem_cons.mp q with q | q
   ·exact (hnew (L + 1, _) (by k_mem)).2 q
   ·exact hnc2 (List.mem_singleton.mp q))
  have KX' := KX.keeps k0
  have T' := T.keeps k0
  have I' := inst_keeps k0 I
  clear F7 N7 KX T I
  generalize hideAll _ [Lg, lv] = g₁ at F ho k0 KX' T' I'
  k_steps
  refine Stop.mk ?_
  refine e64_spec (G'.keeps (k0.trans F.keep)) (by exact rm (b := 2) hd) (by exact rm (b := 11) hu) e lk bm big (he.keeps (kb'.trans (k0.trans F.keep))) ms hk hl _ _ ha ?_
  intro t' h' tk' hk _ _
  exact Stop.mk ⟨_, _, rfl, fun b o _ e1 => hk b o e1, trivial, _, rfl⟩
 ·intro D ys h8 tk8 gn c8 hlen hR hk8 _ hg8 hD hl8
  have nm : ∀ b, b ≠ Lg → b ≠ lv → b ∉ [Lg, lv] := fun b h1 h2 q => by
   rcases List.mem_cons.mp q with q | q
   ·exact h1 q
   ·exact h2 (List.mem_singleton.mp q)
  have F8 : Fr g L h8 _ := ⟨F7.ns.at' fun o e1 => hk8 L o (nm L (Ne.symm hLL) (Ne.symm hlL)) (fun q => nomatch q) e1, fun b o e1 => hk8 b o (nm b (fun q => by rw [q, hLgg] at e1; cases e1) (fun q => by rw [q, hlvg] at e1; cases e1)) (fun q => nomatch q) (F7.keep b o e1), F7.above⟩
  have hDL : D ≠ L := fun q => by
   obtain ⟨o, _, _, e1, _⟩ := F7.ns
   rw [q] at hD
   rw [e1] at hD; cases hD
  have N8 : News g L h8 ((D, W.listOf ys.toArray c8) :: led2) := fun p hp => by
   rcases List.mem_cons.mp hp with rfl | hp
   ·exact ⟨hl8, hDL, fresh_below F7.keep hD⟩
   ·have n7 := kn7 p (.tail _ (.tail _ (.tail _ hp)))
    exact ⟨hk8 _ _ (nm _ (hnew p (.tail _ (.tail _ (.tail _ (.tail _ hp))))).2 (hledl p hp)) (fun q => nomatch q) n7.1, n7.2⟩
  have hys := of_ints (allR_of_places (V := fun (k : Int) v => ∃ u, v = .int k u) (signs ms (encV big ks)) ys (by simp [signs, hlen]) fun i v hv => by
   obtain ⟨t1, rfl⟩ := hR i v hv
   have hi2 : i < (encV big ks).length := by rw [← hlen]; exact (List.getElem?_eq_some_iff.mp hv).1
   exact ⟨_, by simp [signs, List.getD_eq_getElem?_getD, hi2], _, rfl⟩)
  clear F7 N7
  k_steps
  refine KBa.make_K (by exact F8) (by exact N8) (by exact hh) (by exact N8.isList (List.Mem.head _)) hys (signs_in (bInts_in hk)) (by have := encV_len big ks; simp only [signs, List.length_map]; omega) ?_
  intro h9 t9 k9 F9 N9 hin
  clear F8 N8
  k_steps
  rename Fr _ _ _ _ => F10
  rename News _ _ _ _ => N10
  exact hret _ _ _ _ gn (XL2.keepT (news := []) (by rw [hg]; exact F10) fun p hp => (N10 p (List.Mem.tail _ hp)).1) (bare_push hg8) (KBa.ints_make hin)
end
section
local macro_rules | `(tactic| walk_at "call type:list") => `(tactic| walk_at "stop")
theorem segD {w : World} {mg mb : Str → Option Value} {A : Around} {s : Shared} {g : Heap} {Lg : Addr} (G : Gd w mg mb g)
  (hd : A.depth + 4 < recursionLimit) (hu : A.units + 18 < cLine) (hh : A.handled = none) (e lk : Addr) (bm : Array UInt8) (big : Bool) (he : Eng g e bm big lk) (ms : List Int) (hl : ms.length = 64) (XK : Lkup w g lk ms) {f c' cs cv lv : Addr} {doc pm ctv : Value} {oc ocs : Obj} (hds : ocs.data = .cell (some (.ref e))) (hdc : oc.data = .cell (some (.ref lv))) {n : Nat} {vs : List Value} {ks : List Int} (hi : IntsAre vs ks) (hb : ∀ k ∈ ks, k ∈ ms) (hlen : ks.length ≤ 900)
  {Nn : Nat} {ot led : List (Addr × Obj)} {tc tt : Tok} (ch tl : Int) (hch : 4 * ch + tl = ks.length) (htl : tl = 0 ∨ tl = 2 ∨ tl = 3)
  (F : Fr g Lg s.heap (fun y => if y = "tail" then some (.int tl tt) else if y = "chunks" then some (.int ch tc) else if y = "next_value" then some (.ref f) else if y = "self" then some (.ref e) else none))
  (N : News g Lg s.heap ((f, fnMade "next_value" mkDb.qual nvArgs nvBodyD nvScopeD [("values", cv), ("self", cs)] doc pm c' ctv) :: (cs, ocs) :: (cv, oc) :: (lv, W.listOf vs.toArray n) :: (led ++ ot))) (XO : Oth g Lg lv s.heap ot)
  (CL : CodeL g led c' mkDb.qual) (hne1 : f ≠ lv) (hne0 : cs ≠ lv) (hne2 : cv ≠ lv) (hled : ∀ p ∈ led, p.1 ≠ lv) (hN : Lg < Nn ∧ f < Nn ∧ cs < Nn ∧ cv < Nn ∧ lv < Nn ∧ ∀ p ∈ led, p.1 < Nn) :
  Seg (Md w) A (GR [Lg, lv]) (GY Nn [Lg, lv] (octV ms big ks)) (octV ms big ks).length s (genCode w.params (if big then 126 else 119) Lg) ((Md w).den (genCode w.params (if big then 126 else 119) Lg)) [] s := by
 cases big
 ·exact segDL G hd hu hh e lk bm false he ms hl XK hds hdc hi hb hlen ch tl hch htl F N XO CL hne1 hne0 hne2 hled hN
 ·exact segDB G hd hu hh e lk bm true he ms hl XK hds hdc hi hb hlen ch tl hch htl F N XO CL hne1 hne0 hne2 hled hN
theorem div4 (n : Nat) (h : n % 4 ≠ 1) : 4 * (n : Int).fdiv 4 + (n : Int).fmod 4 = n ∧ ((n : Int).fmod 4 = 0 ∨ (n : Int).fmod 4 = 2 ∨ (n : Int).fmod 4 = 3) := by
 rw [Int.fdiv_eq_ediv_of_nonneg _ (by decide), Int.fmod_eq_emod_of_nonneg _ (by decide)]
 have : ∀ r < 4, r ≠ 1 → ((r : Nat) : Int) = 0 ∨ (r : Int) = 2 ∨ (r : Int) = 3 := by decide
 exact ⟨Int.mul_ediv_add_emod _ _, this _ (Nat.mod_lt _ (by decide)) h⟩
theorem knd_sub {x1 x2 x3 x4 : Addr × Obj} {r : List (Addr × Obj)} : ∀ p ∈ (x1 :: x4 :: x3 :: x2 :: r), p ∈ (x1 :: x2 :: x3 :: x4 :: r) := fun p hp => by
 rcases List.mem_cons.mp hp with rfl | hp
 ·exact .head _
 rcases List.mem_cons.mp hp with rfl | hp
 ·exact .tail _ (.tail _ (.tail _ (.head _)))
 rcases List.mem_cons.mp hp with rfl | hp
 ·exact .tail _ (.tail _ (.head _))
 rcases List.mem_cons.mp hp with rfl | hp
 ·exact .tail _ (.head _)
 ·exact .tail _ (.tail _ (.tail _ (.tail _ hp)))
theorem news_knd {g h : Heap} {L : Addr} {xa xl x1 x2 x3 x4 : Addr × Obj} {r : List (Addr × Obj)} (N : News g L h (xa :: xl :: x1 :: x2 :: x3 :: x4 :: r)) : News g L h (x1 :: x4 :: x3 :: x2 :: r) := fun p hp => N p (.tail _ (.tail _ (knd_sub p hp)))
theorem decB_spec {w : World} {mg mb : Str → Option Value} {A : Around} {s : Shared} {Q E : Value → Shared → Prop} {base : Heap} (Gb : Gd w mg mb base) (kb : Keep base s.heap)
  (TB : Tabs s.heap) (hP : ∀ P ∈ PS, base.get? P = none)
  (hd : A.depth + 6 < recursionLimit) (hu : A.units + 30 < cLine) (hh : A.handled = none)
  (e lk : Addr) (bm : Array UInt8) (big : Bool) (he : Eng base e bm big lk) (ms : List Int) (hl : ms.length = 64) (XK : Lkup w base lk ms) (b : Array UInt8) (t : Tok) (ks : List Int) (hb : KBw.bInts b = ks) (hz : ks.length ≤ 400) (hg4 : ks.length % 4 ≠ 1) (hgood : ∀ k ∈ ks, k ∈ ms)
  (hret : ∀ b' t' h' tk' gn', KeepT s.heap h' → BareTo s.gens gn' → KBw.bInts b' = octV ms big ks → Q (.bytes b' t') {s with heap := h', toks := tk', gens := gn'}) :
  wpAny (model rw_iw0008_01.prog w) A (call (.ref 112) [.ref e, .bytes b t]) Q E s := by
 have kb' := keep_hideT kb hP
 have G : Gd w mg mb s.heap := Gb.keeps kb
 have G' : Gd w mg mb (hideAll s.heap PS) := Gb.keeps kb'
 refine wpCall ?_
 have KX := G'.K
 revert KX
 k_fill
 intro KX
 refine enterKCT' (binds := [("self", .ref e), ("source", .bytes b t)]) G TB (by k_is) (by rfl) (by k_is) (by omega) (BindsTo.of_eq rfl) rfl (by decide +kernel) ?_ rfl rfl rfl
 intro L h₁ tk cells led F N XL Y hlt hll
 have T := G'.T
 have F : Fr (hideAll s.heap PS) L h₁ (fun y => if y = "source" then some (.bytes b t) else none) := F
 k_cells Y
 obtain ⟨dx, tb, k1, k2, k3, q1, q2, q3, nd, I⟩ := (he.keeps kb').ex
 try dsimp only
 rename _ = Data.cell _ => hself
 have hself : _ = Data.cell (some (.ref e)) := hself
 simp only [List.cons_append, List.nil_append] at N
 generalize hg : hideAll s.heap PS = g at *
 have C : CodeHd g 111 107 := ⟨_, _, _, _, _, _, _, _, _, KX _ _ (by k_is), rfl, rfl, rfl, rfl, rfl, rfl, rfl, rfl, by decide⟩
 obtain ⟨d1, d2⟩ := div4 ks.length hg4
 k_steps
 refine Stop.mk ?_
 rename Fr _ _ _ _ => F1
 rename News _ _ _ _ => N1
 refine list_K (by exact hh) (by exact F1) (by exact N1) hb (Nat.le_trans hz (by decide)) ?_
 intro lv vs n h2 tk2 F2 N2 hn2 hi hlL
 obtain ⟨hnt, hnc1, hnc2, hnl⟩ : _ ∧ L + 1 + 1 ≠ lv ∧ L + 1 ≠ lv ∧ ∀ p ∈ led, p.1 ≠ lv := by simpa only [List.forall_mem_cons] using hn2
 have N3 : News g L h2 ([(lv, W.listOf vs.toArray n)] ++ (L + 1 + 1, _) :: (L + 1, _) :: led) := fun p hp => N2 p (by
  rcases List.mem_cons.mp hp with rfl | hp
  ·exact .head _
  ·exact .tail _ (.tail _ hp))
 clear N2 N1 hn2
 try (k_unfold; (try dsimp only))
 refine storeC (own := [(lv, _)]) F2 N3 ?_ ?_ (by rfl) (by assumption) ?_ (by rfl) (by rfl)
 ·intro p hp; rw [List.mem_singleton.mp hp]; exact Ne.symm hnc1
 ·intro p hp
  rcases List.mem_cons.mp hp with rfl | hp
  ·exact Nat.ne_of_lt (Nat.lt_succ_self _)
  ·exact Nat.ne_of_lt (Nat.lt_trans (hll p hp) (Nat.lt_succ_of_lt (Nat.lt_succ_self _)))
 intro h3 oc F3 N4 hoc
 clear F2 N3
 have N4 : News g L h3 ((lv, W.listOf vs.toArray n) :: (L + 1 + 1, oc) :: (L + 1, _) :: led) := N4
 k_steps
 rename Fr _ _ _ _ => F1
 rename News _ _ _ _ => N1
 refine Stop.mk ?_
 refine nestDef_K rfl rfl rfl ?_
 refine nestT (x := mkDb) in_Db F1 (news := [_, _, _]) N1 XL G'.P C rfl ?_ rfl ?_
 ·intro p hp q
  obtain ⟨ps, e1⟩ := (XL.tabs (fun p hp => (N1 p (List.Mem.tail _ (List.Mem.tail _ (List.Mem.tail _ hp)))).1) F1.keep).there q
  rcases List.mem_cons.mp hp with rfl | hp
  ·have := (N1 _ (List.Mem.head _)).1
   rw [e1] at this
   cases this
  rcases List.mem_cons.mp hp with rfl | hp
  ·exact absurd (hlt _ q) (Nat.not_lt.mpr (Nat.le_succ_of_le (Nat.le_succ _)))
  ·rw [List.mem_singleton.mp hp] at q
   exact absurd (hlt _ q) (Nat.not_lt.mpr (Nat.le_succ _))
 intro f c' ctv doc h4 tk4 led2 F2 N2 XL2 CL hn2 hf2
 simp only [List.cons_append, List.nil_append] at N2
 clear F1 N1
 k_steps
 refine Stop.mk (wpAny_Try_except ?_)
 k_steps
 rename Fr _ _ _ _ => F3
 rename News _ _ _ _ => N3
 refine Stop.mk ?_
 refine gwrap_78 (by exact G'.keeps F3.keep) (by exact rm (b := 3) hd) (by exact rm (b := 13) hu) e lk bm big (by exact he.keeps (kb'.trans F3.keep)) f _ _ _ _ ?_
 intro Lg a h5 tk5 hne kk hLgn hns hsz hgen hga
 obtain ⟨oa, oL, nm, qn, ca, da, sa, nsL, N5, hnew, haL, hLL⟩ := gen_news F3 N3 kk hLgn hns hgen hga hne
 have F5 := F3.kept kk
 have hgl : g.objs.size ≤ Lg := Nat.le_trans F3.above (Nat.le_trans (Nat.le_of_lt F3.ns.lt) hsz)
 clear F3 N3 hgen hga hns hLgn kk
 k_steps
 rename Fr _ _ _ _ => F6
 rename News _ _ _ _ => N6
 refine Stop.mk ?_
 rename Fr _ _ _ _ => F7
 rename News _ _ _ _ => N7
 have hgn : Heap.IsGen _ a s.gens.size := ⟨oa, nm, qn, (N7 _ (List.Mem.head _)).1, ca, da, sa⟩
 have hlv7 := (N7 _ (List.Mem.tail _ (List.Mem.tail _ (List.Mem.tail _ (List.Mem.head _))))).1
 have Fg : Fr g Lg _ _ := ⟨nsL _ (N7 _ (List.Mem.tail _ (List.Mem.head _))).1, F7.keep, hgl⟩
 have hal : a ≠ lv := fun q => (hnew (lv, _) (by k_mem)).1 q.symm
 have hfl : f ≠ lv := Ne.symm (hn2 (lv, _) (by k_mem))
 have kn7 := news_knd N7
 have hledl := led_ne (led := led2) XL2 (fun p hp => (kn7 p (.tail _ (.tail _ (.tail _ (.tail _ hp))))).1) hlv7
 have Kg := news_at kn7 fun p hp => (hnew p (knd_sub p hp)).2
 have hlim := G'.T.nolimit.keeps F7.keep
 have hLgg := (N7 _ (List.Mem.tail _ (List.Mem.head _))).2.2
 have hlvg := (N7 _ (List.Mem.tail _ (List.Mem.tail _ (List.Mem.tail _ (List.Mem.head _))))).2.2
 have hLgN := Heap.lt_size (N7 _ (List.Mem.tail _ (List.Mem.head _))).1
 have haN := Heap.lt_size (N7 _ (List.Mem.head _)).1
 have hlen8 := octV_len ms big ks
 refine call_list_gen (walks_fn (gi := s.gens.size) (N := _) (wr := [Lg, lv]) (vals := octV ms big ks) (by exact hh) (by exact rm (b := 1) hd) haN (by obtain ⟨_, hn, _⟩ := hlim; exact hn.lt) ?_ ?_ ?_) (fun i s st => st.gen.typeIs) ?_ (fun b hb => List.mem_range.mp hb) (List.mem_range.mpr haN) ?_ (by rw [sizeLine_eq]; omega)
 ·intro b hb
  rcases List.mem_cons.mp hb with rfl | hb
  ·exact hLgN
  ·rw [List.mem_singleton.mp hb]
   exact Heap.lt_size hlv7
 ·intro q
  rcases List.mem_cons.mp q with q | q
  ·exact hne q
  ·exact hal (List.mem_singleton.mp q)
 ·obtain ⟨mc, hn, _⟩ := G'.T.nolimit
  obtain ⟨o, _, _, e1, _⟩ := hn
  intro q
  rcases List.mem_cons.mp q with q | q
  ·rw [q, hLgg] at e1; cases e1
  ·rw [List.mem_singleton.mp q, hlvg] at e1; cases e1
 ·refine gen_st (lv := lv) hgn hlim (by exact Array.getElem?_push_size ..) Fg Kg hLgN (fun p hp => Heap.lt_size (kn7 p hp).1) ?_
  intro s'' ot Fs Ns Xs
  exact segD G' (by exact rm (b := 5) hd) (by exact rm (b := 24) hu) (by exact hh) e lk bm big (he.keeps kb') ms hl (XK.keeps kb') hself hoc hi hgood (by omega) _ _ d1 d2 Fs Ns Xs CL hfl hnc2 hnc1 hledl ⟨hLgN, Heap.lt_size (kn7 _ (.head _)).1, Heap.lt_size (kn7 _ (.tail _ (.head _))).1, Heap.lt_size (kn7 _ (.tail _ (.tail _ (.head _)))).1, Heap.lt_size hlv7, fun p hp => Heap.lt_size (kn7 p (.tail _ (.tail _ (.tail _ (.tail _ hp))))).1⟩
 ·intro s' acc' c8 mv hS8 hacc
  rw [moved_eq mv]
  have kh : ∀ b o, b ≠ Lg → b ≠ lv → _ → s'.heap.get? b = some o := fun b o h1 h2 e1 => mv.heap b o (fun q => by
   rcases List.mem_cons.mp q with q | q
   ·exact absurd (Heap.lt_size e1) (by rw [q]; exact Nat.lt_irrefl _)
   rcases List.mem_cons.mp q with q | q
   ·exact h1 q
   ·exact h2 (List.mem_singleton.mp q)) (Heap.get?_push_of_some _ e1)
  have F8 : Fr g L s'.heap _ := ⟨F7.ns.at' fun o e1 => kh L o (Ne.symm hLL) (Ne.symm hlL) e1, fun b o e1 => kh b o (fun q => by rw [q, hLgg] at e1; cases e1) (fun q => by rw [q, hlvg] at e1; cases e1) (F7.keep b o e1), F7.above⟩
  have N8 : News g L s'.heap ((_, W.listOf acc'.toList.toArray c8) :: led2) := fun p hp => by
   rcases List.mem_cons.mp hp with rfl | hp
   ·exact ⟨by rw [Array.toArray_toList]; exact hS8, Nat.ne_of_gt F7.ns.lt, fresh_below F7.keep size_free⟩
   ·have n7 := kn7 p (.tail _ (.tail _ (.tail _ (.tail _ hp))))
    exact ⟨kh _ _ (hnew p (.tail _ (.tail _ (.tail _ (.tail _ hp))))).2 (hledl p hp) n7.1, n7.2⟩
  have hys := of_ints (allR_of_places (V := fun (k : Int) v => ∃ u, v = .int k u) (octV ms big ks) acc'.toList (by simpa using hacc.1) fun i v hv => by
   obtain ⟨t1, rfl⟩ := hacc.2 i v (by simpa using hv)
   have hi2 : i < (octV ms big ks).length := by rw [← hacc.1]; exact (Array.getElem?_eq_some_iff.mp (by simpa using hv)).1
   exact ⟨_, by simp [List.getD_eq_getElem?_getD, hi2], _, rfl⟩)
  clear F7 N7
  k_steps
  refine KBa.make_K (by exact F8) (by exact N8) (by exact hh) (by exact N8.isList (List.Mem.head _)) hys (fun x hx => octV_in hl hgood x hx) (by omega) ?_
  intro h9 t9 k9 F9 N9 hin
  clear F8 N8
  rename Fr _ _ _ _ => F10
  rename News _ _ _ _ => N10
  exact hret _ _ _ _ _ (XL2.keepT (news := []) (by rw [hg]; exact F10) fun p hp => (N10 p (List.Mem.tail _ hp)).1) (bare_push mv.gens) (KBa.ints_make hin)
end
section
local macro_rules | `(tactic| walk_at "z") => `(tactic| skip)
local macro_rules | `(tactic| walk_at "binaryOp Mult ref int") => `(tactic| walk_at "stop")
theorem fill_next {arr : Array Value} {os ts : List Int} {i : Nat} {y : Int} {u : Tok} (h0 : 0 ≤ os.getD i 0) (hn : (os.getD i 0).toNat < arr.size) (hi : i < os.length) (hf : ∀ j : Nat, (j : Int) ∈ os.take i → ∃ t, arr[j]? = some (.int (ts.getD j 0) t)) (hy : y = ts.getD (os.getD i 0).toNat 0) :
  ∀ j : Nat, (j : Int) ∈ os.take (i + 1) → ∃ t, (arr.setIfInBounds (os.getD i 0).toNat (.int y u))[j]? = some (.int (ts.getD j 0) t) := fun j hj => by
 by_cases hjk : j = (os.getD i 0).toNat
 ·subst hjk
  exact ⟨u, by rw [Array.getElem?_setIfInBounds_self_of_lt hn, hy]⟩
 ·rw [List.take_succ_eq_append_getElem hi] at hj
  rcases List.mem_append.mp hj with hj | hj
  ·obtain ⟨t, ht⟩ := hf j hj
   exact ⟨t, by rw [Array.getElem?_setIfInBounds_ne (Ne.symm hjk)]; exact ht⟩
  ·rw [List.mem_singleton] at hj
   have : os.getD i 0 = (j : Int) := by rw [hj, List.getD_eq_getElem?_getD, List.getElem?_eq_getElem hi]; rfl
   exact (hjk (by rw [this]; rfl)).elim
inductive JT (lb lo e : Addr) (led2 : List (Addr × Obj)) (b b2 : Array UInt8) (t t2 : Tok) (os ts : List Int) (i : Nat) (m : Str → Option Value) (news : List (Addr × Obj)) : Prop
 | mk (u1 u2 ob arr n) (hm : m = (fun y => if y = (Str.ofString "char") then u2 else if y = "off" then u1 else if y = "buf" then some (.ref lb) else if y = "tmp" then some (.bytes b2 t2) else if y = "offsets" then some (.ref lo) else if y = "source" then some (.bytes b t) else if y = "self" then some (.ref e) else none)) (hn : news = (lb, ob) :: led2) (c : ob.cls = .type "list") (d : ob.data = .seq arr n) (z : arr.size = os.length) (f : ∀ j : Nat, (j : Int) ∈ os.take i → ∃ t, arr[j]? = some (.int (ts.getD j 0) t)) : JT lb lo e led2 b b2 t t2 os ts i m news
theorem decT_spec {w : World} {mg mb : Str → Option Value} {A : Around} {s : Shared} {Q E : Value → Shared → Prop} {base : Heap} (Gb : Gd w mg mb base) (kb : Keep base s.heap)
  (TB : Tabs s.heap) (hP : ∀ P ∈ PS, base.get? P = none)
  (hd : A.depth + 7 < recursionLimit) (hu : A.units + 33 < cLine) (hh : A.handled = none)
  (e lk : Addr) (bm : Array UInt8) (big : Bool) (he : Eng base e bm big lk) (ms : List Int) (hl : ms.length = 64) (XK : Lkup w base lk ms) (b : Array UInt8) (t : Tok) (ks : List Int) (hb : KBw.bInts b = ks) (hz : ks.length ≤ 200) (hg4 : ks.length % 4 ≠ 1) (hgood : ∀ k ∈ ks, k ∈ ms)
  (lo : Addr) (vs : List Value) (os : List Int) (hlo : s.heap.IsList lo vs.toArray) (hio : IntsAre vs os) (hos : os.length = (octV ms big ks).length) (hin : ∀ o ∈ os, 0 ≤ o ∧ o < os.length)
  (ts : List Int) (hts : ts.length = os.length) (hoct : ∀ j, j < os.length → (octV ms big ks).getD j 0 = ts.getD (os.getD j 0).toNat 0) (hall : ∀ i : Nat, i < os.length → (i : Int) ∈ os) (htb : ∀ x ∈ ts, 0 ≤ x ∧ x < 256)
  (hret : ∀ b' t' h' tk' gn', KeepT s.heap h' → BareTo s.gens gn' → KBw.bInts b' = ts → Q (.bytes b' t') {s with heap := h', toks := tk', gens := gn'}) :
  wpAny (model rw_iw0008_01.prog w) A (call (.ref 175) [.ref e, .bytes b t, .ref lo]) Q E s := by
 have kb' := keep_hideT kb hP
 have G : Gd w mg mb s.heap := Gb.keeps kb
 have G' : Gd w mg mb (hideAll s.heap PS) := Gb.keeps kb'
 refine wpCall ?_
 have KX := G'.K
 revert KX
 k_fill
 intro KX
 refine enterKCT' (binds := [("self", .ref e), ("source", .bytes b t), ("offsets", .ref lo)]) G TB (by k_is) (by rfl) (by k_is) (by omega) (BindsTo.of_eq rfl) rfl (by decide +kernel) ?_ rfl rfl rfl
 intro L h₁ tk cells led F N XL Y hlt hll
 have T := G'.T
 have F : Fr (hideAll s.heap PS) L h₁ (fun y => if y = "offsets" then some (.ref lo) else if y = "source" then some (.bytes b t) else if y = "self" then some (.ref e) else none) := F
 have hce := cells_none Y (by rfl)
 subst hce
 obtain ⟨dx, tb, k1, k2, k3, q1, q2, q3, nd, I⟩ := (he.keeps kb').ex
 have hlo' : (hideAll s.heap PS).IsList lo vs.toArray := by
  obtain ⟨o, h1, h2, n, h3⟩ := hlo
  refine ⟨o, hideAll_get _ h1 fun q => ?_, h2, n, h3⟩
  obtain ⟨ps, e1⟩ := TB.there q
  rw [h1] at e1; cases e1; cases h3
 have hos4 : os.length ≤ 200 := Nat.le_trans (Nat.le_of_eq ‹os.length = _›) (Nat.le_trans (octV_len ms big ks) ‹ks.length ≤ 200›)
 try dsimp only
 simp only [List.nil_append] at N
 generalize hg : hideAll s.heap PS = g at *
 k_steps
 refine Stop.mk ?_
 rename Fr _ _ _ _ => F1
 rename News _ _ _ _ => N1
 have TB1 := XL.tabs (fun p hp => (N1 p hp).1) F1.keep
 refine decB_spec Gb (by exact kb'.trans F1.keep) (by exact TB1) hP (by exact rm (b := 7) hd) (by exact rm (b := 33) hu) (by exact hh) e lk bm big he ms hl XK b _ ks hb (Nat.le_trans hz (by decide)) hg4 hgood ?_
 intro b2 t2 h2 tk2 gn2 kk2 hg2 hb2
 obtain ⟨led2, XL2, F2, N2⟩ := XL.step (news := []) F1 N1 kk2 (fun _ h => nomatch h)
 have N2 : News g L h2 led2 := N2
 clear F1 N1
 k_steps
 rename Fr _ _ _ _ => F3
 rename News _ _ _ _ => N3
 refine Stop.mk ?_
 refine KMa.mul (by exact F3) (by exact N3) (by exact N3.isList (List.Mem.head _)) (by omega) (by omega) (by simp only [List.length_cons, List.length_nil]; omega) rfl ?_
 intro lb h3 F4 N4 hlb
 have hnl : ∀ p ∈ led2, p.1 ≠ lb := fun p hp => Nat.ne_of_lt (hlb p (.tail _ hp))
 have N4 : News g L h3 ((lb, _) :: led2) := fun p hp => N4 p (by
  rcases List.mem_cons.mp hp with rfl | hp
  ·exact .head _
  ·exact .tail _ (.tail _ hp))
 clear F3 N3
 k_steps
 refine Stop.mk ?_
 refine For_zip (g := g) (L := L) (by exact hh) ?_ (by intro _; rfl)
 k_steps
 refine Stop.mk ?_
 rename Fr _ _ _ _ => F5
 rename News _ _ _ _ => N5
 refine call_zip_by (by exact hlo'.at fun o e => F5.keep _ o e) ?_
 intro z TI TO i1 i2 h5 D S kk5 hge
 have F6 := F5.kept kk5
 have N6 := newsKeep N5 kk5
 have hvl : vs.length = os.length := hio.length
 have hbl : b2.size = os.length := by rw [← KBw.ints_length, hb2]; exact hos.symm
 refine Stop.mk ⟨z, TI, TO, i1, i2, lo, vs.toArray, b2, t2, _, _, rfl, D, S, by rw [List.size_toArray]; omega, F6, N6, hlo', fun c hc => ?_, fun p hp q => ?_, JT lb lo e led2 b b2 t t2 os ts, ?_, ?_, ?_⟩
 ·have h1 := hge c hc
  exact ⟨fun q => absurd F5.ns.lt (Nat.not_lt.mpr (q ▸ h1)), fresh_below F5.keep (Heap.get?_none_of_le h1)⟩
 ·exact absurd (Heap.lt_size (N5 p hp).1) (Nat.not_lt.mpr (hge _ q))
 ·exact ⟨none, none, _, _, _, (map_none rfl).trans (map_none rfl), rfl, rfl, rfl, by simp, fun j hj => nomatch hj⟩
 ·rintro i zs Q' hQ x y u m news h tk T hx hy ⟨u1, u2, ob, arr, n, rfl, rfl, hcls, hdat, hsz, hfill⟩ F N hzs hnz hnT
  clear F5 N5 F6 N6
  have hil : i < os.length := by
   have := (List.getElem?_eq_some_iff.mp (show vs[i]? = some x by simpa using hx)).1
   omega
  obtain ⟨tx, rfl⟩ : ∃ tx, x = .int (os.getD i 0) tx := by
   obtain ⟨a, q, r⟩ := (ints_of hio).get' (show vs[i]? = some x by simpa using hx)
   obtain ⟨tx, r⟩ := r
   exact ⟨tx, by rw [r, List.getD_eq_getElem?_getD, q]; rfl⟩
  have hob := hin _ (getD_mem hil)
  have N : News g L h ((T, _) :: (lb, ob) :: (led2 ++ zs)) := N
  k_steps
  rename Fr _ _ _ _ => F7
  rename News _ _ _ _ => N7
  refine Stop.mk ?_
  refine wpAny_setItem_list (by exact ⟨ob, (N7 (lb, ob) (List.Mem.tail _ (List.Mem.head _))).1, hcls, n, hdat⟩) hob.1 (by first | exact (Int.toNat_lt hob.1).2 (by rw [hsz]; exact hob.2) | (rw [hsz]; exact hob.2) | exact Int.lt_trans hob.2 (Int.lt_of_le_of_lt (Int.ofNat_le.2 hos4) (by decide)) | omega) (by first | exact (Int.toNat_lt hob.1).2 (by rw [hsz]; exact hob.2) | (rw [hsz]; exact hob.2) | exact Int.lt_trans hob.2 (Int.lt_of_le_of_lt (Int.ofNat_le.2 hos4) (by decide)) | omega) ?_
  intro h8 hl8 hs8
  obtain ⟨ob8, g8, c8, n8, d8⟩ := hl8
  have k8 : ∀ b o, b ≠ lb → _ → h8.get? b = some o := fun b o hb e => hs8.extBut b o hb e
  have nlb := N7 (lb, ob) (List.Mem.tail _ (List.Mem.head _))
  have F8 := fr_but F7 nlb.2.1 nlb.2.2 k8
  have hzl : ∀ p ∈ zs, p.1 ≠ lb := fun p hp q => hnz (lb, ob) (List.Mem.head _) (by
   have : p.1 ∈ zs.map (·.1) := List.mem_map_of_mem hp
   rw [hzs, q] at this
   exact this)
  have N8 : News g L h8 ((lb, ob8) :: (led2 ++ zs)) := fun p hp => by
   rcases List.mem_cons.mp hp with rfl | hp
   ·exact ⟨g8, nlb.2⟩
   ·have n7 := N7 p (List.Mem.tail _ (List.Mem.tail _ hp))
    exact ⟨k8 _ _ ((List.mem_append.mp hp).elim (hnl p) (hzl p)) n7.1, n7.2⟩
  clear F7 N7
  k_steps
  rename Fr _ _ _ _ => F9
  rename News _ _ _ _ => N9
  refine hQ _ _ _ ((lb, ob8) :: led2) F9 N9 (fun p hp => ?_) ⟨_, _, ob8, _, n8, funext (sm ["char", "off"]), rfl, c8, d8, by rw [Array.size_setIfInBounds]; exact hsz, ?_⟩
  ·rcases List.mem_cons.mp hp with rfl | hp
   ·exact hnz (lb, ob) (List.Mem.head _)
   ·exact hnz p (List.Mem.tail _ hp)
  ·exact fill_next hob.1 (by first | exact (Int.toNat_lt hob.1).2 (by rw [hsz]; exact hob.2) | (rw [hsz]; exact hob.2) | exact Int.lt_trans hob.2 (Int.lt_of_le_of_lt (Int.ofNat_le.2 hos4) (by decide)) | omega) hil hfill (by
    rw [← hoct i hil, ← hb2, List.getD_eq_getElem?_getD, KBw.ints_get hy]; rfl)
 ·rintro m news h tk ⟨u1, u2, ob, arr, n, rfl, rfl, hcls, hdat, hsz, hfill⟩ F N
  clear F5 N5 F6 N6
  have hfill := fun (j : Nat) (hj : (j : Int) ∈ os) => hfill j (by rw [List.take_of_length_le (by rw [List.size_toArray]; omega)]; exact hj)
  have hys := of_ints (allR_of_places (V := fun (k : Int) v => ∃ u, v = .int k u) ts arr.toList (by simp [hts, hsz]) fun i v hv => by
   have hi2 : i < os.length := by rw [← hsz]; exact (Array.getElem?_eq_some_iff.mp (by simpa using hv)).1
   obtain ⟨t1, ht1⟩ := hfill i (hall i hi2)
   have hv2 : arr[i]? = some v := by simpa using hv
   rw [ht1] at hv2
   cases hv2
   have hi3 : i < ts.length := Nat.lt_of_lt_of_eq hi2 hts.symm
   exact ⟨_, by simp [List.getD_eq_getElem?_getD, hi3], _, rfl⟩)
  k_steps
  refine KBa.make_K (by exact F) (by exact N) (by exact hh) (by exact ⟨ob, (N (lb, ob) (List.Mem.head _)).1, hcls, n, by rw [Array.toArray_toList]; exact hdat⟩) hys (fun x hx => htb x hx) (by omega) ?_
  intro h9 t9 k9 F9 N9 hin9
  exact hret _ _ _ _ _ (XL2.keepT (news := []) (by rw [hg]; exact F9) fun p hp => (N9 p (List.Mem.tail _ hp)).1) hg2 (KBa.ints_make hin9)
end
theorem encT_spec {w : World} {mg mb : Str → Option Value} {A : Around} {s : Shared} {Q E : Value → Shared → Prop} {base : Heap} (Gb : Gd w mg mb base) (kb : Keep base s.heap)
  (TB : Tabs s.heap) (hP : ∀ P ∈ PS, base.get? P = none)
  (hd : A.depth + 7 < recursionLimit) (hu : A.units + 33 < cLine) (hh : A.handled = none)
  (e lk : Addr) (bm : Array UInt8) (big : Bool) (he : Eng base e bm big lk) (ms : List Int) (hk : KBw.bInts bm = ms) (hl : ms.length = 64) (b : Array UInt8) (t : Tok) (ks : List Int) (hb : KBw.bInts b = ks) (hz : ks.length ≤ 400)
  (lo : Addr) (vs : List Value) (os : List Int) (hlo : s.heap.IsList lo vs.toArray) (hio : IntsAre vs os) (hos : os.length ≤ 400) (hin : ∀ o ∈ os, 0 ≤ o ∧ o < ks.length)
  (hret : ∀ b' t' h' tk' gn', KeepT s.heap h' → BareTo s.gens gn' → KBw.bInts b' = signs ms (encV big (os.map fun o => ks.getD o.toNat 0)) → Q (.bytes b' t') {s with heap := h', toks := tk', gens := gn'}) :
  wpAny (model rw_iw0008_01.prog w) A (call (.ref 168) [.ref e, .bytes b t, .ref lo]) Q E s := by
 have G : Gd w mg mb s.heap := Gb.keeps kb
 refine wpCall ?_
 have KX := G.K
 revert KX
 k_fill
 intro KX
 refine enterKC (binds := [("self", .ref e), ("source", .bytes b t), ("offsets", .ref lo)]) G (by k_is) (by rfl) (by k_is) (by omega) (BindsTo.of_eq rfl) rfl (by decide +kernel) ?_ rfl rfl rfl
 intro L h₁ tk cells F N Y
 have T := G.T
 have F : Fr s.heap L h₁ (fun y => if y = "offsets" then some (.ref lo) else if y = "self" then some (.ref e) else none) := F
 k_cells Y
 obtain ⟨dx, tb, k1, k2, k3, q1, q2, q3, nd, I⟩ := (he.keeps kb).ex
 try dsimp only
 rename _ = Data.cell _ => hsrc
 have hsrc : _ = Data.cell (some (.bytes b t)) := hsrc
 k_steps
 refine Stop.mk ?_
 rename Fr _ _ _ _ => F2
 rename News _ _ _ _ => N2
 refine eval_comp (cl := [(Str.ofString "source", L + 1)]) IsI (fun o => IsI (ks.getD o.toNat 0)) os (fun a b v => isI_inj) (by rfl) (by rfl) (by rfl) (by rfl) (by rfl) ?_ (by intro _; rfl)
 k_steps
 rename Fr _ _ _ _ => F1
 rename News _ _ _ _ => N1
 refine Stop.mk ⟨_, ⟨_, _, src_ints (by exact hh) (hlo.at fun o e => F1.keep _ o e) hio, by rw [sizeLine_eq, List.size_toArray, hio.length]; omega, by rw [List.size_toArray, hio.length], fun _ _ h => h, ?_⟩, ?_⟩
 ·intro C a va s₃ m₃ E'' ha hv F hm
  obtain ⟨ta, rfl⟩ := hv
  have ha := hin a ha
  have ho := N1.get (show (L + 1, _) ∈ _ by k_mem)
  have k0 : Keep s.heap _ := F1.keep
  have KX' := KX.keeps k0
  have T' := T.keeps k0
  clear F1 N1 KX T I
  k_steps
  exact Stop.mk ⟨⟨_, rfl⟩, ⟨_, _, rfl, fun _ _ e => e⟩⟩
 ·intro D ys h' tk' n' hR hkk hD hl'
  obtain ⟨N5, hn5⟩ := news_more F1 N1 (fun b o _ e => hkk b o e) hD hl'
  have F5 : Fr s.heap L h' _ := F1.kept hkk
  have hys := of_ints (AllR.map (S := IsI) _ hR)
  clear F1 N1
  k_steps
  have hbs : ∀ x ∈ ks, 0 ≤ x ∧ x < 256 := bInts_in hb
  refine KBa.make_K (by exact F5) (by exact N5) (by exact hh) (by exact N5.isList (List.Mem.head _)) hys (fun x hx => by obtain ⟨o, _, rfl⟩ := List.mem_map.mp hx; exact KBw.getD_in hbs) (by rw [List.length_map]; omega) ?_
  intro h9 t9 k9 F9 N9 hin9
  clear F5 N5
  k_steps
  refine Stop.mk ?_
  rename Fr _ _ _ _ => F10
  refine encB_spec Gb (by exact kb.trans F10.keep) (by exact TB.keeps F10.keep) hP (by exact rm (b := 7) hd) (by exact rm (b := 33) hu) (by exact hh) e lk bm big he ms hk hl _ _ _ (KBa.ints_make hin9) (by rw [List.length_map]; omega) ?_
  intro b' t' h' tk' gn' kk hg hbb
  exact hret b' t' h' tk' gn' ((KeepT.of TB F10.keep).trans TB kk) hg hbb
theorem foreign_spec {w : World} {mg mb : Str → Option Value} {A : Around} {s : Shared} {Q E : Value → Shared → Prop} {f : Addr} (G : Gd w mg mb s.heap) (hf : FnAt s.heap 16 f)
  (hd : A.depth + 1 < recursionLimit) (hu : A.units + 8 < cLine) (v : Int) (t : Tok)
  (hret : ∀ t' h' tk', Keep s.heap h' → Q (.int (if v < 46 then v else if v < 53 then v + 12 else if v < 59 then v + 38 else v + 64) t') {s with heap := h', toks := tk'}) :
  wpAny (model rw_iw0008_01.prog w) A (call (.ref f) [.int v t]) Q E s := by
 refine wpCall ?_
 obtain ⟨o, pm, cd, doc, ho, hd', hc⟩ := hf.ex
 refine enterC G [] (fun _ h => nomatch h) (binds := [("number", .int v t)]) (by omega) ho hd' hc (BindsTo.of_eq rfl) rfl (by decide +kernel) ?_ rfl rfl rfl
 intro g L h₁ tk cells hg _ F N Y
 rw [List.map_nil, nothing_hidden] at hg
 subst hg
 have KX := G.K
 have T := G.T
 clear ho hd' hc
 have F : Fr s.heap L h₁ (fun y => if y = "number" then some (.int v t) else none) := F
 revert KX
 k_fill
 intro KX
 try dsimp only
 k_steps
 all_goals
  rename Fr _ _ _ _ => F2
  simp only [*, if_true, if_false] at hret
  exact hret _ _ _ F2.keep
theorem sizes_spec {w : World} {mg mb : Str → Option Value} {A : Around} {s : Shared} {Q E : Value → Shared → Prop} {f : Addr} (G : Gd w mg mb s.heap) (hf : FnAt s.heap 13 f)
  (hd : A.depth + 1 < recursionLimit) (hu : A.units + 8 < cLine)
  (hret : ∀ D t1 t2 t3 t4 t5 n h' tk', Keep s.heap h' → s.heap.get? D = none → h'.get? D = some (W.listOf #[.int 6 t1, .int 12 t2, .int 24 t3, .int 30 t4, .int 64 t5] n) → Q (.ref D) {s with heap := h', toks := tk'}) :
  wpAny (model rw_iw0008_01.prog w) A (call (.ref f) []) Q E s := by
 refine wpCall ?_
 obtain ⟨o, pm, cd, doc, ho, hd', hc⟩ := hf.ex
 refine enterC G [] (fun _ h => nomatch h) (binds := []) (by omega) ho hd' hc (BindsTo.of_eq rfl) rfl (by decide +kernel) ?_ rfl rfl rfl
 intro g L h₁ tk cells hg _ F N Y
 rw [List.map_nil, nothing_hidden] at hg
 subst hg
 have hce := cells_none Y (by rfl)
 subst hce
 have KX := G.K
 have T := G.T
 clear ho hd' hc
 have F : Fr s.heap L h₁ (fun _ => none) := F
 have N : News s.heap L h₁ [] := N
 revert KX
 k_fill
 intro KX
 try dsimp only
 k_steps
 rename Fr _ _ _ _ => F2
 rename News _ _ _ _ => N2
 exact hret _ _ _ _ _ _ _ _ _ F2.keep (N2.fresh (List.Mem.head _)) (N2.get (List.Mem.head _))
theorem maps_spec {w : World} {mg mb : Str → Option Value} {A : Around} {s : Shared} {Q E : Value → Shared → Prop} {f : Addr} (G : Gd w mg mb s.heap) (hf : FnAt s.heap 12 f)
  (hd : A.depth + 1 < recursionLimit) (hu : A.units + 8 < cLine)
  (hret : ∀ D t1 t2 t3 n h' tk', Keep s.heap h' → s.heap.get? D = none → h'.get? D = some (W.listOf #[.str h64S t1, .str h64S t2, .str bcryptS t3] n) → Q (.ref D) {s with heap := h', toks := tk'}) :
  wpAny (model rw_iw0008_01.prog w) A (call (.ref f) []) Q E s := by
 refine wpCall ?_
 obtain ⟨o, pm, cd, doc, ho, hd', hc⟩ := hf.ex
 refine enterC G [] (fun _ h => nomatch h) (binds := []) (by omega) ho hd' hc (BindsTo.of_eq rfl) rfl (by decide +kernel) ?_ rfl rfl rfl
 intro g L h₁ tk cells hg _ F N Y
 rw [List.map_nil, nothing_hidden] at hg
 subst hg
 have hce := cells_none Y (by rfl)
 subst hce
 have KX := G.K
 have T := G.T
 clear ho hd' hc
 have F : Fr s.heap L h₁ (fun _ => none) := F
 have N : News s.heap L h₁ [] := N
 revert KX
 k_fill
 intro KX
 try dsimp only
 k_steps
 rename Fr _ _ _ _ => F2
 rename News _ _ _ _ => N2
 exact hret _ _ _ _ _ _ _ F2.keep (N2.fresh (List.Mem.head _)) (N2.get (List.Mem.head _))
theorem charmap_code {w : World} {mg mb : Str → Option Value} {A : Around} {s : Shared} {R : Result → Shared → Prop} (G : Gd w mg mb s.heap)
  (hd : A.depth + 1 < recursionLimit) (hu : A.units + 8 < cLine) (hh : A.handled = none)
  (e lk : Addr) (bm : Array UInt8) (big : Bool) (he : Eng s.heap e bm big lk) {x : Str} (hx : MapOf bm x)
  (hret : ∀ t' h' tk', Keep s.heap h' → R (.ok (.ret (.str x t'))) {s with heap := h', toks := tk'}) :
  codeAny (model rw_iw0008_01.prog w) A (.call (.ref 85) ⟨[.ref e], []⟩) R s := by
 have KX := G.K
 revert KX
 k_fill
 intro KX
 refine enterK (binds := [("self", .ref e)]) G (by k_is) (by rfl) (by k_is) (by omega) (BindsTo.of_eq rfl) (by decide) (by rintro x (_ | ⟨_, _ | _⟩) <;> rfl) ?_ rfl rfl rfl
 intro L h₁ F N
 have T := G.T
 have F : Fr s.heap L h₁ (fun y => if y = "self" then some (.ref e) else none) := F
 obtain ⟨dx, tb, k1, k2, k3, q1, q2, q3, nd, I⟩ := he.ex
 try dsimp only
 k_steps
 refine Stop.mk (latin_K (by assumption) fun td tkd => ?_)
 k_steps
 rename Fr _ _ _ _ => F2
 exact hret _ _ _ F2.keep
section
noncomputable def lawB : List Stmt := match (rw_iw0008_01.prog.main.body[19]? : Option Stmt) with
 | some (.FunctionDef _ _ body _ _ _ _ _ _ _) => body
 | _ => []
noncomputable def lawS : Scope := match (rw_iw0008_01.prog.main.body[19]? : Option Stmt) with
 | some (.FunctionDef _ _ _ _ _ _ scope _ _ _) => scope
 | _ => default
noncomputable def lawLp : List Stmt := match (lawB[6]? : Option Stmt) with
 | some (.For _ _ body _ _) => body
 | _ => []
theorem execs_lit {M : Model} {A : Around} {b r : List Stmt} {c : Stmt} {env : Env} {Q : Flow → Shared → Prop} {E : Value → Shared → Prop} {s : Shared} (h : b = c :: r) (k : wpAny M A (execs (c :: r) env) Q E s) : wpAny M A (execs b env) Q E s := h ▸ k
theorem isPS_fields {h₀ g h : Heap} {L : Addr} {news led : List (Addr × Obj)} (X : Led h₀ g led) (N : News g L h (news ++ led)) (hn : ∀ p ∈ news, ∀ vs, p.2.data ≠ .fields vs) : ∀ p ∈ news, p.1 ∉ PS := fun p hp hq => by
 obtain ⟨o, ho⟩ := X.tab hq
 have e1 := (N p (List.mem_append_left _ hp)).1
 have e2 := (N _ (List.mem_append_right _ ho)).1
 rw [e1] at e2; cases e2
 obtain ⟨vs, hv⟩ := X.kind _ ho
 exact hn p hp vs hv
theorem head_PS {h₀ g h : Heap} {L : Addr} {a : Addr × Obj} {base led : List (Addr × Obj)} (X : Led h₀ g led) (N : News g L h (a :: (base ++ led))) (ha : ∀ vs, a.2.data ≠ .fields vs) (hb : ∀ p ∈ base, p.1 ∉ PS) : ∀ p ∈ a :: base, p.1 ∉ PS := fun p hp => by
 rcases List.mem_cons.mp hp with rfl | hp
 ·exact isPS_fields (news := [p]) X (news_sub N fun q hq => by
   rcases List.mem_append.mp hq with hq | hq
   ·rw [List.mem_singleton] at hq; subst hq; exact List.mem_cons_self
   ·exact List.mem_cons_of_mem _ (List.mem_append_right _ hq)) (fun q hq vs e => by rw [List.mem_singleton] at hq; subst hq; exact ha vs e) _ List.mem_cons_self
 ·exact hb p hp
theorem isPS_other {h₀ g : Heap} {led : List (Addr × Obj)} (X : Led h₀ g led) {I : Addr} (hn : ∀ p ∈ led, @Ne Nat p.1 I) : I ∉ PS := fun hq => by
 obtain ⟨o, ho⟩ := X.tab hq
 exact hn _ ho rfl
theorem news_mid {g h : Heap} {L : Addr} {a led : List (Addr × Obj)} {i : Addr × Obj} (N : News g L h (a ++ led ++ [i])) : News g L h (a ++ [i] ++ led) := news_sub N fun p hp => by
 rcases List.mem_append.mp hp with hp | hp
 ·rcases List.mem_append.mp hp with hp | hp
  ·exact List.mem_append_left _ (List.mem_append_left _ hp)
  ·exact List.mem_append_right _ hp
 ·exact List.mem_append_left _ (List.mem_append_right _ hp)
theorem execs_app_wp {M : Model} {env : Env} {b : List Stmt} {Q : Flow → Shared → Prop} {E : Value → Shared → Prop} (Γ : PySem.Ctx) : ∀ (a : List Stmt) (p : Pos) (s : Shared),
  Sem.wp M Γ (execs a env) (fun fl p' s' => match fl with | .next => Sem.wp M Γ (execs b env) (fun f _ s => Q f s) (fun e _ s => E e s) p' s' | f => Q f s') (fun e _ s => E e s) p s →
  Sem.wp M Γ (execs (a ++ b) env) (fun f _ s => Q f s) (fun e _ s => E e s) p s
 | [], _, _, h => h
 | st :: a, p, s, h => by
  rw [List.cons_append, execs_cons, Sem.wp_bind']
  rw [execs_cons, Sem.wp_bind'] at h
  refine Sem.wp_mono M Γ _ (fun fl p' s' h' => ?_) (fun _ _ _ x => x) p s h
  cases fl with
  | next => exact execs_app_wp Γ a p' s' h'
  | _ => exact h'
theorem execs_app {M : Model} {A : Around} {env : Env} {a b : List Stmt} {Q : Flow → Shared → Prop} {E : Value → Shared → Prop} {s : Shared}
  (h : wpAny M A (execs a env) (fun fl s' => match fl with | .next => Stop (wpAny M A (execs b env) Q E s') | f => Q f s') E s) : wpAny M A (execs (a ++ b) env) Q E s := fun Γ p hΓ =>
 execs_app_wp Γ a p s (Sem.wp_mono M Γ _ (fun fl p' s' h' => by
  cases fl with
  | next => exact h' Γ p' hΓ
  | _ => exact h') (fun _ _ _ x => x) p s (h Γ p hΓ))
theorem execs_cut1 {M : Model} {A : Around} {env : Env} {l r : List Stmt} {a : Stmt} {Q : Flow → Shared → Prop} {E : Value → Shared → Prop} {s : Shared} (e : l = a :: r)
  (h : wpAny M A (execs [a] env) (fun fl s' => match fl with | .next => Stop (wpAny M A (execs r env) Q E s') | f => Q f s') E s) : wpAny M A (execs l env) Q E s := by
 subst e; exact execs_app (a := [a]) h
theorem execs_cut2 {M : Model} {A : Around} {env : Env} {l r : List Stmt} {a b : Stmt} {Q : Flow → Shared → Prop} {E : Value → Shared → Prop} {s : Shared} (e : l = a :: b :: r)
  (h : wpAny M A (execs [a, b] env) (fun fl s' => match fl with | .next => Stop (wpAny M A (execs r env) Q E s') | f => Q f s') E s) : wpAny M A (execs l env) Q E s := by
 subst e; exact execs_app (a := [a, b]) h
theorem execs_cut3 {M : Model} {A : Around} {env : Env} {l r : List Stmt} {a b c : Stmt} {Q : Flow → Shared → Prop} {E : Value → Shared → Prop} {s : Shared} (e : l = a :: b :: c :: r)
  (h : wpAny M A (execs [a, b, c] env) (fun fl s' => match fl with | .next => Stop (wpAny M A (execs r env) Q E s') | f => Q f s') E s) : wpAny M A (execs l env) Q E s := by
 subst e; exact execs_app (a := [a, b, c]) h
theorem execs_cut4 {M : Model} {A : Around} {env : Env} {l r : List Stmt} {a b c d : Stmt} {Q : Flow → Shared → Prop} {E : Value → Shared → Prop} {s : Shared} (e : l = a :: b :: c :: d :: r)
  (h : wpAny M A (execs [a, b, c, d] env) (fun fl s' => match fl with | .next => Stop (wpAny M A (execs r env) Q E s') | f => Q f s') E s) : wpAny M A (execs l env) Q E s := by
 subst e; exact execs_app (a := [a, b, c, d]) h
section
variable {M : Model} {A : Around} {E : Value → Shared → Prop} {s : Shared} {env : Env} {pos : Pos} {Q : Value → Shared → Prop} {g : Heap} {i : Nat} {f : Addr}
theorem callWith_at {e : Expr} {rest : List Expr}
  (h : wpAny M A (spliced (backTo pos (starEach (e :: rest) env))) (fun vs s₁ => Stop (Keep g s₁.heap ∧ wpAny M A (call (.ref f) vs) Q E s₁)) E s) (X : FnAt g i f := by assumption)
  (he : starEach (e :: rest) env = (false, eval e env) :: starEach rest env := by rfl) :
  wpAny M A (callWith pos (.ref f) [] (backTo pos (starEach (e :: rest) env)) []) Q E s := by
 obtain ⟨o, pm, cd, doc, ho, hd, _⟩ := X.ex
 refine callWith_meth hd ho (wpAny_mono h (fun vs s₁ h₁ => ?_) fun _ _ x => x) he
 obtain ⟨k, h₁⟩ := h₁.out
 exact ⟨fun b o e => k b o e, h₁⟩
theorem callWith_at0 {L : Addr} {m : Str → Option Value} (h : wpAny M A (call (.ref f) []) Q E s) (X : FnAt g i f := by assumption) (F : Fr g L s.heap m := by k_asm) : wpAny M A (callWith pos (.ref f) [] (backTo pos (starEach [] env)) []) Q E s := by
 obtain ⟨o, pm, cd, doc, ho, hd, _⟩ := X.ex
 exact callWith_meth0 hd (F.keep _ _ ho) h
end
inductive Aft0 (h₀ g h' : Heap) (L : Addr) (m : Str → Option Value) (news : List (Addr × Obj)) : Prop
 | mk (led') (F : Fr g L h' m) (N : News g L h' (news ++ led')) (X : Led h₀ g led') : Aft0 h₀ g h' L m news
theorem aft0 {A : Around} {env : Env} {h₀ g G h' : Heap} {L : Addr} {m : Str → Option Value} {news led : List (Addr × Obj)} (S : Stk A [] g) (hf : env.frame = some L) (hgP : ∀ b ∈ PS, g.get? b = none) (F : Fr g L G m) (N : News g L G (news ++ led)) (X : Led h₀ g led) (hn : ∀ p ∈ news, p.1 ∉ PS)
  (Y : AftT [env] G h') : Aft0 h₀ g h' L m news := by
 obtain ⟨g', led', T, F', N', X'⟩ := aft_step S hf hgP F N X hn Y
 have to : ∀ b o, g.get? b = some o → g'.get? b = some o := fun b o e => T.other b o e (fun q => nomatch q)
 have non : ∀ b, g'.get? b = none → g.get? b = none := fun b e => by
  cases q : g.get? b with
  | none => rfl
  | some o => rw [to b o q] at e; cases e
 have fro : ∀ b o, g'.get? b = some o → g.get? b = some o := fun b o e => by
  cases q : g.get? b with
  | none => rw [T.none_ b q] at e; cases e
  | some o' => rw [to b o' q] at e; cases e; rfl
 refine ⟨led', ⟨F'.ns, fun b o e => F'.keep b o (to b o e), by rw [← T.size]; exact F'.above⟩, fun p hp => ⟨(N' p hp).1, (N' p hp).2.1, non _ (N' p hp).2.2⟩, ?_⟩
 refine ⟨fun x hx => (X'.was x hx).imp id fun ⟨c, e, n, c', o, vs, t, ec, ho, hd, hv⟩ => ⟨c, e, n, c', o, vs, t, ec, fro _ _ ho, hd, hv⟩, fun b o e n q => X'.dom b o e n (T.none_ b q), X'.now, X'.kind⟩
end
section
open Builtin
noncomputable def Six (vs : List Int) : Prop := ∀ v ∈ vs, 0 ≤ v ∧ v < 64
noncomputable def pick (x : Str) (vs : List Int) : Str := Txt.join (Str.ofString "") (vs.map (Txt.item x))
theorem join_nil_cps (l : List Str) : (Str.join (Str.ofString "") l).cps.toList = (l.map fun a => a.cps.toList).flatten := by
 induction l with
 | nil => rfl
 | cons a r ih =>
  cases r with
  | nil => simp [Str.join]
  | cons b r =>
   have e : Str.join (Str.ofString "") (a :: b :: r) = a ++ Str.ofString "" ++ Str.join (Str.ofString "") (b :: r) := rfl
   have z : (Str.ofString "").cps.toList = [] := rfl
   rw [e, KT.app_list, KT.app_list, z, ih]
   simp
theorem pick_cps (x : Str) (vs : List Int) : (pick x vs).cps.toList = vs.map fun v => (Txt.charAt x v).getD 0 := by
 unfold pick
 show (Builtin.Str.glued _ _).cps.toList = _
 rw [StrLaws.glued_eq_join, join_nil_cps]
 induction vs with
 | nil => rfl
 | cons v vs ih =>
  simp only [List.map_cons, List.flatten_cons, ih]
  rfl
theorem pick_size (x : Str) (vs : List Int) : (pick x vs).cps.size = vs.length := by
 have := congrArg List.length (pick_cps x vs)
 simpa using this
theorem map_len {bm : Array UInt8} {x : Str} (h : MapOf bm x) : x.length = 64 := by cases h <;> decide +kernel
theorem map_at {bm : Array UInt8} {x : Str} (h : MapOf bm x) {v : Int} (h0 : 0 ≤ v) (h1 : v < 64) : (Txt.charAt x v).getD 0 < 128 ∧ (KBw.bInts bm).getD v.toNat 0 = (((Txt.charAt x v).getD 0 : Nat) : Int) := by
 obtain ⟨n, rfl⟩ := Int.eq_ofNat_of_zero_le h0
 have hn : n < 64 := by omega
 have all : ∀ n : Fin 64, (Txt.charAt x (n.val : Int)).getD 0 < 128 ∧ (KBw.bInts bm).getD (n.val : Int).toNat 0 = (((Txt.charAt x (n.val : Int)).getD 0 : Nat) : Int) := by
  cases h <;> decide +kernel
 exact all ⟨n, hn⟩
theorem pick_ascii {bm : Array UInt8} {x : Str} (h : MapOf bm x) {vs : List Int} (hv : Six vs) : ∀ c ∈ (pick x vs).cps, c < 128 := fun c hc => by
 rw [← Array.mem_toList_iff, pick_cps] at hc
 obtain ⟨v, hm, rfl⟩ := List.mem_map.mp hc
 exact (map_at h (hv v hm).1 (hv v hm).2).1
theorem pick_signs {bm : Array UInt8} {x : Str} (h : MapOf bm x) {ms : List Int} (hk : KBw.bInts bm = ms) {vs : List Int} (hv : Six vs) : KBw.bInts (asciiOf (pick x vs)) = signs ms vs := by
 unfold KBw.bInts signs
 rw [asciiOf_list, pick_cps, List.map_map, List.map_map, ← hk]
 refine List.map_congr_left fun v hm => ?_
 obtain ⟨h1, h2⟩ := map_at h (hv v hm).1 (hv v hm).2
 rw [h2]
 show (((Txt.charAt x v).getD 0).toUInt8.toNat : Int) = _
 rw [Nat.toUInt8, UInt8.toNat_ofNat']
 omega
theorem bInts_inj {a b : Array UInt8} (h : KBw.bInts a = KBw.bInts b) : a = b := by
 apply Array.toList_inj.mp
 have : ∀ (l r : List UInt8), (l.map fun c => (c.toNat : Int)) = (r.map fun c => (c.toNat : Int)) → l = r := by
  intro l
  induction l with
  | nil => intro r h; cases r with
   | nil => rfl
   | cons _ _ => cases h
  | cons c l ih => intro r h; cases r with
   | nil => cases h
   | cons d r =>
    injection h with h1 h2
    have h1 : (c.toNat : Int) = (d.toNat : Int) := h1
    have e : c = d := UInt8.toNat_inj.mp (by omega)
    rw [ih r h2, e]
 exact this _ _ h
theorem carried_items {x : Str} : ∀ {vs : List Int} {ys : List Value}, AllR (fun v => IsS (Txt.item x v)) vs ys → CarriedAll ys (vs.map fun v => PyData.str (Txt.item x v))
 | [], [], _ => .nil
 | a :: vs, y :: ys, h => by
  obtain ⟨h1, r⟩ := h
  obtain ⟨t, rfl⟩ := h1
  exact .cons (.str _ _) (carried_items r)
 | [], _ :: _, h => nomatch h
 | _ :: _, [], h => nomatch h
end
section
theorem execs_litI {M : Model} {A : Around} {b r : List Stmt} {c : Stmt} {env : Env} {Q : Flow → Shared → Prop} {E : Value → Shared → Prop} {s : Shared} (h : b = c :: r) (k : wpAny M A (execs (c :: r) env) Q E s) : wpAny M A (execs b env) Q E s := h ▸ k
theorem StopR {M : Model} {A : Around} {E : Value → Shared → Prop} {s : Shared} {f : Value} {a : Addr} {Q : Value → Shared → Prop} (h : Stop (wpAny M A (call f [.ref a]) Q E s)) : wpAny M A (call f [.ref a]) Q E s := h
local macro_rules | `(tactic| walk_at "call builtin:len") => `(tactic| walk_at "sR")
theorem len_setof {w : World} {A : Around} {E : Value → Shared → Prop} {s : Shared} {a : Addr} {S : Int → Bool} {n : Nat} {Q : Value → Shared → Prop} (h : s.heap.SetOf (intKind rw_iw0008_01.prog w) a S n) (k : ∀ t tk, Q (.int n t) { s with toks := tk }) : wpAny (Md w) A (call (.builtin "len") [.ref a]) Q E s := by
 obtain ⟨o, es, ep, t, ho, hex, hd, _, _, hb, hf, rfl⟩ := h
 exact call_len_set ho hex hd hf (by have : scanBound = 4096 := rfl; omega) (k _ _)
theorem firstMet_map {bm : Array UInt8} {x : Str} (h : MapOf bm x) : (firstMet (fun i => (KBw.bInts bm).getD i 0) bm.size).length = 64 := by cases h <;> decide +kernel
theorem isCode_move {h h' : Heap} {c P : Addr} {ps : Array Value} (x : h.IsCode c P ps) (hc : ∀ o, h.get? c = some o → h'.get? c = some o) (hP : ∀ o, h.get? P = some o → h'.get? P = some o) : h'.IsCode c P ps := by
 obtain ⟨o, vs, file, tf, flags, tg, inF, text, tt, op, a, r1, r2, r3, r4, r5, r6, b, r⟩ := x
 exact ⟨o, vs, file, tf, flags, tg, inF, text, tt, op, hc _ a, r1, r2, r3, r4, r5, r6, hP _ b, r⟩
theorem isCode_tab {h : Heap} {c P : Addr} {ps : Array Value} (x : h.IsCode c P ps) : ∃ o, h.get? P = some o := by
 obtain ⟨_, _, _, _, _, _, _, _, _, op, _, _, _, _, _, _, _, b, _⟩ := x
 exact ⟨op, b⟩
theorem map_nodup {bm : Array UInt8} {x : Str} (h : MapOf bm x) : (KBw.bInts bm).Nodup := by cases h <;> decide +kernel
theorem news5 {g hc h5 : Heap} {L x dx D : Addr} {o1 o2 t t5 oD : Obj} (N : News g L hc [(x, o1), (dx, o2), (45, t)]) (kk : ∀ z o, z ≠ 45 → hc.get? z = some o → h5.get? z = some o) (h45 : h5.get? 45 = some t5) (hD : h5.get? D = some oD) (dL : D ≠ L) (gD : g.get? D = none)
  (n2 : x ≠ 45) (n3 : dx ≠ 45) : News g L h5 [(x, o1), (dx, o2), (45, t5), (D, oD)] := by
 intro p hp
 rcases List.mem_cons.mp hp with rfl | hp
 ·exact ⟨kk _ _ n2 (N _ (.head _)).1, (N _ (.head _)).2⟩
 rcases List.mem_cons.mp hp with rfl | hp
 ·exact ⟨kk _ _ n3 (N _ (.tail _ (.head _))).1, (N _ (.tail _ (.head _))).2⟩
 rcases List.mem_cons.mp hp with rfl | hp
 ·exact ⟨h45, (N _ (.tail _ (.tail _ (.head _)))).2⟩
 rcases List.mem_cons.mp hp with rfl | hp
 ·exact ⟨hD, dL, gD⟩
 ·cases hp
theorem init_code {w : World} {mg mb : Str → Option Value} {A : Around} {s : Shared} {R : Result → Shared → Prop} {base : Heap} (Gb : Gd w mg mb base) (kb : Keep base s.heap)
  (hd : A.depth + 6 < recursionLimit) (hu : A.units + 30 < cLine) (hh : A.handled = none)
  (x dx : Addr) (hx : s.heap.get? x = some (instObj 256 dx)) (hdx : s.heap.get? dx = some (dictOf [] 0)) {ps : Array Value} (hok : s.heap.IsCode 49 45 ps) (bx : base.get? x = none) (bdx : base.get? dx = none) (b45 : base.get? 45 = none) (n1 : @Ne Nat x dx) (n2 : @Ne Nat x 45) (n3 : @Ne Nat dx 45)
  {bm : Array UInt8} {cm : Str} (hm : MapOf bm cm) (t : Tok) (kw : List (Str × Value)) (big : Bool) (hkw : (kw = [] ∧ big = false) ∨ (kw = [(Str.ofString "big", Value.bool true)] ∧ big = true))
  (hret : ∀ h' tk' gn' lk bt k1 k2 k3 q1 q2 q3 kvs ps' gs, h'.get? x = some (instObj 256 dx) → h'.get? dx = some (engD bm big lk bt k1 k2 k3 q1 q2 q3 3) → h'.DictOf (intKind rw_iw0008_01.prog w) lk kvs → KV bm bm.size kvs → @LT.lt Nat instLTNat x lk →
   Keep (hideAll s.heap [x, dx, 45]) h' → h'.IsCode 49 45 ps' → GenOnlyQ s.gens.size (s.gens.push gs) gn' → gn'[s.gens.size]? = some .finished → R (.ok (.ret .none)) { s with heap := h', toks := tk', gens := gn' }) :
  codeAny (model rw_iw0008_01.prog w) A (.call (.ref 50) ⟨[.ref x, .str cm t], kw⟩) R s := by
 have G : Gd w mg mb s.heap := Gb.keeps kb
 have KX := G.K
 revert KX
 k_fill
 intro KX
 obtain ⟨tab, htab⟩ : ∃ o, s.heap.get? 45 = some o := isCode_tab hok
 refine enterF G [(x, instObj 256 dx), (dx, dictOf [] 0), (45, tab)] (by simp only [List.forall_mem_cons, List.not_mem_nil, false_implies, implies_true, and_true]; exact ⟨hx, hdx, htab⟩) (by omega) (KX _ _ (by k_is)) (by rfl) (codeRec_of KX (by k_is)) (binds := [("self", .ref x), ("charmap", .str cm t), ("big", .bool big)]) (kp_binds KX fun S => by rcases hkw with ⟨rfl, rfl⟩ | ⟨rfl, rfl⟩ <;> rfl) (by decide) (by rintro x (_ | ⟨_, _ | ⟨_, _ | ⟨_, _ | _⟩⟩⟩) <;> rfl) ?_ rfl rfl rfl
 intro g L h₁ hg hlt F N
 have hg : g = hideAll s.heap [x, dx, 45] := hg
 have kg : Keep base g := fun b o e => by
  rw [hg]
  refine hideAll_get _ (kb b o e) fun q => ?_
  simp only [List.mem_cons, List.not_mem_nil, or_false] at q
  rcases q with rfl | rfl | rfl
  ·rw [bx] at e; cases e
  ·rw [bdx] at e; cases e
  ·rw [b45] at e; cases e
 have G' : Gd w mg mb g := Gb.keeps kg
 obtain ⟨o49, ho49, hs49⟩ : ∃ o, g.get? 49 = some o ∧ s.heap.get? 49 = some o := ⟨_, G'.K _ _ (by k_is), KX _ _ (by k_is)⟩
 have hp45 : g.get? 45 = none := by rw [hg]; exact hideAll_none _ (by simp)
 have ok' : ∀ h : Heap, Keep g h → h.get? 45 = some tab → h.IsCode 49 45 ps := fun h k e => isCode_move hok (fun o q => by rw [hs49] at q; cases q; exact k _ _ ho49) (fun o q => by rw [htab] at q; cases q; exact e)
 have lt45 : @LT.lt Nat instLTNat 45 L := hlt (45, tab) (by simp)
 have ltx : @LT.lt Nat instLTNat x L := hlt (x, instObj 256 dx) (by simp)
 have ltd : @LT.lt Nat instLTNat dx L := hlt (dx, dictOf [] 0) (by simp)
 clear KX
 have KX := G'.K
 have T := G'.T
 have F : Fr g L h₁ (fun y => if y = "big" then some (.bool big) else if y = "charmap" then some (.str cm t) else if y = "self" then some (.ref x) else none) := fr_to F fun y => lookup_pairs y _
 refine execs_litI (by rfl) ?_
 have hml := map_len hm
 have hms := map_size hm
 k_steps
 refine Stop.mk (lat_K hm ?_)
 intro tb tkb
 k_steps
 refine Stop.mk (call_set_by (by exact hh) (by rw [hms]; decide) fun h2 tk2 hset hk2 => ?_)
 rename Fr _ _ _ _ => F1
 rename News _ _ _ _ => N1
 have F2 := Fr.keeps F1 fun b o e => hk2 b o (Heap.lt_size e) e
 have N2 := News.grown N1 fun b o e => hk2 b o (Heap.lt_size e) e
 clear F1 N1
 k_steps
 refine Stop.mk (len_setof hset ?_)
 rw [firstMet_map hm]
 intro tl tkl
 clear hset hk2
 k_steps
 rename Fr _ _ _ _ => F3
 rename News _ _ _ _ => N3
 rename_i hc
 have e45 := (N3 (45, tab) (by k_mem)).1
 refine Stop.mk (gen_pairs_make (t := tb) (b := bm) (P := 45) (c := 49) G' F3 rfl (ok' _ F3.keep e45) hp45 rfl rfl rfl (by decide) rfl rfl rfl rfl (by decide) (by decide) (by decide) (by have : ∀ e, (A.deeper e).depth = A.depth + 1 := fun _ => rfl; rw [this]; omega) (fun _ => by rfl) ?_ ?_)
 ·intro Q' hQ'
  k_steps
  refine Stop.mk (call_enumerate_by fun h4 hE hI hsz k4 => ?_)
  exact hQ' h4 _ _ _ hE hI (fun q => absurd q (Nat.succ_ne_self _)) (Nat.le_refl _) (Nat.le_succ _) k4
 ·intro h4 tk4 gs a C e it u1 x1 u2 x2 ps' hgb lit le lC la hna hzl hga hgp hk4 hok4
  k_steps
  have Lh : @LT.lt Nat instLTNat L hc.objs.size := by obtain ⟨o, _, _, e, _⟩ := F3.ns; exact Heap.lt_size e
  have hz : ∀ z, z < hc.objs.size → z ∉ [C, e, it] := fun z q r => by
   simp only [List.mem_cons, List.not_mem_nil, or_false] at r
   rcases r with rfl | rfl | rfl
   ·exact absurd q (Nat.not_lt.mpr lC)
   ·exact absurd q (Nat.not_lt.mpr le)
   ·exact absurd q (Nat.not_lt.mpr lit)
  have hle4 : hc.objs.size ≤ h4.objs.size := Nat.le_of_lt (Nat.lt_of_le_of_lt la (Heap.lt_size hga))
  have hst : cStatics < hc.objs.size := let ⟨_, hn, _⟩ := G'.P.nolimit.keeps F3.keep; hn.lt
  have hst4 : cStatics < h4.objs.size := Nat.lt_of_lt_of_le hst hle4
  refine Stop.mk (call_dict_gen (gi := s.gens.size) (by exact hh) (by k_room) hna (hz _ hst) (by
   intro c hc'
   rcases List.mem_cons.mp hc' with rfl | hc'
   ·exact hzl _ (.head _)
   ·rcases List.mem_cons.mp hc' with rfl | hc'
    ·exact hst4
    ·exact hzl _ (.tail _ hc')) (map_nodup hm) (by rw [hms]; decide) hga (hgp _ (by exact hh)) ?_)
  intro h5 tk5 gn5 kvs' hd5 hkv hk5 hg5 hf5
  have kk : ∀ z o, z ≠ 45 → hc.get? z = some o → h5.get? z = some o := fun z o n q => hk5 z o (hz z (Heap.lt_size q)) (hk4 z o n q)
  obtain ⟨oD, es, ep, hoD, rD⟩ := hd5
  obtain ⟨t5, ht5⟩ : ∃ o, h4.get? 45 = some o := isCode_tab hok4
  have hlt45 : (45 : Nat) < hc.objs.size := Nat.lt_trans lt45 Lh
  have ht5' := hk5 45 _ (hz _ hlt45) ht5
  have F5 : Fr g L h5 _ := ⟨F3.ns.at' fun o q => kk L o (Nat.ne_of_gt lt45) q, fun z o q => kk z o (fun r => by rw [r, hp45] at q; cases q) (F3.keep z o q), F3.above⟩
  have dL : @LT.lt Nat instLTNat L h4.objs.size := Nat.lt_of_lt_of_le Lh hle4
  generalize hD : h4.objs.size = D at *
  have gD : g.get? D = none := by
   cases q : g.get? D with
   | none => rfl
   | some o => exact absurd (Nat.lt_of_lt_of_le (Heap.lt_size q) F3.above) (Nat.not_lt.mpr (Nat.le_of_lt dL))
  have N5 := news5 N3 kk ht5' hoD (Nat.ne_of_gt dL) gD n2 n3
  have m1 : @Ne Nat D x := fun q => by rw [q] at dL; exact absurd dL (Nat.not_lt.mpr (Nat.le_of_lt ltx))
  have m2 : @Ne Nat D dx := fun q => by rw [q] at dL; exact absurd dL (Nat.not_lt.mpr (Nat.le_of_lt ltd))
  have m3 : @Ne Nat D 45 := fun q => by rw [q] at dL; exact absurd dL (Nat.not_lt.mpr (Nat.le_of_lt lt45))
  have ok5 : ∀ h : Heap, Keep g h → h.get? 45 = some t5 → h.IsCode 49 45 ps' := fun h k e => isCode_move hok4 (fun o q => by
   have : hc.get? 49 = some o49 := F3.keep _ _ ho49
   rw [hk4 49 o49 (by decide) this] at q; cases q; exact k _ _ ho49) (fun o q => by rw [ht5] at q; cases q; exact e)
  clear F3 N3 hgp hga hk4 hk5 hok4 hzl
  k_steps
  rename Fr _ _ _ _ => F6
  rename News _ _ _ _ => N6
  refine hret _ _ _ _ _ _ _ _ _ _ _ _ _ gs (N6 (x, _) (by k_mem)).1 (N6 (dx, _) (by k_mem)).1 ⟨oD, es, ep, (N6 (D, _) (by k_mem)).1, rD⟩ hkv (Nat.lt_trans ltx dL) (hg ▸ F6.keep) (ok5 _ F6.keep (N6 (45, _) (by k_mem)).1) hg5 hf5
end
section
section
variable {w : World} {A : Around} {E : Value → Shared → Prop} {s : Shared}
theorem unpackItems_list2 {l : Addr} {a b : Value} {Q : List Value → Shared → Prop} (hh : A.handled = none) (hl : s.heap.IsList l #[a, b])
  (hQ : ∀ h' tk, (∀ b o, s.heap.get? b = some o → h'.get? b = some o) → Q [a, b] { s with heap := h', toks := tk }) : wpAny (Md w) A (unpackItems (.ref l) 2 none) Q E s := by
 have hlt : l ≠ s.heap.objs.size := by obtain ⟨o, ho, _⟩ := hl; exact Nat.ne_of_lt (Heap.lt_size ho)
 have W := Walks.list (prog := rw_iw0008_01.prog) (w := w) hh s.heap.objs.size l hlt #[a, b]
 unfold unpackItems
 refine wpAny_bind ?_
 unfold notIterableAtAll
 refine wpAny_bind (wpAny_specialOf hl.typeIs F.slot_list_iter.lookup ?_)
 refine wpAny_pure ?_
 simp only [Bool.false_eq_true, if_false]
 refine wpAny_bind (wpAny_holding (wpAny_pyIter_list hl ?_))
 have k0 : ∀ b o, s.heap.get? b = some o → (s.heap.push { cls := .type "list_iterator", data := .fields #[.ref l, .int 0 0] }).get? b = some o := fun b o e => Heap.get?_push_of_some _ e
 have nI : ∀ b o, s.heap.get? b = some o → b ∉ [s.heap.objs.size] := fun b o e q => by rw [List.mem_singleton] at q; rw [q] at e; exact absurd (Heap.lt_size e) (Nat.lt_irrefl _)
 refine wpAny_bind (wpAny_holding ?_)
 unfold draw
 refine wpAny_bind (W.item 0 _ _ _ (show 0 < 2 by omega) ⟨⟨_, Heap.get?_push_size _ rfl, rfl, rfl⟩, hl.push _⟩ fun v h' tk hp st' hk => ?_)
 have hp : some a = some v := hp
 cases hp
 dsimp only
 refine wpAny_bind (wpAny_holding ?_)
 unfold draw
 refine wpAny_bind (W.item 1 _ _ _ (show 1 < 2 by omega) st' fun v h2 tk2 hp st2 hk2 => ?_)
 have hp : some b = some v := hp
 cases hp
 dsimp only
 refine wpAny_bind (wpAny_holding ?_)
 unfold draw
 refine wpAny_pure (wpAny_pure (wpAny_pure ?_))
 rw [if_neg (by simp)]
 refine wpAny_bind (wpAny_holding (W.done _ _ _ st2 fun h3 tk3 hk3 => ?_))
 rw [if_neg (by decide)]
 exact wpAny_pure (hQ _ _ fun b o e => hk3 b o (nI b o e) (hk2 b o (nI b o e) (hk b o (nI b o e) (k0 b o e))))
theorem assign_list2 {g : Heap} {L : Addr} {m : Str → Option Value} {news : List (Addr × Obj)} {env : Env} {e1 e2 : Expr} {k} {pos : Pos} {l : Addr} {a b : Value} {Q : Unit → Shared → Prop} (hh : A.handled = none) (F : Fr g L s.heap m) (N : News g L s.heap news) (hl : s.heap.IsList l #[a, b])
  (he : assignEach [e1, e2] env = [(false, assign e1 env), (false, assign e2 env)])
  (h : ∀ h' tk, Fr g L h' m → News g L h' news → wpAny (Md w) A (assignInOrder [assign e1 env, assign e2 env] [a, b]) Q E { s with heap := h', toks := tk }) :
  wpAny (Md w) A (assign (.Tuple [e1, e2] k pos) env (.ref l)) Q E s := by
 rw [assign_Tuple]
 refine wpAny_bind (wpAny_standAt ?_)
 unfold unpack
 rw [he]
 exact wpAny_bind (wpAny_holding (unpackItems_list2 hh hl fun h' tk k => h h' tk (F.kept k) fun p hp => ⟨k _ _ (N p hp).1, (N p hp).2⟩))
end
theorem storeE {M : Model} {A : Around} {E : Value → Shared → Prop} {s : Shared} {g : Heap} {m : Str → Option Value} {env : Env} {x : Str} {v : Value} {c : Addr} {o : Obj} {v₀ : Option Value} {own rest : List (Addr × Obj)} {Q : Unit → Shared → Prop}
  (F : Fr g env.locals s.heap m) (N : News g env.locals s.heap (own ++ (c, o) :: rest)) (h1 : ∀ p ∈ own, @Ne Nat p.1 c) (h2 : ∀ p ∈ rest, @Ne Nat p.1 c) (hc : env.cells.lookup x = some c) (hd : o.data = .cell v₀)
  (h : ∀ h' o', Fr g env.locals h' m → News g env.locals h' (own ++ (c, o') :: rest) → o'.data = .cell (some v) → Q () { s with heap := h' })
  (hk : env.scope.kind = .function) (hx : env.kindOf x = some .cell) : wpAny M A (storeName env x v) Q E s := by
 have hmem := N (c, o) (List.mem_append_right _ (.head _))
 refine wpAny_storeName_cell hk hx hc ⟨o, hmem.1, hd⟩ fun h' hv hs => ?_
 obtain ⟨o', ho', hd'⟩ := hv
 refine h h' o' ⟨F.ns.sameBut hs (Ne.symm hmem.2.1), fun b ob e => (hs.2 b (fun q => ?_)).trans (F.keep b ob e), F.above⟩ (N.setAt h1 h2 hs ho') hd'
 rw [q, hmem.2.2] at e; cases e
theorem led_neD {g h h₀ : Heap} {c : Addr} {o : Obj} {led : List (Addr × Obj)} (X : Led h₀ g led) (N : ∀ p ∈ led, h.get? p.1 = some p.2) (hl : h.get? c = some o) (ho : ∀ vs, o.data ≠ .fields vs) : ∀ p ∈ led, @Ne Nat p.1 c := fun p hp q => by
 obtain ⟨vs, hd⟩ := X.kind p hp
 have := N p hp
 rw [q, hl] at this
 rw [← Option.some.inj this] at hd
 exact ho vs hd
theorem assign_local {M : Model} {A : Around} {E : Value → Shared → Prop} {s : Shared} {g : Heap} {m : Str → Option Value} {env : Env} {x : Str} {pos : Pos} {v : Value} {news : List (Addr × Obj)} {Q : Unit → Shared → Prop}
  (F : Fr g env.locals s.heap m) (N : News g env.locals s.heap news) (hy : env.kindOf x = some .local)
  (h : ∀ h', Fr g env.locals h' (fun z => if z = x then some v else m z) → News g env.locals h' news → Q () { s with heap := h', toks := s.toks + 1 })
  (hp : (env.scope.kind == .class || (env.scope.kind == .module && env.locals != env.globals)) = false := by rfl) : wpAny M A (assign (.Name x pos) env v) Q E s := by
 refine wpAny_assign_Name (wpAny_storeName_local hy F.ns (fun h' hn hs => ?_) hp)
 have hLg : g.get? env.locals = none := by
  cases q : g.get? env.locals with
  | none => rfl
  | some o => exact absurd (Nat.lt_of_lt_of_le (Heap.lt_size q) F.above) (Nat.lt_irrefl _)
 exact h h' ⟨hn, fun b o e => hs.extBut b o (fun q => by rw [q, hLg] at e; cases e) (F.keep b o e), F.above⟩ fun p hp => ⟨hs.extBut _ _ (N p hp).2.1 (N p hp).1, (N p hp).2⟩
section
variable {w : World} {A : Around} {s : Shared} {env : Env} {g : Heap} {L : Addr} {E : Value → Shared → Prop}
inductive FL (w : World) (A : Around) (g : Heap) (L : Addr) (env : Env) (target : Expr) (body : List Stmt) (Q : Flow → Shared → Prop) (xv : Value) (s₁ : Shared) : Prop
 | mk (l : Addr) (its : Array Value) (m : Str → Option Value) (news : List (Addr × Obj)) (e : xv = .ref l) (F : Fr g L s₁.heap m) (N : News g L s₁.heap news)
  (J : Nat → (Str → Option Value) → List (Addr × Obj) → Prop) (h0 : J 0 m news) (hst : ∀ i m news h, J i m news → Fr g L h m → News g L h news → h.IsList l its)
  (step : ∀ i I oI Q', (∀ h' tk' m' news', Fr g L h' m' → News g L h' (news' ++ [(I, oI)]) → (∀ p ∈ news', @Ne Nat p.1 I) → J (i + 1) m' news' → Q' .next { s₁ with heap := h', toks := tk' }) →
   ∀ v m news h tk, its[i]? = some v → J i m news → Fr g L h m → News g L h (news ++ [(I, oI)]) → (∀ p ∈ news, @Ne Nat p.1 I) → oI.data = .fields #[.ref l, .int ((i + 1 : Nat) : Int) 0] →
   wpAny (Md w) A (assign target env v) (fun _ s₂ => wpAny (Md w) A (execs body env) Q' (fun _ _ => False) s₂) (fun _ _ => False) { s₁ with heap := h, toks := tk })
  (done : ∀ m news h tk, J its.size m news → Fr g L h m → News g L h news → Q .next { s₁ with heap := h, toks := tk }) : FL w A g L env target body Q xv s₁
theorem For_listI {target : Expr} {body : List Stmt} {pos : Pos} {iter : Expr} {Q : Flow → Shared → Prop} (hh : A.handled = none)
  (h : wpAny (Md w) A (eval iter env) (fun xv s₁ => Stop (FL w A g L env target body Q xv s₁)) E s)
  (hs : ∀ x, foldedSetIterable iter env x = pure x := by intro _; rfl) (ht : ∀ it v, letOwnedTupleGo target it v = pure () := by intro _ _; rfl)  :
  wpAny (Md w) A (exec (.For target iter body [] pos) env) Q E s := by
 refine wpAny_For (wpAny_mono h (fun xv s₁ h₁ => ?_) fun _ _ e => e) hs
 obtain ⟨l, its, m, news, rfl, F, N, J, hJ, hst, step, done⟩ := h₁
 have hl := hst 0 m news _ hJ F N
 refine wpAny_pyIter_list hl ?_
 have hlt : l < s₁.heap.objs.size := let ⟨_, e, _⟩ := hl; Heap.lt_size e
 obtain ⟨hIL, hIg, hIn⟩ := fresh_top F N
 have ph : Heap.get? (s₁.heap.push (itObj l 0)) s₁.heap.objs.size = some _ := Heap.get?_push_size _ rfl
 refine codeAny_forLoop (FI g L s₁ s₁.heap.objs.size (fun i h => h.IsListIter s₁.heap.objs.size l i) J its.size) ?_ (its.size + 1) ⟨_, s₁.toks, m, news, itObj l 0, 0, rfl, F.push _, fun p hp => ?_, hIn, ⟨_, ph, rfl, rfl⟩, hJ, Nat.zero_le _, rfl⟩ (ht _)
 ·generalize s₁.heap.objs.size = I at *
  rintro k s' ⟨h, tk, m, news, oI, i, rfl, F, N, hn, hit, hJ, hi, rfl⟩
  have N0 : News g L h news := fun p hp => N p (List.mem_append_left _ hp)
  have hl := hst i m news h hJ F N0
  rcases Nat.lt_or_eq_of_le hi with hlt | rfl
  ·have hx : its[i]? = some its[i] := by simp [hlt]
   refine wpAny_pyNext_list_item hit hl hx fun h₁ hit₁ hs₁ => ?_
   obtain ⟨oI₁, ho₁, hc₁, hd₁⟩ := id hit₁
   have F₁ : Fr g L h₁ m := ⟨F.ns.at' fun o e => (hs₁.2 L (Ne.symm hIL)).trans e, fun b o e => (hs₁.2 b fun q => by rw [q, hIg] at e; cases e).trans (F.keep b o e), F.above⟩
   have N₁ : News g L h₁ (news ++ [(I, oI₁)]) := fun p hp => by
    rcases List.mem_append.mp hp with hp | hp
    ·exact ⟨(hs₁.2 _ (hn p hp)).trans (N0 p hp).1, (N0 p hp).2⟩
    ·rw [List.mem_singleton.mp hp]; exact ⟨ho₁, hIL, hIg⟩
   exact wpAny_mono (step i I oI₁ (fun fl s₃ => fl = .next ∧ FI g L s₁ I (fun i h => h.IsListIter I l i) J its.size (its.size + 1 - (i + 1)) s₃)
    (fun h' tk' m' news' F' N' hn' hJ' => ⟨rfl, h', tk', m', news', oI₁, i + 1, rfl, F', N', hn', ⟨oI₁, (N' _ (List.mem_append_right _ (.head _))).1, hc₁, hd₁⟩, hJ', hlt, rfl⟩) _ m news h₁ tk hx hJ F₁ N₁ hn hd₁)
    (fun _ s₂ h₂ => wpAny_mono h₂ (fun fl s₃ ⟨e, h₃⟩ => by subst e; exact ⟨_, dec1 hlt, h₃⟩) fun _ _ e => e.elim) fun _ _ e => e.elim
  ·refine wpAny_pyNext_list_end hh hit hl (by simp) fun h₁ hs₁ => wpAny_execs_nil ?_
   exact done m news h₁ tk hJ ⟨F.ns.at' fun o e => hs₁ L o (Ne.symm hIL) e, fun b o e => hs₁ b o (fun q => by rw [q, hIg] at e; cases e) (F.keep b o e), F.above⟩
    (fun p hp => ⟨hs₁ _ _ (hn p hp) (N0 p hp).1, (N0 p hp).2⟩)
 ·rcases List.mem_append.mp hp with hp | hp
  ·exact ⟨Heap.get?_push_of_some _ (N p hp).1, (N p hp).2⟩
  ·rw [List.mem_singleton.mp hp]; exact ⟨Heap.get?_push_size _ rfl, hIL, hIg⟩
end
theorem Led.drop {h₀ g h : Heap} {led : List (Addr × Obj)} {I : Addr} {oI : Obj} {l : Addr} {i : Int} (X : Led h₀ g led) (N : ∀ p ∈ led, h.get? p.1 = some p.2) (hI : h.get? I = some oI) (hd : oI.data = .fields #[.ref l, .int i 0]) (hP : I ∉ PS) :
  Led h₀ g (led.filter fun p => p.1 != I) := by
 have inn : ∀ p ∈ led, @Ne Nat p.1 I → p ∈ led.filter (fun p => p.1 != I) := fun p hp hn => List.mem_filter.mpr ⟨hp, by simpa using hn⟩
 refine ⟨X.was, X.dom, fun x hx => (X.now x hx).imp (fun ⟨o, ho, e⟩ => ⟨o, inn _ ho (fun q => hP (q ▸ mem_PS hx)), e⟩) fun ⟨c, oc, vs, t, f, n, e, e2, hd2, hv⟩ => ⟨c, oc, vs, t, f, n, inn _ e (fun q => hP (q ▸ mem_PS hx)), inn _ e2 (fun q => ?_), hd2, hv⟩, fun p hp => X.kind p (List.mem_filter.mp hp).1⟩
 have := N _ e2
 have q : c = I := q
 rw [q, hI] at this
 cases this
 rw [hd] at hd2
 cases hd2
 cases hv
end
noncomputable def rowB (n : Int) (size : Nat) : List Int := (upTo size).map fun k => Builtin.bitAnd (n.fdiv (2 ^ k.toNat)) 1
noncomputable def rowE (n : Int) (size : Nat) (big : Bool) : List Int := if big then (rowB n size).reverse else rowB n size
noncomputable def lawBits (ns : List Int) (size : Nat) (big : Bool) : List Int := (ns.map fun n => rowE n size big).flatten
theorem rowB_len (n : Int) (size : Nat) : (rowB n size).length = size := by simp [rowB, upTo_length]
theorem rowE_len (n : Int) (size : Nat) (big : Bool) : (rowE n size big).length = size := by
 unfold rowE; split <;> simp [rowB_len]
theorem lawBits_len (ns : List Int) (size : Nat) (big : Bool) : (lawBits ns size big).length = ns.length * size := by
 induction ns with
 | nil => simp [lawBits]
 | cons n ns ih =>
  have : lawBits (n :: ns) size big = rowE n size big ++ lawBits ns size big := rfl
  rw [this, List.length_append, ih, rowE_len, List.length_cons, Nat.succ_mul, Nat.add_comm]
theorem lawBits_snoc {ns : List Int} {i : Nat} {n : Int} (size : Nat) (big : Bool) (h : ns[i]? = some n) : lawBits (ns.take (i + 1)) size big = lawBits (ns.take i) size big ++ rowE n size big := by
 rw [List.take_add_one, h]
 simp [lawBits]
inductive JB (lb lv L : Addr) (big : Bool) (size : Int) (t : Tok) (ns : List Int) (i : Nat) (m : Str → Option Value) (news : List (Addr × Obj)) : Prop
 | mk (u1 bs nb oc x) (hm : m = (fun y => if y = (Str.ofString "row") then u1 else if y = "bits" then some (.ref lb) else if y = "big" then some (.bool big) else if y = "size" then some (.int size t) else if y = "values" then some (.ref lv) else none)) (hn : news = [(lb, W.listOf (List.toArray bs) nb), (L + 1, oc)]) (c : oc.data = .cell x) (a : IntsAre bs (lawBits (ns.take i) size.toNat big)) : JB lb lv L big size t ns i m news
theorem bits_spec {w : World} {mg mb : Str → Option Value} {A : Around} {s : Shared} {Q E : Value → Shared → Prop} {f : Addr} (G : Gd w mg mb s.heap) (hf : FnAt s.heap 14 f)
  (hd : A.depth + 1 < recursionLimit) (hu : A.units + 8 < cLine) (hh : A.handled = none)
  (lv : Addr) (vs : List Value) (ns : List Int) (hl : s.heap.IsList lv vs.toArray) (hi : IntsAre vs ns) (hlen : ns.length ≤ 100) (size : Int) (t : Tok) (hs : 0 ≤ size ∧ size ≤ 64) (big : Bool)
  (hret : ∀ l ws n' h' tk', Keep s.heap h' → h'.get? l = some (listOf (List.toArray ws) n') → s.heap.get? l = none → IntsAre ws (lawBits ns size.toNat big) → Q (.ref l) {s with heap := h', toks := tk'}) :
  wpAny (model rw_iw0008_01.prog w) A (call (.ref f) [.ref lv, .int size t, .bool big]) Q E s := by
 refine wpCall ?_
 obtain ⟨o, pm, cd, doc, ho, hd', hc⟩ := hf.ex
 refine enterC G [] (fun _ h => nomatch h) (binds := [("values", .ref lv), ("size", .int size t), ("big", .bool big)]) (by omega) ho hd' hc (BindsTo.of_eq rfl) rfl (by decide +kernel) ?_ rfl rfl rfl
 intro g L h₁ tk cells hg _ F N Y
 rw [List.map_nil, nothing_hidden] at hg
 subst hg
 have KX := G.K
 have T := G.T
 clear ho hd' hc
 have F : Fr s.heap L h₁ (fun y => if y = "big" then some (.bool big) else if y = Str.ofString "size" then some (.int size t) else if y = Str.ofString "values" then some (.ref lv) else none) := F
 revert KX
 k_fill
 intro KX
 k_cells Y
 simp only [List.cons_append, List.nil_append] at N
 rename_i oc hoc
 try dsimp only
 k_steps
 refine Stop.mk ?_
 rename Fr _ _ _ _ => F2
 rename News _ _ _ _ => N2
 obtain ⟨lb, e⟩ := nm1 N2
 subst e
 refine ForW (g := s.heap) (L := L) (E₂ := fun _ _ => False) ?_ (fun _ _ h => h.elim) (by intro _; rfl) (by intro _ _; rfl)
 k_steps
 rename Fr _ _ _ _ => F2
 rename News _ _ _ _ => N2
 refine Stop.mk ⟨_, _, _, _, F2, N2, src1_list F2 N2 (by exact hh) hl, JB lb lv L big size t ns, ?_, ?_, ?_⟩
 ·exact ⟨none, [], 0, _, _, funext (sm ["row"]), rfl, ‹_›, .nil⟩
 ·rintro i I oI Q' hQ v m news h tk _ hx ⟨u1, bs, nb, oc, x, rfl, rfl, hoc, hib⟩ F N hn
  simp only [List.cons_append, List.nil_append] at N
  simp only [List.forall_mem_cons, List.not_mem_nil, false_implies, implies_true, and_true] at hn
  obtain ⟨hn1, hn2⟩ := hn
  obtain ⟨n, hn, tn, rfl⟩ := (ints_of hi).get' (by simpa using hx)
  clear F2 N2
  k_steps
  refine Stop.mk ?_
  rename Fr _ _ _ _ => F2
  rename News _ _ _ _ => N2
  rename Obj => oc'
  refine assign_comp (g := s.heap) (cl := [(Str.ofString "value", L + 1)]) IsI (fun k => IsI (Builtin.bitAnd (n.fdiv (2 ^ k.toNat)) 1)) (upTo size.toNat) (fun a b v => isI_inj) (by rfl) (by rfl) (by rfl) (by rfl) (by rfl) (by rfl) (by rfl) (by rfl) ?_ (by intro _; rfl)
  k_steps
  rename Fr _ _ _ _ => F3
  rename News _ _ _ _ => N3
  rename oc'.data = _ => hoc'
  refine Stop.mk ⟨?_, _, F3, ?_⟩
  ·rename IsRange _ _ _ _ _ _ _ _ => hrg
   refine compAsk_upTo (by exact hh) hrg (by rfl) hs.1 (by omega) ?_
   intro C k v s₃ m₃ E'' hk hv F hm
   obtain ⟨tk, rfl⟩ := hv
   have hk := upTo_mem hk
   have ho := (N3 _ (.tail _ (.head _))).1
   have KX' := KX.keeps F3.keep
   have T' := T.keeps F3.keep
   clear F3 N3 KX T
   k_steps
   exact Stop.mk ⟨⟨_, rfl⟩, ⟨_, _, rfl, fun _ _ e => e⟩⟩
  ·intro D ys h' tk n' hR F' hk hD hl'
   obtain ⟨N4, hn3⟩ := news_more F3 N3 hk hD hl'
   simp only [List.forall_mem_cons, List.not_mem_nil, false_implies, implies_true, and_true] at hn3
   obtain ⟨hn3, hn4, hn5⟩ := hn3
   clear F3 N3
   have F' : Fr s.heap L h' (fun y => if y = "row" then some (.ref D) else if y = "bits" then some (.ref lb) else if y = "big" then some (.bool big) else if y = Str.ofString "size" then some (.int size t) else if y = Str.ofString "values" then some (.ref lv) else none) := fr_to F' fun y => by
    by_cases hy : y = "row"
    ·rw [if_pos hy, if_pos hy]
    ·rw [if_neg hy, if_neg hy, if_neg hy]
   have hR : IntsAre ys (rowB n size.toNat) := of_ints (hR.map _)
   have hRl : (rowB n size.toNat).length = size.toNat := rowB_len _ _
   have hBl : (lawBits (ns.take i) size.toNat big).length ≤ 6400 := by
    rw [lawBits_len, show 6400 = 100 * 64 from rfl]
    exact Nat.mul_le_mul (by rw [List.length_take]; first | exact Nat.le_trans (Nat.min_le_right _ _) (by assumption) | omega) (by omega)
   k_steps
   all_goals
    rename Fr _ _ _ _ => F3
    rename News _ _ _ _ => N3
    refine hQ _ _ _ [(lb, _), (L + 1, oc')] (fr_to F3 (m' := (fun y => if y = (Str.ofString "row") then some (.ref D) else if y = "bits" then some (.ref lb) else if y = "big" then some (.bool big) else if y = "size" then some (.int size t) else if y = "values" then some (.ref lv) else none)) (sm ["row", "bits"])) (news_sub (news' := [(lb, _), (L + 1, oc'), (I, oI)]) N3 (sub_cons (by k_mem) (sub_cons (by k_mem) (sub_cons (by k_mem) sub_nil)))) (by simp [hn1, hn2]) ⟨_, _, _, _, _, rfl, rfl, hoc', ?_⟩
    rw [lawBits_snoc _ _ hn]
    subst big
   ·exact hib.append (show IntsAre _ (rowE n size.toNat true) from ‹IntsAre _ (rowB n size.toNat).reverse›)
   ·exact hib.append (show IntsAre _ (rowE n size.toNat false) from hR)
 ·intro m news h tk ⟨u1, bs, nb, oc, x, e1, e2, hoc, hib⟩ F N
  subst e1 e2
  have hsz : vs.toArray.size = ns.length := by rw [List.size_toArray, hi.length]
  rw [hsz, List.take_length] at hib
  k_steps
  exact hret lb bs nb h tk F.keep (N.get (.head _)) (N.fresh (.head _)) hib
section
local macro_rules | `(tactic| walk_at "exec If") => `(tactic| walk_at "stop")
noncomputable def rowAt (bs : List Int) (size i : Nat) : List Int := (bs.drop (i * size)).take size ++ List.replicate (size - ((bs.drop (i * size)).take size).length) 0
theorem rowAt_len (bs : List Int) (size i : Nat) : (rowAt bs size i).length = size := by
 unfold rowAt
 rw [List.length_append, List.length_replicate]
 exact Nat.add_sub_of_le (by rw [List.length_take]; exact Nat.min_le_left _ _)
noncomputable def rowR (bs : List Int) (size i : Nat) (big : Bool) : List Int := if big then (rowAt bs size i).reverse else rowAt bs size i
theorem rowR_len (bs : List Int) (size i : Nat) (big : Bool) : (rowR bs size i big).length = size := by
 unfold rowR; split <;> simp [rowAt_len]
theorem row_norm (bs : List Int) (i q : Nat) (size : Int) (hs : 1 ≤ size) (hq : q = i * size.toNat) : (List.take (min ((q : Int) + size).toNat bs.length - (q : Int).toNat) (List.drop (q : Int).toNat bs) ++
  (List.replicate (size - ↑(List.take (min ((q : Int) + size).toNat bs.length - (q : Int).toNat) (List.drop (q : Int).toNat bs)).length).toNat [0]).flatten) = rowAt bs size.toNat i := by
 obtain ⟨z, rfl⟩ := Int.eq_ofNat_of_zero_le (Int.le_trans (by decide) hs)
 simp only [Int.toNat_natCast] at *
 subst hq
 have e3 : List.take (min (((i * z : Nat) : Int) + z).toNat bs.length - i * z) (List.drop (i * z) bs) = (bs.drop (i * z)).take z := by
  rw [show (((i * z : Nat) : Int) + z).toNat = i * z + z from rfl]
  rw [List.take_eq_take_iff, List.length_drop, ← Nat.sub_min_sub_right, Nat.add_sub_cancel_left, Nat.min_assoc, Nat.min_self]
 rw [e3]
 unfold rowAt
 rw [List.flatten_replicate_singleton]
 congr 2
 exact Int.toNat_sub _ _
theorem start_nat (i : Nat) (size : Int) (hs : 1 ≤ size) : ∃ q : Nat, q = i * size.toNat ∧ (0 : Int) + (i : Int) * size = (q : Int) := by
 obtain ⟨z, rfl⟩ := Int.eq_ofNat_of_zero_le (Int.le_trans (by decide) hs)
 exact ⟨i * z, rfl, Int.zero_add _⟩
theorem rowR_t {bs : List Int} {size i : Nat} {big : Bool} {ws : List Value} (e : big = true) (h : IntsAre ws (rowAt bs size i).reverse) : IntsAre ws (rowR bs size i big) := by subst e; exact h
theorem rowR_f {bs : List Int} {size i : Nat} {big : Bool} {ws : List Value} (e : big = false) (h : IntsAre ws (rowAt bs size i)) : IntsAre ws (rowR bs size i big) := by subst e; exact h
noncomputable def Bits01 (bs : List Int) : Prop := ∀ b ∈ bs, b = 0 ∨ b = 1
theorem rowAt_01 {bs : List Int} (h : Bits01 bs) (size i : Nat) : Bits01 (rowAt bs size i) := by
 intro b hb
 rcases List.mem_append.mp hb with hb | hb
 ·exact h b (List.mem_of_mem_drop (List.mem_of_mem_take hb))
 ·exact .inl (List.eq_of_mem_replicate hb)
theorem rowR_01 {bs : List Int} (h : Bits01 bs) (size i : Nat) (big : Bool) : Bits01 (rowR bs size i big) := by
 unfold rowR
 split
 ·exact fun b hb => rowAt_01 h size i b (List.mem_reverse.mp hb)
 ·exact rowAt_01 h size i
theorem getD_01 {bs : List Int} (h : Bits01 bs) (k : Nat) : (bs.getD k 0).natAbs < 2 ^ 64 := by
 rw [List.getD_eq_getElem?_getD]
 cases q : bs[k]? with
 | none => decide
 | some b => rcases h b (List.mem_of_getElem? q) with rfl | rfl <;> decide
noncomputable def bitSum (row : List Int) : Int := ((upTo row.length).map fun k => row.getD k.toNat 0 * 2 ^ k.toNat).sum
noncomputable def nChunks (len : Nat) (size : Int) : Nat := (Builtin.Range.rangeSize 0 len size).toNat
noncomputable def lawValues (bs : List Int) (size : Int) (big : Bool) : List Int := (List.range (nChunks bs.length size)).map fun j => bitSum (rowR bs size.toNat j big)
inductive VI (g : Heap) (L I lb : Addr) (m : Str → Option Value) (oI : Obj) (ws : List Value) (nb : Nat) (row : List Int) (s s' : Shared) : Prop
 | mk (h' tk' R wr nr oc) (e : s' = { s with heap := h', toks := tk' }) (F : Fr g L h' m) (N : News g L h' [(R, W.listOf (List.toArray wr) nr), (lb, W.listOf (List.toArray ws) nb), (L + 1, oc), (I, oI)]) (c : oc.data = .cell (some (.ref R))) (r : IntsAre wr row) : VI g L I lb m oI ws nb row s s'
inductive JV (lb lv L : Addr) (big : Bool) (size : Int) (t : Tok) (bs : List Int) (i : Nat) (m : Str → Option Value) (news : List (Addr × Obj)) : Prop
 | mk (uk ws nb oc x) (hm : m = (fun y => if y = (Str.ofString "k") then uk else if y = "found" then some (.ref lb) else if y = "big" then some (.bool big) else if y = "size" then some (.int size t) else if y = "bits" then some (.ref lv) else none)) (hn : news = [(lb, W.listOf (List.toArray ws) nb), (L + 1, oc)]) (c : oc.data = .cell x) (a : IntsAre ws ((List.range i).map fun j => bitSum (rowR bs size.toNat j big))) : JV lb lv L big size t bs i m news
theorem values_spec {w : World} {mg mb : Str → Option Value} {A : Around} {s : Shared} {Q E : Value → Shared → Prop} {f : Addr} (G : Gd w mg mb s.heap) (hf : FnAt s.heap 15 f)
  (hd : A.depth + 1 < recursionLimit) (hu : A.units + 8 < cLine) (hh : A.handled = none)
  (lv : Addr) (vs : List Value) (bs : List Int) (hl : s.heap.IsList lv vs.toArray) (hi : IntsAre vs bs) (hb01 : Bits01 bs) (hlen : bs.length ≤ 2000) (size : Int) (t : Tok) (hs : 1 ≤ size ∧ size ≤ 64) (big : Bool)
  (hret : ∀ l ws n' h' tk', Keep s.heap h' → h'.get? l = some (listOf (List.toArray ws) n') → s.heap.get? l = none → IntsAre ws (lawValues bs size big) → Q (.ref l) {s with heap := h', toks := tk'}) :
  wpAny (model rw_iw0008_01.prog w) A (call (.ref f) [.ref lv, .int size t, .bool big]) Q E s := by
 refine wpCall ?_
 obtain ⟨o, pm, cd, doc, ho, hd', hc⟩ := hf.ex
 refine enterC G [] (fun _ h => nomatch h) (binds := [("bits", .ref lv), ("size", .int size t), ("big", .bool big)]) (by omega) ho hd' hc (BindsTo.of_eq rfl) rfl (by decide +kernel) ?_ rfl rfl rfl
 intro g L h₁ tk cells hg _ F N Y
 rw [List.map_nil, nothing_hidden] at hg
 subst hg
 have KX := G.K
 have T := G.T
 clear ho hd' hc
 have F : Fr s.heap L h₁ (fun y => if y = "big" then some (.bool big) else if y = "size" then some (.int size t) else if y = "bits" then some (.ref lv) else none) := F
 revert KX
 k_fill
 intro KX
 k_cells Y
 simp only [List.cons_append, List.nil_append] at N
 rename_i oc hoc
 try dsimp only
 k_steps
 refine Stop.mk ?_
 rename Fr _ _ _ _ => F2
 rename News _ _ _ _ => N2
 obtain ⟨lb, e⟩ := nm1 N2
 subst e
 refine ForW (g := s.heap) (L := L) (E₂ := fun _ _ => False) ?_ (fun _ _ h => h.elim) (by intro _; rfl) (by intro _ _; rfl)
 k_steps
 rename Fr _ _ _ _ => F2
 rename News _ _ _ _ => N2
 rename IsRange _ _ _ _ _ _ _ _ => hrg
 have hrz := rangeSize_le (b := bs.length) (c := size) (by omega) (by omega)
 obtain ⟨n, hn⟩ : ∃ n : Nat, (n : Int) = Builtin.Range.rangeSize 0 bs.length size := ⟨_, Int.toNat_of_nonneg hrz.1⟩
 refine Stop.mk ⟨_, _, _, _, F2, N2, src1_range F2 N2 (by exact hh) hrg (range_small (by omega) (by omega)) hn, JV lb lv L big size t bs, ?_, ?_, ?_⟩
 ·exact ⟨none, [], 0, _, _, funext (sm ["k"]), rfl, hoc, .nil⟩
 ·rintro i I oI Q' hQ v m news h tk _ ⟨hin, tv, rfl⟩ ⟨uk, ws, nb, oc, x, rfl, rfl, hoc, hiw⟩ F N hne
  simp only [List.cons_append, List.nil_append] at N
  simp only [List.forall_mem_cons, List.not_mem_nil, false_implies, implies_true, and_true] at hne
  obtain ⟨hn1, hn2⟩ := hne
  clear F2 N2
  obtain ⟨q, hq, hqi⟩ := start_nat i size hs.1
  rw [hqi]
  have hq0 : (0 : Int) ≤ (q : Int) := Int.natCast_nonneg _
  have hq1 : (0 : Int) ≤ (q : Int) + size := by omega
  k_steps
  rename Fr _ _ _ _ => F3
  obtain ⟨m3, em⟩ := frMap F3
  refine Stop.mk (wpAny_mono (Q := fun fl s' => fl = .next ∧ VI s.heap L I lb m3 oI ws nb (rowR bs size.toNat i big) s s') (ifQ ?_) ?_ fun _ _ e => e)
  ·k_steps
   all_goals
    rename Fr _ _ _ _ => F3
    rename News _ _ _ _ => N3
    rename IntsAre _ _ => hrow
    rename _ = Data.cell (some _) => hcell
    rw [row_norm _ _ _ _ hs.1 hq] at hrow
    first
    | replace hrow := rowR_t ‹big = true› hrow
    | replace hrow := rowR_f ‹big = false› hrow
    exact ⟨_, _, _, _, _, _, rfl, by rw [em]; exact F3, news_sub N3 (sub_cons (by k_mem) (sub_cons (by k_mem) (sub_cons (by k_mem) (sub_cons (by k_mem) sub_nil)))), hcell, hrow⟩
  ·rintro fl s' ⟨rfl, h5, tk5, R, wr, nr, oc5, rfl, F3, N3, hcell, hrow⟩
   subst em
   clear hi
   k_steps
   rename Fr _ _ _ _ => F3
   rename News _ _ _ _ => N3
   refine Stop.mk ?_
   refine eval_comp (cl := [(Str.ofString "row", L + 1)]) IsI (fun k => IsI ((rowR bs size.toNat i big).getD k.toNat 0 * 2 ^ k.toNat)) (upTo size.toNat) (fun a b v => isI_inj) (by rfl) (by rfl) (by rfl) (by rfl) (by rfl) ?_ (by intro _; rfl)
   k_steps
   rename Fr _ _ _ _ => F4
   rename News _ _ _ _ => N4
   rename IsRange _ _ _ _ _ _ _ _ => hrg2
   refine Stop.mk ⟨_, compAsk_upTo (by exact hh) hrg2 (by rfl) (by omega) (by omega) ?_, ?_⟩
   ·intro C k v s₃ m₃ E'' hk hv F hm
    obtain ⟨tk, rfl⟩ := hv
    have hk := upTo_mem hk
    have hrl := rowR_len bs size.toNat i big
    have ho := N4.get (show (L + 1, _) ∈ _ by k_mem)
    have hl' := (N4.isList (show (_, W.listOf (List.toArray _) _) ∈ _ from List.Mem.head _)).at fun o e => F.keep _ o e
    have KX' := KX.keeps F4.keep
    have T' := T.keeps F4.keep
    clear F4 N4 KX T
    repeat' ((fail_if_success (with_reducible show wpAny _ _ (binaryOp _ _ _) _ _ _)); first | (k_unfold; (try dsimp only)) | walk1 | (dsimp only; walk1))
    refine lshift_int_small hk.1 (by omega) (getD_01 (rowR_01 hb01 _ _ _) _) ?_
    exact Stop.mk ⟨⟨_, rfl⟩, ⟨_, _, rfl, fun _ _ e => e⟩⟩
   ·intro D ys h' tk n' hR hk hD hl'
    obtain ⟨N5, hn5⟩ := news_more F4 N4 (fun b o _ e => hk b o e) hD hl'
    have F5 : Fr s.heap L h' _ := F4.kept hk
    simp only [List.forall_mem_cons, List.not_mem_nil, false_implies, implies_true, and_true] at hn5
    have hys := of_ints (AllR.map (S := IsI) _ hR)
    rw [show (List.map (fun k => (rowR bs size.toNat i big).getD k.toNat 0 * 2 ^ k.toNat) (upTo size.toNat)) = (List.map (fun k => (rowR bs size.toNat i big).getD k.toNat 0 * 2 ^ k.toNat) (upTo (rowR bs size.toNat i big).length)) by rw [rowR_len]] at hys
    clear F4 N4
    have hDl := N5.isList (List.Mem.head _)
    k_steps
    refine sumK (by exact hh) (by exact F5) (by exact N5) (by exact hDl) hys ?_
    intro h' tk tsum F6 N6
    clear N5 F5 hrow hk
    have N7 := news_sub (news' := [(lb, _), (L + 1, _), (I, oI)]) N6 (sub_cons (by k_mem) (sub_cons (by k_mem) (sub_cons (by k_mem) sub_nil)))
    have hwl : ws.length ≤ 2000 := by rw [hiw.length, List.length_map, List.length_range]; omega
    clear N6
    k_steps
    rename Fr _ _ _ _ => F8
    rename News _ _ _ _ => N8
    refine hQ _ _ _ [(lb, _), (L + 1, _)] (fr_to F8 (m' := (fun y => if y = (Str.ofString "k") then some (.int q tv) else if y = "found" then some (.ref lb) else if y = "big" then some (.bool big) else if y = "size" then some (.int size t) else if y = "bits" then some (.ref lv) else none)) (sm ["k"])) N8 (by simp [hn1, hn2]) ⟨_, _, _, _, _, rfl, rfl, hcell, ?_⟩
    rw [List.range_succ, List.map_append]
    exact hiw.append (.cons _ _ .nil)
 ·intro m news h tk ⟨uk, ws, nb, oc, x, e1, e2, hoc, hiw⟩ F N
  subst e1 e2
  k_steps
  exact hret lb ws nb h tk F.keep (N.get (.head _)) (N.fresh (.head _)) (by
   rw [show n = nChunks bs.length size from by unfold nChunks; rw [← hn]; rfl] at hiw; exact hiw)
end
noncomputable def ofB : List Int → Int
 | [] => 0
 | b :: r => b + 2 * ofB r
theorem ofB_app : ∀ (xs ys : List Int), ofB (xs ++ ys) = ofB xs + 2 ^ xs.length * ofB ys
 | [], ys => by simp [ofB]
 | b :: r, ys => by
  simp only [List.cons_append, ofB, ofB_app r ys, List.length_cons]
  rw [Int.pow_succ', Int.mul_add, Int.mul_assoc, Int.add_assoc]
theorem ofB_zeros : ∀ n : Nat, ofB (List.replicate n 0) = 0
 | 0 => rfl
 | n + 1 => by rw [List.replicate_succ, ofB, ofB_zeros n]; rfl
theorem ofB_pad (xs : List Int) (n : Nat) : ofB (xs ++ List.replicate n 0) = ofB xs := by rw [ofB_app, ofB_zeros]; omega
theorem ofB_pre (xs : List Int) (n : Nat) : ofB (List.replicate n 0 ++ xs) = ofB xs * 2 ^ n := by rw [ofB_app, ofB_zeros, List.length_replicate, Int.mul_comm]; omega
theorem ofB_bound : ∀ {bs : List Int}, Bits01 bs → 0 ≤ ofB bs ∧ ofB bs < 2 ^ bs.length
 | [], _ => ⟨Int.le_refl _, by decide⟩
 | b :: r, h => by
  have ih := ofB_bound (bs := r) fun x hx => h x (List.mem_cons_of_mem _ hx)
  have hb := h b (List.mem_cons_self ..)
  simp only [ofB, List.length_cons]
  rw [Int.pow_succ]
  omega
theorem bits_tail {b : Int} {r : List Int} (h : Bits01 (b :: r)) : Bits01 r := fun x hx => h x (List.mem_cons_of_mem _ hx)
theorem ofB_drop : ∀ (k : Nat) {bs : List Int}, Bits01 bs → ofB (bs.drop k) = ofB bs / 2 ^ k
 | 0, bs, _ => by simp
 | k + 1, [], _ => by simp [ofB]
 | k + 1, b :: r, h => by
  rw [List.drop_succ_cons, ofB_drop k (bits_tail h)]
  have hb := h b (List.mem_cons_self ..)
  simp only [ofB]
  rw [Int.pow_succ', ← Int.ediv_ediv_of_nonneg (by decide : (0 : Int) ≤ 2)]
  congr 1
  omega
theorem ofB_take : ∀ (k : Nat) {bs : List Int}, Bits01 bs → ofB (bs.take k) = ofB bs % 2 ^ k
 | 0, bs, _ => by simp [ofB, Int.emod_one]
 | k + 1, [], _ => by simp [ofB]
 | k + 1, b :: r, h => by
  rw [List.take_succ_cons]
  simp only [ofB]
  rw [ofB_take k (bits_tail h)]
  have hb := h b (List.mem_cons_self ..)
  have h0 := (ofB_bound (bits_tail h)).1
  have hp : (0 : Int) < 2 ^ k := Int.pow_pos (by decide)
  rw [Int.pow_succ']
  have e := Int.emod_add_mul_ediv (ofB r) (2 ^ k)
  have h1 := Int.emod_nonneg (ofB r) (Int.ne_of_gt hp)
  have h2 := Int.emod_lt_of_pos (ofB r) hp
  generalize hq : ofB r / 2 ^ k = q at *
  generalize hm : ofB r % 2 ^ k = m at *
  have : b + 2 * ofB r = (b + 2 * m) + (2 * 2 ^ k) * q := by rw [← e, Int.mul_add, Int.mul_assoc]; omega
  rw [this, Int.add_mul_emod_self_left, Int.emod_eq_of_lt (by omega) (by omega)]
theorem bitSum_eq (row : List Int) : bitSum row = ofB row := by
 have key : ∀ (row : List Int) (c : Int), ((List.range row.length).map fun k => row.getD k 0 * (c * 2 ^ k)).sum = c * ofB row := by
  intro row
  induction row with
  | nil => intro c; simp [ofB]
  | cons b r ih =>
   intro c
   rw [List.length_cons, List.range_succ_eq_map, List.map_cons, List.sum_cons, List.map_map]
   have : ((List.range r.length).map ((fun k => (b :: r).getD k 0 * (c * 2 ^ k)) ∘ Nat.succ)) = (List.range r.length).map fun k => r.getD k 0 * ((2 * c) * 2 ^ k) := by
    refine List.map_congr_left fun k _ => ?_
    simp only [Function.comp, Nat.succ_eq_add_one, List.getD_cons_succ]
    rw [Int.pow_succ, Int.mul_comm 2 c, Int.mul_assoc c 2, Int.mul_comm 2 (2 ^ k)]
   rw [this, ih]
   simp only [List.getD_cons_zero, ofB, Int.pow_zero, Int.mul_one]
   rw [Int.mul_add, Int.mul_comm b c, Int.mul_comm 2 c, Int.mul_assoc]
 have := key row 1
 unfold bitSum upTo
 rw [List.map_map]
 simp only [Function.comp_def, Int.toNat_natCast]
 simpa using this
theorem rowB_zero (n : Int) : rowB n 0 = [] := rfl
theorem rowB_succ (n : Int) (size : Nat) : rowB n (size + 1) = n % 2 :: rowB (n / 2) size := by
 unfold rowB upTo
 rw [List.range_succ_eq_map]
 simp only [List.map_cons, List.map_map, Function.comp_def, Int.toNat_natCast]
 congr 1
 ·rw [bitAnd_m1]; simp [Int.fdiv_one]
 ·refine List.map_congr_left fun k _ => ?_
  rw [bitAnd_m1, bitAnd_m1, Nat.succ_eq_add_one, Int.fdiv_eq_ediv_of_nonneg _ (Int.pow_nonneg (by decide)), Int.fdiv_eq_ediv_of_nonneg _ (Int.pow_nonneg (by decide)), Int.pow_succ', ← Int.ediv_ediv_of_nonneg (by decide : (0 : Int) ≤ 2)]
theorem rowB_01 : ∀ (size : Nat) (n : Int), Bits01 (rowB n size)
 | 0, n => fun x hx => nomatch hx
 | size + 1, n => fun x hx => by
  rw [rowB_succ] at hx
  rcases List.mem_cons.mp hx with rfl | hx
  ·exact Int.emod_two_eq n
  ·exact rowB_01 size _ x hx
theorem ofB_row : ∀ (size : Nat) (n : Int), ofB (rowB n size) = n % 2 ^ size
 | 0, n => by simp [rowB_zero, ofB, Int.emod_one]
 | size + 1, n => by
  rw [rowB_succ, ofB, ofB_row size]
  have hp : (0 : Int) < 2 ^ size := Int.pow_pos (by decide)
  rw [Int.pow_succ']
  have e := Int.emod_add_mul_ediv (n / 2) (2 ^ size)
  have h1 := Int.emod_nonneg (n / 2) (Int.ne_of_gt hp)
  have h2 := Int.emod_lt_of_pos (n / 2) hp
  generalize hq : n / 2 / 2 ^ size = q at *
  generalize hm : n / 2 % 2 ^ size = m at *
  have : n = (n % 2 + 2 * m) + (2 * 2 ^ size) * q := by
   have : n = n % 2 + 2 * (n / 2) := by omega
   rw [← e, Int.mul_add] at this
   rw [Int.mul_assoc]
   omega
  have h3 := congrArg (fun z : Int => z % (2 * 2 ^ size)) this
  rw [h3, Int.add_mul_emod_self_left]
  exact (Int.emod_eq_of_lt (by omega) (by omega)).symm
noncomputable def val64 : List Int → Int
 | [] => 0
 | d :: r => d + 64 * val64 r
theorem lawBits_cons (d : Int) (r : List Int) (size : Nat) (big : Bool) : lawBits (d :: r) size big = rowE d size big ++ lawBits r size big := rfl
theorem lawBits_nil (size : Nat) (big : Bool) : lawBits [] size big = [] := rfl
theorem lawBits_01 (ns : List Int) (size : Nat) (big : Bool) : Bits01 (lawBits ns size big) := by
 intro x hx
 unfold lawBits at hx
 obtain ⟨l, hl, hx⟩ := List.mem_flatten.mp hx
 obtain ⟨n, _, rfl⟩ := List.mem_map.mp hl
 unfold rowE at hx
 split at hx
 ·exact rowB_01 size n x (List.mem_reverse.mp hx)
 ·exact rowB_01 size n x hx
theorem lawBits_app (a b : List Int) (size : Nat) (big : Bool) : lawBits (a ++ b) size big = lawBits a size big ++ lawBits b size big := by
 unfold lawBits; rw [List.map_append, List.flatten_append]
theorem lawBits_rev (ns : List Int) (size : Nat) : (lawBits ns size true).reverse = lawBits ns.reverse size false := by
 induction ns with
 | nil => rfl
 | cons d r ih =>
  rw [lawBits_cons, List.reverse_append, ih, List.reverse_cons, lawBits_app]
  have : (rowE d size true).reverse = lawBits [d] size false := by
   simp [rowE, lawBits]
  rw [this]
theorem ofB_bits {ds : List Int} (h : Six ds) : ofB (lawBits ds 6 false) = val64 ds := by
 induction ds with
 | nil => rfl
 | cons d r ih =>
  rw [lawBits_cons, ofB_app, ih fun x hx => h x (List.mem_cons_of_mem _ hx)]
  have hd := h d (List.mem_cons_self ..)
  have e1 : rowE d 6 false = rowB d 6 := rfl
  rw [e1, rowB_len, ofB_row, val64]
  omega
theorem six_rev {ds : List Int} (h : Six ds) : Six ds.reverse := fun x hx => h x (List.mem_reverse.mp hx)
theorem nChunks_six (n : Nat) : nChunks n 6 = (n + 5) / 6 := by
 cases n with
 | zero => rfl
 | succ m =>
  rw [show m + 1 + 5 = m + 6 from rfl, Nat.add_div_right _ (by decide)]
  unfold nChunks Builtin.Range.rangeSize
  rw [if_pos (by decide), if_pos (Int.natCast_pos.2 (Nat.succ_pos m)), show ((m + 1 : Nat) : Int) - 0 - 1 = (m : Int) by rw [Int.sub_zero, Int.natCast_succ]; exact Int.add_sub_cancel _ 1]
  rfl
theorem rowAt_of (bs : List Int) (size i : Nat) : rowAt bs size i = (bs.drop (i * size)).take size ++ List.replicate (size - ((bs.drop (i * size)).take size).length) 0 := rfl
theorem ofB_rowAt {bs : List Int} (h : Bits01 bs) (i : Nat) : ofB (rowAt bs 6 i) = sixAt (ofB bs) i := by
 rw [rowAt_of, ofB_pad, ofB_take _ (fun x hx => h x (List.mem_of_mem_drop hx)), ofB_drop _ h]
 unfold sixAt
 rw [Int.fdiv_eq_ediv_of_nonneg _ (Int.pow_nonneg (by decide)), Nat.mul_comm]
 rfl
theorem values_little {bs : List Int} (h : Bits01 bs) : lawValues bs 6 false = sixes (ofB bs) ((bs.length + 5) / 6) := by
 unfold lawValues sixes
 rw [nChunks_six]
 refine List.map_congr_left fun j _ => ?_
 rw [bitSum_eq]
 show ofB (rowAt bs 6 j) = _
 exact ofB_rowAt h j
theorem sub_min (s x : Nat) : s - min s x = s - x :=
 (Nat.le_total s x).elim (fun h => by rw [Nat.min_eq_left h, Nat.sub_self, Nat.sub_eq_zero_of_le h]) fun h => by rw [Nat.min_eq_right h]
theorem rowAt_pad (bs : List Int) (p size i : Nat) : rowAt (bs ++ List.replicate p 0) size i = rowAt bs size i := by
 rw [rowAt_of, rowAt_of, List.drop_append, List.drop_replicate, List.take_append, List.take_replicate, List.append_assoc, List.replicate_append_replicate, List.length_append, List.length_replicate, List.length_take, Nat.sub_add_eq, sub_min, Nat.add_sub_of_le (Nat.min_le_left _ _)]
theorem rowAt_full {bs : List Int} {size i : Nat} (h : i * size + size ≤ bs.length) : rowAt bs size i = (bs.drop (i * size)).take size := by
 rw [rowAt_of, List.length_take, List.length_drop, Nat.min_eq_left (Nat.le_sub_of_add_le (by rw [Nat.add_comm]; exact h)), Nat.sub_self, List.replicate_zero, List.append_nil]
theorem rowAt_rev {bs : List Int} {n i : Nat} (hl : bs.length = 6 * n) (hi : i < n) : (rowAt bs 6 i).reverse = rowAt bs.reverse 6 (n - 1 - i) := by
 obtain ⟨k, rfl⟩ := Nat.exists_eq_add_of_lt hi
 have hl' : bs.length = i * 6 + 6 + k * 6 := by rw [hl, Nat.mul_comm 6, Nat.add_mul, Nat.add_mul, Nat.one_mul, Nat.add_right_comm]
 have h1 : i * 6 + 6 ≤ bs.length := by rw [hl']; exact Nat.le_add_right _ _
 rw [Nat.add_sub_cancel, Nat.add_sub_cancel_left, rowAt_full h1, rowAt_full (by rw [List.length_reverse, hl']; exact Nat.le_trans (Nat.le_of_eq (Nat.add_comm _ _)) (Nat.add_le_add_right (Nat.le_add_left _ _) _)), List.drop_reverse, List.take_reverse, show bs.length - k * 6 = i * 6 + 6 by rw [hl', Nat.add_sub_cancel], List.length_take, Nat.min_eq_left h1, Nat.add_sub_cancel, List.drop_take, Nat.add_sub_cancel_left]
theorem bits_app {a b : List Int} (ha : Bits01 a) (hb : Bits01 b) : Bits01 (a ++ b) := fun x hx => (List.mem_append.mp hx).elim (ha x) (hb x)
theorem bits_zeros (n : Nat) : Bits01 (List.replicate n 0) := fun x hx => .inl (List.eq_of_mem_replicate hx)
theorem bits_rev {a : List Int} (ha : Bits01 a) : Bits01 a.reverse := fun x hx => ha x (List.mem_reverse.mp hx)
theorem values_big {bs : List Int} (h : Bits01 bs) : lawValues bs 6 true = (sixes (ofB bs.reverse * 2 ^ (6 * ((bs.length + 5) / 6) - bs.length)) ((bs.length + 5) / 6)).reverse := by
 generalize hn : (bs.length + 5) / 6 = n
 generalize hp : 6 * n - bs.length = p
 have hP : (bs ++ List.replicate p 0).length = 6 * n := by rw [List.length_append, List.length_replicate]; omega
 have hb : Bits01 (bs ++ List.replicate p 0) := bits_app h (bits_zeros p)
 unfold lawValues
 rw [nChunks_six, hn]
 apply List.ext_getElem
 ·simp [sixes]
 ·intro j h1 h2
  have hj : j < n := by simpa using h1
  simp only [List.getElem_map, List.getElem_range, List.getElem_reverse]
  have hl : (sixes (ofB bs.reverse * 2 ^ p) n).length = n := by simp [sixes]
  rw [bitSum_eq]
  show ofB (rowAt bs 6 j).reverse = _
  rw [← rowAt_pad bs p 6 j, rowAt_rev hP hj, ofB_rowAt (bits_rev hb), List.reverse_append, List.reverse_replicate, ofB_pre]
  simp [sixes]
theorem lawValues_six {bs : List Int} {big : Bool} (h : Bits01 bs) : Six (lawValues bs 6 big) := by
 have hs : ∀ v n, Six (sixes v n) := fun v n x hx => by
  obtain ⟨i, _, rfl⟩ := List.mem_map.mp hx
  exact sixAt_in v i
 cases big
 ·rw [values_little h]; exact hs _ _
 ·rw [values_big h]; exact six_rev (hs _ _)
theorem wrS_six (big : Bool) (size v : Int) : Six (if big then (sixes (v * 2 ^ padN size) (nCh size)).reverse else sixes v (nCh size)) := by
 have hs : ∀ v n, Six (sixes v n) := fun v n x hx => by
  obtain ⟨i, _, rfl⟩ := List.mem_map.mp hx
  exact sixAt_in v i
 cases big
 ·exact hs _ _
 ·exact six_rev (hs _ _)
theorem sixes_len (v : Int) (n : Nat) : (sixes v n).length = n := by simp [sixes]
theorem sixes_succ (v : Int) (n : Nat) : sixes v (n + 1) = v % 64 :: sixes (v / 64) n := by
 unfold sixes
 rw [List.range_succ_eq_map]
 simp only [List.map_cons, List.map_map]
 congr 1
 ·unfold sixAt; simp [Int.fdiv_one]
 ·refine List.map_congr_left fun k _ => ?_
  simp only [Function.comp, Nat.succ_eq_add_one, sixAt]
  rw [Int.fdiv_eq_ediv_of_nonneg _ (Int.pow_nonneg (by decide)), Int.fdiv_eq_ediv_of_nonneg _ (Int.pow_nonneg (by decide)), Nat.mul_add, Nat.mul_one, Int.pow_add, Int.mul_comm, ← Int.ediv_ediv_of_nonneg (by decide : (0 : Int) ≤ 2 ^ 6)]
  rfl
theorem val64_sixes : ∀ (n : Nat) (v : Int), val64 (sixes v n) = v % 64 ^ n
 | 0, v => by simp [sixes, val64, Int.emod_one]
 | n + 1, v => by
  rw [sixes_succ, val64, val64_sixes n]
  have hp : (0 : Int) < 64 ^ n := Int.pow_pos (by decide)
  rw [Int.pow_succ']
  have e := Int.emod_add_mul_ediv (v / 64) (64 ^ n)
  have h1 := Int.emod_nonneg (v / 64) (Int.ne_of_gt hp)
  have h2 := Int.emod_lt_of_pos (v / 64) hp
  generalize hq : v / 64 / 64 ^ n = q at *
  generalize hm : v / 64 % 64 ^ n = m at *
  have : v = (v % 64 + 64 * m) + (64 * 64 ^ n) * q := by
   have : v = v % 64 + 64 * (v / 64) := by omega
   rw [← e, Int.mul_add] at this
   rw [Int.mul_assoc]
   omega
  have h3 := congrArg (fun z : Int => z % (64 * 64 ^ n)) this
  rw [h3, Int.add_mul_emod_self_left]
  exact (Int.emod_eq_of_lt (by omega) (by omega)).symm
theorem dec_signs {ms : List Int} (hn : ms.Nodup) (hl : ms.length = 64) : ∀ {ds : List Int}, Six ds → decV ms (signs ms ds) = val64 ds
 | [], _ => rfl
 | d :: r, h => by
  have hd := h d (List.mem_cons_self ..)
  show ((ms.idxOf (ms.getD d.toNat 0) : Nat) : Int) + 64 * decV ms (signs ms r) = _
  rw [dec_signs hn hl (fun x hx => h x (List.mem_cons_of_mem _ hx)), val64]
  have hi : d.toNat < ms.length := by omega
  rw [List.getD_eq_getElem?_getD, List.getElem?_eq_getElem hi, Option.getD_some, hn.idxOf_getElem]
  omega
noncomputable def wrS (big : Bool) (size v : Int) : List Int := if big then (sixes (v * 2 ^ padN size) (nCh size)).reverse else sixes v (nCh size)
noncomputable def Sz (size : Int) : Prop := size = 6 ∨ size = 12 ∨ size = 24 ∨ size = 30 ∨ size = 64
theorem wrV_eq (ms : List Int) (big : Bool) (size v : Int) : wrV ms big size v = signs ms (wrS big size v) := rfl
theorem Sz.nat {size : Int} (hs : Sz size) : 6 * nCh size - size.toNat = padN size ∧ (size.toNat + 5) / 6 = nCh size ∧ size.toNat + padN size = 6 * nCh size := by rcases hs with rfl | rfl | rfl | rfl | rfl <;> decide
theorem bits1 (v : Int) (size : Nat) (big : Bool) : lawBits [v] size big = rowE v size big := by simp [lawBits]
theorem wr_bits {size v : Int} (big : Bool) (hs : Sz size) (h : 0 ≤ v ∧ v < 2 ^ size.toNat) : lawValues (lawBits [v] size.toNat big) 6 big = wrS big size v := by
 obtain ⟨e1, e2, _⟩ := hs.nat
 have hl : (lawBits [v] size.toNat big).length = size.toNat := by rw [bits1, rowE_len]
 have hv : ofB (rowB v size.toNat) = v := by rw [ofB_row]; exact Int.emod_eq_of_lt h.1 h.2
 cases big
 ·rw [values_little (lawBits_01 _ _ _), hl, bits1]
  show sixes (ofB (rowB v size.toNat)) _ = sixes v (nCh size)
  rw [hv, e2]
 ·rw [values_big (lawBits_01 _ _ _), hl, bits1]
  show (sixes (ofB (rowB v size.toNat).reverse.reverse * _) _).reverse = (sixes (v * 2 ^ padN size) (nCh size)).reverse
  rw [List.reverse_reverse, hv, e2, e1]
theorem lawValues_len (bs : List Int) (size : Int) (big : Bool) : (lawValues bs size big).length = nChunks bs.length size := by simp [lawValues]
theorem nChunks_le {n : Nat} : nChunks n 6 ≤ n := by rw [nChunks_six]; omega
theorem wrS_len (big : Bool) (size v : Int) : (wrS big size v).length = nCh size := by
 unfold wrS; split <;> simp [sixes_len]
theorem map_nd {bm : Array UInt8} {x : Str} (h : MapOf bm x) {ms : List Int} (hk : KBw.bInts bm = ms) : ms.Nodup ∧ ms.length = 64 := by
 subst hk
 cases h
 ·exact ⟨by decide +kernel, by decide +kernel⟩
 ·exact ⟨by decide +kernel, by decide +kernel⟩
theorem wrS_six' (big : Bool) (size v : Int) : Six (wrS big size v) := wrS_six big size v
theorem rd_val {ms : List Int} (hn : ms.Nodup) (hl : ms.length = 64) {ds : List Int} (hd : Six ds) (big : Bool) (size : Int) : rdV ms big size (signs ms ds) =
  if size = 64 then (if big then (val64 ds.reverse).fdiv 4 else val64 ds % 2 ^ 64) else val64 (if big then ds.reverse else ds) := by
 have e1 := dec_signs hn hl hd
 have e2 := dec_signs hn hl (six_rev hd)
 have e3 : (signs ms ds).reverse = signs ms ds.reverse := by unfold signs; rw [List.map_reverse]
 unfold rdV
 cases big <;> simp only [e1, e2, e3, if_true, if_false, Bool.false_eq_true]
theorem rd_wr {bm : Array UInt8} {x : Str} (h : MapOf bm x) {ms : List Int} (hk : KBw.bInts bm = ms) {size v : Int} (big : Bool) (hs : Sz size) (hv : 0 ≤ v ∧ v < 2 ^ size.toNat) : rdV ms big size (signs ms (wrS big size v)) = v := by
 obtain ⟨hn, hl⟩ := map_nd h hk
 rw [rd_val hn hl (wrS_six' big size v)]
 unfold wrS
 cases big
 ·simp only [Bool.false_eq_true, if_false, val64_sixes]
  rcases hs with rfl | rfl | rfl | rfl | rfl
  ·simp [nCh] at hv ⊢; exact Int.emod_eq_of_lt hv.1 hv.2
  ·simp [nCh] at hv ⊢; exact Int.emod_eq_of_lt hv.1 hv.2
  ·simp [nCh] at hv ⊢; exact Int.emod_eq_of_lt hv.1 hv.2
  ·simp [nCh] at hv ⊢; exact Int.emod_eq_of_lt hv.1 hv.2
  ·simp [nCh] at hv ⊢; exact Int.emod_eq_of_lt hv.1 hv.2
 ·simp only [if_true, List.reverse_reverse, val64_sixes]
  rcases hs with rfl | rfl | rfl | rfl | rfl
  ·simp [nCh, padN] at hv ⊢; exact Int.emod_eq_of_lt hv.1 hv.2
  ·simp [nCh, padN] at hv ⊢; exact Int.emod_eq_of_lt hv.1 hv.2
  ·simp [nCh, padN] at hv ⊢; exact Int.emod_eq_of_lt hv.1 hv.2
  ·simp [nCh, padN] at hv ⊢; exact Int.emod_eq_of_lt hv.1 hv.2
  ·simp [nCh, padN] at hv ⊢
   rw [Int.fdiv_eq_ediv_of_nonneg _ (by decide), show v * 4 % 73786976294838206464 = v * 4 from Int.emod_eq_of_lt (Int.mul_nonneg hv.1 (by decide)) (Int.mul_lt_mul_of_pos_right hv.2 (by decide : (0 : Int) < 4))]
   exact Int.mul_ediv_cancel _ (by decide)
theorem nChunks_self {size : Int} (hs : Sz size) : nChunks size.toNat size = 1 := by rcases hs with rfl | rfl | rfl | rfl | rfl <;> decide
theorem lawBits_len6 (ds : List Int) (big : Bool) : (lawBits ds 6 big).length = ds.length * 6 := lawBits_len ds 6 big
theorem val64_bound : ∀ {ds : List Int}, Six ds → 0 ≤ val64 ds ∧ val64 ds < 64 ^ ds.length
 | [], _ => ⟨Int.le_refl _, by decide⟩
 | d :: r, h => by
  have ih := val64_bound (ds := r) fun x hx => h x (List.mem_cons_of_mem _ hx)
  have hb := h d (List.mem_cons_self ..)
  simp only [val64, List.length_cons]
  rw [Int.pow_succ]
  omega
theorem rd_any {bm : Array UInt8} {x : Str} (h : MapOf bm x) {ms : List Int} (hk : KBw.bInts bm = ms) {size : Int} (big : Bool) (hs : Sz size) {ds : List Int} (hd : Six ds) (hl : ds.length = nCh size) :
  lawValues ((lawBits ds 6 big).take size.toNat) size big = [rdV ms big size (signs ms ds)] := by
 obtain ⟨hn, hl64⟩ := map_nd h hk
 obtain ⟨e1, e2, e3⟩ := hs.nat
 rw [rd_val hn hl64 hd]
 have hlen : (lawBits ds 6 big).length = size.toNat + padN size := by rw [lawBits_len6, hl, Nat.mul_comm]; exact e3.symm
 have htake : ((lawBits ds 6 big).take size.toNat).length = size.toNat := by rw [List.length_take, hlen]; exact Nat.min_eq_left (Nat.le_add_right _ _)
 have h01 := lawBits_01 ds 6 big
 unfold lawValues
 rw [htake, nChunks_self hs]
 show [bitSum (rowR _ size.toNat 0 big)] = _
 have hrow : rowAt ((lawBits ds 6 big).take size.toNat) size.toNat 0 = (lawBits ds 6 big).take size.toNat := by
  rw [rowAt_full (by rw [Nat.zero_mul, Nat.zero_add, htake]; exact Nat.le_refl _), Nat.zero_mul, List.drop_zero, List.take_of_length_le (Nat.le_of_eq htake)]
 rw [bitSum_eq]
 congr 1
 cases big
 ·show ofB (rowAt _ size.toNat 0) = _
  rw [hrow, ofB_take _ h01, ofB_bits hd]
  have hb := val64_bound hd
  rw [hl] at hb
  simp only [Bool.false_eq_true, if_false]
  rcases hs with rfl | rfl | rfl | rfl | rfl
  ·simp [nCh] at hb ⊢; exact Int.emod_eq_of_lt hb.1 hb.2
  ·simp [nCh] at hb ⊢; exact Int.emod_eq_of_lt hb.1 hb.2
  ·simp [nCh] at hb ⊢; exact Int.emod_eq_of_lt hb.1 hb.2
  ·simp [nCh] at hb ⊢; exact Int.emod_eq_of_lt hb.1 hb.2
  ·simp
 ·show ofB (rowAt _ size.toNat 0).reverse = _
  have er : ((lawBits ds 6 true).take size.toNat).reverse = (lawBits ds.reverse 6 false).drop (padN size) := by
   rw [List.reverse_take, lawBits_rev]
   congr 1
   rw [hlen, Nat.add_sub_cancel_left]
  rw [hrow, er, ofB_drop _ (lawBits_01 _ _ _), ofB_bits (six_rev hd)]
  simp only [if_true]
  rcases hs with rfl | rfl | rfl | rfl | rfl
  ·simp [padN]
  ·simp [padN]
  ·simp [padN]
  ·simp [padN]
  ·simp [padN, Int.fdiv_eq_ediv_of_nonneg]
theorem signs_len (ms ds : List Int) : (signs ms ds).length = ds.length := by simp [signs]
theorem signs_mem {ms ds : List Int} (hl : ms.length = 64) (hd : Six ds) : ∀ k ∈ signs ms ds, k ∈ ms := by
 intro k hk
 obtain ⟨d, hd', rfl⟩ := List.mem_map.mp hk
 have := hd d hd'
 rw [List.getD_eq_getElem?_getD, List.getElem?_eq_getElem (by omega)]
 exact List.getElem_mem _
theorem foreign_not {bm : Array UInt8} {x : Str} (h : MapOf bm x) {ms : List Int} (hk : KBw.bInts bm = ms) {v : Int} (hv : 0 ≤ v ∧ v < 192) : (if v < 46 then v else if v < 53 then v + 12 else if v < 59 then v + 38 else v + 64) ∉ ms := by
 have key : ∀ n < 192, (if (n : Nat) < (46 : Int) then (n : Int) else if (n : Int) < 53 then (n : Int) + 12 else if (n : Int) < 59 then (n : Int) + 38 else (n : Int) + 64) ∉ ms := by
  subst hk
  cases h
  ·decide +kernel
  ·decide +kernel
 obtain ⟨n, rfl⟩ := Int.eq_ofNat_of_zero_le hv.1
 exact key n (Int.ofNat_lt.1 hv.2)
theorem foreign_in {v : Int} (hv : 0 ≤ v ∧ v < 192) : 0 ≤ (if v < 46 then v else if v < 53 then v + 12 else if v < 59 then v + 38 else v + 64) ∧ (if v < 46 then v else if v < 53 then v + 12 else if v < 59 then v + 38 else v + 64) < 256 := by
 obtain ⟨n, rfl⟩ := Int.eq_ofNat_of_zero_le hv.1
 exact (show ∀ n < 192, 0 ≤ (if (n : Nat) < (46 : Int) then (n : Int) else if (n : Int) < 53 then (n : Int) + 12 else if (n : Int) < 59 then (n : Int) + 38 else (n : Int) + 64) ∧ (if (n : Nat) < (46 : Int) then (n : Int) else if (n : Int) < 53 then (n : Int) + 12 else if (n : Int) < 59 then (n : Int) + 38 else (n : Int) + 64) < 256 by decide +kernel) n (Int.ofNat_lt.1 hv.2)
theorem nCh_le {size : Int} (hs : Sz size) : 1 ≤ nCh size ∧ nCh size ≤ 11 := by rcases hs with rfl | rfl | rfl | rfl | rfl <;> decide
theorem Sz.le {size : Int} (hs : Sz size) : 1 ≤ size ∧ size ≤ 64 := by rcases hs with rfl | rfl | rfl | rfl | rfl <;> decide
theorem dots (n : Nat) : KBw.bInts ((List.replicate n [(46 : UInt8)]).flatten.toArray) = List.replicate n 46 := by
 unfold KBw.bInts
 rw [List.flatten_replicate_singleton]
 simp [List.map_replicate]
local macro_rules | `(tactic| walk_at "callWith ref") => `(tactic| k_dflt (first | refine callWith_at ?_ | walk_at "c0"))
local macro_rules | `(tactic| walk_at "subscriptTail Name Name str int") => `(tactic| walk_at "stop")
theorem list_two {ys : List Value} {a b : Int} (h : IntsAre ys [a, b]) : ∃ t u, ys = [.int a t, .int b u] := by
 cases h with | cons _ t h => cases h with | cons _ u h => cases h; exact ⟨t, u, rfl⟩
theorem getD_out {ns : List Int} {k : Int} (h : ¬ k < (ns.length : Int)) (h0 : 0 ≤ k) : ns.getD k.toNat 0 = 0 := by
 rw [List.getD_eq_getElem?_getD, List.getElem?_eq_none (by omega)]; rfl
theorem lawA1 {w : World} {mg mb : Str → Option Value} {A : Around} {s : Shared} {Q : Flow → Shared → Prop} {E : Value → Shared → Prop} {h₀ g : Heap} {L f : Addr} {cd : Value} {led : List (Addr × Obj)} (hd : A.depth + 7 < recursionLimit) (hu : A.units + 100 < cLine) (hh : A.handled = none) (Gb : Gd w mg mb g) (XL : Led h₀ g led) {lv : Addr} {vs : List Value} {ns : List Int} (hl : g.IsList lv vs.toArray) (hi : IntsAre vs ns) (hlen : ns.length ≤ 63) {o1 o2 o3 o4 : Obj} (c1 : o1.data = .cell (some (.ref lv)))
  (F : Fr g L s.heap (fun _ => none)) (N : News g L s.heap ([(L + 1, o1), (L + 2, o2), (L + 3, o3), (L + 4, o4)] ++ led))
  (hret : ∀ tf ts h' tk', Fr g L h' (fun y => if y = "second" then some (.int (ns.getD 1 0) ts) else if y = "first" then some (.int (ns.getD 0 0) tf) else none) → News g L h' ([(L + 1, o1), (L + 2, o2), (L + 3, o3), (L + 4, o4)] ++ led) →
   wpAny (model rw_iw0008_01.prog w) (A.deeper (envOfC (Str.ofString "law") lawS L f cd)) (execs (lawB.drop 1) (envOfC (Str.ofString "law") lawS L f cd)) Q E { s with heap := h', toks := tk' }) :
  wpAny (model rw_iw0008_01.prog w) (A.deeper (envOfC (Str.ofString "law") lawS L f cd)) (execs lawB (envOfC (Str.ofString "law") lawS L f cd)) Q E s := by
 have KX := Gb.K
 have T := Gb.T
 revert KX
 k_fill
 intro KX
 simp only [List.cons_append, List.nil_append] at N
 refine execs_cut1 (by rfl) ?_
 k_steps
 refine Stop.mk ?_
 refine wpAny_Assign_stores ?_ (by rfl) (by rfl)
 refine eval_comp (cl := [(Str.ofString "script", L + 1)]) IsI (fun k => IsI (ns.getD k.toNat 0)) (upTo 2) (fun a b v => isI_inj) (by rfl) (by rfl) (by rfl) (by rfl) (by rfl) ?_ (by intro _; rfl)
 k_steps
 rename Fr _ _ _ _ => F1
 rename News _ _ _ _ => N1
 rename IsRange _ _ _ _ _ _ _ _ => hrg
 refine Stop.mk ⟨_, compAsk_upTo (by exact hh) hrg (by rfl) (by omega) (by omega) ?_, ?_⟩
 ·intro C k v s₃ m₃ E'' hk hv F hm
  obtain ⟨tk, rfl⟩ := hv
  have hk := upTo_mem hk
  have ho := N1.get (show (L + 1, o1) ∈ _ by k_mem)
  have hl' := hl.at fun o e => F1.keep _ o e
  have hvl := hi.length
  have k0 : Keep g _ := F1.keep
  have KX' := KX.keeps k0
  have T' := T.keeps k0
  clear F1 N1 KX T hl
  k_steps
  ·exact Stop.mk ⟨⟨_, rfl⟩, ⟨_, _, rfl, fun _ _ e => e⟩⟩
  ·rename ¬ k < _ => hc
   rw [getD_out hc hk.1]
   exact Stop.mk ⟨⟨_, rfl⟩, ⟨_, _, rfl, fun _ _ e => e⟩⟩
 ·intro D ys h' tk' n' hR hkk hD hl'
  obtain ⟨N2, hn2⟩ := news_more F1 N1 (fun b o _ e => hkk b o e) hD hl'
  have F2 := F1.kept hkk
  clear F1 N1
  have hys := of_ints (AllR.map (S := IsI) _ hR)
  obtain ⟨t1, t2, rfl⟩ := list_two (a := ns.getD 0 0) (b := ns.getD 1 0) hys
  refine assign_list2 (k := 0) (by exact hh) F2 N2 (by exact N2.isList (List.Mem.head _)) (by rfl) ?_
  intro h9 tk9 F9 N9
  clear F2 N2
  refine wpAny_bind (wpAny_holding ?_)
  k_steps
  rename Fr _ _ _ _ => F1
  rename News _ _ _ _ => N1
  have N3 : News g L _ ([(L + 1, o1), (L + 2, o2), (L + 3, o3), (L + 4, o4)] ++ led) := news_sub N1 (fun p hp => by repeat (first | exact hp | apply List.mem_cons_of_mem))
  exact Stop.mk (hret _ _ _ _ (fr_to F1 (sm ["second", "first"])) N3)
section
local macro_rules | `(tactic| walk_at "z") => `(tactic| skip)
theorem mod3Q {prog : Program} {w : World} {A : Around} {E : Value → Shared → Prop} {s : Shared} {a c : Int} {t u : Tok} {Q : Value → Shared → Prop} (h : Q (.int c s.toks) { s with toks := s.toks + 1 }) (hm : a.fmod 3 = c := by assumption) : wpAny (model prog w) A (binaryOp .Mod (.int a t) (.int 3 u)) Q E s := by
 subst hm
 exact mod_int (by decide) h
local macro_rules | `(tactic| walk_at "binaryOp Mod int int") => `(tactic| refine mod3Q ?_)
local macro_rules | `(tactic| walk_at "getAttr ref") => `(tactic| walk_at "stop")
structure EngOk (w : World) (g : Heap) (e : Addr) (bm : Array UInt8) (big : Bool) (lk : Addr) (x : Str) : Prop where
 eng : Eng g e bm big lk
 map : MapOf bm x
 lkup : Lkup w g lk (KBw.bInts bm)
theorem fmod3 (a : Int) : a.fmod 3 = 0 ∨ a.fmod 3 = 1 ∨ a.fmod 3 = 2 := by
 have h0 := Int.fmod_nonneg_of_pos a (show (0 : Int) < 3 by decide)
 have h1 := Int.fmod_lt_of_pos a (show (0 : Int) < 3 by decide)
 obtain ⟨t, e⟩ := Int.eq_ofNat_of_zero_le h0
 rw [e] at h1 ⊢
 exact (show ∀ t < 3, (t : Nat) = (0 : Int) ∨ (t : Int) = 1 ∨ (t : Int) = 2 by decide) t (Int.ofNat_lt.1 h1)
theorem lawA2 {w : World} {mg mb : Str → Option Value} {A : Around} {s : Shared} {Q : Flow → Shared → Prop} {E : Value → Shared → Prop} {h₀ g : Heap} {L f : Addr} {cd : Value} {led : List (Addr × Obj)} (hd : A.depth + 7 < recursionLimit) (hu : A.units + 100 < cLine) (hh : A.handled = none) (Gb : Gd w mg mb g) (XL : Led h₀ g led) {lv : Addr} {vs : List Value} {ns : List Int} (hl : g.IsList lv vs.toArray) (hi : IntsAre vs ns) (hlen : ns.length ≤ 63) {o1 o2 o3 o4 : Obj} (c1 : o1.data = .cell (some (.ref lv))) {f12 : Addr} (m12 : mg "_law_maps" = some (.ref f12)) (F12 : FnAt g 12 f12)
  {e0 e1 e2 l0 l1 l2 : Addr} (mh0 : mg "h64" = some (.ref e0)) (mh1 : mg "h64big" = some (.ref e1)) (mh2 : mg "bcrypt64" = some (.ref e2))
  (E0 : EngOk w g e0 h64B false l0 h64S) (E1 : EngOk w g e1 h64B true l1 h64S) (E2 : EngOk w g e2 bcryptB true l2 bcryptS) {first second : Int} {tf ts : Tok}
  (F : Fr g L s.heap (fun y => if y = "second" then some (.int second ts) else if y = "first" then some (.int first tf) else none)) (N : News g L s.heap ([(L + 1, o1), (L + 2, o2), (L + 3, o3), (L + 4, o4)] ++ led)) (c2 : o2.data = .cell none)
  (hret : ∀ e bm big lk x o2 tx h' tk', EngOk w g e bm big lk x → o2.data = .cell (some (.str x tx)) → Fr g L h' (fun y => if y = "big" then some (.bool big) else if y = "engine" then some (.ref e) else if y = "second" then some (.int second ts) else if y = "first" then some (.int first tf) else none) → News g L h' ([(L + 1, o1), (L + 2, o2), (L + 3, o3), (L + 4, o4)] ++ led) →
   wpAny (model rw_iw0008_01.prog w) (A.deeper (envOfC (Str.ofString "law") lawS L f cd)) (execs (lawB.drop 5) (envOfC (Str.ofString "law") lawS L f cd)) Q E { s with heap := h', toks := tk' }) :
  wpAny (model rw_iw0008_01.prog w) (A.deeper (envOfC (Str.ofString "law") lawS L f cd)) (execs (lawB.drop 1) (envOfC (Str.ofString "law") lawS L f cd)) Q E s := by
 have KX := Gb.K
 have T := Gb.T
 revert KX
 k_fill
 intro KX
 simp only [List.cons_append, List.nil_append] at N
 refine execs_cut4 (by rfl) ?_
 have hm : 0 ≤ first.fmod 3 ∧ first.fmod 3 < 3 := ⟨Int.fmod_nonneg_of_pos _ (by decide), Int.fmod_lt_of_pos _ (by decide)⟩
 obtain hm | hm | hm := fmod3 first
 ·skip
  k_steps
  rename Fr _ _ _ _ => F1
  rw [show decide ((0 : Int) < 0) = false from rfl] at F1
  rename News _ _ _ _ => N1
  refine Stop.mk ?_
  refine maps_spec (by exact Gb.keeps F1.keep) (by exact F12.keeps F1.keep) (by exact rm (b := 2) hd) (by exact rm (b := 11) hu) ?_
  intro D t1 t2 t3 n h9 tk9 kk hD0 hD
  obtain ⟨N2, hn2⟩ := news_more F1 N1 (fun b o _ e => kk b o e) hD0 hD
  have F2 := F1.kept kk
  clear F1 N1
  repeat' ((fail_if_success (with_reducible show wpAny _ _ (storeName _ _ _) _ _ _)); first | (k_unfold; (try dsimp only)) | walk1 | (dsimp only; walk1))
  rename Fr _ _ _ _ => F1
  rename News _ _ _ _ => N1
  have N3 : News g L _ ([(L + 1, o1), (L + 2, o2), (L + 3, o3), (L + 4, o4)] ++ led) := news_sub N1 (fun p hp => by repeat (first | exact hp | apply List.mem_cons_of_mem))
  clear N1
  refine storeE (own := [(L + 1, o1)]) (rest := (L + 3, o3) :: (L + 4, o4) :: led) (by exact F1) (by exact N3) ?_ ?_ (by rfl) c2 ?_ (by rfl) (by rfl)
  ·intro p hp; rw [List.mem_singleton.mp hp]; exact Nat.ne_of_lt (Nat.lt_succ_self _)
  ·intro p hp
   rcases List.mem_cons.mp hp with rfl | hp
   ·exact Nat.ne_of_gt (Nat.lt_succ_self _)
   rcases List.mem_cons.mp hp with rfl | hp
   ·exact Nat.ne_of_gt (Nat.lt_succ_of_lt (Nat.lt_succ_self _))
   ·exact led_neD XL (fun p hp => (N3 p (List.mem_append_right _ hp)).1) (N3 (L + 2, o2) (.tail _ (.head _))).1 (fun vs e => by rw [c2] at e; cases e) p hp
  intro h2 o5 F2 N2 hc5
  clear F1 N3
  have F2 : Fr g L h2 _ := F2
  have N2 : News g L h2 ((L + 1, o1) :: (L + 2, o5) :: (L + 3, o3) :: (L + 4, o4) :: led) := N2
  k_steps
  rename Fr _ _ _ _ => F1
  rename News _ _ _ _ => N1
  obtain ⟨dx, tb, k1, k2, k3, q1, q2, q3, nd, I⟩ := (E0).eng.ex
  refine Stop.mk (get_prop (by exact F1) (by exact KX) (inst_keeps F1.keep I) (by k_is) (by k_is) (by k_is) (by k_is) (by k_is) (by k_is) ?_)
  refine charmap_code (by exact Gb.keeps F1.keep) (by exact rm (b := 2) hd) (by show A.units + 3 + _ + 8 < _; exact rm3 hu) (by exact hh) _ _ _ _ ((E0).eng.keeps F1.keep) (E0).map ?_
  intro t4 h4 tk4 kk4
  have F3 := F1.kept kk4
  have N4 : News g L h4 _ := newsKeep N1 kk4
  clear F1 N1
  refine handed_on rfl ?_
  k_steps
  exact Stop.mk (hret _ _ _ _ _ _ _ _ _ E0 hc5 (fr_to F3 (sm ["big", "engine", "second", "first"])) N4)
 ·skip
  k_steps
  rename Fr _ _ _ _ => F1
  rw [show decide ((0 : Int) < 1) = true from rfl] at F1
  rename News _ _ _ _ => N1
  refine Stop.mk ?_
  refine maps_spec (by exact Gb.keeps F1.keep) (by exact F12.keeps F1.keep) (by exact rm (b := 2) hd) (by exact rm (b := 11) hu) ?_
  intro D t1 t2 t3 n h9 tk9 kk hD0 hD
  obtain ⟨N2, hn2⟩ := news_more F1 N1 (fun b o _ e => kk b o e) hD0 hD
  have F2 := F1.kept kk
  clear F1 N1
  repeat' ((fail_if_success (with_reducible show wpAny _ _ (storeName _ _ _) _ _ _)); first | (k_unfold; (try dsimp only)) | walk1 | (dsimp only; walk1))
  rename Fr _ _ _ _ => F1
  rename News _ _ _ _ => N1
  have N3 : News g L _ ([(L + 1, o1), (L + 2, o2), (L + 3, o3), (L + 4, o4)] ++ led) := news_sub N1 (fun p hp => by repeat (first | exact hp | apply List.mem_cons_of_mem))
  clear N1
  refine storeE (own := [(L + 1, o1)]) (rest := (L + 3, o3) :: (L + 4, o4) :: led) (by exact F1) (by exact N3) ?_ ?_ (by rfl) c2 ?_ (by rfl) (by rfl)
  ·intro p hp; rw [List.mem_singleton.mp hp]; exact Nat.ne_of_lt (Nat.lt_succ_self _)
  ·intro p hp
   rcases List.mem_cons.mp hp with rfl | hp
   ·exact Nat.ne_of_gt (Nat.lt_succ_self _)
   rcases List.mem_cons.mp hp with rfl | hp
   ·exact Nat.ne_of_gt (Nat.lt_succ_of_lt (Nat.lt_succ_self _))
   ·exact led_neD XL (fun p hp => (N3 p (List.mem_append_right _ hp)).1) (N3 (L + 2, o2) (.tail _ (.head _))).1 (fun vs e => by rw [c2] at e; cases e) p hp
  intro h2 o5 F2 N2 hc5
  clear F1 N3
  have F2 : Fr g L h2 _ := F2
  have N2 : News g L h2 ((L + 1, o1) :: (L + 2, o5) :: (L + 3, o3) :: (L + 4, o4) :: led) := N2
  k_steps
  rename Fr _ _ _ _ => F1
  rename News _ _ _ _ => N1
  obtain ⟨dx, tb, k1, k2, k3, q1, q2, q3, nd, I⟩ := (E1).eng.ex
  refine Stop.mk (get_prop (by exact F1) (by exact KX) (inst_keeps F1.keep I) (by k_is) (by k_is) (by k_is) (by k_is) (by k_is) (by k_is) ?_)
  refine charmap_code (by exact Gb.keeps F1.keep) (by exact rm (b := 2) hd) (by show A.units + 3 + _ + 8 < _; exact rm3 hu) (by exact hh) _ _ _ _ ((E1).eng.keeps F1.keep) (E1).map ?_
  intro t4 h4 tk4 kk4
  have F3 := F1.kept kk4
  have N4 : News g L h4 _ := newsKeep N1 kk4
  clear F1 N1
  refine handed_on rfl ?_
  k_steps
  exact Stop.mk (hret _ _ _ _ _ _ _ _ _ E1 hc5 (fr_to F3 (sm ["big", "engine", "second", "first"])) N4)
 ·skip
  k_steps
  rename Fr _ _ _ _ => F1
  rw [show decide ((0 : Int) < 2) = true from rfl] at F1
  rename News _ _ _ _ => N1
  refine Stop.mk ?_
  refine maps_spec (by exact Gb.keeps F1.keep) (by exact F12.keeps F1.keep) (by exact rm (b := 2) hd) (by exact rm (b := 11) hu) ?_
  intro D t1 t2 t3 n h9 tk9 kk hD0 hD
  obtain ⟨N2, hn2⟩ := news_more F1 N1 (fun b o _ e => kk b o e) hD0 hD
  have F2 := F1.kept kk
  clear F1 N1
  repeat' ((fail_if_success (with_reducible show wpAny _ _ (storeName _ _ _) _ _ _)); first | (k_unfold; (try dsimp only)) | walk1 | (dsimp only; walk1))
  rename Fr _ _ _ _ => F1
  rename News _ _ _ _ => N1
  have N3 : News g L _ ([(L + 1, o1), (L + 2, o2), (L + 3, o3), (L + 4, o4)] ++ led) := news_sub N1 (fun p hp => by repeat (first | exact hp | apply List.mem_cons_of_mem))
  clear N1
  refine storeE (own := [(L + 1, o1)]) (rest := (L + 3, o3) :: (L + 4, o4) :: led) (by exact F1) (by exact N3) ?_ ?_ (by rfl) c2 ?_ (by rfl) (by rfl)
  ·intro p hp; rw [List.mem_singleton.mp hp]; exact Nat.ne_of_lt (Nat.lt_succ_self _)
  ·intro p hp
   rcases List.mem_cons.mp hp with rfl | hp
   ·exact Nat.ne_of_gt (Nat.lt_succ_self _)
   rcases List.mem_cons.mp hp with rfl | hp
   ·exact Nat.ne_of_gt (Nat.lt_succ_of_lt (Nat.lt_succ_self _))
   ·exact led_neD XL (fun p hp => (N3 p (List.mem_append_right _ hp)).1) (N3 (L + 2, o2) (.tail _ (.head _))).1 (fun vs e => by rw [c2] at e; cases e) p hp
  intro h2 o5 F2 N2 hc5
  clear F1 N3
  have F2 : Fr g L h2 _ := F2
  have N2 : News g L h2 ((L + 1, o1) :: (L + 2, o5) :: (L + 3, o3) :: (L + 4, o4) :: led) := N2
  k_steps
  rename Fr _ _ _ _ => F1
  rename News _ _ _ _ => N1
  obtain ⟨dx, tb, k1, k2, k3, q1, q2, q3, nd, I⟩ := (E2).eng.ex
  refine Stop.mk (get_prop (by exact F1) (by exact KX) (inst_keeps F1.keep I) (by k_is) (by k_is) (by k_is) (by k_is) (by k_is) (by k_is) ?_)
  refine charmap_code (by exact Gb.keeps F1.keep) (by exact rm (b := 2) hd) (by show A.units + 3 + _ + 8 < _; exact rm3 hu) (by exact hh) _ _ _ _ ((E2).eng.keeps F1.keep) (E2).map ?_
  intro t4 h4 tk4 kk4
  have F3 := F1.kept kk4
  have N4 : News g L h4 _ := newsKeep N1 kk4
  clear F1 N1
  refine handed_on rfl ?_
  k_steps
  exact Stop.mk (hret _ _ _ _ _ _ _ _ _ E2 hc5 (fr_to F3 (sm ["big", "engine", "second", "first"])) N4)
end
theorem lkup_of_kv {w : World} {h : Heap} {lk : Addr} {bm : Array UInt8} {kvs : List (Int × Value)} (hd : h.DictOf (intKind rw_iw0008_01.prog w) lk kvs) (hk : KV bm bm.size kvs) (hn : (KBw.bInts bm).Nodup) (hlo : @LT.lt Nat instLTNat 45 lk) : Lkup w h lk (KBw.bInts bm) := by
 have hlen : (KBw.bInts bm).length = bm.size := KBw.ints_length ..
 refine ⟨⟨kvs, hd, fun k hkm => ?_, fun k hkm => ?_⟩, ?_⟩
 ·obtain ⟨h1, h2⟩ := hk
  have hi : (KBw.bInts bm).idxOf k < (KBw.bInts bm).length := List.idxOf_lt_length_iff.mpr hkm
  have hg : (KBw.bInts bm)[(KBw.bInts bm).idxOf k] = k := List.getElem_idxOf hi
  obtain ⟨t, ht⟩ := h2 _ (hlen ▸ hi)
  refine ⟨t, ?_⟩
  unfold valueAt
  have hfind : (kvs.find? fun kv => decide (kv.1 = k)) = some (k, .int ((KBw.bInts bm).idxOf k : Int) t) := by
   rw [List.getD_eq_getElem?_getD, List.getElem?_eq_getElem hi, Option.getD_some, hg] at ht
   rw [List.find?_eq_some_iff_getElem]
   obtain ⟨hj, ej⟩ := List.getElem?_eq_some_iff.mp ht
   refine ⟨by simp, _, hj, ej, fun j hjl => ?_⟩
   have hjb : j < bm.size := by omega
   obtain ⟨t', ht'⟩ := h2 j hjb
   obtain ⟨hj', ej'⟩ := List.getElem?_eq_some_iff.mp ht'
   rw [ej']
   have hjL : j < (KBw.bInts bm).length := by omega
   rw [List.getD_eq_getElem?_getD, List.getElem?_eq_getElem hjL, Option.getD_some]
   have : (KBw.bInts bm)[j] ≠ k := fun q => by
    have := List.pairwise_iff_getElem.mp hn j _ hjL hi hjl
    rw [hg] at this
    exact this q
   simp [this]
  rw [hfind]
  rfl
 ·obtain ⟨h1, h2⟩ := hk
  unfold valueAt
  rw [Option.map_eq_none_iff, List.find?_eq_none]
  intro kv hm
  obtain ⟨j, hj, rfl⟩ := List.getElem_of_mem hm
  have hjb : j < bm.size := by omega
  obtain ⟨t', ht'⟩ := h2 j hjb
  obtain ⟨hj', ej'⟩ := List.getElem?_eq_some_iff.mp ht'
  rw [ej']
  have hjL : j < (KBw.bInts bm).length := by omega
  rw [List.getD_eq_getElem?_getD, List.getElem?_eq_getElem hjL, Option.getD_some]
  have : (KBw.bInts bm)[j] ≠ k := fun q => hkm (q ▸ List.getElem_mem hjL)
  simp [this]
 ·refine beq_false_of_ne fun q => ?_
  rw [q] at hlo
  exact absurd hlo (by decide)
theorem engine_call {w : World} {mg mb : Str → Option Value} {A : Around} {s : Shared} {Q E : Value → Shared → Prop} {base : Heap} (Gb : Gd w mg mb base) (kb : Keep base s.heap)
  (hd : A.depth + 10 < recursionLimit) (hu : A.units + 40 < cLine) (hh : A.handled = none) {ps : Array Value} (hok : s.heap.IsCode 49 45 ps) (b45 : base.get? 45 = none)
  {bm : Array UInt8} {cm : Str} (hm : MapOf bm cm) (t : Tok) (kw : List (Str × Value)) (big : Bool) (hkw : (kw = [] ∧ big = false) ∨ (kw = [(Str.ofString "big", Value.bool true)] ∧ big = true))
  (hret : ∀ h' tk' gn' e lk ps' gs, (∀ N, N ≤ s.heap.objs.size → EngOk w (hideAll h' (List.range N)) e bm big lk cm) → s.heap.objs.size ≤ h'.objs.size → Keep (hideAll s.heap [45]) h' → h'.IsCode 49 45 ps' → GenOnlyQ s.gens.size (s.gens.push gs) gn' → gn'[s.gens.size]? = some .finished → Q (.ref e) { s with heap := h', toks := tk', gens := gn' }) :
  wpAny (model rw_iw0008_01.prog w) A (call (.ref 256) [.str cm t] kw) Q E s := by
 have X : (K0 w.params).In s.heap := (Gb.keeps kb).K
 revert X
 k_fill
 intro X
 obtain ⟨hp, g, d, tk, os⟩ := s
 have h45 : @LT.lt Nat instLTNat 45 hp.objs.size := hok.lt.2
 refine' wpAny_call (make_core (makes_of X ?k1) (looks_findIn (r := some (.ref 50)) X ?k2) (fun self => bind_fn X self ?k3) (.inl rfl) ?_)
 case k1 => k_is
 case k2 => k_is
 case k3 => k_is
 have k1 : Keep hp ((hp.push emptyDict).push (instObj 256 hp.objs.size)) := fun b o e => Heap.get?_push_of_some _ (Heap.get?_push_of_some _ e)
 have hx : ((hp.push emptyDict).push (instObj 256 hp.objs.size)).get? (hp.objs.size + 1) = some (instObj 256 hp.objs.size) := by heap_get
 have hdx : ((hp.push emptyDict).push (instObj 256 hp.objs.size)).get? hp.objs.size = some (dictOf [] 0) := by heap_get
 have bn : ∀ a, hp.objs.size ≤ a → base.get? a = none := fun a ha => by
  cases q : base.get? a with
  | none => rfl
  | some o => exact absurd (Heap.lt_size (kb a o q)) (Nat.not_lt.mpr ha)
 have hw : (Code.builtin "type.__call__" ⟨[.ref 256, .str cm t], kw⟩).weight = 1 := by kernel_rfl
 have hc : (Code.builtin "type.__call__" ⟨[.ref 256, .str cm t], kw⟩).cUnits = 1 := by kernel_rfl
 refine init_code Gb (kb.trans k1) (by show A.depth + Code.weight _ + 6 < _; rw [hw]; omega) (by show A.units + Code.cUnits _ + 30 < _; rw [hc]; omega) (by exact hh) (hp.objs.size + 1) hp.objs.size hx hdx (by exact Heap.IsCode.keeps hok k1) (bn _ (Nat.le_succ _)) (bn _ (Nat.le_refl _)) b45 (Nat.succ_ne_self _) (Nat.ne_of_gt (Nat.lt_succ_of_lt h45)) (Nat.ne_of_gt h45) hm t kw big hkw ?_
 intro h' tk' gn' lk bt k1' k2 k3 q1 q2 q3 kvs ps' gs ex edx hdict hkv hlk kk hok' hg hf
 refine ⟨rfl, hret h' tk' gn' _ lk ps' gs (fun N hN => ?_) (Nat.le_of_lt (Nat.lt_of_succ_lt (Heap.lt_size ex))) (fun b o e => kk b o ?_) hok' hg hf⟩
 ·have hi : ∀ a o, hp.objs.size ≤ a → h'.get? a = some o → (hideAll h' (List.range N)).get? a = some o := fun a o ha e => hideAll_get _ e fun q => by
   have := List.mem_range.mp q
   exact absurd (Nat.lt_of_lt_of_le this hN) (Nat.not_lt.mpr ha)
  have hlk' : @LE.le Nat instLENat hp.objs.size lk := Nat.le_of_lt (Nat.lt_trans (Nat.lt_succ_self _) hlk)
  have hdict' : (hideAll h' (List.range N)).DictOf (intKind rw_iw0008_01.prog w) lk kvs := by
   obtain ⟨o, es, ep, ho, r⟩ := hdict
   exact ⟨o, es, ep, hi _ _ hlk' ho, r⟩
  exact ⟨⟨hp.objs.size, bt, k1', k2, k3, q1, q2, q3, 3, hi _ _ (Nat.le_succ _) ex, rfl, rfl, hi _ _ (Nat.le_refl _) edx⟩, hm, lkup_of_kv hdict' hkv (map_nodup hm) (Nat.lt_of_lt_of_le h45 hlk')⟩
 have hb := of_hideAll _ e
 refine hideAll_get _ (k1 b o hb) fun q => ?_
 have hlt : b < hp.objs.size := Heap.lt_size hb
 simp only [List.mem_cons, List.not_mem_nil, or_false] at q
 rcases q with rfl | rfl | rfl
 ·exact absurd hlt (Nat.not_lt.mpr (Nat.le_succ _))
 ·exact absurd hlt (Nat.lt_irrefl _)
 ·rw [hideAll_none _ (List.mem_singleton.mpr rfl)] at e; cases e
noncomputable def drawnV (ns : List Int) : List Int := (upTo 11).map fun k => (ns.getD (2 + k).toNat 0).fmod 64
theorem drawn_six (ns : List Int) : Six (drawnV ns) := fun v hv => by
 obtain ⟨k, _, rfl⟩ := List.mem_map.mp hv
 exact ⟨Int.fmod_nonneg_of_pos _ (by decide), Int.fmod_lt_of_pos _ (by decide)⟩
theorem drawn_len (ns : List Int) : (drawnV ns).length = 11 := by simp [drawnV, upTo_length]
theorem lawA3 {w : World} {mg mb : Str → Option Value} {A : Around} {s : Shared} {Q : Flow → Shared → Prop} {E : Value → Shared → Prop} {h₀ g : Heap} {L f : Addr} {cd : Value} {led : List (Addr × Obj)} (hd : A.depth + 7 < recursionLimit) (hu : A.units + 100 < cLine) (hh : A.handled = none) (Gb : Gd w mg mb g) (XL : Led h₀ g led) {lv : Addr} {vs : List Value} {ns : List Int} (hl : g.IsList lv vs.toArray) (hi : IntsAre vs ns) (hlen : ns.length ≤ 63) {o1 o2 o3 o4 : Obj} (c1 : o1.data = .cell (some (.ref lv))) {e : Addr} {big : Bool} {first second : Int} {tf ts : Tok}
  (F : Fr g L s.heap (fun y => if y = "big" then some (.bool big) else if y = "engine" then some (.ref e) else if y = "second" then some (.int second ts) else if y = "first" then some (.int first tf) else none)) (N : News g L s.heap ([(L + 1, o1), (L + 2, o2), (L + 3, o3), (L + 4, o4)] ++ led))
  (hret : ∀ ld xs nd h' tk', IntsAre xs (drawnV ns) → Fr g L h' (fun y => if y = "drawn" then some (.ref ld) else if y = "big" then some (.bool big) else if y = "engine" then some (.ref e) else if y = "second" then some (.int second ts) else if y = "first" then some (.int first tf) else none) → News g L h' ([(L + 1, o1), (L + 2, o2), (L + 3, o3), (L + 4, o4), (ld, W.listOf (List.toArray xs) nd)] ++ led) →
   wpAny (model rw_iw0008_01.prog w) (A.deeper (envOfC (Str.ofString "law") lawS L f cd)) (execs (lawB.drop 6) (envOfC (Str.ofString "law") lawS L f cd)) Q E { s with heap := h', toks := tk' }) :
  wpAny (model rw_iw0008_01.prog w) (A.deeper (envOfC (Str.ofString "law") lawS L f cd)) (execs (lawB.drop 5) (envOfC (Str.ofString "law") lawS L f cd)) Q E s := by
 have KX := Gb.K
 have T := Gb.T
 revert KX
 k_fill
 intro KX
 simp only [List.cons_append, List.nil_append] at N
 refine execs_cut1 (by rfl) ?_
 k_steps
 refine Stop.mk ?_
 refine assign_comp (g := g) (cl := [(Str.ofString "script", L + 1)]) IsI (fun k => IsI ((ns.getD (2 + k).toNat 0).fmod 64)) (upTo 11) (fun a b v => isI_inj) (by rfl) (by rfl) (by rfl) (by rfl) (by rfl) (by rfl) (by rfl) (by rfl) ?_ (by intro _; rfl)
 k_steps
 rename Fr _ _ _ _ => F1
 rename News _ _ _ _ => N1
 rename IsRange _ _ _ _ _ _ _ _ => hrg
 refine Stop.mk ⟨compAsk_upTo (by exact hh) hrg (by rfl) (by omega) (by omega) ?_, _, F1, ?_⟩
 ·intro C k v s₃ m₃ E'' hk hv F hm
  obtain ⟨tk, rfl⟩ := hv
  have hk := upTo_mem hk
  have ho := N1.get (show (L + 1, o1) ∈ _ by k_mem)
  have hl' := hl.at fun o e => F1.keep _ o e
  have hvl := hi.length
  have k0 : Keep g _ := F1.keep
  have KX' := KX.keeps k0
  have T' := T.keeps k0
  clear F1 N1 KX T hl
  k_steps
  ·exact Stop.mk ⟨⟨_, rfl⟩, ⟨_, _, rfl, fun _ _ e => e⟩⟩
  ·rename ¬ 2 + k < _ => hc
   rw [getD_out hc (by omega)]
   exact Stop.mk ⟨⟨_, rfl⟩, ⟨_, _, rfl, fun _ _ e => e⟩⟩
 ·intro D ys h' tk' n' hR F2 hkk hD hl'
  obtain ⟨N2, hn2⟩ := news_more F1 N1 hkk hD hl'
  have hys := of_ints (AllR.map (S := IsI) _ hR)
  clear F1 N1
  have N3 : News g L h' ([(L + 1, o1), (L + 2, o2), (L + 3, o3), (L + 4, o4), (D, W.listOf (List.toArray ys) n')] ++ led) := news_sub N2 (fun p hp => by
   simp only [List.cons_append, List.nil_append, List.mem_cons] at hp ⊢
   rcases hp with h | h | h | h | h | h <;> simp only [h, true_or, or_true])
  k_steps
  exact Stop.mk (hret _ _ _ _ _ hys (fr_to F2 (sm ["drawn", "big", "engine", "second", "first"])) N3)
theorem loop1 {w : World} {mg mb : Str → Option Value} {A : Around} {s : Shared} {Q : Flow → Shared → Prop} {E : Value → Shared → Prop} {h₀ g : Heap} {L f : Addr} {cd : Value} {led : List (Addr × Obj)} (hfr : A.frames = some []) (hd : A.depth + 7 < recursionLimit) (hu : A.units + 100 < cLine) (hh : A.handled = none) (hgP : ∀ b ∈ PS, g.get? b = none) (XL : Led h₀ g led) (Gb : Gd w mg mb g) {f14 f15 f16 f17 f18 : Addr} (m14 : mg "_law_bits" = some (.ref f14)) (F14 : FnAt g 14 f14) (m15 : mg "_law_values" = some (.ref f15)) (F15 : FnAt g 15 f15) (m16 : mg "_law_foreign" = some (.ref f16)) (F16 : FnAt g 16 f16) (m17 : mg "_law_written" = some (.ref f17)) (F17 : FnAt g 17 f17) (m18 : mg "_law_read" = some (.ref f18)) (F18 : FnAt g 18 f18) {e lk : Addr} {bm : Array UInt8} {big : Bool} (he : Eng g e bm big lk) {x : Str} (hx : MapOf bm x) {ms : List Int} (hk : KBw.bInts bm = ms) (hl : ms.length = 64) (XK : Lkup w g lk ms) {size first second : Int} (hs : Sz size) {tsz tf ts tx : Tok} {ld lz I : Addr} {vs zs : List Value} {ds : List Int} (hvs : IntsAre vs ds) (hds : Six ds) (hdl : ds.length = 11) {m5 : Str → Option Value} (y1 : m5 "size" = some (.int size tsz)) (y2 : m5 "drawn" = some (.ref ld)) (y3 : m5 "big" = some (.bool big)) (y4 : m5 "engine" = some (.ref e)) (y5 : m5 "second" = some (.int second ts)) (y6 : m5 "first" = some (.int first tf)) {nd nz : Nat} {o1 o2 o3 o4 oI : Obj} (c2 : o2.data = .cell (some (.str x tx))) (hPn : ∀ p ∈ [(L + 1, o1), (L + 2, o2), (L + 3, o3), (L + 4, o4), (ld, W.listOf (List.toArray vs) nd), (lz, W.listOf (List.toArray zs) nz), (I, oI)], p.1 ∉ PS) {u1 u2 u3 u4 u5 u6 u7 u8 u9 ua : Option Value}
  (F : Fr g L s.heap (fun y => if y = "told" then ua else if y = "many" then u9 else if y = "few" then u8 else if y = "spoilt" then u7 else if y = "place" then u6 else if y = "bits" then u5 else if y = "signs" then u4 else if y = "count" then u3 else if y = "due" then u2 else if y = "number" then u1 else m5 y)) (N : News g L s.heap ([(L + 1, o1), (L + 2, o2), (L + 3, o3), (L + 4, o4), (ld, W.listOf (List.toArray vs) nd), (lz, W.listOf (List.toArray zs) nz), (I, oI)] ++ led))
  (hret : ∀ u1 u2 tc led' h' tk', Led h₀ g led' → Fr g L h' (fun y => if y = "told" then ua else if y = "many" then u9 else if y = "few" then u8 else if y = "spoilt" then u7 else if y = "place" then u6 else if y = "bits" then u5 else if y = "signs" then u4 else if y = "count" then some (.int (nCh size : Int) tc) else if y = "due" then u2 else if y = "number" then u1 else m5 y) → News g L h' ([(L + 1, o1), (L + 2, o2), (L + 3, o3), (L + 4, o4), (ld, W.listOf (List.toArray vs) nd), (lz, W.listOf (List.toArray zs) nz), (I, oI)] ++ led') →
   wpAny (model rw_iw0008_01.prog w) (A.deeper (envOfC (Str.ofString "law") lawS L f cd)) (execs (lawLp.drop 4) (envOfC (Str.ofString "law") lawS L f cd)) Q E { s with heap := h', toks := tk' }) :
  wpAny (model rw_iw0008_01.prog w) (A.deeper (envOfC (Str.ofString "law") lawS L f cd)) (execs lawLp (envOfC (Str.ofString "law") lawS L f cd)) Q E s := by
 have KX := Gb.K
 have T := Gb.T
 have hgz := hs.le
 have hn11 := nCh_le hs
 have K' : Bel A [] g g := ⟨⟨hfr, trivial⟩, Keep.refl g, fun _ h => nomatch h⟩
 revert KX
 k_fill
 intro KX
 have hzp : (0 : Int) < 2 ^ size.toNat := Int.pow_pos (by decide)
 have hnm : 0 ≤ second.fmod (2 ^ size.toNat) ∧ second.fmod (2 ^ size.toNat) < 2 ^ size.toNat := ⟨Int.fmod_nonneg_of_pos _ hzp, Int.fmod_lt_of_pos _ hzp⟩
 generalize hnum : second.fmod (2 ^ size.toNat) = num at hnm
 simp only [List.cons_append, List.nil_append] at N
 refine execs_cut4 (r := lawLp.drop 4) (by rfl) ?_
 k_steps
 rename Fr _ _ _ _ => F1
 rw [hnum] at F1
 have hvl : (lawValues (lawBits [num] size.toNat big) 6 big).length ≤ 100 := by
  have h1 : (lawBits [num] size.toNat big).length ≤ 64 := by rw [lawBits_len]; simp; first | exact (Sz.le hs).2 | exact Int.toNat_le.2 (Sz.le hs).2 | omega
  have h2 := @nChunks_le (lawBits [num] size.toNat big).length
  rw [lawValues_len]; exact Nat.le_trans h2 (Nat.le_trans h1 (by decide))
 refine Stop.mk ?_
 refine eval_comp (cl := [(Str.ofString "letters", L + 2)]) IsI (fun v => IsS (Txt.item x v)) (lawValues (lawBits [num] size.toNat big) 6 big) (fun a b v => isI_inj) (by rfl) (by rfl) (by rfl) (by rfl) (by rfl) ?_ (by intro _; rfl)
 k_steps
 rename Fr _ _ _ _ => F1
 rename News _ _ _ _ => N1
 refine Stop.mk ⟨F1.keep, ?_⟩
 refine bits_spec (by exact Gb.keeps F1.keep) (by exact F14.keeps F1.keep) (by exact rm (b := 2) hd) (by exact rm (b := 11) hu) (by exact hh) _ _ [num] (by exact N1.isList (by k_mem)) (.cons _ _ .nil) (by simp) _ _ (by omega) big ?_
 intro lb wb nb hb tkb kkb hlb hnb hib
 obtain ⟨N2, hn2⟩ := news_more F1 N1 (fun b o _ e => kkb b o e) hnb hlb
 have F2 := F1.kept kkb
 clear F1 N1
 k_steps
 rename Fr _ _ _ _ => F1
 rename News _ _ _ _ => N1
 refine Stop.mk ⟨F1.keep, ?_⟩
 refine values_spec (by exact Gb.keeps F1.keep) (by exact F15.keeps F1.keep) (by exact rm (b := 2) hd) (by exact rm (b := 11) hu) (by exact hh) _ _ (lawBits [num] size.toNat big) (by exact N1.isList (by k_mem)) hib (lawBits_01 _ _ _) (by rw [lawBits_len]; simp; omega) _ _ (by decide) big ?_
 intro lv wv nv hv tkv kkv hlv hnv hiv
 obtain ⟨N2, hn2⟩ := news_more F1 N1 (fun b o _ e => kkv b o e) hnv hlv
 have F2 := F1.kept kkv
 clear F1 N1
 rename Fr _ _ _ _ => F1
 rename News _ _ _ _ => N1
 refine Stop.mk ⟨_, ⟨_, _, src_ints (by exact hh) (by exact N1.isList (by k_mem)) hiv, by rw [sizeLine_eq, List.size_toArray, hiv.length]; omega, by rw [List.size_toArray, hiv.length], fun _ _ h => h, ?_⟩, ?_⟩
 ·intro C k v s₃ m₃ E'' hk hv F hm
  obtain ⟨ta, rfl⟩ := hv
  have hk := (lawValues_six (lawBits_01 _ _ _)) _ hk
  have ho := N1.get (show (L + 2, o2) ∈ _ by k_mem)
  have k0 : Keep g _ := F1.keep
  clear F1 N1
  k_steps
  refine Stop.mk (KXi.item (map_len hx) (by omega) (by omega) (by decide) fun _ => ?_)
  exact Stop.mk ⟨⟨_, rfl⟩, ⟨_, _, rfl, fun _ _ e => e⟩⟩
 ·intro D ys h' tk' n' hR hkk hD hl'
  obtain ⟨N2, hn2⟩ := news_more F1 N1 (fun b o _ e => hkk b o e) hD hl'
  have F2 := F1.kept hkk
  clear F1 N1
  k_steps
  refine Stop.mk ?_
  rename Fr _ _ _ _ => F1
  rename News _ _ _ _ => N1
  refine KT.join_1 (by exact N1.isList (by k_mem)) (carried_items hR) (fun _ _ => rfl) ?_ ?_
  ·omega
  intro tj kj _
  k_steps
  refine Stop.mk ?_
  refine encode_K (pick_ascii hx (lawValues_six (lawBits_01 _ _ _))) (by show (pick x _).cps.size ≤ 1000; rw [pick_size]; first | exact Nat.le_trans (by assumption) (by decide) | omega) ?_
  intro te ke
  have hdu : KBw.bInts (asciiOf (Txt.join (Str.ofString "") (List.map (Txt.item x) (lawValues (lawBits [num] size.toNat big) 6 big)))) = signs ms (lawValues (lawBits [num] size.toNat big) 6 big) := pick_signs hx hk (lawValues_six (lawBits_01 _ _ _))
  generalize asciiOf (Txt.join (Str.ofString "") (List.map (Txt.item x) (lawValues (lawBits [num] size.toNat big) 6 big))) = due at hdu ⊢
  rw [wr_bits big hs hnm] at hdu
  have hwl := wrS_len big size num
  have hn11 := nCh_le hs
  k_steps
  rename Fr _ _ _ _ => F1
  rename News _ _ _ _ => N1
  have N3 : News g L _ ([(L + 1, o1), (L + 2, o2), (L + 3, o3), (L + 4, o4), (ld, W.listOf (List.toArray vs) nd), (lz, W.listOf (List.toArray zs) nz), (I, oI)] ++ led) := news_sub N1 (fun p hp => by repeat (first | exact hp | apply List.mem_cons_of_mem))
  clear N1
  refine Stop.mk ⟨F1.keep, ?_⟩
  refine written_spec Gb (by exact K'.push F1 rfl (fun q => ScopeKind.noConfusion q)) (by exact XL.tabs (fun p hp => (N3 p (List.mem_append_right _ hp)).1) F1.keep) hgP (by exact F17.keeps F1.keep) (by show A.depth + 1 + _ < _; exact rm2 hd) (by show A.units + 3 + _ < _; exact rm2 hu) (by exact hh) e lk bm big he ms hk hl size hs _ _ _ ?_ ?_
  ·intro t1 h1 tk1 _ hb
   omega
  intro b2 t2 h2 tk2 Y _ hb2
  have hb2 : b2 = due := bInts_inj (by rw [hb2, wrV_eq, hdu])
  subst hb2
  obtain ⟨led2, F2, N2, XL2⟩ := aft0 K'.stk rfl hgP F1 N3 XL hPn (by exact Y)
  clear F1 N3
  simp only [List.cons_append, List.nil_append] at N2
  k_steps
  try (rename (_ != _) = false => hc; clear hc)
  rename Fr _ _ _ _ => F1
  rename News _ _ _ _ => N1
  have N3 : News g L _ ([(L + 1, o1), (L + 2, o2), (L + 3, o3), (L + 4, o4), (ld, W.listOf (List.toArray vs) nd), (lz, W.listOf (List.toArray zs) nz), (I, oI)] ++ led2) := news_sub N1 (fun p hp => by repeat (first | exact hp | apply List.mem_cons_of_mem))
  clear N1
  refine Stop.mk ⟨F1.keep, ?_⟩
  refine read_spec Gb (by exact K'.push F1 rfl (fun q => ScopeKind.noConfusion q)) (by exact XL2.tabs (fun p hp => (N3 p (List.mem_append_right _ hp)).1) F1.keep) hgP (by exact F18.keeps F1.keep) (by show A.depth + 1 + _ < _; exact rm2 hd) (by show A.units + 3 + _ < _; exact rm2 hu) (by exact hh) e lk bm big he ms hl XK size hs _ _ _ (signs ms (wrS big size num)) hdu (by rw [signs_len]; omega) ?_ ?_
  ·intro t1 h1 tk1 _ hb
   rcases hb with hb | ⟨k, h1, h2⟩
   ·rw [signs_len] at hb; exact absurd hwl hb
   ·exact absurd (signs_mem hl (wrS_six _ _ _) k h1) h2
  intro t3 h3 tk3 Y _ _
  rw [rd_wr hx hk big hs hnm]
  obtain ⟨led3, F2, N2, XL3⟩ := aft0 K'.stk rfl hgP F1 N3 XL2 hPn (by exact Y)
  clear F1 N3
  simp only [List.cons_append, List.nil_append] at N2
  k_steps
  refine Stop.mk ?_
  rename Fr _ _ _ _ => F1
  rename News _ _ _ _ => N1
  have N3 : News g L _ ([(L + 1, o1), (L + 2, o2), (L + 3, o3), (L + 4, o4), (ld, W.listOf (List.toArray vs) nd), (lz, W.listOf (List.toArray zs) nz), (I, oI)] ++ led3) := news_sub N1 (fun p hp => by repeat (first | exact hp | apply List.mem_cons_of_mem))
  clear N1
  rw [signs_len, hwl] at F1
  with_reducible exact hret _ _ _ _ _ _ XL3 (by k_dflt exact fr_to F1 (sm ["told", "many", "few", "spoilt", "place", "bits", "signs", "count", "due", "number"])) N3
theorem loop2 {w : World} {mg mb : Str → Option Value} {A : Around} {s : Shared} {Q : Flow → Shared → Prop} {E : Value → Shared → Prop} {h₀ g : Heap} {L f : Addr} {cd : Value} {led : List (Addr × Obj)} (hfr : A.frames = some []) (hd : A.depth + 7 < recursionLimit) (hu : A.units + 100 < cLine) (hh : A.handled = none) (hgP : ∀ b ∈ PS, g.get? b = none) (XL : Led h₀ g led) (Gb : Gd w mg mb g) {f14 f15 f16 f17 f18 : Addr} (m14 : mg "_law_bits" = some (.ref f14)) (F14 : FnAt g 14 f14) (m15 : mg "_law_values" = some (.ref f15)) (F15 : FnAt g 15 f15) (m16 : mg "_law_foreign" = some (.ref f16)) (F16 : FnAt g 16 f16) (m17 : mg "_law_written" = some (.ref f17)) (F17 : FnAt g 17 f17) (m18 : mg "_law_read" = some (.ref f18)) (F18 : FnAt g 18 f18) {e lk : Addr} {bm : Array UInt8} {big : Bool} (he : Eng g e bm big lk) {x : Str} (hx : MapOf bm x) {ms : List Int} (hk : KBw.bInts bm = ms) (hl : ms.length = 64) (XK : Lkup w g lk ms) {size first second : Int} (hs : Sz size) {tsz tf ts tx : Tok} {ld lz I : Addr} {vs zs : List Value} {ds : List Int} (hvs : IntsAre vs ds) (hds : Six ds) (hdl : ds.length = 11) {m5 : Str → Option Value} (y1 : m5 "size" = some (.int size tsz)) (y2 : m5 "drawn" = some (.ref ld)) (y3 : m5 "big" = some (.bool big)) (y4 : m5 "engine" = some (.ref e)) (y5 : m5 "second" = some (.int second ts)) (y6 : m5 "first" = some (.int first tf)) {nd nz : Nat} {o1 o2 o3 o4 oI : Obj} (c2 : o2.data = .cell (some (.str x tx))) (hPn : ∀ p ∈ [(L + 1, o1), (L + 2, o2), (L + 3, o3), (L + 4, o4), (ld, W.listOf (List.toArray vs) nd), (lz, W.listOf (List.toArray zs) nz), (I, oI)], p.1 ∉ PS) {u1 u2 u4 u5 u6 u7 u8 u9 ua : Option Value} {tc : Tok}
  (F : Fr g L s.heap (fun y => if y = "told" then ua else if y = "many" then u9 else if y = "few" then u8 else if y = "spoilt" then u7 else if y = "place" then u6 else if y = "bits" then u5 else if y = "signs" then u4 else if y = "count" then some (.int (nCh size : Int) tc) else if y = "due" then u2 else if y = "number" then u1 else m5 y)) (N : News g L s.heap ([(L + 1, o1), (L + 2, o2), (L + 3, o3), (L + 4, o4), (ld, W.listOf (List.toArray vs) nd), (lz, W.listOf (List.toArray zs) nz), (I, oI)] ++ led))
  (hret : ∀ u5 sg tg led' h' tk', KBw.bInts sg = signs ms (ds.take (nCh size)) → Led h₀ g led' → Fr g L h' (fun y => if y = "told" then ua else if y = "many" then u9 else if y = "few" then u8 else if y = "spoilt" then u7 else if y = "place" then u6 else if y = "bits" then u5 else if y = "signs" then some (.bytes sg tg) else if y = "count" then some (.int (nCh size : Int) tc) else if y = "due" then u2 else if y = "number" then u1 else m5 y) → News g L h' ([(L + 1, o1), (L + 2, o2), (L + 3, o3), (L + 4, o4), (ld, W.listOf (List.toArray vs) nd), (lz, W.listOf (List.toArray zs) nz), (I, oI)] ++ led') →
   wpAny (model rw_iw0008_01.prog w) (A.deeper (envOfC (Str.ofString "law") lawS L f cd)) (execs (lawLp.drop 7) (envOfC (Str.ofString "law") lawS L f cd)) Q E { s with heap := h', toks := tk' }) :
  wpAny (model rw_iw0008_01.prog w) (A.deeper (envOfC (Str.ofString "law") lawS L f cd)) (execs (lawLp.drop 4) (envOfC (Str.ofString "law") lawS L f cd)) Q E s := by
 have KX := Gb.K
 have T := Gb.T
 have hgz := hs.le
 have hn11 := nCh_le hs
 have K' : Bel A [] g g := ⟨⟨hfr, trivial⟩, Keep.refl g, fun _ h => nomatch h⟩
 revert KX
 k_fill
 intro KX
 have hnc0 : (0 : Int) ≤ (nCh size : Int) := Int.natCast_nonneg _
 have hs0 : (0 : Int) ≤ size := Int.le_trans (by decide) hgz.1
 have hdsn : Six (ds.take (nCh size)) := fun v hv => hds v (List.mem_of_mem_take hv)
 have hdn : (ds.take (nCh size)).length = nCh size := by rw [List.length_take, hdl]; exact Nat.min_eq_left hn11.2
 simp only [List.cons_append, List.nil_append] at N
 (with_reducible refine' execs_cut3 (r := lawLp.drop 7) ?he ?_); (case he => rfl)
 k_steps
 refine Stop.mk ?_
 refine eval_comp (cl := [(Str.ofString "letters", L + 2)]) IsI (fun v => IsS (Txt.item x v)) (ds.take (nCh size)) (fun a b v => isI_inj) (by rfl) (by rfl) (by rfl) (by rfl) (by rfl) ?_ (by intro _; rfl)
 k_steps
 rename IntsAre _ (List.take (Int.toNat _) ds) => hiv
 rename (List.take (Int.toNat _) ds).length ≤ ds.length => hc1
 rename (List.take (Int.toNat _) ds).length = _ => hc2
 clear hc1 hc2
 simp only [Int.toNat_natCast] at hiv
 rename Fr _ _ _ _ => F1
 rename News _ _ _ _ => N1
 refine Stop.mk ⟨_, ⟨_, _, src_ints (by exact hh) (by exact N1.isList (by k_mem)) hiv, by rw [sizeLine_eq, List.size_toArray, hiv.length]; omega, by rw [List.size_toArray, hiv.length], fun _ _ h => h, ?_⟩, ?_⟩
 ·intro C k v s₃ m₃ E'' hk hv F hm
  obtain ⟨ta, rfl⟩ := hv
  have hk := hdsn _ hk
  have ho := N1.get (show (L + 2, o2) ∈ _ by k_mem)
  have k0 : Keep g _ := F1.keep
  clear F1 N1
  k_steps
  refine Stop.mk (KXi.item (map_len hx) (by omega) (by omega) (by decide) fun _ => ?_)
  exact Stop.mk ⟨⟨_, rfl⟩, ⟨_, _, rfl, fun _ _ e => e⟩⟩
 ·intro D ys h' tk' n' hR hkk hD hl'
  obtain ⟨N2, hn2⟩ := news_more F1 N1 (fun b o _ e => hkk b o e) hD hl'
  have F2 := F1.kept hkk
  clear F1 N1
  k_steps
  refine Stop.mk ?_
  rename Fr _ _ _ _ => F1
  rename News _ _ _ _ => N1
  refine KT.join_1 (by exact N1.isList (by k_mem)) (carried_items hR) (fun _ _ => rfl) ?_ ?_
  ·omega
  intro tj kj _
  k_steps
  refine Stop.mk ?_
  refine encode_K (pick_ascii hx hdsn) (by show (pick x _).cps.size ≤ 1000; rw [pick_size]; first | exact Nat.le_trans (by assumption) (by decide) | omega) ?_
  intro te ke
  have hdu : KBw.bInts (asciiOf (Txt.join (Str.ofString "") (List.map (Txt.item x) (ds.take (nCh size))))) = signs ms (ds.take (nCh size)) := pick_signs hx hk hdsn
  generalize asciiOf (Txt.join (Str.ofString "") (List.map (Txt.item x) (ds.take (nCh size)))) = due at hdu ⊢
  k_steps
  rename IntsAre _ (List.take (Int.toNat _) ds) => hiv2
  rename (List.take (Int.toNat _) ds).length ≤ ds.length => hc1
  rename (List.take (Int.toNat _) ds).length = _ => hc2
  clear hc1 hc2
  simp only [Int.toNat_natCast] at hiv2
  rename Fr _ _ _ _ => F1
  rename News _ _ _ _ => N1
  refine Stop.mk ⟨F1.keep, ?_⟩
  refine bits_spec (by exact Gb.keeps F1.keep) (by exact F14.keeps F1.keep) (by exact rm (b := 2) hd) (by exact rm (b := 11) hu) (by exact hh) _ _ (ds.take (nCh size)) (by exact N1.isList (by k_mem)) hiv2 (by omega) _ _ (by omega) big ?_
  intro lb wb nb hb tkb kkb hlb hnb hib
  obtain ⟨N2, hn2⟩ := news_more F1 N1 (fun b o _ e => kkb b o e) hnb hlb
  have F2 := F1.kept kkb
  clear F1 N1
  have hbl : (lawBits (ds.take (nCh size)) (Int.toNat 6) big).length = nCh size * 6 := by rw [lawBits_len, hdn]; rfl
  have hb01 := lawBits_01 (ds.take (nCh size)) (Int.toNat 6) big
  have hrd : lawValues ((lawBits (ds.take (nCh size)) (Int.toNat 6) big).take size.toNat) size big = _ := rd_any hx hk big hs hdsn hdn
  generalize hbb : lawBits (ds.take (nCh size)) (Int.toNat 6) big = bb at hib hbl hb01 hrd
  k_steps
  rename IntsAre _ (List.take (Int.toNat _) bb) => hiv3
  rename Fr _ _ _ _ => F1
  rename News _ _ _ _ => N1
  obtain ⟨lq, e⟩ := nm1 N1
  subst e
  rename List Value => wq
  have N3 : News g L _ ([(lq, W.listOf (List.toArray wq) 0), (L + 1, o1), (L + 2, o2), (L + 3, o3), (L + 4, o4), (ld, W.listOf (List.toArray vs) nd), (lz, W.listOf (List.toArray zs) nz), (I, oI)] ++ led) := news_sub N1 (fun p hp => by
   rcases List.mem_cons.mp hp with rfl | hp
   ·exact List.mem_cons_self
   ·repeat (first | exact hp | apply List.mem_cons_of_mem))
  clear N1
  have hPx : ∀ p ∈ [(lq, W.listOf (List.toArray wq) 0), (L + 1, o1), (L + 2, o2), (L + 3, o3), (L + 4, o4), (ld, W.listOf (List.toArray vs) nd), (lz, W.listOf (List.toArray zs) nz), (I, oI)], p.1 ∉ PS := by
   intro p hp
   rcases List.mem_cons.mp hp with rfl | hp
   ·exact isPS_fields (news := [(lq, W.listOf (List.toArray wq) 0)]) XL (news_sub N3 (fun p hp => by
     rcases List.mem_append.mp hp with hp | hp
     ·exact List.mem_append_left _ (by rw [List.mem_singleton] at hp; subst hp; exact List.mem_cons_self)
     ·exact List.mem_append_right _ hp)) (fun p hp vs q => by rw [List.mem_singleton] at hp; subst hp; cases q) _ List.mem_cons_self
   ·exact hPn p hp
  refine Stop.mk ⟨F1.keep, ?_⟩
  refine read_spec Gb (by exact K'.push F1 rfl (fun q => ScopeKind.noConfusion q)) (by exact XL.tabs (fun p hp => (N3 p (List.mem_append_right _ hp)).1) F1.keep) hgP (by exact F18.keeps F1.keep) (by show A.depth + 1 + _ < _; exact rm2 hd) (by show A.units + 3 + _ < _; exact rm2 hu) (by exact hh) e lk bm big he ms hl XK size hs _ _ _ (signs ms (ds.take (nCh size))) hdu (by rw [signs_len]; omega) ?_ ?_
  ·intro t1 h1 tk1 _ hb
   rcases hb with hb | ⟨k, h1, h2⟩
   ·rw [signs_len] at hb; exact absurd hdn hb
   ·exact absurd (signs_mem hl hdsn k h1) h2
  intro t3 h3 tk3 Y _ _
  obtain ⟨led2, F2, N2, XL2⟩ := aft0 K'.stk rfl hgP F1 N3 XL hPx (by exact Y)
  clear F1 N3
  simp only [List.cons_append, List.nil_append] at N2
  have hb02 : Bits01 (bb.take size.toNat) := fun b hb => hb01 b (List.mem_of_mem_take hb)
  have hbl2 : (bb.take size.toNat).length ≤ 100 := by rw [List.length_take]; exact Nat.le_trans (Nat.min_le_left _ _) (Int.toNat_le.2 (Int.le_trans (Sz.le hs).2 (by decide)))
  k_steps
  rename Fr _ _ _ _ => F1
  rename News _ _ _ _ => N1
  refine Stop.mk ⟨F1.keep, ?_⟩
  refine values_spec (by exact Gb.keeps F1.keep) (by exact F15.keeps F1.keep) (by exact rm (b := 2) hd) (by exact rm (b := 11) hu) (by exact hh) _ _ (bb.take size.toNat) (by exact N1.isList (by k_mem)) hiv3 hb02 (by omega) _ _ (by omega) big ?_
  intro lv wv nv hv tkv kkv hlv hnv hiv
  obtain ⟨N2, hn2⟩ := news_more F1 N1 (fun b o _ e => kkv b o e) hnv hlv
  have F2 := F1.kept kkv
  clear F1 N1
  rw [hrd] at hiv
  generalize rdV ms big size (signs ms (ds.take (nCh size))) = rr at hiv ⊢
  obtain ⟨tv, rfl⟩ : ∃ t, wv = [.int rr t] := by
   cases hiv with
   | cons n t h => cases h; exact ⟨t, rfl⟩
  k_steps
  ·rename rr ≠ _ => hc; exact absurd rfl hc
  refine Stop.mk ?_
  rename Fr _ _ _ _ => F1
  rename News _ _ _ _ => N1
  have N3 : News g L _ ([(L + 1, o1), (L + 2, o2), (L + 3, o3), (L + 4, o4), (ld, W.listOf (List.toArray vs) nd), (lz, W.listOf (List.toArray zs) nz), (I, oI)] ++ led2) := news_sub N1 (fun p hp => by repeat (first | exact hp | apply List.mem_cons_of_mem))
  clear N1
  exact hret _ _ _ _ _ _ hdu XL2 (fr_to F1 (sm ["told", "many", "few", "spoilt", "place", "bits", "signs", "count", "due", "number"])) N3
theorem clip_le {L : Nat} {p : Int} (h0 : 0 ≤ p) : clipAt L p ≤ p.toNat := by
 unfold clipAt
 rw [if_neg (Int.not_lt.mpr h0)]
 exact Int.toNat_le_toNat (Int.max_le.2 ⟨h0, Int.min_le_left _ _⟩)
theorem few_lt {c L n : Nat} {p : Int} (hc : c ≤ p.toNat) (h0 : 0 ≤ p) (h : p < n) (hn : n ≤ 11) : min c L ≤ 100 ∧ min c L ≠ n := by
 have h1 : min c L < n := Nat.lt_of_le_of_lt (Nat.min_le_left _ _) (Nat.lt_of_le_of_lt hc ((Int.toNat_lt h0).2 h))
 exact ⟨Nat.le_trans (Nat.le_of_lt h1) (Nat.le_trans hn (by decide)), Nat.ne_of_lt h1⟩
theorem many_gt {k n : Nat} {q : Int} (hk : k = n) (hn : n ≤ 11) (h0 : 0 ≤ q) (h : q < 12) : k + (1 + q).toNat ≤ 100 ∧ k + (1 + q).toNat ≠ n := by
 obtain ⟨m, rfl⟩ := Int.eq_ofNat_of_zero_le h0
 subst hk
 rw [show (1 + (m : Int)).toNat = m + 1 by rw [Int.add_comm]; rfl]
 exact ⟨Nat.le_trans (Nat.add_le_add hn (Int.ofNat_lt.1 h)) (by decide), fun e => absurd (Nat.lt_add_of_pos_right (Nat.succ_pos m)) (Nat.not_lt.2 (Nat.le_of_eq e))⟩
theorem spo_le {a b L : Nat} (h : L ≤ 11) : min a L + (0 + 1) + min (L - b) (L - b) ≤ 100 :=
 Nat.le_trans (Nat.add_le_add (Nat.add_le_add (Nat.le_trans (Nat.min_le_right _ _) h) (Nat.le_refl _)) (Nat.le_trans (Nat.min_le_left _ _) (Nat.le_trans (Nat.sub_le _ _) h))) (by decide)
theorem loop3 {w : World} {mg mb : Str → Option Value} {A : Around} {s : Shared} {Q : Flow → Shared → Prop} {E : Value → Shared → Prop} {h₀ g : Heap} {L f : Addr} {cd : Value} {led : List (Addr × Obj)} (hfr : A.frames = some []) (hd : A.depth + 7 < recursionLimit) (hu : A.units + 100 < cLine) (hh : A.handled = none) (hgP : ∀ b ∈ PS, g.get? b = none) (XL : Led h₀ g led) (Gb : Gd w mg mb g) {f14 f15 f16 f17 f18 : Addr} (m14 : mg "_law_bits" = some (.ref f14)) (F14 : FnAt g 14 f14) (m15 : mg "_law_values" = some (.ref f15)) (F15 : FnAt g 15 f15) (m16 : mg "_law_foreign" = some (.ref f16)) (F16 : FnAt g 16 f16) (m17 : mg "_law_written" = some (.ref f17)) (F17 : FnAt g 17 f17) (m18 : mg "_law_read" = some (.ref f18)) (F18 : FnAt g 18 f18) {e lk : Addr} {bm : Array UInt8} {big : Bool} (he : Eng g e bm big lk) {x : Str} (hx : MapOf bm x) {ms : List Int} (hk : KBw.bInts bm = ms) (hl : ms.length = 64) (XK : Lkup w g lk ms) {size first second : Int} (hs : Sz size) {tsz tf ts tx : Tok} {ld lz I : Addr} {vs zs : List Value} {ds : List Int} (hvs : IntsAre vs ds) (hds : Six ds) (hdl : ds.length = 11) {m5 : Str → Option Value} (y1 : m5 "size" = some (.int size tsz)) (y2 : m5 "drawn" = some (.ref ld)) (y3 : m5 "big" = some (.bool big)) (y4 : m5 "engine" = some (.ref e)) (y5 : m5 "second" = some (.int second ts)) (y6 : m5 "first" = some (.int first tf)) {nd nz : Nat} {o1 o2 o3 o4 oI : Obj} (c2 : o2.data = .cell (some (.str x tx))) (hPn : ∀ p ∈ [(L + 1, o1), (L + 2, o2), (L + 3, o3), (L + 4, o4), (ld, W.listOf (List.toArray vs) nd), (lz, W.listOf (List.toArray zs) nz), (I, oI)], p.1 ∉ PS) {u1 u2 u5 u6 u7 u8 u9 ua : Option Value} {tc tg : Tok} {sg : Array UInt8} (hsg : KBw.bInts sg = signs ms (ds.take (nCh size)))
  (F : Fr g L s.heap (fun y => if y = "told" then ua else if y = "many" then u9 else if y = "few" then u8 else if y = "spoilt" then u7 else if y = "place" then u6 else if y = "bits" then u5 else if y = "signs" then some (.bytes sg tg) else if y = "count" then some (.int (nCh size : Int) tc) else if y = "due" then u2 else if y = "number" then u1 else m5 y)) (N : News g L s.heap ([(L + 1, o1), (L + 2, o2), (L + 3, o3), (L + 4, o4), (ld, W.listOf (List.toArray vs) nd), (lz, W.listOf (List.toArray zs) nz), (I, oI)] ++ led))
  (hret : ∀ u6 b1 t1 b2 t2 b3 t3 led' h' tk', (∀ b ∈ [b1, b2, b3], (KBw.bInts b).length ≤ 100 ∧ ((KBw.bInts b).length ≠ nCh size ∨ ∃ k ∈ KBw.bInts b, k ∉ ms)) → Led h₀ g led' → Fr g L h' (fun y => if y = "told" then ua else if y = "many" then some (.bytes b2 t2) else if y = "few" then some (.bytes b1 t1) else if y = "spoilt" then some (.bytes b3 t3) else if y = "place" then u6 else if y = "bits" then u5 else if y = "signs" then some (.bytes sg tg) else if y = "count" then some (.int (nCh size : Int) tc) else if y = "due" then u2 else if y = "number" then u1 else m5 y) → News g L h' ([(L + 1, o1), (L + 2, o2), (L + 3, o3), (L + 4, o4), (ld, W.listOf (List.toArray vs) nd), (lz, W.listOf (List.toArray zs) nz), (I, oI)] ++ led') →
   wpAny (model rw_iw0008_01.prog w) (A.deeper (envOfC (Str.ofString "law") lawS L f cd)) (execs (lawLp.drop 10) (envOfC (Str.ofString "law") lawS L f cd)) Q E { s with heap := h', toks := tk' }) :
  wpAny (model rw_iw0008_01.prog w) (A.deeper (envOfC (Str.ofString "law") lawS L f cd)) (execs (lawLp.drop 7) (envOfC (Str.ofString "law") lawS L f cd)) Q E s := by
 have KX := Gb.K
 have T := Gb.T
 have hgz := hs.le
 have hn11 := nCh_le hs
 have K' : Bel A [] g g := ⟨⟨hfr, trivial⟩, Keep.refl g, fun _ h => nomatch h⟩
 revert KX
 k_fill
 intro KX
 have hdsn : Six (ds.take (nCh size)) := fun v hv => hds v (List.mem_of_mem_take hv)
 have hdn : (ds.take (nCh size)).length = nCh size := by rw [List.length_take, hdl]; exact Nat.min_eq_left hn11.2
 have hsl : (KBw.bInts sg).length = nCh size := by rw [hsg, signs_len, hdn]
 generalize hkq : signs ms (ds.take (nCh size)) = kq at hsg
 rw [hsg] at hsl
 have hcn : (0 : Int) < (nCh size : Int) := Int.natCast_pos.2 hn11.1
 have hp1 : 0 ≤ (first.fdiv 3).fmod (nCh size) ∧ (first.fdiv 3).fmod (nCh size) < nCh size := ⟨Int.fmod_nonneg_of_pos _ hcn, Int.fmod_lt_of_pos _ hcn⟩
 have hp2 : 0 ≤ (second.fdiv 192).fmod (nCh size) ∧ (second.fdiv 192).fmod (nCh size) < nCh size := ⟨Int.fmod_nonneg_of_pos _ hcn, Int.fmod_lt_of_pos _ hcn⟩
 have hp3 : 0 ≤ (second.fdiv 192).fmod 12 ∧ (second.fdiv 192).fmod 12 < 12 := ⟨Int.fmod_nonneg_of_pos _ (by decide), Int.fmod_lt_of_pos _ (by decide)⟩
 have hp4 : 0 ≤ second.fmod 192 ∧ second.fmod 192 < 192 := ⟨Int.fmod_nonneg_of_pos _ (by decide), Int.fmod_lt_of_pos _ (by decide)⟩
 simp only [List.cons_append, List.nil_append] at N
 refine execs_cut3 (by rfl) ?_
 k_steps
 rename Fr _ _ _ _ => F1
 rename News _ _ _ _ => N1
 refine Stop.mk ⟨F1.keep, ?_⟩
 refine foreign_spec (by exact Gb.keeps F1.keep) (by exact F16.keeps F1.keep) (by exact rm (b := 2) hd) (by exact rm (b := 11) hu) _ _ ?_
 intro t2 h2 k2 kk2
 have F2 := F1.kept kk2
 have N2 : News g L h2 _ := fun p hp => ⟨kk2 _ _ (N1 p hp).1, (N1 p hp).2⟩
 clear F1 N1
 have hfi := foreign_in hp4
 have hfn := foreign_not hx hk hp4
 generalize (if second.fmod 192 < 46 then second.fmod 192 else if second.fmod 192 < 53 then second.fmod 192 + 12 else if second.fmod 192 < 59 then second.fmod 192 + 38 else second.fmod 192 + 64) = fv at hfi hfn ⊢
 k_steps
 rename Fr _ _ _ _ => F5
 rename News _ _ _ _ => N5
 refine KBa.make_K (ns := [fv]) (by exact F5) (by exact N5) (by exact hh) (by exact N5.isList (List.Mem.head _)) (.cons _ _ .nil) (fun n hn => by rw [List.mem_singleton] at hn; subst hn; exact hfi) (by simp) ?_
 intro h9 t9 k9 F9 N9 hin9
 have hfb := KBa.ints_make hin9
 clear F5 N5
 repeat' ((fail_if_success (with_reducible show wpAny _ _ (binaryOp _ (Value.bytes sg _) _) _ _ _)); first | (k_unfold; (try dsimp only)) | walk1 | (dsimp only; walk1))
 have hdt := dots (1 + (second.fdiv 192).fmod 12).toNat
 refine KBa.add_K hsg hdt (by rw [List.length_replicate]; exact Nat.le_trans (many_gt hsl hn11.2 hp3.1 hp3.2).1 (by decide)) ?_
 intro t10 k10 hmany
 k_steps
 refine Stop.mk ?_
 rename Fr _ _ _ _ => F1
 rename News _ _ _ _ => N1
 have N3 : News g L _ ([(L + 1, o1), (L + 2, o2), (L + 3, o3), (L + 4, o4), (ld, W.listOf (List.toArray vs) nd), (lz, W.listOf (List.toArray zs) nz), (I, oI)] ++ led) := news_sub N1 (fun p hp => by repeat (first | exact hp | apply List.mem_cons_of_mem))
 clear N1
 rename KBw.bInts (KBy.picked sg none (some ((second.fdiv 192).fmod _))) = _ => hfew
 rename KBw.bInts (_ ++ _ ++ _) = _ => hspo
 refine hret _ _ _ _ _ _ _ _ _ _ ?_ XL (fr_to F1 (sm ["told", "many", "few", "spoilt", "place", "bits", "signs", "count", "due", "number"])) N3
 clear hret F1 N3
 intro b hb
 simp only [List.mem_cons, List.not_mem_nil, or_false] at hb
 rcases hb with rfl | rfl | rfl
 ·rw [hfew, List.length_take]
  exact ⟨(few_lt (clip_le hp2.1) hp2.1 hp2.2 hn11.2).1, .inl (few_lt (clip_le hp2.1) hp2.1 hp2.2 hn11.2).2⟩
 ·rw [hmany, List.length_append, List.length_replicate]
  exact ⟨(many_gt hsl hn11.2 hp3.1 hp3.2).1, .inl (many_gt hsl hn11.2 hp3.1 hp3.2).2⟩
 ·rw [hspo]
  simp only [List.length_append, List.length_cons, List.length_nil, List.length_take, List.length_drop]
  exact ⟨spo_le (Nat.le_trans (Nat.le_of_eq hsl) hn11.2), .inr ⟨fv, by simp, hfn⟩⟩
theorem loop4 {w : World} {mg mb : Str → Option Value} {A : Around} {s : Shared} {Q : Flow → Shared → Prop} {E : Value → Shared → Prop} {h₀ g : Heap} {L f : Addr} {cd : Value} {led : List (Addr × Obj)} (hfr : A.frames = some []) (hd : A.depth + 7 < recursionLimit) (hu : A.units + 100 < cLine) (hh : A.handled = none) (hgP : ∀ b ∈ PS, g.get? b = none) (XL : Led h₀ g led) (Gb : Gd w mg mb g) {f14 f15 f16 f17 f18 : Addr} (m14 : mg "_law_bits" = some (.ref f14)) (F14 : FnAt g 14 f14) (m15 : mg "_law_values" = some (.ref f15)) (F15 : FnAt g 15 f15) (m16 : mg "_law_foreign" = some (.ref f16)) (F16 : FnAt g 16 f16) (m17 : mg "_law_written" = some (.ref f17)) (F17 : FnAt g 17 f17) (m18 : mg "_law_read" = some (.ref f18)) (F18 : FnAt g 18 f18) {e lk : Addr} {bm : Array UInt8} {big : Bool} (he : Eng g e bm big lk) {x : Str} (hx : MapOf bm x) {ms : List Int} (hk : KBw.bInts bm = ms) (hl : ms.length = 64) (XK : Lkup w g lk ms) {size first second : Int} (hs : Sz size) {tsz tf ts tx : Tok} {ld lz I : Addr} {vs zs : List Value} {ds : List Int} (hvs : IntsAre vs ds) (hds : Six ds) (hdl : ds.length = 11) {m5 : Str → Option Value} (y1 : m5 "size" = some (.int size tsz)) (y2 : m5 "drawn" = some (.ref ld)) (y3 : m5 "big" = some (.bool big)) (y4 : m5 "engine" = some (.ref e)) (y5 : m5 "second" = some (.int second ts)) (y6 : m5 "first" = some (.int first tf)) {nd nz : Nat} {o1 o2 o3 o4 oI : Obj} (c2 : o2.data = .cell (some (.str x tx))) (hPn : ∀ p ∈ [(L + 1, o1), (L + 2, o2), (L + 3, o3), (L + 4, o4), (ld, W.listOf (List.toArray vs) nd), (lz, W.listOf (List.toArray zs) nz), (I, oI)], p.1 ∉ PS) {u1 u2 u5 u6 ua : Option Value} {tc tg t1 t2 t3 : Tok} {sg b1 b2 b3 : Array UInt8} (hb1 : (KBw.bInts b1).length ≤ 100 ∧ ((KBw.bInts b1).length ≠ nCh size ∨ ∃ k ∈ KBw.bInts b1, k ∉ ms)) (hb2 : (KBw.bInts b2).length ≤ 100 ∧ ((KBw.bInts b2).length ≠ nCh size ∨ ∃ k ∈ KBw.bInts b2, k ∉ ms)) (hb3 : (KBw.bInts b3).length ≤ 100 ∧ ((KBw.bInts b3).length ≠ nCh size ∨ ∃ k ∈ KBw.bInts b3, k ∉ ms))
  (F : Fr g L s.heap (fun y => if y = "told" then ua else if y = "many" then some (.bytes b2 t2) else if y = "few" then some (.bytes b1 t1) else if y = "spoilt" then some (.bytes b3 t3) else if y = "place" then u6 else if y = "bits" then u5 else if y = "signs" then some (.bytes sg tg) else if y = "count" then some (.int (nCh size : Int) tc) else if y = "due" then u2 else if y = "number" then u1 else m5 y)) (N : News g L s.heap ([(L + 1, o1), (L + 2, o2), (L + 3, o3), (L + 4, o4), (ld, W.listOf (List.toArray vs) nd), (lz, W.listOf (List.toArray zs) nz), (I, oI)] ++ led))
  (hret : ∀ u1 u2 u3 u4 u5 u6 u7 u8 u9 ua led' h' tk', Led h₀ g led' → Fr g L h' (fun y => if y = "told" then ua else if y = "many" then u9 else if y = "few" then u8 else if y = "spoilt" then u7 else if y = "place" then u6 else if y = "bits" then u5 else if y = "signs" then u4 else if y = "count" then u3 else if y = "due" then u2 else if y = "number" then u1 else m5 y) → News g L h' ([(L + 1, o1), (L + 2, o2), (L + 3, o3), (L + 4, o4), (ld, W.listOf (List.toArray vs) nd), (lz, W.listOf (List.toArray zs) nz), (I, oI)] ++ led') → Q .next { s with heap := h', toks := tk' }) :
  wpAny (model rw_iw0008_01.prog w) (A.deeper (envOfC (Str.ofString "law") lawS L f cd)) (execs (lawLp.drop 10) (envOfC (Str.ofString "law") lawS L f cd)) Q E s := by
 have KX := Gb.K
 have T := Gb.T
 have hgz := hs.le
 have hn11 := nCh_le hs
 have K' : Bel A [] g g := ⟨⟨hfr, trivial⟩, Keep.refl g, fun _ h => nomatch h⟩
 revert KX
 k_fill
 intro KX
 have hzp : (0 : Int) < 2 ^ size.toNat := Int.pow_pos (by decide)
 simp only [List.cons_append, List.nil_append] at N
 refine execs_cut3 (by rfl) ?_
 k_steps
 rename Fr _ _ _ _ => F1
 rename News _ _ _ _ => N1
 have N3 : News g L _ ([(L + 1, o1), (L + 2, o2), (L + 3, o3), (L + 4, o4), (ld, W.listOf (List.toArray vs) nd), (lz, W.listOf (List.toArray zs) nz), (I, oI)] ++ led) := news_sub N1 (fun p hp => by repeat (first | exact hp | apply List.mem_cons_of_mem))
 clear N1
 refine Stop.mk ⟨F1.keep, ?_⟩
 refine read_spec Gb (by exact K'.push F1 rfl (fun q => ScopeKind.noConfusion q)) (by exact XL.tabs (fun p hp => (N3 p (List.mem_append_right _ hp)).1) F1.keep) hgP (by exact F18.keeps F1.keep) (by show A.depth + 1 + _ < _; exact rm2 hd) (by show A.units + 3 + _ < _; exact rm2 hu) (by exact hh) e lk bm big he ms hl XK size hs _ _ _ _ rfl (by omega) ?_ ?_
 rotate_left
 ·intro t1 h1 tk1 _ hlen hmem
  rcases hb1.2 with hb | ⟨k, h1, h2⟩
  ·exact absurd hlen hb
  ·exact absurd (hmem k h1) h2
 intro t1 h1 tk1 Y _
 obtain ⟨led2, F2, N2, XL2⟩ := aft0 K'.stk rfl hgP F1 N3 XL hPn (by exact Y)
 clear F1 N3
 simp only [List.cons_append, List.nil_append] at N2
 k_steps
 rename Fr _ _ _ _ => F1
 rename News _ _ _ _ => N1
 have N3 : News g L _ ([(L + 1, o1), (L + 2, o2), (L + 3, o3), (L + 4, o4), (ld, W.listOf (List.toArray vs) nd), (lz, W.listOf (List.toArray zs) nz), (I, oI)] ++ led2) := news_sub N1 (fun p hp => by repeat (first | exact hp | apply List.mem_cons_of_mem))
 clear N1
 refine Stop.mk ⟨F1.keep, ?_⟩
 refine read_spec Gb (by exact K'.push F1 rfl (fun q => ScopeKind.noConfusion q)) (by exact XL2.tabs (fun p hp => (N3 p (List.mem_append_right _ hp)).1) F1.keep) hgP (by exact F18.keeps F1.keep) (by show A.depth + 1 + _ < _; exact rm2 hd) (by show A.units + 3 + _ < _; exact rm2 hu) (by exact hh) e lk bm big he ms hl XK size hs _ _ _ _ rfl (by omega) ?_ ?_
 rotate_left
 ·intro t1 h1 tk1 _ hlen hmem
  rcases hb2.2 with hb | ⟨k, h1, h2⟩
  ·exact absurd hlen hb
  ·exact absurd (hmem k h1) h2
 intro t1 h1 tk1 Y _
 obtain ⟨led3, F2, N2, XL3⟩ := aft0 K'.stk rfl hgP F1 N3 XL2 hPn (by exact Y)
 clear F1 N3
 simp only [List.cons_append, List.nil_append] at N2
 k_steps
 rename Fr _ _ _ _ => F1
 rename News _ _ _ _ => N1
 have N3 : News g L _ ([(L + 1, o1), (L + 2, o2), (L + 3, o3), (L + 4, o4), (ld, W.listOf (List.toArray vs) nd), (lz, W.listOf (List.toArray zs) nz), (I, oI)] ++ led3) := news_sub N1 (fun p hp => by repeat (first | exact hp | apply List.mem_cons_of_mem))
 clear N1
 refine Stop.mk ⟨F1.keep, ?_⟩
 refine read_spec Gb (by exact K'.push F1 rfl (fun q => ScopeKind.noConfusion q)) (by exact XL3.tabs (fun p hp => (N3 p (List.mem_append_right _ hp)).1) F1.keep) hgP (by exact F18.keeps F1.keep) (by show A.depth + 1 + _ < _; exact rm2 hd) (by show A.units + 3 + _ < _; exact rm2 hu) (by exact hh) e lk bm big he ms hl XK size hs _ _ _ _ rfl (by omega) ?_ ?_
 rotate_left
 ·intro t1 h1 tk1 _ hlen hmem
  rcases hb3.2 with hb | ⟨k, h1, h2⟩
  ·exact absurd hlen hb
  ·exact absurd (hmem k h1) h2
 intro t1 h1 tk1 Y _
 obtain ⟨led4, F2, N2, XL4⟩ := aft0 K'.stk rfl hgP F1 N3 XL3 hPn (by exact Y)
 clear F1 N3
 simp only [List.cons_append, List.nil_append] at N2
 k_steps
 rename News _ _ _ _ => N1
 obtain ⟨lt, e⟩ := nm1 N1
 subst e
 rename (_ ∧ _ ∧ _ ∧ _ ∧ _ ∧ _ ∧ _ ∧ AllLt _ led4) => hlt
 have habs : 0 ≤ (if second < 0 then -second else second) := by split <;> omega
 generalize (if second < 0 then -second else second) = ab at habs ⊢
 rename Fr _ _ _ _ => F1
 rename News _ _ _ _ => N1
 have hPx := head_PS (base := [(L + 1, o1), (L + 2, o2), (L + 3, o3), (L + 4, o4), (ld, W.listOf (List.toArray vs) nd), (lz, W.listOf (List.toArray zs) nz), (I, oI)]) (led := led4) XL4 N1 (fun vs q => by cases q) hPn
 have N3 : News g L _ (_ :: [(L + 1, o1), (L + 2, o2), (L + 3, o3), (L + 4, o4), (ld, W.listOf (List.toArray vs) nd), (lz, W.listOf (List.toArray zs) nz), (I, oI)] ++ led4) := N1
 clear N1
 refine Stop.mk ⟨F1.keep, ?_⟩
 refine written_spec Gb (by exact K'.push F1 rfl (fun q => ScopeKind.noConfusion q)) (by exact XL4.tabs (fun p hp => (N3 p (List.mem_append_right _ hp)).1) F1.keep) hgP (by exact F17.keeps F1.keep) (by show A.depth + 1 + _ < _; exact rm2 hd) (by show A.units + 3 + _ < _; exact rm2 hu) (by exact hh) e lk bm big he ms hk hl size hs _ _ _ ?_ ?_
 rotate_left
 ·intro b t1 h1 tk1 _ hb
  omega
 intro t1 h1 tk1 Y _
 obtain ⟨led5, F2, N2, XL5⟩ := aft0 K'.stk rfl hgP F1 N3 XL4 hPx (by exact Y)
 clear F1 N3
 simp only [List.cons_append, List.nil_append] at N2
 k_steps
 have habs2 : 0 ≤ (if second < 0 then -second else second) := by split <;> omega
 generalize (if second < 0 then -second else second) = ab2 at habs2 ⊢
 rename Fr _ _ _ _ => F1
 rename News _ _ _ _ => N1
 have hPx := head_PS (base := [(L + 1, o1), (L + 2, o2), (L + 3, o3), (L + 4, o4), (ld, W.listOf (List.toArray vs) nd), (lz, W.listOf (List.toArray zs) nz), (I, oI)]) (led := led5) XL5 N1 (fun vs q => by cases q) hPn
 have N3 : News g L _ (_ :: [(L + 1, o1), (L + 2, o2), (L + 3, o3), (L + 4, o4), (ld, W.listOf (List.toArray vs) nd), (lz, W.listOf (List.toArray zs) nz), (I, oI)] ++ led5) := N1
 clear N1
 refine Stop.mk ⟨F1.keep, ?_⟩
 refine written_spec Gb (by exact K'.push F1 rfl (fun q => ScopeKind.noConfusion q)) (by exact XL5.tabs (fun p hp => (N3 p (List.mem_append_right _ hp)).1) F1.keep) hgP (by exact F17.keeps F1.keep) (by show A.depth + 1 + _ < _; exact rm2 hd) (by show A.units + 3 + _ < _; exact rm2 hu) (by exact hh) e lk bm big he ms hk hl size hs _ _ _ ?_ ?_
 rotate_left
 ·intro b t1 h1 tk1 _ hb
  omega
 intro t1 h1 tk1 Y _
 obtain ⟨led6, F2, N2, XL6⟩ := aft0 K'.stk rfl hgP F1 N3 XL5 hPx (by exact Y)
 clear F1 N3
 simp only [List.cons_append, List.nil_append] at N2
 repeat' ((fail_if_success (with_reducible show wpAny _ _ (inplaceOp _ _ _) _ _ _)); first | (k_unfold; (try dsimp only)) | walk1 | (dsimp only; walk1))
 rename Fr _ _ _ _ => F1
 rename News _ _ _ _ => N1
 have hne : ∀ p ∈ [(L + 1, o1), (L + 2, o2), (L + 3, o3), (L + 4, o4), (ld, W.listOf (List.toArray vs) nd), (lz, W.listOf (List.toArray zs) nz), (I, oI)] ++ led6, p.1 ≠ lt := by
  intro p hp
  rcases List.mem_append.mp hp with hp | hp
  ·simp only [List.mem_cons, List.not_mem_nil, or_false] at hp
   rcases hp with rfl | rfl | rfl | rfl | rfl | rfl | rfl <;> k_ne
  ·exact led_ne XL6 (fun p hp => (N1 p (by repeat (first | exact hp | apply List.mem_cons_of_mem))).1) (N1 _ (.tail _ (.head _))).1 p hp
 refine iadd_list (xs := [_, _, _]) (ys := [_, _]) (by exact F1) (by exact N1) (.tail (by k_ne) (.head hne)) (.head _) (by rw [sizeLine_eq]; simp) ?_
 intro h6 n6 F6 N6
 have N6 : News g L h6 (_ :: (lt, W.listOf (List.toArray [_, _, _, _, _]) n6) :: _) := N6
 clear F1 N1
 repeat' ((fail_if_success (with_reducible show wpAny _ _ (binaryOp _ _ _) _ _ _)); first | (k_unfold; (try dsimp only)) | walk1 | (dsimp only; walk1))
 rename Fr _ _ _ _ => F1
 rename News _ _ _ _ => N1
 refine KMa.mul (vs := [_]) (by exact F1) (by exact N1) (by exact N1.isList (List.Mem.head _)) (by decide) (by decide) (by simp) rfl ?_
 intro l9 h9 F9 N9 hl9
 have N9 : News g L h9 ((l9, W.listOf (List.toArray [_, _, _, _, _]) 0) :: _) := N9
 clear F1 N1
 refine ne_dataH (by ke_read) (by ke_read) (by ke_shaped) (by ke_shaped) (by show A.units + 3 + 64 < cLine; exact rm2 hu) ?_
 ke_norm
 k_steps
 rename Fr _ _ _ _ => F1
 rename News _ _ _ _ => N1
 have N3 : News g L _ ([(L + 1, o1), (L + 2, o2), (L + 3, o3), (L + 4, o4), (ld, W.listOf (List.toArray vs) nd), (lz, W.listOf (List.toArray zs) nz), (I, oI)] ++ led6) := news_sub N1 (fun p hp => by repeat (first | exact hp | apply List.mem_cons_of_mem))
 clear N1
 refine Stop.mk ⟨F1.keep, ?_⟩
 refine readS_spec Gb (by exact K'.push F1 rfl (fun q => ScopeKind.noConfusion q)) (by exact XL6.tabs (fun p hp => (N3 p (List.mem_append_right _ hp)).1) F1.keep) hgP (by exact F18.keeps F1.keep) (by show A.depth + 1 + _ < _; exact rm2 hd) (by show A.units + 3 + _ < _; exact rm2 hu) (by exact hh) e lk bm big he ms hl XK size hs _ _ _ ?_
 intro t1 h1 tk1 Y
 obtain ⟨led7, F2, N2, XL7⟩ := aft0 K'.stk rfl hgP F1 N3 XL6 hPn (by exact Y)
 clear F1 N3
 simp only [List.cons_append, List.nil_append] at N2
 k_steps
 refine Stop.mk ?_
 k_steps
 rename Fr _ _ _ _ => F1
 rename News _ _ _ _ => N1
 have N3 : News g L _ ([(L + 1, o1), (L + 2, o2), (L + 3, o3), (L + 4, o4), (ld, W.listOf (List.toArray vs) nd), (lz, W.listOf (List.toArray zs) nz), (I, oI)] ++ led7) := news_sub N1 (fun p hp => by repeat (first | exact hp | apply List.mem_cons_of_mem))
 clear N1
 exact hret _ _ _ _ _ _ _ _ _ _ _ _ _ XL7 (fr_to F1 (sm ["told", "many", "few", "spoilt", "place", "bits", "signs", "count", "due", "number"])) N3
theorem loop_all {w : World} {mg mb : Str → Option Value} {A : Around} {s : Shared} {Q : Flow → Shared → Prop} {E : Value → Shared → Prop} {h₀ g : Heap} {L f : Addr} {cd : Value} {led : List (Addr × Obj)} (hfr : A.frames = some []) (hd : A.depth + 7 < recursionLimit) (hu : A.units + 100 < cLine) (hh : A.handled = none) (hgP : ∀ b ∈ PS, g.get? b = none) (XL : Led h₀ g led) (Gb : Gd w mg mb g) {f14 f15 f16 f17 f18 : Addr} (m14 : mg "_law_bits" = some (.ref f14)) (F14 : FnAt g 14 f14) (m15 : mg "_law_values" = some (.ref f15)) (F15 : FnAt g 15 f15) (m16 : mg "_law_foreign" = some (.ref f16)) (F16 : FnAt g 16 f16) (m17 : mg "_law_written" = some (.ref f17)) (F17 : FnAt g 17 f17) (m18 : mg "_law_read" = some (.ref f18)) (F18 : FnAt g 18 f18) {e lk : Addr} {bm : Array UInt8} {big : Bool} (he : Eng g e bm big lk) {x : Str} (hx : MapOf bm x) {ms : List Int} (hk : KBw.bInts bm = ms) (hl : ms.length = 64) (XK : Lkup w g lk ms) {size first second : Int} (hs : Sz size) {tsz tf ts tx : Tok} {ld lz I : Addr} {vs zs : List Value} {ds : List Int} (hvs : IntsAre vs ds) (hds : Six ds) (hdl : ds.length = 11) {m5 : Str → Option Value} (y1 : m5 "size" = some (.int size tsz)) (y2 : m5 "drawn" = some (.ref ld)) (y3 : m5 "big" = some (.bool big)) (y4 : m5 "engine" = some (.ref e)) (y5 : m5 "second" = some (.int second ts)) (y6 : m5 "first" = some (.int first tf)) {nd nz : Nat} {o1 o2 o3 o4 oI : Obj} (c2 : o2.data = .cell (some (.str x tx))) (hPn : ∀ p ∈ [(L + 1, o1), (L + 2, o2), (L + 3, o3), (L + 4, o4), (ld, W.listOf (List.toArray vs) nd), (lz, W.listOf (List.toArray zs) nz), (I, oI)], p.1 ∉ PS) {u1 u2 u3 u4 u5 u6 u7 u8 u9 ua : Option Value}
  (F : Fr g L s.heap (fun y => if y = "told" then ua else if y = "many" then u9 else if y = "few" then u8 else if y = "spoilt" then u7 else if y = "place" then u6 else if y = "bits" then u5 else if y = "signs" then u4 else if y = "count" then u3 else if y = "due" then u2 else if y = "number" then u1 else m5 y)) (N : News g L s.heap ([(L + 1, o1), (L + 2, o2), (L + 3, o3), (L + 4, o4), (ld, W.listOf (List.toArray vs) nd), (lz, W.listOf (List.toArray zs) nz), (I, oI)] ++ led))
  (hret : ∀ u1 u2 u3 u4 u5 u6 u7 u8 u9 ua led' h' tk', Led h₀ g led' → Fr g L h' (fun y => if y = "told" then ua else if y = "many" then u9 else if y = "few" then u8 else if y = "spoilt" then u7 else if y = "place" then u6 else if y = "bits" then u5 else if y = "signs" then u4 else if y = "count" then u3 else if y = "due" then u2 else if y = "number" then u1 else m5 y) → News g L h' ([(L + 1, o1), (L + 2, o2), (L + 3, o3), (L + 4, o4), (ld, W.listOf (List.toArray vs) nd), (lz, W.listOf (List.toArray zs) nz), (I, oI)] ++ led') → Q .next { s with heap := h', toks := tk' }) :
  wpAny (model rw_iw0008_01.prog w) (A.deeper (envOfC (Str.ofString "law") lawS L f cd)) (execs lawLp (envOfC (Str.ofString "law") lawS L f cd)) Q E s := by
 refine loop1 hfr hd hu hh hgP XL Gb m14 F14 m15 F15 m16 F16 m17 F17 m18 F18 he hx hk hl XK hs hvs hds hdl y1 y2 y3 y4 y5 y6 c2 hPn F N ?_
 intro u1 u2 tc led2 h2 tk2 XL F N
 with_reducible refine loop2 hfr hd hu hh hgP XL Gb m14 F14 m15 F15 m16 F16 m17 F17 m18 F18 he hx hk hl XK hs hvs hds hdl y1 y2 y3 y4 y5 y6 c2 hPn F N ?_
 intro u5 sg tg led3 h3 tk3 hsg XL F N
 refine loop3 hfr hd hu hh hgP XL Gb m14 F14 m15 F15 m16 F16 m17 F17 m18 F18 he hx hk hl XK hs hvs hds hdl y1 y2 y3 y4 y5 y6 c2 hPn hsg F N ?_
 intro u6 b1 t1 b2 t2 b3 t3 led4 h4 tk4 hb XL F N
 refine loop4 hfr hd hu hh hgP XL Gb m14 F14 m15 F15 m16 F16 m17 F17 m18 F18 he hx hk hl XK hs hvs hds hdl y1 y2 y3 y4 y5 y6 c2 hPn (hb b1 (by simp)) (hb b2 (by simp)) (hb b3 (by simp)) F N ?_
 intro u1 u2 u3 u4 u5 u6 u7 u8 u9 ua led5 h5 tk5 XL F N
 exact hret _ _ _ _ _ _ _ _ _ _ _ _ _ XL F N
inductive JA (h₀ g : Heap) (L ld lz : Addr) (m4 : Str → Option Value) (o1 o2 o3 o4 : Obj) (vs : List Value) (nd : Nat) (t1 t2 t3 t4 t5 : Tok) (nz : Nat) (i : Nat) (m : Str → Option Value) (news : List (Addr × Obj)) : Prop
 | mk (u1 u2 u3 u4 u5 u6 u7 u8 u9 ua us led') (hm : m = (fun y => if y = (Str.ofString "told") then ua else if y = "many" then u9 else if y = "few" then u8 else if y = "spoilt" then u7 else if y = "place" then u6 else if y = "bits" then u5 else if y = "signs" then u4 else if y = "count" then u3 else if y = "due" then u2 else if y = "number" then u1 else if y = "size" then us else m4 y)) (hn : news = [(L + 1, o1), (L + 2, o2), (L + 3, o3), (L + 4, o4), (ld, W.listOf (List.toArray vs) nd), (lz, W.listOf (List.toArray [.int 6 t1, .int 12 t2, .int 24 t3, .int 30 t4, .int 64 t5]) nz)] ++ led') (X : Led h₀ g led') : JA h₀ g L ld lz m4 o1 o2 o3 o4 vs nd t1 t2 t3 t4 t5 nz i m news
theorem lawA4 {w : World} {mg mb : Str → Option Value} {A : Around} {s : Shared} {Q : Flow → Shared → Prop} {E : Value → Shared → Prop} {h₀ g : Heap} {L f : Addr} {cd : Value} {led : List (Addr × Obj)} (hfr : A.frames = some []) (hd : A.depth + 7 < recursionLimit) (hu : A.units + 100 < cLine) (hh : A.handled = none) (hgP : ∀ b ∈ PS, g.get? b = none) (XL : Led h₀ g led) (Gb : Gd w mg mb g) {f14 f15 f16 f17 f18 : Addr} (m14 : mg "_law_bits" = some (.ref f14)) (F14 : FnAt g 14 f14) (m15 : mg "_law_values" = some (.ref f15)) (F15 : FnAt g 15 f15) (m16 : mg "_law_foreign" = some (.ref f16)) (F16 : FnAt g 16 f16) (m17 : mg "_law_written" = some (.ref f17)) (F17 : FnAt g 17 f17) (m18 : mg "_law_read" = some (.ref f18)) (F18 : FnAt g 18 f18) {e lk : Addr} {bm : Array UInt8} {big : Bool} (he : Eng g e bm big lk) {x : Str} (hx : MapOf bm x) {ms : List Int} (hk : KBw.bInts bm = ms) (hl : ms.length = 64) (XK : Lkup w g lk ms) {f13 : Addr} (m13 : mg "_law_sizes" = some (.ref f13)) (F13 : FnAt g 13 f13) {first second : Int} {tf ts tx : Tok} {ld : Addr} {vs : List Value} {ds : List Int} (hvs : IntsAre vs ds) (hds : Six ds) (hdl : ds.length = 11) {nd : Nat} {o1 o2 o3 o4 : Obj} {w1 w3 w4 : Option Value} (c1 : o1.data = .cell w1) (c2 : o2.data = .cell (some (.str x tx))) (c3 : o3.data = .cell w3) (c4 : o4.data = .cell w4)
  {m4 : Str → Option Value} (a2 : m4 "drawn" = some (.ref ld)) (a3 : m4 "big" = some (.bool big)) (a4 : m4 "engine" = some (.ref e)) (a5 : m4 "second" = some (.int second ts)) (a6 : m4 "first" = some (.int first tf))
  (F : Fr g L s.heap (fun y => m4 y)) (N : News g L s.heap ([(L + 1, o1), (L + 2, o2), (L + 3, o3), (L + 4, o4), (ld, W.listOf (List.toArray vs) nd)] ++ led))
  (hret : ∀ u1 u2 u3 u4 u5 u6 u7 u8 u9 ua us led' h' tk', Led h₀ g led' → Fr g L h' (fun y => if y = "told" then ua else if y = "many" then u9 else if y = "few" then u8 else if y = "spoilt" then u7 else if y = "place" then u6 else if y = "bits" then u5 else if y = "signs" then u4 else if y = "count" then u3 else if y = "due" then u2 else if y = "number" then u1 else if y = "size" then us else m4 y) → News g L h' ([(L + 1, o1), (L + 2, o2), (L + 3, o3), (L + 4, o4), (ld, W.listOf (List.toArray vs) nd)] ++ led') →
   wpAny (model rw_iw0008_01.prog w) (A.deeper (envOfC (Str.ofString "law") lawS L f cd)) (execs (lawB.drop 7) (envOfC (Str.ofString "law") lawS L f cd)) Q E { s with heap := h', toks := tk' }) :
  wpAny (model rw_iw0008_01.prog w) (A.deeper (envOfC (Str.ofString "law") lawS L f cd)) (execs (lawB.drop 6) (envOfC (Str.ofString "law") lawS L f cd)) Q E s := by
 have KX := Gb.K
 have T := Gb.T
 revert KX
 k_fill
 intro KX
 simp only [List.cons_append, List.nil_append] at N
 refine execs_cut1 (by rfl) ?_
 k_steps
 refine Stop.mk ?_
 refine For_listI (g := g) (L := L) (by exact hh) ?_ (by intro _; rfl) (by intro _ _; rfl)
 k_steps
 rename Fr _ _ _ _ => F1
 rename News _ _ _ _ => N1
 refine Stop.mk ?_
 refine sizes_spec (by exact Gb.keeps F1.keep) (by exact F13.keeps F1.keep) (by exact rm (b := 2) hd) (by exact rm (b := 11) hu) ?_
 intro lz t1 t2 t3 t4 t5 nz h9 tk9 kk hD0 hD
 obtain ⟨N2, hn2⟩ := news_more F1 N1 (fun b o _ e => kk b o e) hD0 hD
 have F2 := F1.kept kk
 clear F1 N1
 k_steps
 have N3 : News g L h9 ([(L + 1, o1), (L + 2, o2), (L + 3, o3), (L + 4, o4), (ld, W.listOf (List.toArray vs) nd), (lz, W.listOf (List.toArray [.int 6 t1, .int 12 t2, .int 24 t3, .int 30 t4, .int 64 t5]) nz)] ++ led) := news_sub N2 (fun p hp => by
  simp only [List.cons_append, List.nil_append, List.mem_cons] at hp ⊢
  rcases hp with h | h | h | h | h | h | h <;> simp only [h, true_or, or_true])
 refine Stop.mk ⟨lz, List.toArray [.int 6 t1, .int 12 t2, .int 24 t3, .int 30 t4, .int 64 t5], _, _, rfl, F2, N3, JA h₀ g L ld lz m4 o1 o2 o3 o4 vs nd t1 t2 t3 t4 t5 nz, ?_, ?_, ?_, ?_⟩
 ·exact ⟨m4 (Str.ofString "number"), m4 (Str.ofString "due"), m4 (Str.ofString "count"), m4 (Str.ofString "signs"), m4 (Str.ofString "bits"), m4 (Str.ofString "place"), m4 (Str.ofString "spoilt"), m4 (Str.ofString "few"), m4 (Str.ofString "many"), m4 (Str.ofString "told"), m4 (Str.ofString "size"), led, funext (sm ["told", "many", "few", "spoilt", "place", "bits", "signs", "count", "due", "number", "size"]), rfl, XL⟩
 ·rintro i m news h ⟨u1, u2, u3, u4, u5, u6, u7, u8, u9, ua, us, led', rfl, rfl, XL'⟩ F N
  exact N.isList (List.mem_append_left _ (.tail _ (.tail _ (.tail _ (.tail _ (.tail _ (.head _)))))))
 ·rintro i I oI Q' hQ v m news h tk hv ⟨u1, u2, u3, u4, u5, u6, u7, u8, u9, ua, us, led', rfl, rfl, XL'⟩ F N hne hoI
  clear F2 N2 N3
  obtain ⟨size, tsz, rfl, hs⟩ : ∃ size tsz, v = .int size tsz ∧ Sz size := by
   match i, hv with
   | 0, hv => cases hv; exact ⟨_, _, rfl, .inl rfl⟩
   | 1, hv => cases hv; exact ⟨_, _, rfl, .inr (.inl rfl)⟩
   | 2, hv => cases hv; exact ⟨_, _, rfl, .inr (.inr (.inl rfl))⟩
   | 3, hv => cases hv; exact ⟨_, _, rfl, .inr (.inr (.inr (.inl rfl)))⟩
   | 4, hv => cases hv; exact ⟨_, _, rfl, .inr (.inr (.inr (.inr rfl)))⟩
   | i + 5, hv => simp at hv
  clear hv
  have hI : I ∉ PS := isPS_other XL' fun p hp => hne p (List.mem_append_right _ hp)
  have hPn : ∀ p ∈ [(L + 1, o1), (L + 2, o2), (L + 3, o3), (L + 4, o4), (ld, W.listOf (List.toArray vs) nd), (lz, W.listOf (List.toArray [.int 6 t1, .int 12 t2, .int 24 t3, .int 30 t4, .int 64 t5]) nz), (I, oI)], p.1 ∉ PS := by
   intro p hp
   have hp' : p ∈ [(L + 1, o1), (L + 2, o2), (L + 3, o3), (L + 4, o4), (ld, W.listOf (List.toArray vs) nd), (lz, W.listOf (List.toArray [.int 6 t1, .int 12 t2, .int 24 t3, .int 30 t4, .int 64 t5]) nz)] ++ [(I, oI)] := hp
   rcases List.mem_append.mp hp' with hp | hp
   ·refine isPS_fields XL' (fun q hq => N q (List.mem_append_left _ hq)) (fun q hq vs e => ?_) p hp
    simp only [List.mem_cons, List.not_mem_nil, or_false] at hq
    rcases hq with rfl | rfl | rfl | rfl | rfl | rfl
    ·rw [c1] at e; cases e
    ·rw [c2] at e; cases e
    ·rw [c3] at e; cases e
    ·rw [c4] at e; cases e
    ·cases e
    ·cases e
   ·rw [List.mem_singleton.mp hp]; exact hI
  have N4 := news_mid N
  clear N
  refine assign_local (env := (envOfC (Str.ofString "law") lawS L f cd)) F N4 (by rfl) ?_
  intro h4 F4 N5
  refine loop_all (first := first) (second := second) (tf := tf) (ts := ts) (s := { s with heap := h4, toks := _ }) hfr hd hu hh hgP XL' Gb m14 F14 m15 F15 m16 F16 m17 F17 m18 F18 he hx hk hl XK hs hvs hds hdl (m5 := fun y => if y = "size" then some (.int size tsz) else m4 y) (by rfl) (by exact a2) (by exact a3) (by exact a4) (by exact a5) (by exact a6) c2 hPn (fr_to F4 (sm ["told", "many", "few", "spoilt", "place", "bits", "signs", "count", "due", "number", "size"])) N5 ?_
  intro u1 u2 u3 u4 u5 u6 u7 u8 u9 ua led6 h6 tk6 XL6 F6 N6
  refine hQ h6 tk6 _ ([(L + 1, o1), (L + 2, o2), (L + 3, o3), (L + 4, o4), (ld, W.listOf (List.toArray vs) nd), (lz, W.listOf (List.toArray [.int 6 t1, .int 12 t2, .int 24 t3, .int 30 t4, .int 64 t5]) nz)] ++ led6.filter (fun p => p.1 != I)) F6 ?_ ?_ ⟨_, _, _, _, _, _, _, _, _, _, _, _, rfl, rfl, XL6.drop (fun p hp => (N6 p (List.mem_append_right _ hp)).1) (N6 (I, oI) (List.mem_append_left _ (.tail _ (.tail _ (.tail _ (.tail _ (.tail _ (.tail _ (.head _))))))))).1 hoI hI⟩
  ·exact news_sub N6 fun p hp => by
    rcases List.mem_append.mp hp with hp | hp
    ·rcases List.mem_append.mp hp with hp | hp
     ·simp only [List.cons_append, List.nil_append, List.mem_cons, List.not_mem_nil, or_false] at hp ⊢
      rcases hp with h | h | h | h | h | h <;> simp only [h, true_or, or_true]
     ·exact List.mem_append_right _ (List.mem_filter.mp hp).1
    ·rw [List.mem_singleton.mp hp]
     exact List.mem_append_left _ (.tail _ (.tail _ (.tail _ (.tail _ (.tail _ (.tail _ (.head _)))))))
  ·intro p hp
   rcases List.mem_append.mp hp with hp | hp
   ·exact hne p (List.mem_append_left _ hp)
   ·simpa using (List.mem_filter.mp hp).2
 ·rintro m news h tk ⟨u1, u2, u3, u4, u5, u6, u7, u8, u9, ua, us, led', rfl, rfl, XL'⟩ F N
  k_steps
  refine Stop.mk ?_
  have N6 : News g L h ([(L + 1, o1), (L + 2, o2), (L + 3, o3), (L + 4, o4), (ld, W.listOf (List.toArray vs) nd)] ++ led') := news_sub N (fun p hp => by
   rcases List.mem_append.mp hp with hp | hp
   ·refine List.mem_append_left _ ?_
    simp only [List.mem_cons, List.not_mem_nil, or_false] at hp ⊢
    rcases hp with h | h | h | h | h <;> simp only [h, true_or, or_true]
   ·exact List.mem_append_right _ hp)
  exact hret _ _ _ _ _ _ _ _ _ _ _ _ _ _ XL' F N6
noncomputable def restV (ns : List Int) : List Int := (ns.drop 13).take 14
noncomputable def octsV (ns : List Int) : List Int := (restV ns).map fun k => k.fmod 256
theorem rest_norm (ns : List Int) : List.take (min 27 ns.length - 13) (List.drop 13 ns) = restV ns := by
 unfold restV
 rw [List.take_eq_take_iff, List.length_drop, ← Nat.sub_min_sub_right, Nat.min_assoc, Nat.min_self]
theorem rest_len (ns : List Int) : (restV ns).length ≤ 14 := by unfold restV; rw [List.length_take]; omega
theorem octs_in (ns : List Int) : ∀ x ∈ octsV ns, 0 ≤ x ∧ x < 256 := fun v hv => by
 obtain ⟨k, _, rfl⟩ := List.mem_map.mp hv
 exact ⟨Int.fmod_nonneg_of_pos _ (by decide), Int.fmod_lt_of_pos _ (by decide)⟩
theorem octs_len (ns : List Int) : (octsV ns).length = (restV ns).length := by simp [octsV]
theorem lawA5 {w : World} {mg mb : Str → Option Value} {A : Around} {s : Shared} {Q : Flow → Shared → Prop} {E : Value → Shared → Prop} {h₀ g : Heap} {L f : Addr} {cd : Value} {led : List (Addr × Obj)} (hd : A.depth + 7 < recursionLimit) (hu : A.units + 100 < cLine) (hh : A.handled = none) (Gb : Gd w mg mb g) (XL : Led h₀ g led) {lv : Addr} {vs : List Value} {ns : List Int} (hl : g.IsList lv vs.toArray) (hi : IntsAre vs ns) (hlen : ns.length ≤ 63) {o1 o2 o3 o4 : Obj} (c1 : o1.data = .cell (some (.ref lv))) (c3 : o3.data = .cell none)
  {m7 : Str → Option Value}
  (F : Fr g L s.heap (fun y => m7 y)) (N : News g L s.heap ([(L + 1, o1), (L + 2, o2), (L + 3, o3), (L + 4, o4)] ++ led))
  (hret : ∀ lr rs nr oc to o3 h' tk', IntsAre rs (restV ns) → KBw.bInts oc = octsV ns → o3.data = .cell (some (.bytes oc to)) → Fr g L h' (fun y => if y = "rest" then some (.ref lr) else m7 y) → News g L h' ([(L + 1, o1), (L + 2, o2), (L + 3, o3), (L + 4, o4), (lr, W.listOf (List.toArray rs) nr)] ++ led) →
   wpAny (model rw_iw0008_01.prog w) (A.deeper (envOfC (Str.ofString "law") lawS L f cd)) (execs (lawB.drop 9) (envOfC (Str.ofString "law") lawS L f cd)) Q E { s with heap := h', toks := tk' }) :
  wpAny (model rw_iw0008_01.prog w) (A.deeper (envOfC (Str.ofString "law") lawS L f cd)) (execs (lawB.drop 7) (envOfC (Str.ofString "law") lawS L f cd)) Q E s := by
 have KX := Gb.K
 have T := Gb.T
 revert KX
 k_fill
 intro KX
 simp only [List.cons_append, List.nil_append] at N
 have hl' := hl.at fun o e => F.keep _ o e
 have hvl := hi.length
 refine execs_cut2 (by rfl) ?_
 k_steps
 rename IntsAre _ (List.take _ _) => hir
 rename Fr _ _ _ _ => F1
 rename News _ _ _ _ => N1
 rw [rest_norm] at hir
 obtain ⟨lr, e⟩ := nm1 N1
 subst e
 rename List Value => ws
 have hrl := rest_len ns
 have hz := hir.length
 refine Stop.mk ?_
 refine eval_comp (cl := []) IsI (fun k => IsI (k.fmod 256)) (restV ns) (fun a b v => isI_inj) (by rfl) (by rfl) (by rfl) (by rfl) (by rfl) ?_ (by intro _; rfl)
 k_steps
 refine Stop.mk ⟨_, ⟨_, _, src_ints (by exact hh) (by exact N1.isList (List.Mem.head _)) hir, by rw [sizeLine_eq, List.size_toArray, hz]; omega, by rw [List.size_toArray, hz], fun _ _ h => h, ?_⟩, ?_⟩
 ·intro C a va s₃ m₃ E'' ha hv F hm
  obtain ⟨ta, rfl⟩ := hv
  have k0 : Keep g _ := F1.keep
  clear F1 N1
  k_steps
  exact Stop.mk ⟨⟨_, rfl⟩, ⟨_, _, rfl, fun _ _ e => e⟩⟩
 ·intro D ys h' tk' n' hR hkk hD hl'
  obtain ⟨N5, hn5⟩ := news_more F1 N1 (fun b o _ e => hkk b o e) hD hl'
  have F5 : Fr g L h' _ := F1.kept hkk
  have hys := of_ints (AllR.map (S := IsI) _ hR)
  clear F1 N1
  k_steps
  refine KBa.make_K (by exact F5) (by exact N5) (by exact hh) (by exact N5.isList (List.Mem.head _)) hys (octs_in ns) (by rw [List.length_map]; omega) ?_
  intro h9 t9 k9 F9 N9 hin9
  clear F5 N5
  repeat' ((fail_if_success (with_reducible show wpAny _ _ (storeName _ _ _) _ _ _)); first | (k_unfold; (try dsimp only)) | walk1 | (dsimp only; walk1))
  rename Fr _ _ _ _ => F1
  rename News _ _ _ _ => N1
  have hne : ∀ p ∈ led, @Ne Nat p.1 (L + 3) := led_neD XL (fun p hp => (N1 p (by repeat (first | exact hp | apply List.mem_cons_of_mem))).1) (N1 (L + 3, o3) (by k_mem)).1 (fun vs e => by rw [c3] at e; cases e)
  have hlr : @Ne Nat lr (L + 3) := fun q => by
   have h1 := (N1 (L + 3, o3) (by k_mem)).1
   have h2 := (N1 (lr, W.listOf _ 0) (by k_mem)).1
   rw [q, h1] at h2
   cases h2
   cases c3
  have N3 : News g L h9 ([(L + 1, o1), (L + 2, o2)] ++ (L + 3, o3) :: ((L + 4, o4) :: (lr, W.listOf ws.toArray 0) :: led)) := news_sub N1 (fun p hp => by
   simp only [List.cons_append, List.nil_append, List.mem_cons] at hp ⊢
   rcases hp with h | h | h | h | h | h <;> simp only [h, true_or, or_true])
  refine storeE (own := [(L + 1, o1), (L + 2, o2)]) (rest := (L + 4, o4) :: (lr, W.listOf ws.toArray 0) :: led) (by exact F1) (by exact N3) ?_ ?_ (by rfl) c3 ?_ (by rfl) (by rfl)
  ·intro p hp
   simp only [List.mem_cons, List.not_mem_nil, or_false] at hp
   rcases hp with rfl | rfl <;> k_ne
  ·intro p hp
   rcases List.mem_cons.mp hp with rfl | hp
   ·k_ne
   rcases List.mem_cons.mp hp with rfl | hp
   ·exact hlr
   ·exact hne p hp
  intro h2 o5 F2 N2 hc5
  clear F1 N1 N3
  have F2 : Fr g L h2 _ := F2
  have N2 : News g L h2 ((L + 1, o1) :: (L + 2, o2) :: (L + 3, o5) :: (L + 4, o4) :: (lr, W.listOf ws.toArray 0) :: led) := N2
  k_steps
  exact Stop.mk (hret _ _ _ _ _ _ _ _ hir (KBa.ints_make hin9) hc5 (fr_to F2 (sm ["rest"])) N2)
theorem ints_upTo {acc : Array Value} {n : Nat} (h : acc.size = n) (h2 : ∀ (j : Nat) v, acc[j]? = some v → ∃ tk, v = .int ((0 : Int) + (j : Nat) * 1) tk) : IntsAre acc.toList (upTo n) := by
 refine of_ints (allR_of_places (V := IsI) (upTo n) acc.toList (by rw [upTo_length, ← h]; simp) fun i v hv => ?_)
 have hv' : acc[i]? = some v := by simpa using hv
 obtain ⟨tk, rfl⟩ := h2 i v hv'
 have hi : i < n := by
  have := (Array.getElem?_eq_some_iff.mp hv').1
  omega
 exact ⟨_, upTo_get hi, tk, by rw [show (0 : Int) + (i : Nat) * 1 = (i : Int) by omega]⟩
theorem lawA6 {w : World} {mg mb : Str → Option Value} {A : Around} {s : Shared} {Q : Flow → Shared → Prop} {E : Value → Shared → Prop} {h₀ g : Heap} {L f : Addr} {cd : Value} {led : List (Addr × Obj)} (hd : A.depth + 7 < recursionLimit) (hu : A.units + 100 < cLine) (hh : A.handled = none) (Gb : Gd w mg mb g) (XL : Led h₀ g led) {lv : Addr} {vs : List Value} {ns : List Int} (hl : g.IsList lv vs.toArray) (hi : IntsAre vs ns) (hlen : ns.length ≤ 63) {o1 o2 o3 o4 : Obj} (c1 : o1.data = .cell (some (.ref lv))) {lr : Addr} {rs : List Value} {nr : Nat} (hir : IntsAre rs (restV ns)) (c4 : o4.data = .cell none)
  {m7 : Str → Option Value}
  (F : Fr g L s.heap (fun y => if y = "rest" then some (.ref lr) else m7 y)) (N : News g L s.heap ([(L + 1, o1), (L + 2, o2), (L + 3, o3), (L + 4, o4), (lr, W.listOf (List.toArray rs) nr)] ++ led))
  (hret : ∀ ll xs nl o4 h' tk', (∀ p ∈ [(L + 1, o1), (L + 2, o2), (L + 3, o3), (L + 4, o4), (lr, W.listOf (List.toArray rs) nr)] ++ led, @Ne Nat p.1 ll) → IntsAre xs (upTo (restV ns).length) → o4.data = .cell (some (.ref ll)) → Fr g L h' (fun y => if y = "rest" then some (.ref lr) else m7 y) → News g L h' ([(L + 1, o1), (L + 2, o2), (L + 3, o3), (L + 4, o4), (lr, W.listOf (List.toArray rs) nr), (ll, W.listOf (List.toArray xs) nl)] ++ led) →
   wpAny (model rw_iw0008_01.prog w) (A.deeper (envOfC (Str.ofString "law") lawS L f cd)) (execs (lawB.drop 10) (envOfC (Str.ofString "law") lawS L f cd)) Q E { s with heap := h', toks := tk' }) :
  wpAny (model rw_iw0008_01.prog w) (A.deeper (envOfC (Str.ofString "law") lawS L f cd)) (execs (lawB.drop 9) (envOfC (Str.ofString "law") lawS L f cd)) Q E s := by
 have KX := Gb.K
 have T := Gb.T
 revert KX
 k_fill
 intro KX
 simp only [List.cons_append, List.nil_append] at N
 have hz := hir.length
 have hrl := rest_len ns
 refine execs_cut1 (by rfl) ?_
 k_steps
 rename IsRange _ _ _ _ _ _ _ _ => hrg
 rename Fr _ _ _ _ => F1
 rename News _ _ _ _ => N1
 refine call_list_range (by exact hh) hrg (range_small (by omega) (by decide)) (n := (restV ns).length) (by rw [← rangeSize_upTo _ (by omega)]; rfl) (Nat.le_trans hrl (by decide)) ?_
 intro h9 tk9 acc c9 kk9 hD hacc
 have hxs := ints_upTo hacc.1 hacc.2
 obtain ⟨f1, f2, f3⟩ := fresh_top (s := { s with heap := _ }) (by exact F1) (by exact N1)
 have F2 := F1.kept kk9
 have N2 := newsKeep N1 kk9
 clear F1 N1
 revert hD f1 f2 f3
 try dsimp only
 generalize (Heap.objs _).size = D
 intro hD f1 f2 f3
 have hnl : ∀ p ∈ led, @Ne Nat p.1 (L + 4) := led_neD XL (fun p hp => (N2 p (by repeat (first | exact hp | apply List.mem_cons_of_mem))).1) (N2 (L + 4, o4) (by k_mem)).1 (fun vs e => by rw [c4] at e; cases e)
 have hlr : @Ne Nat lr (L + 4) := fun q => by
  have h1 := (N2 (L + 4, o4) (by k_mem)).1
  have h2 := (N2 (lr, W.listOf _ nr) (by k_mem)).1
  rw [q, h1] at h2
  cases h2
  cases c4
 have hDl : @Ne Nat D (L + 4) := fun q => f3 (L + 4, o4) (by k_mem) q.symm
 have hnD : ∀ o4', ∀ p ∈ [(L + 1, o1), (L + 2, o2), (L + 3, o3), (L + 4, o4'), (lr, W.listOf (List.toArray rs) nr)] ++ led, @Ne Nat p.1 D := fun o4' p hp => by
  simp only [List.cons_append, List.nil_append, List.mem_cons] at hp
  rcases hp with h | h | h | h | h | h
  ·exact f3 p (by simp only [h, List.mem_cons, true_or, or_true])
  ·exact f3 p (by simp only [h, List.mem_cons, true_or, or_true])
  ·exact f3 p (by simp only [h, List.mem_cons, true_or, or_true])
  ·rw [h]; exact fun q => hDl q.symm
  ·exact f3 p (by simp only [h, List.mem_cons, true_or, or_true])
  ·exact f3 p (by simp only [h, List.mem_cons, or_true])
 k_steps
 have N3 : News g L h9 ([(L + 1, o1), (L + 2, o2), (L + 3, o3)] ++ (L + 4, o4) :: ((lr, W.listOf (List.toArray rs) nr) :: (D, W.listOf (List.toArray acc.toList) c9) :: led)) := fun p hp => by
  simp only [List.cons_append, List.nil_append, List.mem_cons] at hp
  rcases hp with h | h | h | h | h | h | h
  ·exact N2 p (by simp only [h, List.mem_cons, true_or, or_true])
  ·exact N2 p (by simp only [h, List.mem_cons, true_or, or_true])
  ·exact N2 p (by simp only [h, List.mem_cons, true_or, or_true])
  ·exact N2 p (by simp only [h, List.mem_cons, true_or, or_true])
  ·exact N2 p (by simp only [h, List.mem_cons, true_or, or_true])
  ·subst h; exact ⟨by rw [Array.toArray_toList]; exact hD, f1, f2⟩
  ·exact N2 p (by simp only [h, List.mem_cons, or_true])
 refine storeE (own := [(L + 1, o1), (L + 2, o2), (L + 3, o3)]) (env := (envOfC (Str.ofString "law") lawS L f cd)) (by exact F2) (by exact N3) ?_ ?_ (by rfl) c4 ?_ (by rfl) (by rfl)
 ·intro p hp
  simp only [List.mem_cons, List.not_mem_nil, or_false] at hp
  rcases hp with rfl | rfl | rfl <;> k_ne
 ·intro p hp
  rcases List.mem_cons.mp hp with rfl | hp
  ·exact hlr
  rcases List.mem_cons.mp hp with rfl | hp
  ·exact hDl
  ·exact hnl p hp
 intro h2 o5 F3 N4 hc5
 clear F2 N2 N3
 have F3 : Fr g L h2 _ := F3
 have N4 : News g L h2 ((L + 1, o1) :: (L + 2, o2) :: (L + 3, o3) :: (L + 4, o5) :: (lr, W.listOf (List.toArray rs) nr) :: (D, W.listOf (List.toArray acc.toList) c9) :: led) := N4
 k_steps
 exact Stop.mk (hret _ _ _ _ _ _ (hnD _) hxs hc5 (fr_to F3 (sm ["rest"])) N4)
section
section
variable {w : World} {A : Around} {s : Shared} {E Q : Value → Shared → Prop}
theorem popS {lv : Addr} {n : Nat} {y : Value} {p q : List Value} {i : Int} {u : Tok} (h : s.heap.get? lv = some (W.listOf (p ++ y :: q).toArray n)) (hz : (p ++ y :: q).length ≤ 1000) (hi : i = (p.length : Int))
  (k : ∀ h', (∀ b o, b ≠ lv → s.heap.get? b = some o → h'.get? b = some o) → h'.get? lv = some (W.listOf (p ++ q).toArray (n + 1)) → Q y { s with heap := h' }) : wpAny (Md w) A (call (.builtin "list.pop") [.ref lv, .int i u]) Q E s := by
 subst hi
 have hz' : (p ++ y :: q).toArray.size ≤ sizeLine := by rw [List.size_toArray, sizeLine_eq]; omega
 have hl : (p ++ y :: q).length = p.length + (q.length + 1) := by simp
 have hk : seqIndex? (p.length : Int) (p ++ y :: q).toArray.size = some p.length := by
  rw [List.size_toArray]
  simp [seqIndex?]
  omega
 have hb : (p.length : Int) < 2 ^ 63 := Int.lt_of_lt_of_le (show (p.length : Int) < 4096 by omega) (by decide)
 have hb0 : -(2 ^ 63 : Int) ≤ (p.length : Int) := Int.le_trans (show -(2 ^ 63 : Int) ≤ 0 by decide) (by omega)
 have hf : Builtin.List.listFitsIndex (p.length : Int) = true := Bool.and_eq_true_iff.mpr ⟨decide_eq_true hb0, decide_eq_true hb⟩
 have hy : (p ++ y :: q).toArray[p.length]? = some y := by simp
 generalize hi : (p.length : Int) = i at hk hf ⊢
 generalize hkk : p.length = kk at hk hy
 generalize hits : (p ++ y :: q).toArray = its at hk hy hz' h
 have H := PySem.MeetsSeq.list_pop_at lv its n i u kk y hf hk hy hz'
 refine call_meets PySem.F.slot_list_pop ⟨_, h, rfl⟩ PySem.F.entry_list_pop (PySem.F.args_list_pop_2 (.ref lv) (.int i u)) H ⟨h, k _ (fun b o hb e => (Heap.SameBut.update ..).extBut b o hb e) ?_⟩
 have q' := PySem.IsL.update h (fun a => a.eraseIdxIfInBounds kk)
 have e1 : its.eraseIdxIfInBounds kk = (p ++ q).toArray := by rw [← hits, ← hkk]; exact kl_erase p q y
 rw [e1, if_neg (by rw [← hits]; simp)] at q'
 exact q'
end
noncomputable def popStep (l : List Int) (r : Int) : Nat := ((r + r.fdiv 256).fmod l.length).toNat
noncomputable def orderOf : List Int → List Int → List Int
 | [], _ => []
 | r :: rs, l => l.getD (popStep l r) 0 :: orderOf rs (l.eraseIdx (popStep l r))
noncomputable def leftOf : List Int → List Int → Nat → List Int
 | _, l, 0 => l
 | [], l, _ + 1 => l
 | r :: rs, l, i + 1 => leftOf rs (l.eraseIdx (popStep l r)) i
theorem popStep_lt {l : List Int} (r : Int) (h : l ≠ []) : popStep l r < l.length := by
 have hl : 0 < l.length := List.length_pos_iff.mpr h
 have h1 := Int.fmod_lt_of_pos (r + r.fdiv 256) (b := (l.length : Int)) (by omega)
 have h0 := Int.fmod_nonneg_of_pos (r + r.fdiv 256) (b := (l.length : Int)) (by omega)
 unfold popStep
 omega
theorem leftOf_len : ∀ {rs l : List Int} {i : Nat}, i ≤ rs.length → rs.length ≤ l.length → (leftOf rs l i).length = l.length - i
 | rs, l, 0, _, _ => by cases rs <;> rfl
 | [], _, i + 1, h, _ => by simp at h
 | r :: rs, l, i + 1, h, hl => by
  have hne : l ≠ [] := by rintro rfl; simp at hl
  have := popStep_lt r hne
  simp only [List.length_cons] at h hl
  have e : (l.eraseIdx (popStep l r)).length = l.length - 1 := List.length_eraseIdx_of_lt this
  show (leftOf rs (l.eraseIdx (popStep l r)) i).length = _
  rw [leftOf_len (by omega) (by omega), e, Nat.sub_sub, Nat.add_comm]
theorem leftOf_step : ∀ {rs l : List Int} {i : Nat}, i < rs.length → leftOf rs l (i + 1) = (leftOf rs l i).eraseIdx (popStep (leftOf rs l i) (rs.getD i 0))
 | [], _, _, h => by simp at h
 | r :: rs, l, 0, _ => by cases rs <;> rfl
 | r :: rs, l, i + 1, h => by
  show leftOf rs (l.eraseIdx (popStep l r)) (i + 1) = _
  rw [leftOf_step (by simpa using h)]
  rfl
theorem orderOf_at : ∀ {rs l : List Int} {i : Nat}, i < rs.length → (orderOf rs l).getD i 0 = (leftOf rs l i).getD (popStep (leftOf rs l i) (rs.getD i 0)) 0
 | [], _, _, h => by simp at h
 | r :: rs, l, 0, _ => by cases rs <;> rfl
 | r :: rs, l, i + 1, h => by
  show (orderOf rs (l.eraseIdx (popStep l r))).getD i 0 = _
  rw [orderOf_at (by simpa using h)]
  rfl
theorem orderOf_len : ∀ (rs l : List Int), (orderOf rs l).length = rs.length
 | [], _ => rfl
 | r :: rs, l => by show (orderOf rs _).length + 1 = rs.length + 1; rw [orderOf_len]
theorem perm_eraseIdx {l : List Int} {k : Nat} (h : k < l.length) : List.Perm (l.getD k 0 :: l.eraseIdx k) l := by
 have e : l = l.take k ++ l[k] :: l.drop (k + 1) := by rw [List.getElem_cons_drop, List.take_append_drop]
 rw [List.getD_eq_getElem?_getD, List.getElem?_eq_getElem h, List.eraseIdx_eq_take_drop_succ]
 conv => rhs; rw [e]
 exact List.perm_middle.symm
theorem orderOf_perm : ∀ (rs l : List Int), rs.length = l.length → (orderOf rs l).Perm l
 | [], l, h => by
  have : l = [] := List.eq_nil_of_length_eq_zero h.symm
  subst this; exact .nil
 | r :: rs, l, h => by
  have hne : l ≠ [] := by rintro rfl; simp at h
  have hk := popStep_lt r hne
  show List.Perm (l.getD (popStep l r) 0 :: orderOf rs (l.eraseIdx (popStep l r))) l
  refine (List.Perm.cons _ (orderOf_perm rs _ ?_)).trans (perm_eraseIdx hk)
  rw [List.length_eraseIdx_of_lt hk]
  simp only [List.length_cons] at h
  omega
theorem ints_cut {xs : List Value} {l : List Int} (h : IntsAre xs l) {k : Nat} (hk : k < l.length) : ∃ p q t, xs = p ++ .int (l.getD k 0) t :: q ∧ p.length = k ∧ IntsAre (p ++ q) (l.eraseIdx k) := by
 induction h generalizing k with
 | nil => simp at hk
 | cons n t h ih =>
  cases k with
  | zero => exact ⟨[], _, t, rfl, rfl, h⟩
  | succ k =>
   obtain ⟨p, q, u, rfl, hp, hi⟩ := ih (by simpa using hk)
   exact ⟨.int n t :: p, q, u, rfl, by simp [hp], .cons n t hi⟩
end
theorem leftOf_zero (rs l : List Int) : leftOf rs l 0 = l := by cases rs <;> rfl
theorem gens_same {a b : Array GenState} (h : GenOnlyQ a.size a b) : b = a := by
 rcases h with h | ⟨⟨h1, h2⟩, _⟩
 ·exact h
 ·refine Array.ext_getElem? fun i => ?_
  by_cases hi : i = a.size
  ·subst hi
   rw [Array.getElem?_eq_none (by omega), Array.getElem?_eq_none (by omega)]
  ·exact h2 i hi
theorem lawA7 {w : World} {mg mb : Str → Option Value} {A : Around} {s : Shared} {Q : Flow → Shared → Prop} {E : Value → Shared → Prop} {h₀ g : Heap} {L f : Addr} {cd : Value} {led : List (Addr × Obj)} (hd : A.depth + 7 < recursionLimit) (hu : A.units + 100 < cLine) (hh : A.handled = none) (Gb : Gd w mg mb g) (XL : Led h₀ g led) {lv : Addr} {vs : List Value} {ns : List Int} (hl : g.IsList lv vs.toArray) (hi : IntsAre vs ns) (hlen : ns.length ≤ 63) {o1 o2 o3 o4 : Obj} (c1 : o1.data = .cell (some (.ref lv))) {lr ll : Addr} {rs xs : List Value} {nr nl : Nat} (hnl : ∀ p ∈ [(L + 1, o1), (L + 2, o2), (L + 3, o3), (L + 4, o4), (lr, W.listOf (List.toArray rs) nr)] ++ led, @Ne Nat p.1 ll) (hir : IntsAre rs (restV ns)) (hxs : IntsAre xs (upTo (restV ns).length)) (c4 : o4.data = .cell (some (.ref ll)))
  {m7 : Str → Option Value}
  (F : Fr g L s.heap (fun y => if y = "rest" then some (.ref lr) else m7 y)) (N : News g L s.heap ([(L + 1, o1), (L + 2, o2), (L + 3, o3), (L + 4, o4), (lr, W.listOf (List.toArray rs) nr), (ll, W.listOf (List.toArray xs) nl)] ++ led))
  (hret : ∀ lo ys no h' tk', IntsAre ys (orderOf (restV ns) (upTo (restV ns).length)) → Fr g L h' (fun y => if y = "order" then some (.ref lo) else if y = "rest" then some (.ref lr) else m7 y) → News g L h' ([(L + 1, o1), (L + 2, o2), (L + 3, o3), (L + 4, o4), (lo, W.listOf (List.toArray ys) no)] ++ led) →
   wpAny (model rw_iw0008_01.prog w) (A.deeper (envOfC (Str.ofString "law") lawS L f cd)) (execs (lawB.drop 11) (envOfC (Str.ofString "law") lawS L f cd)) Q E { s with heap := h', toks := tk' }) :
  wpAny (model rw_iw0008_01.prog w) (A.deeper (envOfC (Str.ofString "law") lawS L f cd)) (execs (lawB.drop 10) (envOfC (Str.ofString "law") lawS L f cd)) Q E s := by
 have KX := Gb.K
 have T := Gb.T
 revert KX
 k_fill
 intro KX
 simp only [List.cons_append, List.nil_append] at N
 have hz := hir.length
 have hrl := rest_len ns
 have hLl : @Ne Nat L ll := (N (ll, W.listOf (List.toArray xs) nl) (by k_mem)).2.1.symm
 have hll : @Ne Nat lr ll := hnl (lr, W.listOf (List.toArray rs) nr) (by simp)
 refine execs_cut1 (by rfl) ?_
 k_steps
 refine Stop.mk ?_
 refine assign_compX (g := g) (cl := [(Str.ofString "left", L + 4)]) (by rfl) (by rfl) (by rfl) (by rfl) (by rfl) (by rfl) (by rfl) (by rfl) ?_ (by intro _; rfl)
 k_steps
 rename Fr _ _ _ _ => F1
 rename News _ _ _ _ => N1
 have hlr := N1.isList (show (lr, W.listOf (List.toArray rs) nr) ∈ _ by k_mem)
 have hlt : @LT.lt Nat _ lr s.heap.objs.size := by obtain ⟨o, ho, _⟩ := hlr; exact Heap.lt_size ho
 have hlt2 : @LT.lt Nat _ ll s.heap.objs.size := Heap.lt_size (N1 (ll, W.listOf (List.toArray xs) nl) (by k_mem)).1
 refine Stop.mk (wpAny_pyIter_list hlr ?_)
 refine ⟨s.heap.objs.size, [s.heap.objs.size, lr], [s.heap.objs.size], [ll], s.gens.size, rs.length, _, _,
  fun i h => ∃ zs nz, h.get? ll = some (W.listOf (List.toArray zs) nz) ∧ IntsAre zs (leftOf (restV ns) (upTo (restV ns).length) i), fun i v => IsI ((orderOf (restV ns) (upTo (restV ns).length)).getD i 0) v, _, rfl,
  srcX_of s.gens.size (Walks.list (prog := rw_iw0008_01.prog) (w := w) (by exact hh) s.heap.objs.size lr (Nat.ne_of_lt hlt) rs.toArray), by omega, ?_, ?_, ?_, ?_, ?_, ?_, F1.push _, ?_, ?_, ?_, ?_, ?_⟩
 ·exact ⟨⟨_, Heap.get?_push_size _ rfl, rfl, rfl⟩, hlr.push _⟩
 ·intro b hb
  show b < (s.heap.push _).objs.size
  rw [Heap.size_push]
  rcases List.mem_cons.mp hb with rfl | hb
  ·exact Nat.lt_succ_self _
  ·rw [List.mem_singleton.mp hb]; exact Nat.lt_succ_of_lt hlt
 ·intro b hb
  rw [List.mem_singleton.mp hb]
  refine ⟨?_, fun q => ?_⟩
  ·show ll < (s.heap.push _).objs.size
   rw [Heap.size_push]; exact Nat.lt_succ_of_lt hlt2
  ·rcases List.mem_cons.mp q with q | q
   ·exact Nat.ne_of_lt hlt2 q
   ·exact hll (List.mem_singleton.mp q).symm
 ·rintro i h h' ⟨zs, nz, hzs, hi⟩ k
  exact ⟨zs, nz, k ll (List.mem_singleton.mpr rfl) _ hzs, hi⟩
 ·exact ⟨xs, nl, Heap.get?_push_of_some _ (N1 (ll, W.listOf (List.toArray xs) nl) (by k_mem)).1, by rw [leftOf_zero]; exact hxs⟩
 ·intro C i v s₃ m₃ E' hi hv hJ hC hns hmx hkp
  obtain ⟨zs, nz, hzs, hzi⟩ := hJ
  have hil : i < (restV ns).length := Nat.lt_of_lt_of_eq hi hir.length
  have hlen : (leftOf (restV ns) (upTo (restV ns).length) i).length = (restV ns).length - i := by rw [leftOf_len (Nat.le_of_lt hil) (by rw [upTo_length]; exact Nat.le_refl _), upTo_length]
  have hstep := leftOf_step (l := upTo (restV ns).length) hil
  have hord := orderOf_at (l := upTo (restV ns).length) hil
  obtain ⟨tv, rfl⟩ : ∃ t, v = .int ((restV ns).getD i 0) t := hir.int_at i v (by simpa using hv)
  clear hv
  generalize leftOf (restV ns) (upTo (restV ns).length) i = lf at hzi hlen hstep hord
  have hne : lf ≠ [] := by rintro rfl; exact absurd hlen (Nat.ne_of_lt (Nat.sub_pos_of_lt hil))
  have hk := popStep_lt ((restV ns).getD i 0) hne
  obtain ⟨p, q, ty, rfl, hp, hpq⟩ := ints_cut hzi hk
  dsimp only at hkp hC
  have nI : ∀ b, b ∉ [s.heap.objs.size, ll] → b ∉ [s.heap.objs.size] ∧ b ∉ [ll] := fun b hb => ⟨fun q => hb (by rw [List.mem_singleton.mp q]; exact .head _), fun q => hb (by rw [List.mem_singleton.mp q]; exact .tail _ (.head _))⟩
  generalize hH : s.heap.push { cls := .type "list_iterator", data := .fields #[.ref lr, .int 0 0] } = H0 at hkp hC
  have hkH : Keep s.heap H0 := fun b o e => by rw [← hH]; exact Heap.get?_push_of_some _ e
  have nin : ∀ b, (hideAll H0 [s.heap.objs.size, ll]).get? b ≠ none → b ∉ [s.heap.objs.size, ll] := fun b e q => e (hideAll_none _ q)
  have kE : Keep (hideAll H0 [s.heap.objs.size, ll]) s₃.heap := fun b o e => by
   have := nI b (nin b (by rw [e]; exact fun q => nomatch q))
   exact hkp b o this.1 this.2 (of_hideAll _ e)
  have kg : Keep g (hideAll H0 [s.heap.objs.size, ll]) := fun b o e => hideAll_get _ (hkH b o (F1.keep b o e)) fun q => by
   rcases List.mem_cons.mp q with rfl | q
   ·rw [fresh_below F1.keep size_free] at e; cases e
   ·rw [List.mem_singleton.mp q, (N1 (ll, W.listOf (List.toArray xs) nl) (by k_mem)).2.2] at e; cases e
  have ho4 : (hideAll H0 [s.heap.objs.size, ll]).get? (L + 4) = some o4 := hideAll_get _ (hkH _ _ (N1 (L + 4, o4) (by k_mem)).1) fun q => by
   rcases List.mem_cons.mp q with q | q
   ·exact absurd (Heap.lt_size (N1 (L + 4, o4) (by k_mem)).1) (by rw [q]; exact Nat.lt_irrefl _)
   ·exact hnl (L + 4, o4) (by simp) (List.mem_singleton.mp q)
  have hlC : @Ne Nat ll C := Nat.ne_of_lt (Nat.lt_of_lt_of_le (by rw [← hH, Heap.size_push]; exact Nat.lt_succ_of_lt hlt2) hC)
  have hgl : (hideAll H0 [s.heap.objs.size, ll]).get? ll = none := hideAll_none _ (.tail _ (.head _))
  have Fe : Fr (hideAll H0 [s.heap.objs.size, ll]) C s₃.heap m₃ := ⟨hns, kE, by rw [hideAll_size]; exact hC⟩
  have KX' := KX.keeps kg
  have T' := T.keeps kg
  generalize hideAll H0 [s.heap.objs.size, ll] = gE at kE kg ho4 hgl Fe KX' T'
  have Ne : News gE C s₃.heap [(ll, W.listOf (List.toArray (p ++ .int (lf.getD (popStep lf ((restV ns).getD i 0)) 0) ty :: q)) nz)] := fun r hr => by
   rw [List.mem_singleton.mp hr]; exact ⟨hzs, hlC, hgl⟩
  clear F1 N1 KX T
  k_steps
  have hfm : ((restV ns).getD i 0 + ((restV ns).getD i 0).fdiv 256).fmod (lf.length : Int) = (p.length : Int) := by
   have hpos : (0 : Int) < (lf.length : Int) := Int.natCast_pos.2 (List.length_pos_iff.mpr hne)
   have h0 := Int.fmod_nonneg_of_pos ((restV ns).getD i 0 + ((restV ns).getD i 0).fdiv 256) hpos
   rw [hp]
   unfold popStep
   exact (Int.toNat_of_nonneg h0).symm
  have hzl := hzi.length
  refine Stop.mk (popS hzs (by rw [hzl, hlen]; exact Nat.le_trans (Nat.sub_le _ _) (Nat.le_trans (rest_len ns) (by decide))) hfm ?_)
  intro h9 hk9 hl9
  exact Stop.mk ⟨h9, _, rfl, fun b o hb e => hk9 b o (fun q => hb (List.mem_singleton.mpr q)) e, ⟨p ++ q, nz + 1, hl9, by rw [hstep]; exact hpq⟩, ⟨ty, by rw [hord]⟩⟩
 ·intro q
  exact Nat.ne_of_lt F1.ns.lt (List.mem_singleton.mp q)
 ·intro q
  exact hLl (List.mem_singleton.mp q)
 ·intro b hb
  rw [List.mem_singleton.mp hb]
  exact fresh_below F1.keep size_free
 ·intro b hb
  rw [List.mem_singleton.mp hb]
  exact (N1 (ll, W.listOf (List.toArray xs) nl) (by k_mem)).2.2
 ·intro D ys h' tk gn c' hlen hR F2 hkk hJ hgn hD hl'
  obtain rfl : gn = s.gens := gens_same hgn
  dsimp only at hD hkk
  have hDs : s.heap.get? D = none := by
   cases q : s.heap.get? D with
   | none => rfl
   | some o => rw [Heap.get?_push_of_some _ q] at hD; cases hD
  have hDL : @Ne Nat D L := fun q => by
   obtain ⟨o, _, _, e, _⟩ := F1.ns
   rw [q, e] at hDs; cases hDs
  have hgD : g.get? D = none := fresh_below F1.keep hDs
  have hys : IntsAre ys (orderOf (restV ns) (upTo (restV ns).length)) := by
   refine of_ints (allR_of_places (V := IsI) _ ys (by rw [hlen, orderOf_len, hz]) fun j v hv => ?_)
   have hj : j < (orderOf (restV ns) (upTo (restV ns).length)).length := by
    have := (List.getElem?_eq_some_iff.mp hv).1
    rw [orderOf_len]; omega
   refine ⟨_, List.getElem?_eq_getElem hj, ?_⟩
   have := hR j v hv
   rw [List.getD_eq_getElem?_getD, List.getElem?_eq_getElem hj] at this
   exact this
  have N3 : News g L h' ([(L + 1, o1), (L + 2, o2), (L + 3, o3), (L + 4, o4), (D, W.listOf (List.toArray ys) c')] ++ led) := fun p hp => by
   have old : ∀ r : Addr × Obj, r ∈ (L + 1, o1) :: (L + 2, o2) :: (L + 3, o3) :: (L + 4, o4) :: (lr, W.listOf (List.toArray rs) nr) :: (ll, W.listOf (List.toArray xs) nl) :: led → @Ne Nat r.1 ll → h'.get? r.1 = some r.2 ∧ r.1 ≠ L ∧ g.get? r.1 = none := fun r hr hn => by
    have n := N1 r hr
    refine ⟨hkk r.1 r.2 n.2.1 (fun q => ?_) (fun q => hn (List.mem_singleton.mp q)) (Heap.get?_push_of_some _ n.1), n.2⟩
    rw [List.mem_singleton.mp q] at n
    exact absurd (Heap.lt_size n.1) (Nat.lt_irrefl _)
   have nl' := hnl p
   simp only [List.cons_append, List.nil_append, List.mem_cons] at hp nl'
   rcases hp with h | h | h | h | h | h
   ·exact old p (by simp only [h, List.mem_cons, true_or, or_true]) (nl' (by simp only [h, true_or, or_true]))
   ·exact old p (by simp only [h, List.mem_cons, true_or, or_true]) (nl' (by simp only [h, true_or, or_true]))
   ·exact old p (by simp only [h, List.mem_cons, true_or, or_true]) (nl' (by simp only [h, true_or, or_true]))
   ·exact old p (by simp only [h, List.mem_cons, true_or, or_true]) (nl' (by simp only [h, true_or, or_true]))
   ·rw [h]; exact ⟨hl', hDL, hgD⟩
   ·exact old p (by simp only [h, List.mem_cons, or_true]) (nl' (by simp only [h, or_true]))
  k_steps
  exact Stop.mk (hret _ _ _ _ _ hys (fr_to F2 (sm ["order", "rest"])) N3)
noncomputable def ordV (ns : List Int) : List Int := orderOf (restV ns) (upTo (restV ns).length)
noncomputable def laidV (ns : List Int) : List Int := (ordV ns).map fun o => (octsV ns).getD o.toNat 0
theorem ord_in (ns : List Int) : ∀ o ∈ ordV ns, 0 ≤ o ∧ o < (octsV ns).length := fun o ho => by
 have := (orderOf_perm (restV ns) (upTo (restV ns).length) (by rw [upTo_length])).mem_iff.mp ho
 have := upTo_mem this
 rw [octs_len]
 exact this
theorem ord_len (ns : List Int) : (ordV ns).length = (restV ns).length := orderOf_len _ _
theorem laid_len (ns : List Int) : (laidV ns).length = (restV ns).length := by unfold laidV; rw [List.length_map, ord_len]
theorem laid_in (ns : List Int) : ∀ x ∈ laidV ns, 0 ≤ x ∧ x < 256 := fun x hx => by
 obtain ⟨o, ho, rfl⟩ := List.mem_map.mp hx
 exact KBw.getD_in (octs_in ns)
theorem lawA8 {w : World} {mg mb : Str → Option Value} {A : Around} {s : Shared} {Q : Flow → Shared → Prop} {E : Value → Shared → Prop} {h₀ g : Heap} {L f : Addr} {cd : Value} {led : List (Addr × Obj)} (hfr : A.frames = some []) (hd : A.depth + 7 < recursionLimit) (hu : A.units + 100 < cLine) (hh : A.handled = none) (hgP : ∀ b ∈ PS, g.get? b = none) (XL : Led h₀ g led) (Gb : Gd w mg mb g) {f14 f15 f16 f17 f18 : Addr} (m14 : mg "_law_bits" = some (.ref f14)) (F14 : FnAt g 14 f14) (m15 : mg "_law_values" = some (.ref f15)) (F15 : FnAt g 15 f15) (m16 : mg "_law_foreign" = some (.ref f16)) (F16 : FnAt g 16 f16) (m17 : mg "_law_written" = some (.ref f17)) (F17 : FnAt g 17 f17) (m18 : mg "_law_read" = some (.ref f18)) (F18 : FnAt g 18 f18) {e lk : Addr} {bm : Array UInt8} {big : Bool} (he : Eng g e bm big lk) {x : Str} (hx : MapOf bm x) {ms : List Int} (hk : KBw.bInts bm = ms) (hl : ms.length = 64) (XK : Lkup w g lk ms) {ns : List Int} {ur : Option Value} {lo : Addr} {qs : List Value} {no : Nat} {oc : Array UInt8} {to tx : Tok} {o1 o2 o3 o4 : Obj} (hoc : KBw.bInts oc = octsV ns) (hqs : IntsAre qs (ordV ns)) (c2 : o2.data = .cell (some (.str x tx))) (c3 : o3.data = .cell (some (.bytes oc to)))
  {m7 : Str → Option Value} (b3 : m7 "big" = some (.bool big)) (b4 : m7 "engine" = some (.ref e))
  (F : Fr g L s.heap (fun y => if y = "order" then some (.ref lo) else if y = "rest" then ur else m7 y)) (N : News g L s.heap ([(L + 1, o1), (L + 2, o2), (L + 3, o3), (L + 4, o4), (lo, W.listOf (List.toArray qs) no)] ++ led))
  (hret : ∀ ll zs nl cb tc h' tk', IntsAre zs (laidV ns) → KBw.bInts cb = signs ms (lawValues (lawBits (laidV ns) (Int.toNat 8) big) 6 big) → Fr g L h' (fun y => if y = "coded" then some (.bytes cb tc) else if y = "laid" then some (.ref ll) else if y = "order" then some (.ref lo) else if y = "rest" then ur else m7 y) → News g L h' ([(L + 1, o1), (L + 2, o2), (L + 3, o3), (L + 4, o4), (lo, W.listOf (List.toArray qs) no), (ll, W.listOf (List.toArray zs) nl)] ++ led) →
   wpAny (model rw_iw0008_01.prog w) (A.deeper (envOfC (Str.ofString "law") lawS L f cd)) (execs (lawB.drop 13) (envOfC (Str.ofString "law") lawS L f cd)) Q E { s with heap := h', toks := tk' }) :
  wpAny (model rw_iw0008_01.prog w) (A.deeper (envOfC (Str.ofString "law") lawS L f cd)) (execs (lawB.drop 11) (envOfC (Str.ofString "law") lawS L f cd)) Q E s := by
 have KX := Gb.K
 have T := Gb.T
 revert KX
 k_fill
 intro KX
 simp only [List.cons_append, List.nil_append] at N
 have hz := hqs.length
 have hrl := rest_len ns
 have hol := ord_len ns
 have hoin := ord_in ns
 refine execs_cut1 (by rfl) ?_
 k_steps
 refine Stop.mk ?_
 refine assign_comp (g := g) (cl := [(Str.ofString "octets", L + 3)]) IsI (fun o => IsI ((octsV ns).getD o.toNat 0)) (ordV ns) (fun a b v => isI_inj) (by rfl) (by rfl) (by rfl) (by rfl) (by rfl) (by rfl) (by rfl) (by rfl) ?_ (by intro _; rfl)
 k_steps
 rename Fr _ _ _ _ => F1
 rename News _ _ _ _ => N1
 refine Stop.mk ⟨⟨_, _, src_ints (by exact hh) (by exact N1.isList (show (lo, W.listOf (List.toArray qs) no) ∈ _ by k_mem)) hqs, by rw [sizeLine_eq, List.size_toArray, hz]; omega, by rw [List.size_toArray, hz], fun _ _ h => h, ?_⟩, _, F1, ?_⟩
 ·intro C a va s₃ m₃ E'' ha hv F hm
  obtain ⟨ta, rfl⟩ := hv
  have ha := hoin a ha
  have ho := N1.get (show (L + 3, o3) ∈ _ by k_mem)
  have k0 : Keep g _ := F1.keep
  have KX' := KX.keeps k0
  have T' := T.keeps k0
  clear F1 N1 KX T
  have hz4 : (octsV ns).length ≤ 400 := by rw [octs_len]; omega
  generalize octsV ns = ks at hoc ha hz4 ⊢
  k_steps
  exact Stop.mk ⟨⟨_, rfl⟩, ⟨_, _, rfl, fun _ _ e => e⟩⟩
 ·intro D8 zs h' tk' n8 hR F2 hkk hD hl'
  obtain ⟨N2, hn2⟩ := news_more F1 N1 hkk hD hl'
  have hzs : IntsAre zs (laidV ns) := of_ints (AllR.map (S := IsI) _ hR)
  have hlz := laid_len ns
  have F2 : Fr g L h' _ := F2
  clear F1 N1
  k_steps
  refine Stop.mk ?_
  (with_reducible refine' execs_cut1 (r := lawB.drop 13) ?he ?_); (case he => rfl)
  k_steps
  refine Stop.mk ?_
  refine eval_comp (cl := [(Str.ofString "letters", L + 2)]) IsI (fun v => IsS (Txt.item x v)) (lawValues (lawBits (laidV ns) (Int.toNat 8) big) 6 big) (fun a b v => isI_inj) (by rfl) (by rfl) (by rfl) (by rfl) (by rfl) ?_ (by intro _; rfl)
  k_steps
  rename Fr _ _ _ _ => F1
  rename News _ _ _ _ => N1
  refine Stop.mk ⟨F1.keep, ?_⟩
  refine bits_spec (by exact Gb.keeps F1.keep) (by exact F14.keeps F1.keep) (by exact rm (b := 2) hd) (by exact rm (b := 11) hu) (by exact hh) _ _ (laidV ns) (by exact N1.isList (by k_mem)) hzs (by omega) _ _ (by omega) big ?_
  intro lb wb nb hb tkb kkb hlb hnb hib
  obtain ⟨N2, hn2⟩ := news_more F1 N1 (fun b o _ e => kkb b o e) hnb hlb
  have F2 := F1.kept kkb
  clear F1 N1
  have hbl : (lawBits (laidV ns) (Int.toNat 8) big).length = (laidV ns).length * 8 := by rw [lawBits_len]; rfl
  have hvl : (lawValues (lawBits (laidV ns) (Int.toNat 8) big) 6 big).length ≤ 200 := by
   have h2 := @nChunks_le (lawBits (laidV ns) (Int.toNat 8) big).length
   rw [lawValues_len]; omega
  k_steps
  rename Fr _ _ _ _ => F1
  rename News _ _ _ _ => N1
  refine Stop.mk ⟨F1.keep, ?_⟩
  refine values_spec (by exact Gb.keeps F1.keep) (by exact F15.keeps F1.keep) (by exact rm (b := 2) hd) (by exact rm (b := 11) hu) (by exact hh) _ _ (lawBits (laidV ns) (Int.toNat 8) big) (by exact N1.isList (by k_mem)) hib (lawBits_01 _ _ _) (by omega) _ _ (by decide) big ?_
  intro lv wv nv hv tkv kkv hlv hnv hiv
  obtain ⟨N2, hn2⟩ := news_more F1 N1 (fun b o _ e => kkv b o e) hnv hlv
  have F2 := F1.kept kkv
  clear F1 N1
  rename Fr _ _ _ _ => F1
  rename News _ _ _ _ => N1
  refine Stop.mk ⟨_, ⟨_, _, src_ints (by exact hh) (by exact N1.isList (by k_mem)) hiv, by rw [sizeLine_eq, List.size_toArray, hiv.length]; omega, by rw [List.size_toArray, hiv.length], fun _ _ h => h, ?_⟩, ?_⟩
  ·intro C k v s₃ m₃ E'' hk hv F hm
   obtain ⟨ta, rfl⟩ := hv
   have hk := (lawValues_six (lawBits_01 _ _ _)) _ hk
   have ho := N1.get (show (L + 2, o2) ∈ _ by k_mem)
   have k0 : Keep g _ := F1.keep
   clear F1 N1
   k_steps
   refine Stop.mk (KXi.item (map_len hx) (by omega) (by omega) (by decide) fun _ => ?_)
   exact Stop.mk ⟨⟨_, rfl⟩, ⟨_, _, rfl, fun _ _ e => e⟩⟩
  ·intro D ys h' tk' n' hR hkk hD hl'
   obtain ⟨N2, hn2⟩ := news_more F1 N1 (fun b o _ e => hkk b o e) hD hl'
   have F2 := F1.kept hkk
   clear F1 N1
   k_steps
   refine Stop.mk ?_
   rename Fr _ _ _ _ => F1
   rename News _ _ _ _ => N1
   refine KT.join_1 (by exact N1.isList (by k_mem)) (carried_items hR) (fun _ _ => rfl) ?_ ?_
   ·omega
   intro tj kj _
   k_steps
   refine Stop.mk ?_
   refine encode_K (pick_ascii hx (lawValues_six (lawBits_01 _ _ _))) (by show (pick x _).cps.size ≤ 1000; rw [pick_size]; first | exact Nat.le_trans (by assumption) (by decide) | omega) ?_
   intro te ke
   have hdu : KBw.bInts (asciiOf (Txt.join (Str.ofString "") (List.map (Txt.item x) (lawValues (lawBits (laidV ns) (Int.toNat 8) big) 6 big)))) = signs ms (lawValues (lawBits (laidV ns) (Int.toNat 8) big) 6 big) := pick_signs hx hk (lawValues_six (lawBits_01 _ _ _))
   generalize asciiOf (Txt.join (Str.ofString "") (List.map (Txt.item x) (lawValues (lawBits (laidV ns) (Int.toNat 8) big) 6 big))) = due at hdu ⊢
   k_steps
   rename Fr _ _ _ _ => F1
   rename News _ _ _ _ => N1
   have N3 : News g L _ ([(L + 1, o1), (L + 2, o2), (L + 3, o3), (L + 4, o4), (lo, W.listOf (List.toArray qs) no), (D8, W.listOf (List.toArray zs) n8)] ++ led) := news_sub N1 (fun p hp => by
    simp only [List.cons_append, List.nil_append, List.mem_cons] at hp ⊢
    rcases hp with h | h | h | h | h | h | h <;> simp only [h, true_or, or_true])
   exact Stop.mk (hret _ _ _ _ _ _ _ hzs hdu (fr_to F1 (sm ["coded", "laid", "order", "rest"])) N3)
theorem values_app {pre bs : List Int} {m : Nat} (hl : pre.length = 6 * m) (big : Bool) : lawValues (pre ++ bs) 6 big = lawValues pre 6 big ++ lawValues bs 6 big := by
 unfold lawValues
 rw [nChunks_six, nChunks_six, nChunks_six, List.length_append, hl, show (6 * m + bs.length + 5) / 6 = m + (bs.length + 5) / 6 by rw [Nat.add_assoc, Nat.mul_add_div (by decide)], show (6 * m + 5) / 6 = m by omega, List.range_add, List.map_append, List.map_map]
 congr 1
 ·refine List.map_congr_left fun j hj => ?_
  have hj : j < m := List.mem_range.mp hj
  have : rowAt (pre ++ bs) 6 j = rowAt pre 6 j := by
   rw [rowAt_full (by rw [List.length_append]; omega), rowAt_full (by omega), List.drop_append_of_le_length (by omega), List.take_append_of_le_length (by rw [List.length_drop]; omega)]
  show bitSum (rowR (pre ++ bs) 6 j big) = bitSum (rowR pre 6 j big)
  unfold rowR
  rw [this]
 ·refine List.map_congr_left fun j _ => ?_
  have : rowAt (pre ++ bs) 6 (m + j) = rowAt bs 6 j := by
   have hd : (pre ++ bs).drop ((m + j) * 6) = bs.drop (j * 6) := by
    rw [List.drop_append, List.drop_eq_nil_of_le (by omega), List.nil_append, show (m + j) * 6 - pre.length = j * 6 by rw [hl, Nat.add_mul, Nat.mul_comm 6, Nat.add_sub_cancel_left]]
   rw [rowAt_of, rowAt_of, hd]
  show bitSum (rowR (pre ++ bs) 6 (m + j) big) = bitSum (rowR bs 6 j big)
  unfold rowR
  rw [this]
theorem row8 {a : Int} (h : 0 ≤ a ∧ a < 256) : ofB (rowB a 8) = a := by rw [ofB_row]; omega
theorem of1 {a : Int} (ha : 0 ≤ a ∧ a < 256) : ofB (lawBits [a] 8 false) = a := by
 show ofB (rowB a 8 ++ []) = _
 rw [List.append_nil, row8 ha]
theorem of2 {a b : Int} (ha : 0 ≤ a ∧ a < 256) (hb : 0 ≤ b ∧ b < 256) : ofB (lawBits [a, b] 8 false) = a + 256 * b := by
 show ofB (rowB a 8 ++ lawBits [b] 8 false) = _
 rw [ofB_app, rowB_len, row8 ha, of1 hb]; omega
theorem of3 {a b c : Int} (ha : 0 ≤ a ∧ a < 256) (hb : 0 ≤ b ∧ b < 256) (hc : 0 ≤ c ∧ c < 256) : ofB (lawBits [a, b, c] 8 false) = a + 256 * (b + 256 * c) := by
 show ofB (rowB a 8 ++ lawBits [b, c] 8 false) = _
 rw [ofB_app, rowB_len, row8 ha, of2 hb hc]; omega
theorem s0 (v : Int) : sixes v 0 = [] := rfl
theorem sx {v r : Int} {n : Nat} (h : 0 ≤ r ∧ r < 64) : sixes (v * 64 + r) (n + 1) = r :: sixes v n := by rw [sixes_succ, am h, ad h]
theorem s2 {v p q : Int} (e : v = (0 * 64 + q) * 64 + p) (hp : 0 ≤ p ∧ p < 64) (hq : 0 ≤ q ∧ q < 64) : sixes v 2 = [p, q] := by rw [e, sx hp, sx hq, s0]
theorem s3 {v p q u : Int} (e : v = ((0 * 64 + u) * 64 + q) * 64 + p) (hp : 0 ≤ p ∧ p < 64) (hq : 0 ≤ q ∧ q < 64) (hu : 0 ≤ u ∧ u < 64) : sixes v 3 = [p, q, u] := by rw [e, sx hp, sx hq, sx hu, s0]
theorem s4 {v p q u z : Int} (e : v = (((0 * 64 + z) * 64 + u) * 64 + q) * 64 + p) (hp : 0 ≤ p ∧ p < 64) (hq : 0 ≤ q ∧ q < 64) (hu : 0 ≤ u ∧ u < 64) (hz : 0 ≤ z ∧ z < 64) : sixes v 4 = [p, q, u, z] := by rw [e, sx hp, sx hq, sx hu, sx hz, s0]
theorem enc_little : ∀ {laid : List Int}, Oct laid → lawValues (lawBits laid 8 false) 6 false = encL laid
 | [], _ => by simp [lawBits, lawValues, nChunks_six, encL]
 | [a], h => by
  have ha := h.head
  rw [values_little (lawBits_01 _ _ _), of1 ha, lawBits_len, encL1 ha, show ([a].length * 8 + 5) / 6 = 2 from by simp]
  exact s2 (v := a) (by have := rc a 64; omega) (rb a (by decide)) (lt64 (b64 ha) (by decide))
 | [a, b], h => by
  have ha := h.head
  have hb := h.tail.head
  rw [values_little (lawBits_01 _ _ _), of2 ha hb, lawBits_len, encL2 ha hb, show ([a, b].length * 8 + 5) / 6 = 3 from by simp]
  exact s3 (v := a + 256 * b) (by have := rc a 64; have := rc b 16; omega) (rb a (by decide)) (x4 (rb b (by decide)) (b64 ha)) (lt64 (b16 hb) (by decide))
 | a :: b :: c :: r, h => by
  have ha := h.head
  have hb := h.tail.head
  have hc := h.tail.tail.head
  have e : a :: b :: c :: r = [a, b, c] ++ r := rfl
  rw [encL3 ha hb hc, ← enc_little h.tail.tail.tail, e, lawBits_app, values_app (m := 4) (by rw [lawBits_len]; rfl), values_little (lawBits_01 _ _ _), of3 ha hb hc, lawBits_len, show ([a, b, c].length * 8 + 5) / 6 = 4 from by simp]
  exact congrArg (· ++ lawValues (lawBits r 8 false) 6 false) (s4 (v := a + 256 * (b + 256 * c)) (by have := rc a 64; have := rc b 16; have := rc c 4; omega) (rb a (by decide)) (x4 (rb b (by decide)) (b64 ha)) (x16 (rb c (by decide)) (b16 hb)) (b4 hc))
theorem rev_bits (l : List Int) : (lawBits l 8 true).reverse = lawBits l.reverse 8 false := lawBits_rev l 8
theorem enc_big : ∀ {laid : List Int}, Oct laid → lawValues (lawBits laid 8 true) 6 true = encB laid
 | [], _ => by simp [lawBits, lawValues, nChunks_six, encB]
 | [a], h => by
  have ha := h.head
  rw [values_big (lawBits_01 _ _ _), rev_bits, lawBits_len, encB1 ha, show ([a].length * 8 + 5) / 6 = 2 from by simp, show [a].reverse = [a] from rfl, of1 ha]
  exact congrArg List.reverse (s2 (v := a * 2 ^ 4) (by have := rc a 4; omega) (z16 (rb a (by decide))) (b4 ha))
 | [a, b], h => by
  have ha := h.head
  have hb := h.tail.head
  rw [values_big (lawBits_01 _ _ _), rev_bits, lawBits_len, encB2 ha hb, show ([a, b].length * 8 + 5) / 6 = 3 from by simp, show [a, b].reverse = [b, a] from rfl, of2 hb ha]
  exact congrArg List.reverse (s3 (v := (b + 256 * a) * 2 ^ 2) (by have := rc a 4; have := rc b 16; omega) (z4 (rb b (by decide))) (x16 (rb a (by decide)) (b16 hb)) (b4 ha))
 | a :: b :: c :: r, h => by
  have ha := h.head
  have hb := h.tail.head
  have hc := h.tail.tail.head
  have e : a :: b :: c :: r = [a, b, c] ++ r := rfl
  rw [encB3 ha hb hc, ← enc_big h.tail.tail.tail, e, lawBits_app, values_app (m := 4) (by rw [lawBits_len]; rfl), values_big (lawBits_01 _ _ _), rev_bits, lawBits_len, show ([a, b, c].length * 8 + 5) / 6 = 4 from by simp, show [a, b, c].reverse = [c, b, a] from rfl, of3 hc hb ha]
  exact congrArg (fun l => List.reverse l ++ lawValues (lawBits r 8 true) 6 true) (s4 (v := (c + 256 * (b + 256 * a)) * 2 ^ 0) (by have := rc a 4; have := rc b 16; have := rc c 64; omega) (rb c (by decide)) (x4 (rb b (by decide)) (b64 hc)) (x16 (rb a (by decide)) (b16 hb)) (b4 ha))
theorem enc_law {laid : List Int} (h : ∀ x ∈ laid, 0 ≤ x ∧ x < 256) (big : Bool) : lawValues (lawBits laid (Int.toNat 8) big) 6 big = encV big laid := by
 cases big
 ·exact enc_little h
 ·exact enc_big h
theorem enc_six {laid : List Int} (h : ∀ x ∈ laid, 0 ≤ x ∧ x < 256) (big : Bool) : Six (encV big laid) := by
 rw [← enc_law h]
 exact lawValues_six (lawBits_01 _ _ _)
theorem dec_enc_l : ∀ {laid : List Int}, Oct laid → decL (encL laid) = laid
 | [], _ => rfl
 | [a], h => by
  have ha := h.head
  rw [encL1 ha, decL2 (rb _ (by decide)) (lt64 (b64 ha) (by decide)), em (b64 ha), rc]
 | [a, b], h => by
  have ha := h.head
  have hb := h.tail.head
  rw [encL2 ha hb, decL3 (rb _ (by decide)) (x4 (rb _ (by decide)) (b64 ha)) (lt64 (b16 hb) (by decide)), am (b64 ha), ad (b64 ha), em (b16 hb), rc, rc]
 | a :: b :: c :: r, h => by
  have ha := h.head
  have hb := h.tail.head
  have hc := h.tail.tail.head
  rw [encL3 ha hb hc, decL4 (rb _ (by decide)) (x4 (rb _ (by decide)) (b64 ha)) (x16 (rb _ (by decide)) (b16 hb)) (b4 hc), dec_enc_l h.tail.tail.tail, am (b64 ha), ad (b64 ha), am (b16 hb), ad (b16 hb), rc, rc, rc]
theorem dec_enc_b : ∀ {laid : List Int}, Oct laid → decB (encB laid) = laid
 | [], _ => rfl
 | [a], h => by
  have ha := h.head
  rw [encB1 ha, decB2 (b4 ha) (z16 (rb _ (by decide))), Int.mul_ediv_cancel _ (by decide), rc]
 | [a, b], h => by
  have ha := h.head
  have hb := h.tail.head
  rw [encB2 ha hb, decB3 (b4 ha) (x16 (rb _ (by decide)) (b16 hb)) (z4 (rb _ (by decide))), am (b16 hb), ad (b16 hb), Int.mul_ediv_cancel _ (by decide), rc, rc]
 | a :: b :: c :: r, h => by
  have ha := h.head
  have hb := h.tail.head
  have hc := h.tail.tail.head
  rw [encB3 ha hb hc, decB4 (b4 ha) (x16 (rb _ (by decide)) (b16 hb)) (x4 (rb _ (by decide)) (b64 hc)) (rb _ (by decide)), dec_enc_b h.tail.tail.tail, am (b16 hb), ad (b16 hb), am (b64 hc), ad (b64 hc), rc, rc, rc]
theorem idx_signs {ms : List Int} (hn : ms.Nodup) (hl : ms.length = 64) {ds : List Int} (hd : Six ds) : (signs ms ds).map (fun k => (ms.idxOf k : Int)) = ds := by
 unfold signs
 rw [List.map_map]
 have : ∀ d ∈ ds, ((fun k => (ms.idxOf k : Int)) ∘ fun a => ms.getD a.toNat 0) d = id d := fun d hd' => by
  have := hd d hd'
  have hi : d.toNat < ms.length := by omega
  show ((ms.idxOf (ms.getD d.toNat 0) : Nat) : Int) = d
  rw [List.getD_eq_getElem?_getD, List.getElem?_eq_getElem hi, Option.getD_some, hn.idxOf_getElem]
  omega
 rw [List.map_congr_left this, List.map_id]
theorem oct_enc {bm : Array UInt8} {x : Str} (hx : MapOf bm x) {ms : List Int} (hk : KBw.bInts bm = ms) {laid : List Int} (h : ∀ x ∈ laid, 0 ≤ x ∧ x < 256) (big : Bool) : octV ms big (signs ms (encV big laid)) = laid := by
 obtain ⟨hn, hl⟩ := map_nd hx hk
 have e := idx_signs hn hl (enc_six h big)
 unfold octV
 rw [e]
 cases big
 ·exact dec_enc_l h
 ·exact dec_enc_b h
theorem len_l : ∀ (laid : List Int), (encL laid).length % 4 ≠ 1 ∧ (encL laid).length ≤ 2 * laid.length
 | [] => ⟨by decide, by decide⟩
 | [a] => ⟨by simp [encL], by simp [encL]⟩
 | [a, b] => ⟨by simp [encL], by simp [encL]⟩
 | a :: b :: c :: r => by
  have := len_l r
  exact ⟨fun q => this.1 ((Nat.add_mod_right _ 4).symm.trans q), Nat.le_trans (Nat.add_le_add_right this.2 4) (Nat.add_le_add_left (by decide : 4 ≤ 6) (2 * r.length))⟩
theorem len_b : ∀ (laid : List Int), (encB laid).length % 4 ≠ 1 ∧ (encB laid).length ≤ 2 * laid.length
 | [] => ⟨by decide, by decide⟩
 | [a] => ⟨by simp [encB], by simp [encB]⟩
 | [a, b] => ⟨by simp [encB], by simp [encB]⟩
 | a :: b :: c :: r => by
  have := len_b r
  exact ⟨fun q => this.1 ((Nat.add_mod_right _ 4).symm.trans q), Nat.le_trans (Nat.add_le_add_right this.2 4) (Nat.add_le_add_left (by decide : 4 ≤ 6) (2 * r.length))⟩
theorem enc_mod {laid : List Int} (big : Bool) : (encV big laid).length % 4 ≠ 1 := by
 cases big
 ·exact (len_l laid).1
 ·exact (len_b laid).1
theorem enc_len {laid : List Int} (big : Bool) : (encV big laid).length ≤ 2 * laid.length := by
 cases big
 ·exact (len_l laid).2
 ·exact (len_b laid).2
theorem ord_all (ns : List Int) : ∀ i : Nat, i < (ordV ns).length → (i : Int) ∈ ordV ns := fun i hi => by
 refine (orderOf_perm (restV ns) (upTo (restV ns).length) (by rw [upTo_length])).mem_iff.mpr ?_
 rw [ord_len] at hi
 exact List.mem_of_getElem? (upTo_get hi)
theorem afterT {h₀ g h h' : Heap} {L : Addr} {m : Str → Option Value} {news led : List (Addr × Obj)} (X : Led h₀ g led) (F : Fr g L h m) (N : News g L h (news ++ led)) (k : KeepT h h') (hn : ∀ p ∈ news, ∀ vs, p.2.data ≠ .fields vs) :
  LedS h₀ g h' L m news := X.step F N k (isPS_fields X N hn)
theorem lawA9 {w : World} {mg mb : Str → Option Value} {A : Around} {s : Shared} {Q : Flow → Shared → Prop} {E : Value → Shared → Prop} {h₀ g : Heap} {L f : Addr} {cd : Value} {led : List (Addr × Obj)} (hfr : A.frames = some []) (hd : A.depth + 7 < recursionLimit) (hu : A.units + 100 < cLine) (hh : A.handled = none) (hgP : ∀ b ∈ PS, g.get? b = none) (XL : Led h₀ g led) (Gb : Gd w mg mb g) {f14 f15 f16 f17 f18 : Addr} (m14 : mg "_law_bits" = some (.ref f14)) (F14 : FnAt g 14 f14) (m15 : mg "_law_values" = some (.ref f15)) (F15 : FnAt g 15 f15) (m16 : mg "_law_foreign" = some (.ref f16)) (F16 : FnAt g 16 f16) (m17 : mg "_law_written" = some (.ref f17)) (F17 : FnAt g 17 f17) (m18 : mg "_law_read" = some (.ref f18)) (F18 : FnAt g 18 f18) {e lk : Addr} {bm : Array UInt8} {big : Bool} (he : Eng g e bm big lk) {x : Str} (hx : MapOf bm x) {ms : List Int} (hk : KBw.bInts bm = ms) (hl : ms.length = 64) (XK : Lkup w g lk ms) (hd8 : A.depth + 8 < recursionLimit) {ns : List Int} {ur : Option Value} {lo ll : Addr} {qs zs : List Value} {no nl : Nat} {oc cb : Array UInt8} {to tx tc : Tok} {o1 o2 o3 o4 : Obj} {w1 w2 w4 : Option Value} (hoc : KBw.bInts oc = octsV ns) (hqs : IntsAre qs (ordV ns)) (hzs : IntsAre zs (laidV ns)) (c1 : o1.data = .cell w1) (c2 : o2.data = .cell w2) (c3 : o3.data = .cell (some (.bytes oc to))) (c4 : o4.data = .cell w4) (hcb : KBw.bInts cb = signs ms (lawValues (lawBits (laidV ns) (Int.toNat 8) big) 6 big))
  {m7 : Str → Option Value} (b3 : m7 "big" = some (.bool big)) (b4 : m7 "engine" = some (.ref e))
  (F : Fr g L s.heap (fun y => if y = "coded" then some (.bytes cb tc) else if y = "laid" then some (.ref ll) else if y = "order" then some (.ref lo) else if y = "rest" then ur else m7 y)) (N : News g L s.heap ([(L + 1, o1), (L + 2, o2), (L + 3, o3), (L + 4, o4), (lo, W.listOf (List.toArray qs) no), (ll, W.listOf (List.toArray zs) nl)] ++ led))
  (hret : ∀ led' h' tk' gn', BareTo s.gens gn' → Led h₀ g led' → Fr g L h' (fun y => if y = "coded" then some (.bytes cb tc) else if y = "laid" then some (.ref ll) else if y = "order" then some (.ref lo) else if y = "rest" then ur else m7 y) → News g L h' ([(L + 1, o1), (L + 2, o2), (L + 3, o3), (L + 4, o4), (lo, W.listOf (List.toArray qs) no), (ll, W.listOf (List.toArray zs) nl)] ++ led') →
   wpAny (model rw_iw0008_01.prog w) (A.deeper (envOfC (Str.ofString "law") lawS L f cd)) (execs (lawB.drop 14) (envOfC (Str.ofString "law") lawS L f cd)) Q E { s with heap := h', toks := tk', gens := gn' }) :
  wpAny (model rw_iw0008_01.prog w) (A.deeper (envOfC (Str.ofString "law") lawS L f cd)) (execs (lawB.drop 13) (envOfC (Str.ofString "law") lawS L f cd)) Q E s := by
 have KX := Gb.K
 have T := Gb.T
 revert KX
 k_fill
 intro KX
 simp only [List.cons_append, List.nil_append] at N
 have hrl := rest_len ns
 have hol := octs_len ns
 obtain ⟨dx, tb, k1, k2, k3, q1, q2, q3, nd, I⟩ := he.ex
 refine execs_cut1 (by rfl) ?_
 k_steps
 rename Fr _ _ _ _ => F1
 rename News _ _ _ _ => N1
 have N3 : News g L _ ([(L + 1, o1), (L + 2, o2), (L + 3, o3), (L + 4, o4), (lo, W.listOf (List.toArray qs) no), (ll, W.listOf (List.toArray zs) nl)] ++ led) := N1
 clear N1
 have hou := ord_len ns
 refine Stop.mk ?_
 refine encT_spec Gb (by exact F1.keep) (by exact XL.tabs (fun p hp => (N3 p (List.mem_append_right _ hp)).1) F1.keep) hgP (by exact rm (b := 8) hd8) (by exact rm (b := 36) hu) (by exact hh) e lk bm big he ms hk hl _ _ _ hoc (by omega) _ _ _ (by exact N3.isList (List.mem_append_left _ (.tail _ (.tail _ (.tail _ (.tail _ (.head _))))))) hqs (by omega) (ord_in ns) ?_
 intro b2 t2 h2 tk2 gn2 kT hg hbb
 obtain ⟨led2, XL2, F2, N2⟩ := afterT XL F1 N3 kT (by
  intro p hp vs e
  simp only [List.mem_cons, List.not_mem_nil, or_false] at hp
  rcases hp with rfl | rfl | rfl | rfl | rfl | rfl
  ·rw [c1] at e; cases e
  ·rw [c2] at e; cases e
  ·rw [c3] at e; cases e
  ·rw [c4] at e; cases e
  ·cases e
  ·cases e
  )
 obtain rfl : b2 = cb := bInts_inj (by rw [hbb, hcb, enc_law (laid_in ns)]; rfl)
 clear F1 N3
 simp only [List.cons_append, List.nil_append] at N2
 k_steps
 rename Fr _ _ _ _ => F1
 rename News _ _ _ _ => N1
 exact Stop.mk (hret _ _ _ _ hg XL2 (fr_to F1 (sm ["coded", "laid", "order", "rest"])) N1)
theorem lawA10 {w : World} {mg mb : Str → Option Value} {A : Around} {s : Shared} {Q : Flow → Shared → Prop} {E : Value → Shared → Prop} {h₀ g : Heap} {L f : Addr} {cd : Value} {led : List (Addr × Obj)} (hfr : A.frames = some []) (hd : A.depth + 7 < recursionLimit) (hu : A.units + 100 < cLine) (hh : A.handled = none) (hgP : ∀ b ∈ PS, g.get? b = none) (XL : Led h₀ g led) (Gb : Gd w mg mb g) {f14 f15 f16 f17 f18 : Addr} (m14 : mg "_law_bits" = some (.ref f14)) (F14 : FnAt g 14 f14) (m15 : mg "_law_values" = some (.ref f15)) (F15 : FnAt g 15 f15) (m16 : mg "_law_foreign" = some (.ref f16)) (F16 : FnAt g 16 f16) (m17 : mg "_law_written" = some (.ref f17)) (F17 : FnAt g 17 f17) (m18 : mg "_law_read" = some (.ref f18)) (F18 : FnAt g 18 f18) {e lk : Addr} {bm : Array UInt8} {big : Bool} (he : Eng g e bm big lk) {x : Str} (hx : MapOf bm x) {ms : List Int} (hk : KBw.bInts bm = ms) (hl : ms.length = 64) (XK : Lkup w g lk ms) (hd8 : A.depth + 8 < recursionLimit) {ns : List Int} {ur : Option Value} {lo ll : Addr} {qs zs : List Value} {no nl : Nat} {oc cb : Array UInt8} {to tx tc : Tok} {o1 o2 o3 o4 : Obj} {w1 w2 w4 : Option Value} (hoc : KBw.bInts oc = octsV ns) (hqs : IntsAre qs (ordV ns)) (hzs : IntsAre zs (laidV ns)) (c1 : o1.data = .cell w1) (c2 : o2.data = .cell w2) (c3 : o3.data = .cell (some (.bytes oc to))) (c4 : o4.data = .cell w4) (hcb : KBw.bInts cb = signs ms (lawValues (lawBits (laidV ns) (Int.toNat 8) big) 6 big))
  {m7 : Str → Option Value} (b3 : m7 "big" = some (.bool big)) (b4 : m7 "engine" = some (.ref e))
  (F : Fr g L s.heap (fun y => if y = "coded" then some (.bytes cb tc) else if y = "laid" then some (.ref ll) else if y = "order" then some (.ref lo) else if y = "rest" then ur else m7 y)) (N : News g L s.heap ([(L + 1, o1), (L + 2, o2), (L + 3, o3), (L + 4, o4), (lo, W.listOf (List.toArray qs) no), (ll, W.listOf (List.toArray zs) nl)] ++ led))
  (hret : ∀ led' h' tk' gn', BareTo s.gens gn' → Led h₀ g led' → Fr g L h' (fun y => if y = "coded" then some (.bytes cb tc) else if y = "laid" then some (.ref ll) else if y = "order" then some (.ref lo) else if y = "rest" then ur else m7 y) → News g L h' ([(L + 1, o1), (L + 2, o2), (L + 3, o3), (L + 4, o4), (lo, W.listOf (List.toArray qs) no), (ll, W.listOf (List.toArray zs) nl)] ++ led') →
   wpAny (model rw_iw0008_01.prog w) (A.deeper (envOfC (Str.ofString "law") lawS L f cd)) (execs (lawB.drop 15) (envOfC (Str.ofString "law") lawS L f cd)) Q E { s with heap := h', toks := tk', gens := gn' }) :
  wpAny (model rw_iw0008_01.prog w) (A.deeper (envOfC (Str.ofString "law") lawS L f cd)) (execs (lawB.drop 14) (envOfC (Str.ofString "law") lawS L f cd)) Q E s := by
 have KX := Gb.K
 have T := Gb.T
 revert KX
 k_fill
 intro KX
 simp only [List.cons_append, List.nil_append] at N
 have hrl := rest_len ns
 have hol := octs_len ns
 have hou := ord_len ns
 have hla := laid_len ns
 obtain ⟨dx, tb, k1, k2, k3, q1, q2, q3, nd, I⟩ := he.ex
 rw [enc_law (laid_in ns)] at hcb
 have hoe := oct_enc hx hk (laid_in ns) big
 have hem := @enc_mod (laidV ns) big
 have hel := @enc_len (laidV ns) big
 refine execs_cut1 (by rfl) ?_
 k_steps
 rename Fr _ _ _ _ => F1
 rename News _ _ _ _ => N1
 have N3 : News g L _ ([(L + 1, o1), (L + 2, o2), (L + 3, o3), (L + 4, o4), (lo, W.listOf (List.toArray qs) no), (ll, W.listOf (List.toArray zs) nl)] ++ led) := N1
 clear N1
 refine Stop.mk ?_
 refine decT_spec Gb (by exact F1.keep) (by exact XL.tabs (fun p hp => (N3 p (List.mem_append_right _ hp)).1) F1.keep) hgP (by exact rm (b := 8) hd8) (by exact rm (b := 36) hu) (by exact hh) e lk bm big he ms hl XK _ _ _ hcb (by rw [signs_len]; omega) (by rw [signs_len]; exact hem) (signs_mem hl (enc_six (laid_in ns) big)) _ _ _ (by exact N3.isList (List.mem_append_left _ (.tail _ (.tail _ (.tail _ (.tail _ (.head _))))))) hqs (by rw [hoe, hou, hla]) (fun o ho => by have := ord_in ns o ho; rw [octs_len] at this; rw [hou]; exact this) (octsV ns) (by omega) (fun j hj => ?_) (ord_all ns) (octs_in ns) ?_
 ·rw [hoe]
  unfold laidV
  rw [List.getD_eq_getElem?_getD, List.getElem?_map, List.getElem?_eq_getElem hj, List.getD_eq_getElem?_getD (l := ordV ns), List.getElem?_eq_getElem hj]
  rfl
 intro b2 t2 h2 tk2 gn2 kT hg hbb
 obtain ⟨led2, XL2, F2, N2⟩ := afterT XL F1 N3 kT (by
  intro p hp vs e
  simp only [List.mem_cons, List.not_mem_nil, or_false] at hp
  rcases hp with rfl | rfl | rfl | rfl | rfl | rfl
  ·rw [c1] at e; cases e
  ·rw [c2] at e; cases e
  ·rw [c3] at e; cases e
  ·rw [c4] at e; cases e
  ·cases e
  ·cases e
  )
 obtain rfl : b2 = oc := bInts_inj (by rw [hbb, hoc])
 clear F1 N3
 simp only [List.cons_append, List.nil_append] at N2
 k_steps
 rename Fr _ _ _ _ => F1
 rename News _ _ _ _ => N1
 exact Stop.mk (hret _ _ _ _ hg XL2 (fr_to F1 (sm ["coded", "laid", "order", "rest"])) N1)
theorem sz3 {a c : Nat} (h : a ≤ 14) (q : 17 ≤ c := by decide) : a + min 3 a ≤ c := Nat.le_trans (Nat.add_le_add h (Nat.min_le_left _ _)) q
theorem lawA11 {w : World} {mg mb : Str → Option Value} {A : Around} {s : Shared} {Q : Flow → Shared → Prop} {E : Value → Shared → Prop} {h₀ g : Heap} {L f : Addr} {cd : Value} {led : List (Addr × Obj)} (hfr : A.frames = some []) (hd : A.depth + 7 < recursionLimit) (hu : A.units + 100 < cLine) (hh : A.handled = none) (hgP : ∀ b ∈ PS, g.get? b = none) (XL : Led h₀ g led) (Gb : Gd w mg mb g) {f14 f15 f16 f17 f18 : Addr} (m14 : mg "_law_bits" = some (.ref f14)) (F14 : FnAt g 14 f14) (m15 : mg "_law_values" = some (.ref f15)) (F15 : FnAt g 15 f15) (m16 : mg "_law_foreign" = some (.ref f16)) (F16 : FnAt g 16 f16) (m17 : mg "_law_written" = some (.ref f17)) (F17 : FnAt g 17 f17) (m18 : mg "_law_read" = some (.ref f18)) (F18 : FnAt g 18 f18) {e lk : Addr} {bm : Array UInt8} {big : Bool} (he : Eng g e bm big lk) {x : Str} (hx : MapOf bm x) {ms : List Int} (hk : KBw.bInts bm = ms) (hl : ms.length = 64) (XK : Lkup w g lk ms) (hd8 : A.depth + 8 < recursionLimit) {ns : List Int} {ur : Option Value} {lo ll : Addr} {qs zs : List Value} {no nl : Nat} {oc cb : Array UInt8} {to tx tc : Tok} {o1 o2 o3 o4 : Obj} {w1 w2 w4 : Option Value} (hoc : KBw.bInts oc = octsV ns) (hqs : IntsAre qs (ordV ns)) (hzs : IntsAre zs (laidV ns)) (c1 : o1.data = .cell w1) (c2 : o2.data = .cell w2) (c3 : o3.data = .cell (some (.bytes oc to))) (c4 : o4.data = .cell w4)
  {m7 : Str → Option Value} (b3 : m7 "big" = some (.bool big)) (b4 : m7 "engine" = some (.ref e))
  (F : Fr g L s.heap (fun y => if y = "coded" then some (.bytes cb tc) else if y = "laid" then some (.ref ll) else if y = "order" then some (.ref lo) else if y = "rest" then ur else m7 y)) (N : News g L s.heap ([(L + 1, o1), (L + 2, o2), (L + 3, o3), (L + 4, o4), (lo, W.listOf (List.toArray qs) no), (ll, W.listOf (List.toArray zs) nl)] ++ led))
  (hret : ∀ led' m' news' h' tk' gn', BareTo s.gens gn' → Led h₀ g led' → Fr g L h' m' → News g L h' (news' ++ led') → Q (.ret (.bool true)) { s with heap := h', toks := tk', gens := gn' }) :
  wpAny (model rw_iw0008_01.prog w) (A.deeper (envOfC (Str.ofString "law") lawS L f cd)) (execs (lawB.drop 15) (envOfC (Str.ofString "law") lawS L f cd)) Q E s := by
 have KX := Gb.K
 have T := Gb.T
 revert KX
 k_fill
 intro KX
 simp only [List.cons_append, List.nil_append] at N
 have hrl := rest_len ns
 have hol := octs_len ns
 have hou := ord_len ns
 have hla := laid_len ns
 have hqz := hqs.length
 have hzz := hzs.length
 obtain ⟨dx, tb, k1, k2, k3, q1, q2, q3, nd, I⟩ := he.ex
 refine execs_lit (by rfl) ?_
 k_steps
 rename IntsAre _ (_ ++ _) => hitw
 rename Fr _ _ _ _ => F1
 rename News _ _ _ _ => N1
 obtain ⟨l1, e1⟩ := nm1 N1
 obtain ⟨l2, e2⟩ := nm2 N1
 subst e1 e2
 rename List Value => ws
 have N3 : News g L _ (([(l1, _), (l2, _)] ++ [(L + 1, o1), (L + 2, o2), (L + 3, o3), (L + 4, o4), (lo, W.listOf (List.toArray qs) no), (ll, W.listOf (List.toArray zs) nl)]) ++ led) := N1
 clear N1
 refine Stop.mk ?_
 refine encT_spec Gb (by exact F1.keep) (by exact XL.tabs (fun p hp => (N3 p (List.mem_append_right _ hp)).1) F1.keep) hgP (by exact rm (b := 8) hd8) (by exact rm (b := 36) hu) (by exact hh) e lk bm big he ms hk hl _ _ _ hoc (by omega) _ _ _ (by exact N3.isList (.head _)) hitw (by rw [List.length_append, List.length_take]; exact sz3 (by first | exact Nat.le_trans (Nat.le_of_eq hou) (rest_len ns) | exact Nat.le_trans (Nat.le_of_eq hla) (rest_len ns))) (fun o ho => (List.mem_append.mp ho).elim (ord_in ns o) (fun h => ord_in ns o (List.mem_of_mem_take h))) ?_
 intro b2 t2 h2 tk2 gn2 kT hg hbb
 obtain ⟨led2, XL2, F2, N2⟩ := afterT XL F1 N3 kT (by
  intro p hp vs e
  simp only [List.cons_append, List.nil_append, List.mem_cons, List.not_mem_nil, or_false] at hp
  rcases hp with rfl | rfl | rfl | rfl | rfl | rfl | rfl | rfl
  ·cases e
  ·cases e
  ·rw [c1] at e; cases e
  ·rw [c2] at e; cases e
  ·rw [c3] at e; cases e
  ·rw [c4] at e; cases e
  ·cases e
  ·cases e
  )
 clear F1 N3
 simp only [List.cons_append, List.nil_append] at N2
 k_steps
 rename IntsAre _ (_ ++ _) => hila
 rename Fr _ _ _ _ => F1
 rename News _ _ _ _ => N1
 have hin8 : ∀ x ∈ laidV ns ++ List.take 3 (laidV ns), 0 ≤ x ∧ x < 256 := fun x hx => (List.mem_append.mp hx).elim (laid_in ns x) fun h => laid_in ns x (List.mem_of_mem_take h)
 refine KBa.make_K (by exact F1) (by exact N1) (by exact hh) (by exact N1.isList (List.Mem.head _)) hila hin8 (by rw [List.length_append, List.length_take]; exact sz3 (by first | exact Nat.le_trans (Nat.le_of_eq hou) (rest_len ns) | exact Nat.le_trans (Nat.le_of_eq hla) (rest_len ns))) ?_
 intro h9 t9 k9 F9 N9 hin9
 clear F1 N1
 k_steps
 rename Fr _ _ _ _ => F1
 rename News _ _ _ _ => N1
 refine Stop.mk ?_
 have T1 := XL2.tabs (fun p hp => (N1 p (by repeat (first | exact hp | apply List.mem_cons_of_mem))).1) F1.keep
 refine encB_spec Gb (by exact F1.keep) (by exact T1) hgP (by exact rm (b := 7) hd) (by exact rm (b := 33) hu) (by exact hh) e lk bm big he ms hk hl _ _ _ (KBa.ints_make hin9) (by rw [List.length_append, List.length_take]; exact sz3 (by first | exact Nat.le_trans (Nat.le_of_eq hou) (rest_len ns) | exact Nat.le_trans (Nat.le_of_eq hla) (rest_len ns))) ?_
 intro b4 t4 h4 tk4 gn4 kT4 hg4 hbb4
 obtain rfl : b4 = b2 := bInts_inj (by rw [hbb, hbb4, List.map_append, List.map_take]; rfl)
 have N3 : News g L _ ([] ++ led2) := news_sub N1 (fun p hp => by repeat (first | exact hp | apply List.mem_cons_of_mem))
 obtain ⟨led4, XL4, F4, N4⟩ := afterT XL2 F1 N3 kT4 (fun _ h => nomatch h)
 clear F1 N1 N3
 k_steps
 rw [show (b4.toList == b4.toList) = true from beq_self_eq_true _]
 exact hret _ _ [] _ _ _ (hg.trans hg4) XL4 F4 N4
structure LawAt (w : World) (mg : Str → Option Value) (g : Heap) : Prop where
 f12 : ∃ f, mg "_law_maps" = some (.ref f) ∧ FnAt g 12 f
 f13 : ∃ f, mg "_law_sizes" = some (.ref f) ∧ FnAt g 13 f
 f14 : ∃ f, mg "_law_bits" = some (.ref f) ∧ FnAt g 14 f
 f15 : ∃ f, mg "_law_values" = some (.ref f) ∧ FnAt g 15 f
 f16 : ∃ f, mg "_law_foreign" = some (.ref f) ∧ FnAt g 16 f
 f17 : ∃ f, mg "_law_written" = some (.ref f) ∧ FnAt g 17 f
 f18 : ∃ f, mg "_law_read" = some (.ref f) ∧ FnAt g 18 f
 e0 : ∃ e l, mg "h64" = some (.ref e) ∧ EngOk w g e h64B false l h64S
 e1 : ∃ e l, mg "h64big" = some (.ref e) ∧ EngOk w g e h64B true l h64S
 e2 : ∃ e l, mg "bcrypt64" = some (.ref e) ∧ EngOk w g e bcryptB true l bcryptS
theorem EngOk.keeps {w : World} {g h : Heap} {e lk : Addr} {bm : Array UInt8} {big : Bool} {x : Str} (k : Keep g h) (X : EngOk w g e bm big lk x) : EngOk w h e bm big lk x := ⟨X.eng.keeps k, X.map, X.lkup.keeps k⟩
theorem LawAt.keeps {w : World} {mg : Str → Option Value} {g h : Heap} (k : Keep g h) (X : LawAt w mg g) : LawAt w mg h :=
 ⟨X.f12.imp fun _ x => ⟨x.1, x.2.keeps k⟩, X.f13.imp fun _ x => ⟨x.1, x.2.keeps k⟩, X.f14.imp fun _ x => ⟨x.1, x.2.keeps k⟩, X.f15.imp fun _ x => ⟨x.1, x.2.keeps k⟩, X.f16.imp fun _ x => ⟨x.1, x.2.keeps k⟩, X.f17.imp fun _ x => ⟨x.1, x.2.keeps k⟩, X.f18.imp fun _ x => ⟨x.1, x.2.keeps k⟩,
  let ⟨e, l, a, b⟩ := X.e0; ⟨e, l, a, b.keeps k⟩, let ⟨e, l, a, b⟩ := X.e1; ⟨e, l, a, b.keeps k⟩, let ⟨e, l, a, b⟩ := X.e2; ⟨e, l, a, b.keeps k⟩⟩
theorem map_sz {bm : Array UInt8} {x : Str} (h : MapOf bm x) : (KBw.bInts bm).length = 64 := by cases h <;> decide +kernel
theorem law_spec {w : World} {mg mb : Str → Option Value} {A : Around} {s : Shared} {Q E : Value → Shared → Prop} {f : Addr} {base : Heap} (Gb : Gd w mg mb base) (kb : Keep base s.heap) (TB : Tabs s.heap) (hP : ∀ P ∈ PS, base.get? P = none)
  (hf : FnAt base 19 f) (LA : LawAt w mg base) (hd : A.depth + 8 < recursionLimit) (hu : A.units + 100 < cLine) (hh : A.handled = none) (hfr : A.frames = some [])
  (lv : Addr) (vs : List Value) (ns : List Int) (hl : base.IsList lv vs.toArray) (hi : IntsAre vs ns) (hlen : ns.length ≤ 63)
  (hret : ∀ h' tk' gn', KeepT s.heap h' → BareTo s.gens gn' → Q (.bool true) {s with heap := h', toks := tk', gens := gn'}) :
  wpAny (model rw_iw0008_01.prog w) A (call (.ref f) [.ref lv]) Q E s := by
 have kb' := keep_hideT kb hP
 have G : Gd w mg mb s.heap := Gb.keeps kb
 have G' : Gd w mg mb (hideAll s.heap PS) := Gb.keeps kb'
 have LB := LA.keeps kb'
 have hl' : (hideAll s.heap PS).IsList lv vs.toArray := hl.at fun o e => kb' _ o e
 refine wpCall ?_
 obtain ⟨o, pm, cd, doc, ho, hd', hc⟩ := (hf.keeps kb).ex
 refine enterCT G TB (binds := [("script", .ref lv)]) (by omega) ho hd' hc (BindsTo.of_eq rfl) rfl (by decide +kernel) ?_ rfl rfl rfl
 intro L h₁ tk cells led F N XL Y hlt
 clear ho hd' hc
 k_cells Y
 simp only [List.cons_append, List.nil_append] at N
 rename_i p1 p2 p3 p4 d1 d2 d3 d4
 have d1 : p1.data = .cell none := d1
 have d2 : p2.data = .cell none := d2
 have d3 : p3.data = .cell none := d3
 have d4 : p4.data = .cell (some (.ref lv)) := d4
 have F : Fr (hideAll s.heap PS) L h₁ (fun _ => none) := F
 have N3 : News (hideAll s.heap PS) L h₁ ([(L + 1, p4), (L + 2, p3), (L + 3, p2), (L + 4, p1)] ++ led) := news_sub N (fun p hp => by
  simp only [List.cons_append, List.nil_append, List.mem_cons] at hp ⊢
  rcases hp with h | h | h | h | h <;> simp only [h, true_or, or_true])
 clear N
 have hgP : ∀ b ∈ PS, (hideAll s.heap PS).get? b = none := fun b hb => hideAll_none _ hb
 obtain ⟨f12, m12, F12⟩ := LB.f12
 obtain ⟨f13, m13, F13⟩ := LB.f13
 obtain ⟨f14, m14, F14⟩ := LB.f14
 obtain ⟨f15, m15, F15⟩ := LB.f15
 obtain ⟨f16, m16, F16⟩ := LB.f16
 obtain ⟨f17, m17, F17⟩ := LB.f17
 obtain ⟨f18, m18, F18⟩ := LB.f18
 obtain ⟨e0, l0, mh0, E0⟩ := LB.e0
 obtain ⟨e1, l1, mh1, E1⟩ := LB.e1
 obtain ⟨e2, l2, mh2, E2⟩ := LB.e2
 have hd7 : A.depth + 7 < recursionLimit := by omega
 refine lawA1 hd7 hu hh G' XL hl' hi hlen d4 F N3 ?_
 intro tf ts h1 tk1 F N
 refine lawA2 hd7 hu hh G' XL hl' hi hlen d4 m12 F12 mh0 mh1 mh2 E0 E1 E2 F N d3 ?_
 intro e bm big lk x o2 tx h2 tk2 EO c2 F N
 refine lawA3 hd7 hu hh G' XL hl' hi hlen d4 F N ?_
 intro ld xs nd h3 tk3 hxs F N
 have hk : KBw.bInts bm = KBw.bInts bm := rfl
 have hx := EO.map
 have hl64 := map_sz hx
 have XK := EO.lkup
 have he := EO.eng
 refine lawA4 hfr hd7 hu hh hgP XL G' m14 F14 m15 F15 m16 F16 m17 F17 m18 F18 he hx hk hl64 XK m13 F13 hxs (drawn_six ns) (drawn_len ns) d4 c2 d2 d1 (by rfl) (by rfl) (by rfl) (by rfl) (by rfl) F N ?_
 intro u1 u2 u3 u4 u5 u6 u7 u8 u9 ua us led4 h4 tk4 XL F N
 have N5 : News (hideAll s.heap PS) L h4 ([(L + 1, p4), (L + 2, o2), (L + 3, p2), (L + 4, p1)] ++ led4) := news_sub N (fun p hp => by
  simp only [List.cons_append, List.nil_append, List.mem_cons] at hp ⊢
  rcases hp with h | h | h | h | h <;> simp only [h, true_or, or_true])
 clear N
 refine lawA5 hd7 hu hh G' XL hl' hi hlen d4 d2 F N5 ?_
 intro lr rs nr oc to o3 h5 tk5 hir hoc c3 F N
 refine lawA6 hd7 hu hh G' XL hl' hi hlen d4 hir d1 F N ?_
 intro ll ys nl o4 h6 tk6 hnl hys c4 F N
 refine lawA7 hd7 hu hh G' XL hl' hi hlen d4 hnl hir hys c4 F N ?_
 intro lo qs no h7 tk7 hqs F N
 refine lawA8 hfr hd7 hu hh hgP XL G' m14 F14 m15 F15 m16 F16 m17 F17 m18 F18 he hx hk hl64 XK hoc hqs c2 c3 (by rfl) (by rfl) F N ?_
 intro la zs na cb tc h8 tk8 hzs hcb F N
 refine lawA9 (tx := tx) hfr hd7 hu hh hgP XL G' m14 F14 m15 F15 m16 F16 m17 F17 m18 F18 he hx hk hl64 XK hd hoc hqs hzs d4 c2 c3 c4 hcb (by rfl) (by rfl) F N ?_
 intro led9 h9 tk9 gn9 hg9 XL F N
 refine lawA10 (tx := tx) hfr hd7 hu hh hgP XL G' m14 F14 m15 F15 m16 F16 m17 F17 m18 F18 he hx hk hl64 XK hd hoc hqs hzs d4 c2 c3 c4 hcb (by rfl) (by rfl) F N ?_
 intro led10 h10 tk10 gn10 hg10 XL F N
 refine lawA11 (tx := tx) hfr hd7 hu hh hgP XL G' m14 F14 m15 F15 m16 F16 m17 F17 m18 F18 he hx hk hl64 XK hd hoc hqs hzs d4 c2 c3 c4 (by rfl) (by rfl) F N ?_
 intro led11 m11 news11 h11 tk11 gn11 hg11 XL F N
 exact hret _ _ _ (XL.keepT (news := []) F fun p hp => (N p (List.mem_append_right _ hp)).1) ((hg9.trans hg10).trans hg11)
theorem top_mk {mg mb : Str → Option Value} {h : Heap} (g : h.Ns mainGlobals mg) (b : h.Ns builtinsNs mb) (st : ∃ mc, h.Ns cStatics mc ∧ mc "sys.int_max_str_digits" = none) (nl : h.NoLimit)
  (free : ∀ x, x ∉ startupNames → x ∉ LOOSE → mg x = none) (bi : ∀ x : Str, x ≠ "__name__" → mb x = bootBuiltins x)
  (bm : ∃ bm ob, mg "__builtins__" = some (.ref bm) ∧ bm ≠ builtinsNs ∧ h.get? bm = some ob ∧ ob.cls = .type "module" ∧ ob.dict = some builtinsNs ∧ ob.data = .plain) : Top topProg LOOSE (fun _ => none) mg mb h where
 g := g
 b := b
 nolimit := nl
 nodigits := st
 fn := fun d hd => absurd (show d ∈ ([] : List DefRec) from hd) List.not_mem_nil
 own := fun o ho => absurd (show o ∈ ([] : List OwnSpec) from ho) List.not_mem_nil
 const := fun x d e => by cases (show (none : Option PyData) = some d from e)
 free := fun x h1 h2 _ _ _ => free x h1 h2
 builtins := bi
 tab := fun d hd => absurd (show d ∈ ([] : List DefRec) from hd) List.not_mem_nil
 bmain := bm
 seer := fun e => absurd (show false = true from e) Bool.false_ne_true
noncomputable def KeepM (h h' : Heap) : Prop := ∀ b o, b ≠ 3 → b ≠ 12 → b ≠ 45 → h.get? b = some o → h'.get? b = some o
theorem KeepM.trans {a b c : Heap} (x : KeepM a b) (y : KeepM b c) : KeepM a c := fun z o h1 h2 h3 e => y z o h1 h2 h3 (x z o h1 h2 h3 e)
noncomputable abbrev HID : List Addr := 45 :: PS
noncomputable abbrev lowL : List Addr := List.range 261
structure MS (w : World) (mg mb : Str → Option Value) (ps : Array Value) (h : Heap) : Prop where
 gd : Gd w mg mb (hideAll h HID)
 main : h.Main mg 13 12 ps
 tabs : ∀ P ∈ PS, h.get? P = some (tabObj #[])
 ok : ∃ ps', h.IsCode 49 45 ps'
 big : 261 ≤ h.objs.size
theorem k0_off {P : Params} {a : Addr} {o : Obj} (h : (K0 P).lookup a = some o) : a ≠ 3 ∧ a ≠ 12 := by
 refine ⟨fun q => ?_, fun q => ?_⟩
 ·subst q
  have : (K0 P).lookup 3 = none := by rfl
  rw [this] at h; cases h
 ·subst q
  have : (K0 P).lookup 12 = none := by rfl
  rw [this] at h; cases h
theorem keepM_hid {h h' : Heap} (k : KeepM h h') {a : Addr} {o : Obj} (h3 : a ≠ 3) (h12 : a ≠ 12) (e : (hideAll h HID).get? a = some o) : (hideAll h' HID).get? a = some o := by
 have hn : a ∉ HID := fun q => by rw [hideAll_none _ q] at e; cases e
 exact hideAll_get _ (k a o h3 h12 (fun q => hn (by rw [q]; exact .head _)) (of_hideAll _ e)) hn
theorem keepM_low {h h' : Heap} (k : KeepM h h') : Keep (hideAll h lowL) (hideAll h' lowL) := fun b o e => by
 have hn : b ∉ lowL := fun q => by rw [hideAll_none _ q] at e; cases e
 have hl : ∀ c : Nat, c < 261 → b ≠ c := fun c hc q => hn (by rw [q]; exact List.mem_range.mpr hc)
 exact hideAll_get _ (k b o (hl 3 (by decide)) (hl 12 (by decide)) (hl 45 (by decide)) (of_hideAll _ e)) hn
theorem low_hid {h : Heap} : Keep (hideAll h lowL) (hideAll h HID) := fun b o e => by
 have hn : b ∉ lowL := fun q => by rw [hideAll_none _ q] at e; cases e
 refine hideAll_get _ (of_hideAll _ e) fun q => hn ?_
 have : ∀ x ∈ HID, x ∈ lowL := by decide
 exact this _ q
theorem MS.step {w : World} {mg mg' mb : Str → Option Value} {ps ps' : Array Value} {h h' : Heap} (X : MS w mg mb ps h) (k : KeepM h h') (hm : h'.Main mg' 13 12 ps') (ok : ∃ ps', h'.IsCode 49 45 ps') (sz : 261 ≤ h'.objs.size)
  (hf : ∀ x, x ∉ startupNames → x ∉ LOOSE → mg' x = mg x) : MS w mg' mb ps' h' := by
 have kk : ∀ b o, b ≠ 3 → b ≠ 12 → (hideAll h HID).get? b = some o → (hideAll h' HID).get? b = some o := fun b o h3 h12 e => keepM_hid k h3 h12 e
 have hat : ∀ {z : Addr} {m : Str → Option Value}, z ≠ 3 → z ≠ 12 → (hideAll h HID).Ns z m → (hideAll h' HID).Ns z m := fun h3 h12 hn => hn.at fun o e => kk _ o h3 h12 e
 have n3 : (3 : Addr) ∉ HID := by decide
 refine ⟨⟨fun a o e => kk a o (k0_off e).1 (k0_off e).2 (X.gd.K a o e), ?_⟩, hm, fun P hP => ?_, ok, sz⟩
 ·refine top_mk (hm.g.at fun o e => hideAll_get _ e n3) (hat (by decide) (by decide) X.gd.P.b) ?_ ?_ (fun x h1 h2 => (hf x h1 h2).trans (X.gd.P.free x h1 h2 (fun q => absurd (show x ∈ ([] : List Str) from q) List.not_mem_nil) (fun q => absurd (show x ∈ ([] : List Str) from q) List.not_mem_nil) (fun q => absurd (show x ∈ ([] : List Str) from q) List.not_mem_nil))) X.gd.P.builtins ?_
  ·obtain ⟨mc, h1, h2⟩ := X.gd.P.nodigits
   exact ⟨mc, hat (by decide) (by decide) h1, h2⟩
  ·obtain ⟨mc, h1, h2⟩ := X.gd.P.nolimit
   exact ⟨mc, hat (by decide) (by decide) h1, h2⟩
  ·obtain ⟨bm, o, b1, b2, b3, b4, b5, b6, b7, b8⟩ := hm.bmod
   refine ⟨bm, o, b1, b2, hideAll_get _ b5 fun q => ?_, b6, b7, b8⟩
   rcases List.mem_cons.mp q with rfl | q
   ·obtain ⟨ps', ok⟩ := ok
    obtain ⟨_, _, _, _, _, _, _, _, _, op, _, _, _, _, _, _, _, e, r, _⟩ := ok
    rw [b5] at e; cases e
    rw [b8] at r; cases r
   ·have hPm := X.tabs _ q
    have : ∀ x ∈ PS, x ≠ 3 ∧ x ≠ 12 ∧ x ≠ 45 := by decide
    obtain ⟨q1, q2, q3⟩ := this _ q
    have e := k _ _ q1 q2 q3 hPm
    rw [b5] at e; cases e
    cases b8
 ·have : ∀ x ∈ PS, x ≠ 3 ∧ x ≠ 12 ∧ x ≠ 45 := by decide
  obtain ⟨q1, q2, q3⟩ := this _ hP
  exact k _ _ q1 q2 q3 (X.tabs P hP)
section
section
variable {w : World} {mg mb : Str → Option Value} {ps : Array Value} {A : Around} {s : Shared} {E : Value → Shared → Prop}
noncomputable abbrev menv : Env := mainEnv PP 13 14
noncomputable abbrev put (mg : Str → Option Value) (x : Str) (v : Value) : Str → Option Value := fun y => if y = x then some v else mg y
theorem top_name {x : Str} {p : Pos} {v : Value} {Q : Value → Shared → Prop} (X : s.heap.Ns mainGlobals mg) (hv : mg x = some v) (h : Q v s) (hd : (x == ("__debug__" : Str)) = false) : wpAny (Md w) A (eval (.Name x p) menv) Q E s :=
 Name_module rfl rfl (loadGlobal_global X hv h) hd
theorem top_assign {x : Str} {p' p : Pos} {value : Expr} {Q : Flow → Shared → Prop} (hx : PP.main.scope.names.lookup x = some .local) (hs : swapsWith value (some (.Name x p')) p.line menv = pure false) (hnb : x ≠ "__builtins__") (hloose : x ∈ LOOSE ∨ x ∈ startupNames)
  (h : wpAny (Md w) A (eval value menv) (fun v s₁ => MS w mg mb ps s₁.heap ∧ ∀ h' tk, MS w (put mg x v) mb ps h' → KeepM s₁.heap h' → Q .next { s₁ with heap := h', toks := tk }) E s) :
  wpAny (Md w) A (exec (.Assign [.Name x p'] value p) menv) Q E s := by
 refine wpAny_Assign_Name (wpAny_mono h (fun v s₁ ⟨X, k⟩ => ?_) fun _ _ e => e) hs
 refine wpAny_storeName_local (env := menv) hx X.main.g (fun h' hg' hs' => ?_) (by rfl)
 replace hs' : Heap.SameBut mainGlobals s₁.heap h' := hs'
 have kk : KeepM s₁.heap h' := fun b o h3 _ _ e => hs'.extBut b o h3 e
 obtain ⟨bm, o, hbm, hne0, hneG, hneP, hbo, hrest⟩ := X.main.bmod
 have hm : h'.Main (put mg x v) 13 12 ps := ⟨hg', X.main.code.sameBut hs' (by decide) (by decide), X.main.low, ⟨bm, o, by show (if _ = x then _ else _) = _; rw [if_neg (Ne.symm hnb)]; exact hbm, hne0, hneG, hneP, (hs'.2 _ hneG).trans hbo, hrest⟩⟩
 refine k h' _ (X.step kk hm (X.ok.imp fun _ c => c.sameBut hs' (by decide) (by decide)) (Nat.le_trans X.big (Nat.le_of_eq hs'.1.symm)) fun y h1 h2 => ?_) kk
 show (if y = x then _ else _) = _
 rw [if_neg (fun (q : y = x) => hloose.elim (fun r => h2 (by rw [q]; exact r)) fun r => h1 (by rw [q]; exact r))]
theorem top_engine {x ch : Str} {p' p p1 p2 p3 pk : Pos} {kws : List Keyword} {big : Bool} (hbig : (kws = [] ∧ big = false) ∨ (∃ kk pk, kws = [⟨some (Str.ofString "big"), .Constant (.bool true) kk pk, p3⟩] ∧ big = true)) {cm : Str} {t : Tok} {bm : Array UInt8} {Q : Flow → Shared → Prop} (X : MS w mg mb ps s.heap)
  (hd : A.depth + 10 < recursionLimit) (hu : A.units + 40 < cLine) (hh : A.handled = none)
  (hx : PP.main.scope.names.lookup x = some .local) (hs : swapsWith (.Call (.Name "Base64Engine" p1) [.Name ch p2] kws pk) (some (.Name x p')) p.line menv = pure false) (hnb : x ≠ "__builtins__") (hloose : x ∈ LOOSE)
  (hc : mg "Base64Engine" = some (.ref 256)) (hch : mg ch = some (.str cm t)) (hdc : (ch == ("__debug__" : Str)) = false) (hm : MapOf bm cm)
  (hQ : ∀ h' tk gn e lk gs, MS w (put mg x (.ref e)) mb ps h' → EngOk w (hideAll h' lowL) e bm big lk cm → KeepM s.heap h' → GenOnlyQ s.gens.size (s.gens.push gs) gn → gn[s.gens.size]? = some .finished → Q .next { s with heap := h', toks := tk, gens := gn }) :
  wpAny (model rw_iw0008_01.prog w) A (exec (.Assign [.Name x p'] (.Call (.Name "Base64Engine" p1) [.Name ch p2] kws pk) p) menv) Q E s := by
 have KX : (K0 w.params).In s.heap := X.gd.K.keeps fun b o e => of_hideAll _ e
 revert KX
 k_fill
 intro KX
 obtain ⟨ps0, hok⟩ := X.ok
 have b45 : (hideAll s.heap HID).get? 45 = none := hideAll_none _ (.head _)
 have kb : Keep (hideAll s.heap HID) s.heap := fun b o e => of_hideAll _ e
 have hk : keepIn (K0 w.params) (.ref 256) = true := by k_is
 have tail : ∀ (h' : Heap) (tk' : Nat) (gn' : Array GenState) (e lk : Addr) (ps' : Array Value) (gs : GenState), (∀ N, N ≤ s.heap.objs.size → EngOk w (hideAll h' (List.range N)) e bm big lk cm) → s.heap.objs.size ≤ h'.objs.size → Keep (hideAll s.heap [45]) h' → h'.IsCode 49 45 ps' → GenOnlyQ s.gens.size (s.gens.push gs) gn' → gn'[s.gens.size]? = some .finished →
   MS w mg mb ps h' ∧ ∀ h'' tk, MS w (put mg x (.ref e)) mb ps h'' → KeepM h' h'' → Q .next { s with heap := h'', toks := tk, gens := gn' } := by
  intro h' tk' gn' e lk ps' gs he sz hk' hok' hg hf
  have kk : KeepM s.heap h' := fun b o _ _ h45 q => hk' b o (hideAll_get _ q fun r => h45 (List.mem_singleton.mp r))
  have kk' : ∀ b o, b ≠ 45 → s.heap.get? b = some o → h'.get? b = some o := fun b o h45 q => hk' b o (hideAll_get _ q fun r => h45 (List.mem_singleton.mp r))
  obtain ⟨bm', o, hbm, hne0, hneG, hneP, hbo, hrest⟩ := X.main.bmod
  have hm' : h'.Main mg 13 12 ps := ⟨X.main.g.at fun o e => kk' _ o (by decide) e, isCode_move X.main.code (fun o e => kk' _ o (by decide) e) (fun o e => kk' _ o (by decide) e), X.main.low,
   ⟨bm', o, hbm, hne0, hneG, hneP, kk' _ _ (fun q => by
    obtain ⟨_, _, _, _, _, _, _, _, _, op, _, _, _, _, _, _, _, e, r, _⟩ := hok
    rw [← q, hbo] at e; cases e
    rw [hrest.2.2] at r; cases r) hbo, hrest⟩⟩
  exact ⟨X.step kk hm' ⟨ps', hok'⟩ (Nat.le_trans X.big sz) fun _ _ _ => rfl, fun h'' tk X2 k2 => hQ h'' tk gn' e lk gs X2 ((he 261 X.big).keeps (keepM_low k2)) (kk.trans k2) hg hf⟩
 refine top_assign (mg := mg) (mb := mb) (ps := ps) hx hs hnb (.inl hloose) ?_
 refine wpAny_Call_Name_kw (top_name X.main.g hc ?_ (by decide))
 rcases hbig with ⟨rfl, rfl⟩ | ⟨kk, pk', rfl, rfl⟩
 ·refine callWith_K KX hk (spliced_more (top_name X.main.g hch (spliced_none ⟨KX, ?_⟩) hdc) rfl)
  refine engine_call X.gd kb hd hu hh hok b45 hm t [] false (.inl ⟨rfl, rfl⟩) ?_
  intro h' tk' gn' e lk ps' gs he sz hk' hok' hg hf
  exact tail h' tk' gn' e lk ps' gs he sz hk' hok' hg hf
 ·refine callWith_KW KX hk rfl (spliced_more (top_name X.main.g hch (spliced_none ?_) hdc) rfl)
  refine kwAll_cons (show wpAny (Md w) A (pure (Value.bool true)) _ _ _ from wpAny_pure (kwAll_nil ⟨KX, ?_⟩))
  refine engine_call X.gd kb hd hu hh hok b45 hm t [(Str.ofString "big", .bool true)] true (.inr ⟨rfl, rfl⟩) ?_
  intro h' tk' gn' e lk ps' gs he sz hk' hok' hg hf
  exact tail h' tk' gn' e lk ps' gs he sz hk' hok' hg hf
end
end
section
noncomputable def defAt (i : Nat) : DefRec := match PP.main.body[i]? with
 | some (.FunctionDef name params body [] none [] scope none _ pos) => ⟨name, params, body, scope, pos⟩
 | _ => ⟨"", ⟨[], [], none, [], [], none, []⟩, [], { kind := .function, names := [], isGenerator := false, isCoroutine := false, more := [] }, ⟨0, 0, 0, 0⟩⟩
noncomputable def lawDefs : List DefRec := [12, 13, 14, 15, 16, 17, 18, 19].map defAt
theorem plain_defs : ∀ d ∈ lawDefs, d.Plain PP := by
 have h : ∀ i ∈ [12, 13, 14, 15, 16, 17, 18, 19], (defAt i).Plain PP := by
  intro i hi
  simp only [List.mem_cons, List.not_mem_nil, or_false] at hi
  rcases hi with rfl | rfl | rfl | rfl | rfl | rfl | rfl | rfl
  all_goals exact ⟨fun _ => rfl, by decide +kernel, by decide +kernel, by decide +kernel, by decide +kernel⟩
 intro d hd
 obtain ⟨i, hi, rfl⟩ := List.mem_map.mp hd
 exact h i hi
theorem defs_nd : (lawDefs.map (·.name)).Nodup := by decide +kernel
theorem defs_pos : (lawDefs.map fun d => (d.pos.line, d.pos.col)).Nodup := by decide +kernel
theorem data_at (i : Nat) (hi : i ∈ [12, 13, 14, 15, 16, 17, 18, 19]) (pm c doc : Value) : (defAt i).data pm c doc = fdOf i pm c doc := by
 simp only [List.mem_cons, List.not_mem_nil, or_false] at hi
 rcases hi with rfl | rfl | rfl | rfl | rfl | rfl | rfl | rfl <;> rfl
theorem drop8 : ∃ a1 a2 a3 a4 a5 b1 b2 b3 b4 b5 b6 bk bp c1 c2 c3 c4 c5 c6 ck cp d1 d2 d3 x k, PP.main.body.drop 8 =
  .Assign [.Name "h64" a1] (.Call (.Name "Base64Engine" a2) [.Name "HASH64_CHARS" a3] [] a4) a5 ::
  .Assign [.Name "h64big" b1] (.Call (.Name "Base64Engine" b2) [.Name "HASH64_CHARS" b3] [⟨some (Str.ofString "big"), .Constant (.bool true) bk bp, b6⟩] b4) b5 ::
  .Assign [.Name "bcrypt64" c1] (.Call (.Name "Base64Engine" c2) [.Name "BCRYPT_CHARS" c3] [⟨some (Str.ofString "big"), .Constant (.bool true) ck cp, c6⟩] c4) c5 ::
  .Assign [.Name "__name__" d1] (.Constant (.str x) k d2) d3 :: lawDefs.map (·.stmt) := ⟨_, _, _, _, _, _, _, _, _, _, _, _, _, _, _, _, _, _, _, _, _, _, _, _, _, _, rfl⟩
noncomputable def AllDone (n : Nat) (gn : Array GenState) : Prop := gn.size = n ∧ ∀ (i : Nat) (x : GenState), gn[i]? = some x → x = .finished
theorem allDone_more {n : Nat} {a b : Array GenState} {gs : GenState} (h : AllDone n a) (g : GenOnlyQ a.size (a.push gs) b) (f : b[a.size]? = some .finished) : AllDone (n + 1) b := by
 obtain ⟨h1, h2⟩ := h
 have hold : ∀ (i : Nat) (x : GenState), (a.push gs)[i]? = some x → i ≠ a.size → x = .finished := fun i x e q => by
  rw [Array.getElem?_push, if_neg q] at e
  exact h2 i x e
 rcases g with rfl | ⟨g, _⟩
 ·refine ⟨by simp [h1], fun i x e => ?_⟩
  by_cases q : i = a.size
  ·subst q; rw [f] at e; cases e; rfl
  ·exact hold i x e q
 ·refine ⟨by rw [g.1]; simp [h1], fun i x e => ?_⟩
  by_cases q : i = a.size
  ·subst q; rw [f] at e; cases e; rfl
  ·exact hold i x (by rw [← g.2 i q]; exact e) q
theorem fnAt_of {h : Heap} {mg : Str → Option Value} {k : Addr} {i : Nat} (hi : i ∈ [12, 13, 14, 15, 16, 17, 18, 19]) (X : h.HasFn mg k (defAt i)) (tb : ∀ P ∈ PS, h.get? P = some (tabObj #[])) : ∃ f, mg (defAt i).name = some (.ref f) ∧ FnAt (hideAll h PS) i f := by
 obtain ⟨a, o, pm, code, doc, hm, ho, hd, ⟨c, oc, vs, t, e, hc, hv, hq⟩, _, _⟩ := X
 cases e
 refine ⟨a, hm, ⟨o, pm, .ref code, doc, hideAll_get _ ho fun q => ?_, by rw [← data_at i hi]; exact hd, ?_⟩⟩
 ·have := tb _ q
  rw [ho] at this; cases this
  cases hd
 ·have hn : (fdOf i pm (.ref code) doc).qualname = (defAt i).name := by rw [← data_at i hi]; rfl
  rw [hn]
  refine ⟨code, oc, vs, t, rfl, hideAll_get _ hc fun q => ?_, hv, hq⟩
  have := tb _ q
  rw [hc] at this; cases this
  cases hv
  cases hq
theorem put_ne {mg : Str → Option Value} {x y : Str} {v : Value} (h : y ≠ x) : put mg x v y = mg y := if_neg h
theorem put_eq {mg : Str → Option Value} {x : Str} {v : Value} : put mg x v x = some v := if_pos rfl
section
variable {w : World} {mg mb : Str → Option Value} {l : List (Pos × Addr)} {A : Around} {s : Shared} {E : Value → Shared → Prop}
theorem head_run {Q : Flow → Shared → Prop} (X : MS w mg mb (triples l).toArray s.heap) (hl : ∀ d ∈ lawDefs, ∀ q ∈ l, ¬ (q.1.line = d.pos.line ∧ q.1.col = d.pos.col))
  (hd : A.depth + 10 < recursionLimit) (hu : A.units + 40 < cLine) (hh : A.handled = none) (hc : mg "Base64Engine" = some (.ref 256)) {t1 t2 : Tok} (hc1 : mg "HASH64_CHARS" = some (.str h64S t1)) (hc2 : mg "BCRYPT_CHARS" = some (.str bcryptS t2)) (hg : s.gens = #[])
  (hQ : ∀ h' tk gn mg' ps', MS w mg' mb ps' h' → LawAt w mg' (hideAll h' PS) → (∃ f, mg' "law" = some (.ref f) ∧ FnAt (hideAll h' PS) 19 f) → KeepM s.heap h' → AllDone 3 gn → (∀ x, x ∉ LOOSE → x ≠ "__name__" → mg' x = mg x) → Q .next { s with heap := h', toks := tk, gens := gn }) :
  wpAny (Md w) A (execs (PP.main.body.drop 8) menv) Q E s := by
 obtain ⟨a1, a2, a3, a4, a5, b1, b2, b3, b4, b5, b6, bk, bp, c1, c2, c3, c4, c5, c6, ck, cp, d1, d2, d3, x, k, e8⟩ := drop8
 rw [e8]
 refine wpAny_execs_cons (top_engine (.inl ⟨rfl, rfl⟩) (p3 := default) X hd hu hh (by decide +kernel) (by rfl) (by decide) (by decide) hc hc1 (by decide) .h64 ?_)
 intro h1 tk1 gn1 e1 l1 gs1 X1 E1 k1 g1 f1
 refine wpAny_execs_cons (top_engine (.inr ⟨_, _, rfl, rfl⟩) X1 hd hu hh (by decide +kernel) (by rfl) (by decide) (by decide) hc hc1 (by decide) .h64 ?_)
 intro h2 tk2 gn2 e2 l2 gs2 X2 E2 k2 g2 f2
 refine wpAny_execs_cons (top_engine (.inr ⟨_, _, rfl, rfl⟩) X2 hd hu hh (by decide +kernel) (by rfl) (by decide) (by decide) hc hc2 (by decide) .bcrypt ?_)
 intro h3 tk3 gn3 e3 l3 gs3 X3 E3 k3 g3 f3
 have D0 : AllDone 0 s.gens := by rw [hg]; exact ⟨rfl, fun i x e => by simp at e⟩
 have D1 := allDone_more D0 g1 f1
 have D2 := allDone_more D1 g2 f2
 have D3 := allDone_more D2 g3 f3
 refine wpAny_execs_cons (top_assign (mg := put (put (put mg _ (.ref e1)) _ (.ref e2)) _ (.ref e3)) (mb := mb) (ps := (triples l).toArray) (by decide +kernel) (by rfl) (by decide) (.inr (by decide)) (Constant_str ⟨X3, ?_⟩))
 intro h4 tk4 X4 k4
 have E1' := E1.keeps ((keepM_low k2).trans ((keepM_low k3).trans (keepM_low k4)))
 have E2' := E2.keeps ((keepM_low k3).trans (keepM_low k4))
 have E3' := E3.keeps (keepM_low k4)
 refine wpAny_defs rfl lawDefs [] l _ _ _ plain_defs defs_nd (fun _ _ e he => nomatch he) defs_pos hl X4.main (fun e he => nomatch he) ?_
 intro h5 tk5 mg' l' hm5 hfn hmg k5
 have k5' : KeepM h4 h5 := fun b o h3 h12 _ e => k5 b o h12 h3 e
 have k45 : ∀ b o, b ≠ 3 → b ≠ 12 → h4.get? b = some o → h5.get? b = some o := fun b o h3 h12 e => k5 b o h12 h3 e
 have kl : Keep (hideAll h4 lowL) h5 := fun b o e => of_hideAll _ (keepM_low k5' b o e)
 have sz : 261 ≤ h5.objs.size := by
  obtain ⟨dx, t, k1, k2, k3, q1, q2, q3, n, I⟩ := E3'.eng.ex
  have hn : e3 ∉ lowL := fun q => by have := I.1; rw [hideAll_none _ q] at this; cases this
  have h1 : ¬ @LT.lt Nat instLTNat e3 261 := fun q => hn (List.mem_range.mpr q)
  have h2 : @LT.lt Nat instLTNat e3 h5.objs.size := Heap.lt_size (kl _ _ I.1)
  omega
 have nm : ∀ x, x ∉ LOOSE → ∀ d ∈ lawDefs, x ≠ d.name := by
  intro x hx d hd q
  have : ∀ d ∈ lawDefs, d.name ∈ LOOSE := by decide +kernel
  exact hx (q ▸ this d hd)
 have X5 : MS w mg' mb (triples l').toArray h5 := X4.step k5' hm5 (X4.ok.imp fun _ c => isCode_move c (fun o e => k45 _ o (by decide) (by decide) e) (fun o e => k45 _ o (by decide) (by decide) e)) sz fun x _ h2 => hmg x (nm x h2)
 have kP : Keep (hideAll h4 lowL) (hideAll h5 PS) := fun b o e => by
  have := (low_hid (h := h5)) b o (keepM_low k5' b o e)
  exact hideAll_get _ (of_hideAll _ this) fun q => by rw [hideAll_none _ (List.mem_cons_of_mem _ q)] at this; cases this
 have fn := fun (i : Nat) (hi : i ∈ [12, 13, 14, 15, 16, 17, 18, 19]) => fnAt_of hi (hfn (defAt i) (by rw [List.nil_append]; exact List.mem_map_of_mem hi)) X5.tabs
 have m1 : mg' (Str.ofString "h64") = some (.ref e1) := (hmg _ (by decide +kernel)).trans ((put_ne (by decide)).trans ((put_ne (by decide)).trans ((put_ne (by decide)).trans put_eq)))
 have m2 : mg' (Str.ofString "h64big") = some (.ref e2) := (hmg _ (by decide +kernel)).trans ((put_ne (by decide)).trans ((put_ne (by decide)).trans put_eq))
 have m3 : mg' (Str.ofString "bcrypt64") = some (.ref e3) := (hmg _ (by decide +kernel)).trans ((put_ne (by decide)).trans put_eq)
 refine hQ h5 tk5 gn3 mg' _ X5 ⟨fn 12 (by decide), fn 13 (by decide), fn 14 (by decide), fn 15 (by decide), fn 16 (by decide), fn 17 (by decide), fn 18 (by decide), ⟨e1, l1, m1, E1'.keeps kP⟩, ⟨e2, l2, m2, E2'.keeps kP⟩, ⟨e3, l3, m3, E3'.keeps kP⟩⟩ (fn 19 (by decide)) (((k1.trans k2).trans (k3.trans k4)).trans k5') D3 fun x h1 h2 => (hmg x (nm x h1)).trans ((put_ne h2).trans ((put_ne (by intro q; rw [q] at h1; exact h1 (by decide))).trans ((put_ne (by intro q; rw [q] at h1; exact h1 (by decide))).trans (put_ne (by intro q; rw [q] at h1; exact h1 (by decide))))))
end
end
theorem k0_hid {P : Params} {a : Addr} {o : Obj} (h : (K0 P).lookup a = some o) : a ∉ HID := fun q => by
 have : ∀ z ∈ HID, (K0 P).lookup z = none := by
  intro z hz
  simp only [HID, PS, MKS, List.map_cons, List.map_nil, List.mem_cons, List.not_mem_nil, or_false] at hz
  rcases hz with rfl | rfl | rfl | rfl | rfl | rfl <;> rfl
 rw [this _ q] at h; cases h
theorem ns_hid {h : Heap} {a : Addr} {m : Str → Option Value} (n : a ∉ HID) (x : h.Ns a m) : (hideAll h HID).Ns a m := x.at fun o e => hideAll_get _ e n
theorem ms_of {w : World} {h : Heap} {s₀ s : Shared} (hs : s.heap = h) (hok : okA s₀ s = true) (hblt : h.bltView = bltViewBooted) (hn : namesA.map (h.nsMap mainGlobals) = [some (.ref 4), some (.str h64S 215), some (.str bcryptS 217), some (.ref 256)])
  (ho : ([4, 12, 13, 45] : List Addr).map h.get? = [some obj4, some obj12, some obj13, some (tabObj #[])]) (hk : (K0 w.params).map (fun p => h.get? p.1) = (K0 w.params).map (fun p => some p.2)) (hp : PS.map h.get? = PS.map (fun _ => some (tabObj #[]))) :
  MS w (h.nsMap mainGlobals) (h.nsMap builtinsNs) (triples lA).toArray h := by
 subst hs
 simp only [okA, Bool.and_eq_true, beq_iff_eq] at hok
 obtain ⟨⟨⟨⟨⟨⟨⟨⟨⟨⟨⟨⟨o1, o2⟩, o3⟩, o4⟩, o5⟩, o6⟩, o7⟩, o8⟩, o9⟩, o10⟩, o11⟩, o12⟩, o13⟩ := hok
 simp only [List.map_cons, List.map_nil, List.cons.injEq, and_true] at ho hn
 obtain ⟨h4, h12, h13, h45⟩ := ho
 obtain ⟨n1, n2, n3, n4⟩ := hn
 have g := Heap.Ns.of_isNs (Bool.and_eq_true_iff.mp o5).1
 have st := Heap.Ns.of_isNs o8
 have nst : ∀ k, s.heap.nsMap cStatics k = none := fun k => Heap.nsMap_none (by rw [List.isEmpty_iff.mp o9]; exact List.not_mem_nil)
 have hK : (K0 w.params).In s.heap := Frag.in_of (as := (K0 w.params).map (·.1)) rfl (by rw [List.map_map]; exact hk)
 have tabs : ∀ P ∈ PS, s.heap.get? P = some (tabObj #[]) := fun P hP => List.map_inj_left.mp hp P hP
 have n3' : (3 : Addr) ∉ HID := by decide
 have hc : s.heap.IsCode 13 12 (triples lA).toArray := ⟨obj13, _, _, _, _, _, _, _, _, obj12, h13, rfl, rfl, rfl, rfl, rfl, rfl, h12, rfl, trivial, by decide⟩
 have hbm : s.heap.BuiltinsAt (s.heap.nsMap mainGlobals) 12 := ⟨4, obj4, n1, by decide, by decide, by decide, h4, rfl, rfl, rfl⟩
 refine ⟨⟨fun a o e => hideAll_get _ (hK a o e) (k0_hid e), ?_⟩, ⟨g, hc, ⟨by decide, by decide⟩, hbm⟩, tabs, ⟨#[], ?_⟩, Nat.le_of_eq o13.symm⟩
 ·refine top_mk (ns_hid n3' g) (ns_hid (by decide) (Heap.Ns.of_isNs o7)) ⟨_, ns_hid (by decide) st, nst _⟩ ⟨_, ns_hid (by decide) st, nst _⟩ (fun x h1 h2 => Heap.nsMap_none fun hx => ?_) (fun x hx => Heap.of_bltView o7 hblt x hx)
   ⟨4, obj4, n1, by decide, hideAll_get _ h4 (by decide), rfl, rfl, rfl⟩
  have := List.all_eq_true.mp o10 x hx
  simp only [Bool.or_eq_true, List.contains_iff_mem] at this
  exact this.elim h1 h2
 ·exact ⟨_, _, _, _, _, _, _, _, _, _, hK 49 _ rfl, rfl, rfl, rfl, rfl, rfl, rfl, h45, rfl, trivial, by decide⟩
noncomputable abbrev topA : Around := ⟨none, 8 + claimMargin, none, none, 40⟩
theorem topA_in : (Ctx.over ⟨.body PP.main.body env0, none, none, [], none⟩ [topFrame default]).In topA := by
 refine ⟨?_, ?_, ?_, ?_, ?_⟩
 ·rfl
 ·show frameCount [(.builtin "claim.caller" {}, default)] + (Code.body PP.main.body env0).weight ≤ 8 + claimMargin
  have h1 : frameCount [((.builtin "claim.caller" {} : Code), (default : Pos))] = 1 + claimMargin := by decide +kernel
  have h2 : (Code.body PP.main.body env0).weight = 1 := by rfl
  rw [h1, h2]; omega
 ·intro l hl; cases hl
 ·intro l hl; cases hl
 ·show (Code.body PP.main.body env0).cUnits + unitsOf [(.builtin "claim.caller" {}, default)] ≤ 40
  have h1 : unitsOf [((.builtin "claim.caller" {} : Code), (default : Pos))] ≤ 8 := by decide +kernel
  have h2 : (Code.body PP.main.body env0).cUnits ≤ 8 := by
   have : (Code.body PP.main.body env0).cUnits = 3 := by rfl
   omega
  omega
theorem block0 : blockStart PP.main.body env0 = pure () := by rfl
theorem body_rest {tb : String → Option Builtin} : (⟨denote tb (.body PP.main.body env0), .body PP.main.body env0, default, [topFrame default]⟩ : Thread) = restOf (PP.main.body.take 8 ++ PP.main.body.drop 8) env0 (.body PP.main.body env0) default [topFrame default] := by
 rw [List.take_append_drop, body_wrap, block0]
 rfl
theorem forget_done {g : GenState} (h : g.forget = GenState.finished.forget) : g = .finished := by
 cases g <;> first | rfl | cases h
theorem done_forget {n : Nat} {a b : Array GenState} (e : a.map GenState.forget = b.map GenState.forget) (h : AllDone n b) : AllDone n a := by
 have hs : a.size = b.size := by simpa using congrArg Array.size e
 refine ⟨hs.trans h.1, fun i x hx => ?_⟩
 have h1 : (a.map GenState.forget)[i]? = some x.forget := by rw [Array.getElem?_map, hx]; rfl
 rw [e, Array.getElem?_map] at h1
 obtain ⟨y, hy, he⟩ := Option.map_eq_some_iff.mp h1
 rw [h.2 i y hy] at he
 exact forget_done he.symm
theorem left_done {n : Nat} {a : Array GenState} (h : AllDone n a) : leftWithCleanup a = false := by
 unfold leftWithCleanup
 rw [Array.any_eq_false]
 intro i hi
 have := h.2 i a[i] (Array.getElem?_eq_getElem hi)
 rw [this]; simp
structure Left (w : World) (s : Shared) (mg mb : Str → Option Value) : Prop where
 ms : ∃ ps, MS w mg mb ps s.heap
 law : LawAt w mg (hideAll s.heap PS)
 the : ∃ f, mg "law" = some (.ref f) ∧ FnAt (hideAll s.heap PS) 19 f
 gens : AllDone 3 s.gens
 sleep : s.asleep
theorem head_behind (w : World) : (∃ s, AfterRun (opening PP) w s) ∧ ∀ s, AfterRun (opening PP) w s → ∃ s₀, fenceModules? PP s = some s₀ ∧ s₀.gens = #[] ∧ ∃ s₁ mg mb, TopRan PP w s₀ s₁ ∧ Left w s₁ mg mb := by
 refine hdG fun P k0 => ?_
 have h := stageA w
 unfold segA at h
 rw [← table_eq_tree] at h
 obtain ⟨x, hx, hobs⟩ := Option.map_eq_some_iff.mp h
 obtain ⟨s₀, h2, h3⟩ := Option.bind_eq_some_iff.mp hx
 obtain ⟨⟨sa, ta⟩, h4, h5⟩ := Option.bind_eq_some_iff.mp h3
 obtain ⟨⟨fl, s, c, p⟩, h6, rfl⟩ := Option.map_eq_some_iff.mp h5
 obtain ⟨s', h7, h8⟩ := Option.bind_eq_some_iff.mp h2
 have A := AfterImport.of_importEnds h7
 refine k0 ⟨⟨s', A⟩, fun s'' hs'' => hdG fun P k1 => ?_⟩
 obtain rfl : s'' = s' := AfterImport.unique hs'' A
 have z : s₀.asleep := Shared.asleep_of_life (fence_lifeW h8) A.life
 simp only [obsA, Prod.mk.injEq] at hobs
 obtain ⟨hok, hblt, hn, ho, hk, hp, ht, hfl, hc⟩ := hobs
 subst hfl hc
 have hok' := hok
 simp only [okA, Bool.and_eq_true, beq_iff_eq] at hok'
 obtain ⟨⟨⟨⟨⟨⟨⟨⟨⟨⟨⟨⟨o1, o2⟩, o3⟩, o4⟩, o5⟩, o6⟩, o7⟩, o8⟩, o9⟩, o10⟩, o11⟩, o12⟩, o13⟩ := hok'
 have X := ms_of (w := w) rfl hok hblt hn ho hk (show PS.map s.heap.get? = PS.map (fun _ => some (tabObj #[])) from hp)
 simp only [List.map_cons, List.map_nil, List.cons.injEq, and_true] at hn
 obtain ⟨n1, n2, n3, n4⟩ := hn
 have w1 := way_go (n₀ := 11) z h4
 rw [ht, body_rest] at w1
 have w2 := way_app (rest := PP.main.body.drop 8) (w1.asleep z) h6
 have w3 := w1.trans w2
 have hz := w3.asleep z
 have g0 : s.gens = #[] := Array.eq_empty_of_size_eq_zero o12
 obtain ⟨s₁, t₁, ⟨m, hgo⟩, hthr, hlife, s', ⟨h', tk, gn, mg', ps', rfl, X', LA, hthe, kM, hdone, hsame⟩, hfo⟩ := way_end (p := PP) (w := w) (q := default) (c := .body PP.main.body env0) (pos := p) hz topA_in
  (R := fun s' => ∃ h' tk gn mg' ps', s' = { s with heap := h', toks := tk, gens := gn } ∧ MS w mg' (s.heap.nsMap builtinsNs) ps' h' ∧ LawAt w mg' (hideAll h' PS) ∧ (∃ f, mg' "law" = some (.ref f) ∧ FnAt (hideAll h' PS) 19 f) ∧ KeepM s.heap h' ∧ AllDone 3 gn ∧ ∀ x, x ∉ LOOSE → x ≠ "__name__" → mg' x = s.heap.nsMap mainGlobals x)
  (head_run X (by decide +kernel) (by decide +kernel) (by decide +kernel) rfl n4 n2 n3 g0 fun h' tk gn mg' ps' a b c d e f => ⟨rfl, ⟨h', tk, gn, mg', ps', rfl, a, b, c, d, e, f⟩, left_done e⟩)
 obtain ⟨eh, _, _, eo, eg⟩ := Shared.forget_eq hfo
 dsimp only at eh eo eg
 have D1 : AllDone 3 s₁.gens := done_forget eg hdone
 obtain ⟨k, hk0⟩ := w3.go
 have st0 : ∀ key, staticOf s.heap key = none := fun key => by
  rw [Pin.staticOf_eq o8]
  exact Heap.nsMap_none (by rw [List.isEmpty_iff.mp o9]; exact List.not_mem_nil)
 have st1 : ∀ key, staticOf s₁.heap key = none := fun key => by
  have : s₁.heap.get? cStatics = s.heap.get? cStatics := by
   obtain ⟨o, _, _, e, _⟩ := Heap.Ns.of_isNs o8
   rw [e, eh]
   exact kM _ _ (by decide) (by decide) (by decide) e
  have := st0 key
  unfold staticOf at this ⊢
  rw [‹s₁.heap.get? cStatics = s.heap.get? cStatics›]
  exact this
 have gm : ∀ x, globalOf s₁.heap x = mg' x := fun x => by rw [eh]; exact PySem.Claim2Try.globalOf_of_ns X'.main.g x
 have gs : ∀ x, globalOf s.heap x = s.heap.nsMap mainGlobals x := fun x => PySem.Claim2Try.globalOf_of_ns X.main.g x
 refine k1 ⟨s₀, h8, Array.eq_empty_of_size_eq_zero o2, s₁, mg', _, ⟨⟨k + m, t₁, (sched_add k m _ _ hk0).trans hgo, hthr⟩, hlife.trans w3.life, Shared.rest_eq (eo.trans w3.os), ?_, ?_, ?_, ?_, ?_, ?_, ?_, ?_, ?_⟩, ⟨ps', eh ▸ X'⟩, eh ▸ LA, eh ▸ hthe, D1, Shared.asleep_of_life hlife hz⟩
 ·intro b o hb hn
  have hlt : b < 11 := o3 ▸ Heap.lt_size hb
  have e1 := w3.old b o hlt (fun q => hn (.inl q)) (fun q => hn (.inr (.inl q))) hb
  rw [eh]
  exact kM b o (fun q => hn (.inl q)) (Nat.ne_of_lt (Nat.lt_trans hlt (by decide))) (Nat.ne_of_lt (Nat.lt_trans hlt (by decide))) e1
 ·intro key v hv
  rw [st1] at hv; cases hv
 ·have x := statics_of_ok o4
  intro key
  rcases x key with q | q
  ·exact .inl ((st1 key).trans ((st0 key).symm.trans q))
  ·exact .inr q
 ·exact PySem.Pin.keysAreStrs_of_ns (by rw [eh]; exact X'.main.g)
 ·intro x hx
  have hg0 : s₁.heap.get? builtinsNs = s.heap.get? builtinsNs := by
   obtain ⟨o, _, _, e, _⟩ := Heap.Ns.of_isNs o7
   rw [e, eh]
   exact kM _ _ (by decide) (by decide) (by decide) e
  have := (Pin.builtinOf_eq o7 x).trans (Heap.of_bltView o7 hblt x hx)
  unfold builtinOf at this ⊢
  rw [hg0]
  exact this
 ·obtain ⟨bm, o, b1, _, _, _, b5, b6, b7, _⟩ := X'.main.bmod
  exact ⟨bm, o, (gm _).trans b1, by rw [eh]; exact b5, b6, b7⟩
 ·intro g hg
  obtain ⟨i, hi, rfl⟩ := Array.getElem_of_mem hg
  have := D1.2 i _ (Array.getElem?_eq_getElem hi)
  rw [this]; trivial
 ·intro x v hv
  rw [gm] at hv
  by_cases h1 : x ∈ startupNames
  ·exact .inl h1
  ·by_cases h2 : x ∈ LOOSE
   ·have : ∀ y ∈ LOOSE, y ∈ PP.boundNames := by decide +kernel
    exact .inr (this x h2)
   ·have := X'.gd.P.free x h1 h2 (fun q => absurd (show x ∈ ([] : List Str) from q) List.not_mem_nil) (fun q => absurd (show x ∈ ([] : List Str) from q) List.not_mem_nil) (fun q => absurd (show x ∈ ([] : List Str) from q) List.not_mem_nil)
    rw [hv] at this; cases this
 ·intro x hx
  have hx2 : x ∉ LOOSE ∧ x ≠ "__name__" := by
   have : ∀ y ∈ laidNames, y ∉ LOOSE ∧ y ≠ "__name__" := by decide
   exact this x hx
  rw [gm, hsame x hx2.1 hx2.2, ← gs]
  exact laid_of_kept o6 x hx
theorem callFrom_done {c : ClaimW} {tree : List Value → Sem Fin} {w : World} {s : Shared} {free : Addr → Prop} {gens : Prop} {kept : Heap → Prop} (hz : s.asleep)
  (hspec : ∀ args, c.pre args = true → WData.layableAll args = true →
   ∀ ord : List DictEntry → List DictEntry, (∀ l, (ord l).Perm l) →
   ∃ vs s₁, layAllW c.records (classAt s.heap) w.params ord args s = some (vs, s₁) ∧
    wpAny (model c.prog w) callerA (tree vs) (fun fin s' => ∃ f, fin = .done f ∧ (c.Ends s args vs s₁ (.ok f) s' ∧ s'.os = s.os ∧ leftWithCleanup s'.gens = false ∧ kept s'.heap ∧ ∀ (i : Nat) (x : GenState), s.gens[i]? = some x → x = .finished ∧ s'.gens[i]? = some x))
     (fun _ _ => False) s₁) :
  c.CallFrom (fun vs => ⟨tree vs, .builtin "claim.caller" {}, default, []⟩) w free gens kept s := by
 intro args hpre hlay ord hord
 refine hdG fun P k1 => ?_
 obtain ⟨vs, s₁, hlaid, hcode⟩ := hspec args hpre hlay ord hord
 have hal := layAllW_rest _ _ _ hlaid
 obtain ⟨k, r, s', s'', hrun, hsched, hfo, hcase, hos, hkp, hgn⟩ := thread_ends_bothG (prog := c.prog) (w := w) (t := tree vs) (s := s₁)
  (R := fun r s' => c.Ends s args vs s₁ r s' ∧ s'.os = s.os ∧ kept s'.heap ∧ ∀ (i : Nat) (x : GenState), s.gens[i]? = some x → x = .finished ∧ s'.gens[i]? = some x)
  (Shared.asleep_of_life hal.2.2.2 hz)
  (wpAny_mono hcode (by
   rintro fin s' ⟨f, e, h1, h2, h3, h4, h5⟩
   exact ⟨f, e, ⟨h1, h2, h4, h5⟩, h3⟩) fun _ _ h => h.elim)
 obtain ⟨eh, _, _, eo, eg⟩ := Shared.forget_eq hfo
 have hcase := hcase.congr eh
 have hkp : kept s'.heap := by rw [eh]; exact hkp
 rw [← eo] at hos
 have hlife : s'.heap.life = s.heap.life := (runN_life _ _ _ hrun).trans hal.2.2.2
 refine k1 ⟨vs, s₁, hlaid, k, _, s', hsched, ?_, (fun _ i x hx => ?_), hkp, by rw [hlife], Shared.rest_eq hos⟩
 ·rcases hcase with ⟨v, rfl, d1, d2, d3, d4, d5⟩ | ⟨e, ob, cls, rfl, d1, d2, d3, d4, d5⟩
  ·exact .inl ⟨v, rfl, d1, d2, d3, fun b o y _ => d4 b o y, d5⟩
  ·exact .inr ⟨e, ob, cls, rfl, d1, d2, d3, d4, fun b o y _ => d5 b o y⟩
 ·obtain ⟨rfl, h2⟩ := hgn i x hx
  have h1 : (s''.gens.map GenState.forget)[i]? = some GenState.finished.forget := by rw [Array.getElem?_map, h2]; rfl
  rw [← eg, Array.getElem?_map] at h1
  obtain ⟨y, hy, he⟩ := Option.map_eq_some_iff.mp h1
  rw [hy, forget_done he]
theorem table_of {w : World} {h : Heap} (K : (K0 w.params).In h) : ∀ P ∈ PS, isCodeTable h P := by
 intro P hP
 simp only [PS, MKS, List.map_cons, List.map_nil, List.mem_cons, List.not_mem_nil, or_false] at hP
 rcases hP with rfl | rfl | rfl | rfl | rfl
 ·exact ⟨90, _, _, K 90 _ rfl, rfl, rfl, rfl⟩
 ·exact ⟨111, _, _, K 111 _ rfl, rfl, rfl, rfl⟩
 ·exact ⟨181, _, _, K 181 _ rfl, rfl, rfl, rfl⟩
 ·exact ⟨195, _, _, K 195 _ rfl, rfl, rfl, rfl⟩
 ·exact ⟨202, _, _, K 202 _ rfl, rfl, rfl, rfl⟩
theorem old_of {w : World} {h h' : Heap} (K : (K0 w.params).In h) (tb : ∀ P ∈ PS, h.get? P = some (tabObj #[])) (k : KeepT h h') : ∀ b o, h.get? b = some o → asItWas h h' b o := by
 intro b o e
 by_cases hb : b ∈ PS
 ·have hb' := tb b hb
  rw [e] at hb'; cases hb'
  obtain ⟨x, hx, rfl⟩ := List.mem_map.mp hb
  rcases k.tab x hx with q | ⟨c, _, _, q, _⟩
  ·exact .inl (q.trans e)
  ·exact .inr (.inl ⟨table_of K _ hb, rfl, #[], #[rawInt x.pos.line, rawInt x.pos.col, .ref c], rfl, q⟩)
 ·exact .inl (k.keep b o (hideAll_get _ e hb))
theorem intsW_of {R : WRecords} {cl : Str → Option Addr} {h : Heap} : ∀ {xs : List WData} {vs : List Value} {as : List Addr}, (∀ d ∈ xs, WShape.has R d .int = true) → ReadsAllW R cl h vs xs as → ∃ ns, IntsAre vs ns ∧ ns.length = xs.length
 | [], vs, as, _, r => by cases r; exact ⟨[], .nil, rfl⟩
 | d :: xs, vs, as, hd, r => by
  cases r with
  | cons a b =>
   obtain ⟨ns, h1, h2⟩ := intsW_of (fun e he => hd e (List.mem_cons_of_mem _ he)) b
   obtain ⟨i, rfl⟩ := hasW_int (hd d (List.mem_cons_self ..))
   cases a
   exact ⟨i :: ns, .cons _ _ h1, by simp [h2]⟩
theorem len_of {xs : List WData} (h : (rw_iw0008_01.row).pre.holds [] { args := [.list xs] } = true) : xs.length ≤ 63 := by
 by_cases hx : xs.length ≤ 63
 ·exact hx
 ·exfalso
  simp only [OpenLaw.row, OpenLaw.pre, rw_iw0008_01, WTm.holds] at h
  have h63 : (63 : Int) < (xs.length : Int) := by omega
  simp [WTm.value] at h
  have e : W.less? (WData.int 63) (WData.int xs.length) = some true := by
   simp [W.less?, Num.less?, h63]
  rw [e] at h
  simp at h
theorem post0 (a b : List WData) : rw_iw0008_01.row.toRowW.claim.post a (.bool true) b = true := by
 show (WShape.has [] (.bool true) .bool && WTm.holds [] (.eq .res (.lit (.bool true))) { args := a, res := some (.bool true), after := b }) = true
 simp [WShape.has, WShape.arms, WTm.holds, WTm.value, W.same]
theorem bare0 : rw_iw0008_01.prog.bare := ⟨rfl, rfl, rfl, rfl, rfl, by kernel_rfl⟩
theorem opens0 : opensWell rw_iw0008_01.prog = true := by kernel_rfl
theorem def0 {w : World} {s : Shared} {mg mb : Str → Option Value} (L : Left w s mg mb) : isTheDefsW PP s.heap "law" := by
 obtain ⟨ps, X⟩ := L.ms
 obtain ⟨f, hf, FX⟩ := L.the
 obtain ⟨o, pm, cd, doc, ho, hd, _⟩ := FX.ex
 rw [← data_at 19 (by decide)] at hd
 refine ⟨f, o, _, (defAt 19).params, (defAt 19).body, (defAt 19).scope, (PySem.Claim2Try.globalOf_of_ns X.main.g _).trans hf, of_hideAll _ ho, hd, by rfl, by rfl, by rfl, rfl, rfl, rfl, rfl, rfl, rfl, .inl ⟨by rfl, rfl⟩, [], by rfl, .inl ⟨rfl, rfl⟩⟩
theorem opens1 : rw_iw0008_01.row.toRowW.claim.HoldsOpenBy (callStub rw_iw0008_01.row.name) [rw_iw0008_01.row.name] rw_iw0008_01.row.keeps rw_iw0008_01.row.writes := by
 refine ⟨⟨bare0, opens0, rfl⟩, ⟨[.list [.int 3, .int 1]], by decide +kernel, by decide +kernel⟩, fun w => ⟨(head_behind w).1, fun s' hs' => ?_⟩⟩
 obtain ⟨s₀, hf, hg0, s, mg, mb, hT, L⟩ := (head_behind w).2 s' hs'
 refine ⟨s₀, hf, hg0, s, hT, fun n hn => ?_, (fun x hx => nomatch hx), (fun x hx => nomatch hx), ?_⟩
 ·obtain rfl := List.mem_singleton.mp hn
  exact def0 L
 refine callFrom_done (c := rw_iw0008_01.row.toRowW.claim) (tree := fun args => do
   match ← nsGet mainNs rw_iw0008_01.row.name with
   | some f => do ret (← call f args)
   | none => unsupported "claim.caller:no-such-global") L.sleep fun args hpre hlay ord hord => ?_
 refine hdG fun P k2 => ?_
 obtain ⟨hsh, hpr⟩ := pre_splitW hpre
 obtain ⟨d, r, rfl, h1, h2⟩ := hasAllW_cons hsh
 obtain rfl := hasAllW_nil h2
 obtain ⟨xs, rfl, hit⟩ := hasW_list h1
 obtain ⟨⟨vs, s₁⟩, hlaid⟩ := Option.isSome_iff_exists.mp (layAllW_isSome (P := w.params) (ord := ord) (R := []) (cl := classAt s.heap) (fun c hc => by cases hc) [.list xs] [.list .int] s hsh)
 have keeps := layAllW_keeps _ _ _ hlaid
 have hal := layAllW_rest _ _ _ hlaid
 obtain ⟨as, hrd, hin, hold⟩ := reads_layAllW hord _ _ _ hlaid hlay s₁.heap (fun _ _ e => e)
 refine k2 ⟨vs, s₁, hlaid, ?_⟩
 clear k2
 refine hdG fun P k3 => ?_
 have hrd0 := hrd
 dsimp only at hrd hin hold keeps hal
 cases hrd with
 | cons a b =>
 cases b
 cases a with
 | list ho hcls hdata hitems =>
 rename_i lv o vs n as'
 obtain ⟨ns, hi, hlen⟩ := intsW_of (hasItemsW_at hit) hitems
 have hxl := len_of hpr
 obtain ⟨ps, X⟩ := L.ms
 have kH : Keep (hideAll s.heap HID) (hideAll s₁.heap PS) := fun b o e => by
  have hn : b ∉ HID := fun q => by rw [hideAll_none _ q] at e; cases e
  exact hideAll_get _ (keeps b o (of_hideAll _ e)) fun q => hn (List.mem_cons_of_mem _ q)
 have kP : Keep (hideAll s.heap PS) (hideAll s₁.heap PS) := fun b o e => by
  have hn : b ∉ PS := fun q => by rw [hideAll_none _ q] at e; cases e
  exact hideAll_get _ (keeps b o (of_hideAll _ e)) hn
 have Gb := X.gd.keeps kH
 have tb : ∀ P ∈ PS, s₁.heap.get? P = some (tabObj #[]) := fun P hP => keeps _ _ (X.tabs P hP)
 have TB : Tabs s₁.heap := fun x hx => .inl (tb _ (mem_PS hx))
 have K1 : (K0 w.params).In s₁.heap := Gb.K.keeps fun b o e => of_hideAll _ e
 obtain ⟨f, hfm, FX⟩ := L.the
 have hlv : lv ∉ PS := fun q => by
  have h1 := (hin.2.2 lv (by simp)).1
  have : ∀ z ∈ PS, z < 261 := by decide
  exact absurd (Nat.lt_of_lt_of_le (this _ q) X.big) (Nat.not_lt.mpr h1)
 have hl : (hideAll s₁.heap PS).IsList lv vs.toList.toArray := ⟨o, hideAll_get _ ho hlv, hcls, n, by rw [hdata]⟩
 have hmain : s₁.heap.Ns mainGlobals mg := X.main.g.keeps keeps
 refine k3 (wpAny_bind (wpAny_nsGet hmain ?_))
 clear k3
 rw [show mg rw_iw0008_01.row.name = some (.ref f) from hfm]
 refine wpAny_bind (law_spec Gb (fun b o e => of_hideAll _ e) TB (fun P hP => hideAll_none _ hP) (FX.keeps kP) (L.law.keeps kP) (by show callerA.depth + 8 < _; decide +kernel) (by show callerA.units + 100 < _; decide +kernel) rfl rfl lv vs.toList ns hl hi (by omega) fun h' tk gn hk hb => ?_)
 refine wpAny_pure ⟨_, rfl, ?_⟩
 have hkc : ∀ b o, s₁.heap.get? b = some o → o.cls ≠ .none → h'.get? b = some o := fun b o e hc => by
  by_cases hb : b ∈ PS
  ·have := tb b hb
   rw [e] at this; cases this
   exact absurd rfl hc
  ·exact hk.keep b o (hideAll_get _ e hb)
 have hgs : s₁.gens = s.gens := hal.1
 have hold' := old_of K1 tb hk
 refine ⟨.inl ⟨.bool true, rfl, fun _ => rfl, ⟨.bool true, [.list xs], [], _, ReadsW.bool true, hrd0.keepsK hkc, post0 _ _, fun _ => ⟨List.nodup_nil, (fun a ha => nomatch ha), (fun a ha => nomatch ha)⟩, fun _ _ => ident_freeW rfl rfl rfl _ _⟩, (fun i hi => nomatch hi), (fun b o e _ _ => hold' b o e), fun i hi => nomatch hi⟩, hal.2.2.1, leftWithCleanup_false_of_bare (hb.1 fun y hy => ?_), (fun q => by cases q), fun i x hx => ?_⟩
 ·rw [hgs] at hy
  obtain ⟨i, hi, rfl⟩ := Array.getElem_of_mem hy
  rw [L.gens.2 i _ (Array.getElem?_eq_getElem hi)]
  rfl
 ·exact ⟨L.gens.2 i x hx, hb.2 i x (by rw [hgs]; exact hx)⟩
theorem holds0 : rw_iw0008_01.Holds := by
 w_on
 refine holds_law well0 fun said => ?_
 exact ⟨said, ⟨[.list [.int 3, .int 1]], by decide +kernel, by decide +kernel⟩, opens1⟩
end Mine
theorem PySem.Challenge.cw_iw0008_01_holds : PySem.Challenge.rw_iw0008_01.Holds :=
 Mine.holds0
