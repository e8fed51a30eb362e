import PyProof.Rows.All
import Wide.All
import OpenK.AllK
import Wide.FinOn
import PySem.Challenge.RW_iu0035_01
open PySem PySem.W PyProof.Rows PySem.Calls
set_option Elab.async false
set_option maxRecDepth 100000
set_option linter.all false
set_option compiler.extract_closed false
namespace Mine
/-! ## the written heap: the objects that the law can come to; the functions' parts are taken from the given text -/
noncomputable def stm (k : Nat) : Stmt := Challenge.pw_iu0035_01.main.body.getD k (.Pass default)
noncomputable def mth (k : Nat) : Stmt := match stm 8 with
  | .ClassDef _ _ _ b _ _ _ _ _ _ _ => b.getD k (.Pass default)
  | st => st
noncomputable def fnL (st : Stmt) (qual : Str) (dflt md : Value) (an : Option Addr) (cd : Value) : Obj := match st with
  | .FunctionDef n ps b _ _ _ sc _ _ _ => { cls := .type "function", data := .func { name := n, qualname := qual, params := ps, body := .stmts b, scope := sc, globals := nat_lit 3, closure := [], defaults := dflt, kwdefaults := .none, pyModule := md, annotations := an, code := cd } }
  | _ => default
noncomputable def hd.heap_39 : Params → Frag := by
  refine (fun (_ : fnL (stm 4) (Str.ofString "validate_is_bytes") (Value.none) (Value.str (Str.ofString "trie.validation") 211) (none) (Value.ref 33) = ?b34 ∧
    fnL (stm 5) (Str.ofString "validate_length") (Value.none) (Value.str (Str.ofString "trie.validation") 211) (none) (Value.ref 40) = ?b41 ∧
    fnL (stm 7) (Str.ofString "calc_root") (Value.none) (Value.str (Str.ofString "trie.smt") 228) (none) (Value.ref 47) = ?b48 ∧
    fnL (mth 0) (Str.ofString "SparseMerkleTree.__init__") (Value.ref 56) (Value.str (Str.ofString "trie.smt") 228) (none) (Value.ref 62) = ?b63 ∧
    fnL (mth 1) (Str.ofString "SparseMerkleTree.from_db") (Value.ref 64) (Value.str (Str.ofString "trie.smt") 228) (some 74) (Value.ref 70) = ?b71 ∧
    fnL (mth 2) (Str.ofString "SparseMerkleTree.get") (Value.none) (Value.str (Str.ofString "trie.smt") 228) (none) (Value.ref 80) = ?b81 ∧
    fnL (mth 3) (Str.ofString "SparseMerkleTree.branch") (Value.none) (Value.str (Str.ofString "trie.smt") 228) (none) (Value.ref 87) = ?b88 ∧
    fnL (mth 4) (Str.ofString "SparseMerkleTree._get") (Value.none) (Value.str (Str.ofString "trie.smt") 228) (none) (Value.ref 94) = ?b95 ∧
    fnL (mth 5) (Str.ofString "SparseMerkleTree.set") (Value.none) (Value.str (Str.ofString "trie.smt") 228) (none) (Value.ref 101) = ?b102 ∧
    fnL (mth 6) (Str.ofString "SparseMerkleTree.exists") (Value.none) (Value.str (Str.ofString "trie.smt") 228) (none) (Value.ref 108) = ?b109 ∧
    fnL (mth 7) (Str.ofString "SparseMerkleTree.delete") (Value.none) (Value.str (Str.ofString "trie.smt") 228) (none) (Value.ref 115) = ?b116 ∧
    fnL (mth 8) (Str.ofString "SparseMerkleTree.__getitem__") (Value.none) (Value.str (Str.ofString "trie.smt") 228) (none) (Value.ref 122) = ?b123 ∧
    fnL (mth 9) (Str.ofString "SparseMerkleTree.__setitem__") (Value.none) (Value.str (Str.ofString "trie.smt") 228) (none) (Value.ref 129) = ?b130 ∧
    fnL (mth 10) (Str.ofString "SparseMerkleTree.__delitem__") (Value.none) (Value.str (Str.ofString "trie.smt") 228) (none) (Value.ref 136) = ?b137 ∧
    fnL (mth 11) (Str.ofString "SparseMerkleTree.__contains__") (Value.none) (Value.str (Str.ofString "trie.smt") 228) (none) (Value.ref 143) = ?b144 ∧
    fnL (stm 10) (Str.ofString "_law_hash") (Value.none) (Value.str (Str.ofString "law_iu0035_01") 413) (none) (Value.ref 157) = ?b158 ∧
    fnL (stm 11) (Str.ofString "_law_levels") (Value.none) (Value.str (Str.ofString "law_iu0035_01") 413) (none) (Value.ref 164) = ?b165 ∧
    fnL (stm 12) (Str.ofString "_law_node") (Value.none) (Value.str (Str.ofString "law_iu0035_01") 413) (none) (Value.ref 171) = ?b172 ∧
    fnL (stm 13) (Str.ofString "_law_beside") (Value.none) (Value.str (Str.ofString "law_iu0035_01") 413) (none) (Value.ref 178) = ?b179 ∧
    fnL (stm 14) (Str.ofString "_law_along") (Value.none) (Value.str (Str.ofString "law_iu0035_01") 413) (none) (Value.ref 185) = ?b186 ∧
    fnL (stm 15) (Str.ofString "_law_value") (Value.none) (Value.str (Str.ofString "law_iu0035_01") 413) (none) (Value.ref 192) = ?b193 ∧
    fnL (stm 16) (Str.ofString "_law_done") (Value.none) (Value.str (Str.ofString "law_iu0035_01") 413) (none) (Value.ref 199) = ?b200 ∧
    fnL (stm 17) (Str.ofString "_law_got") (Value.none) (Value.str (Str.ofString "law_iu0035_01") 413) (none) (Value.ref 206) = ?b207 ∧
    fnL (stm 18) (Str.ofString "_law_tells") (Value.none) (Value.str (Str.ofString "law_iu0035_01") 413) (none) (Value.ref 213) = ?b214 ∧
    fnL (stm 19) (Str.ofString "_law_unfit") (Value.none) (Value.str (Str.ofString "law_iu0035_01") 413) (none) (Value.ref 220) = ?b221 ∧
    fnL (stm 20) (Str.ofString "law") (Value.none) (Value.str (Str.ofString "law_iu0035_01") 413) (none) (Value.ref 227) = ?b228) (P : Params) =>
    (nat_lit 2, { cls := Value.none, data := Data.dict #[{ hash := PyData.keyHash P (Str.ofString "type.__subclasses__.Exception.0"), key := Value.str (Str.ofString "type.__subclasses__.Exception.0") 207, val := Value.int 24 0 }, { hash := PyData.keyHash P (Str.ofString "type.__subclasses__.Exception.n"), key := Value.str (Str.ofString "type.__subclasses__.Exception.n") 208, val := Value.int 1 0 }] 2 }) ::
    (nat_lit 3, { cls := Value.type "dict", data := Data.dict #[{ hash := PyData.keyHash P (Str.ofString "__name__"), key := Value.str (Str.ofString "__name__") 165, val := Value.str (Str.ofString "law_iu0035_01") 413 }, { hash := PyData.keyHash P (Str.ofString "__doc__"), key := Value.str (Str.ofString "__doc__") 166, val := Value.none }, { hash := PyData.keyHash P (Str.ofString "__package__"), key := Value.str (Str.ofString "__package__") 167, val := Value.none }, { hash := PyData.keyHash P (Str.ofString "__loader__"), key := Value.str (Str.ofString "__loader__") 168, val := Value.builtin "__main__.__loader__#opaque" }, { hash := PyData.keyHash P (Str.ofString "__spec__"), key := Value.str (Str.ofString "__spec__") 169, val := Value.none }, { hash := PyData.keyHash P (Str.ofString "__annotations__"), key := Value.str (Str.ofString "__annotations__") 170, val := Value.ref 6 }, { hash := PyData.keyHash P (Str.ofString "__builtins__"), key := Value.str (Str.ofString "__builtins__") 171, val := Value.ref 4 }, { hash := PyData.keyHash P (Str.ofString "__file__"), key := Value.str (Str.ofString "__file__") 173, val := Value.str (Str.ofString "/claim/cut.py") 172 }, { hash := PyData.keyHash P (Str.ofString "__cached__"), key := Value.str (Str.ofString "__cached__") 174, val := Value.none }, { hash := PyData.keyHash P (Str.ofString "BLANK_NODE"), key := Value.str (Str.ofString "BLANK_NODE") 188, val := Value.bytes #[] 187 }, { hash := PyData.keyHash P (Str.ofString "ValidationError"), key := Value.str (Str.ofString "ValidationError") 210, val := Value.ref 24 }, { hash := PyData.keyHash P (Str.ofString "validate_is_bytes"), key := Value.str (Str.ofString "validate_is_bytes") 219, val := Value.ref 34 }, { hash := PyData.keyHash P (Str.ofString "validate_length"), key := Value.str (Str.ofString "validate_length") 227, val := Value.ref 41 }, { hash := PyData.keyHash P (Str.ofString "calc_root"), key := Value.str (Str.ofString "calc_root") 243, val := Value.ref 48 }, { hash := PyData.keyHash P (Str.ofString "SparseMerkleTree"), key := Value.str (Str.ofString "SparseMerkleTree") 412, val := Value.ref 147 }, { hash := PyData.keyHash P (Str.ofString "_law_hash"), key := Value.str (Str.ofString "_law_hash") 422, val := Value.ref 158 }, { hash := PyData.keyHash P (Str.ofString "_law_levels"), key := Value.str (Str.ofString "_law_levels") 440, val := Value.ref 165 }, { hash := PyData.keyHash P (Str.ofString "_law_node"), key := Value.str (Str.ofString "_law_node") 451, val := Value.ref 172 }, { hash := PyData.keyHash P (Str.ofString "_law_beside"), key := Value.str (Str.ofString "_law_beside") 463, val := Value.ref 179 }, { hash := PyData.keyHash P (Str.ofString "_law_along"), key := Value.str (Str.ofString "_law_along") 474, val := Value.ref 186 }, { hash := PyData.keyHash P (Str.ofString "_law_value"), key := Value.str (Str.ofString "_law_value") 484, val := Value.ref 193 }, { hash := PyData.keyHash P (Str.ofString "_law_done"), key := Value.str (Str.ofString "_law_done") 495, val := Value.ref 200 }, { hash := PyData.keyHash P (Str.ofString "_law_got"), key := Value.str (Str.ofString "_law_got") 504, val := Value.ref 207 }, { hash := PyData.keyHash P (Str.ofString "_law_tells"), key := Value.str (Str.ofString "_law_tells") 520, val := Value.ref 214 }, { hash := PyData.keyHash P (Str.ofString "_law_unfit"), key := Value.str (Str.ofString "_law_unfit") 531, val := Value.ref 221 }, { hash := PyData.keyHash P (Str.ofString "law"), key := Value.str (Str.ofString "law") 557, val := Value.ref 228 }] 26 }) ::
    (nat_lit 15, { cls := Value.type "tuple", data := Data.seq #[Value.type "Exception"] }) ::
    (nat_lit 22, { cls := Value.type "tuple", data := Data.seq #[] }) ::
    (nat_lit 23, { cls := Value.type "dict", data := Data.dict #[{ hash := PyData.keyHash P (Str.ofString "__module__"), key := Value.str (Str.ofString "__module__") 198, val := Value.str (Str.ofString "trie.exceptions") 189 }, { hash := PyData.keyHash P (Str.ofString "__firstlineno__"), key := Value.str (Str.ofString "__firstlineno__") 202, val := Value.int 3 201 }, { hash := PyData.keyHash P (Str.ofString "__static_attributes__"), key := Value.str (Str.ofString "__static_attributes__") 203, val := Value.ref 22 }, { hash := PyData.keyHash P (Str.ofString "__weakref__"), key := Value.str (Str.ofString "__weakref__") 205, val := Value.ref 25 }, { hash := PyData.keyHash P (Str.ofString "__doc__"), key := Value.str (Str.ofString "__doc__") 206, val := Value.none }] 3 }) ::
    (nat_lit 24, { cls := Value.type "type", data := Data.cls { name := Str.ofString "ValidationError", bases := [Value.type "Exception"], mro := [Value.ref 24, Value.type "Exception", Value.type "BaseException", Value.type "object"], ns := 23, qualname := Str.ofString "ValidationError" }, slots := #[some (Value.ref 15), none, some (Value.str (Str.ofString "ValidationError") 191), some (Value.str (Str.ofString "ValidationError") 199), some (Value.builtin "Exception.__new__"), some (Value.bool true)] }) ::
    (nat_lit 25, { cls := Value.type "getset_descriptor", data := Data.fields #[Value.str (Str.ofString "__weakref__") 204, Value.ref 24, Value.builtin "ExceptionGroup.__weakref__", Value.none] }) ::
    (nat_lit 28, { cls := Value.type "tuple", data := Data.seq #[] }) ::
    (nat_lit 30, { cls := Value.type "tuple", data := Data.seq #[Value.str (Str.ofString "value") 216] }) ::
    (nat_lit 31, { cls := Value.type "tuple", data := Data.seq #[] }) ::
    (nat_lit 33, { cls := Value.type "code", data := Data.fields #[Value.str (Str.ofString "validate_is_bytes") 213, Value.str (Str.ofString "validate_is_bytes") 214, Value.str (Str.ofString "/claim/cut.py") 215, Value.int 6 0, Value.int 1 0, Value.int 0 0, Value.int 0 0, Value.int 3 0, Value.ref 28, Value.bool true, Value.int 181 0, Value.ref 29, Value.none, Value.ref 30, Value.ref 31, Value.ref 32, Value.int 217 0, Value.int 6 0, Value.str (Str.ofString "/claim/cut.py") 218] }) ::
    (nat_lit 34, ?b34) ::
    (nat_lit 35, { cls := Value.type "tuple", data := Data.seq #[] }) ::
    (nat_lit 37, { cls := Value.type "tuple", data := Data.seq #[Value.str (Str.ofString "value") 223, Value.str (Str.ofString "length") 224] }) ::
    (nat_lit 38, { cls := Value.type "tuple", data := Data.seq #[] }) ::
    (nat_lit 40, { cls := Value.type "code", data := Data.fields #[Value.str (Str.ofString "validate_length") 220, Value.str (Str.ofString "validate_length") 221, Value.str (Str.ofString "/claim/cut.py") 222, Value.int 9 0, Value.int 2 0, Value.int 0 0, Value.int 0 0, Value.int 3 0, Value.ref 35, Value.bool true, Value.int 181 0, Value.ref 36, Value.none, Value.ref 37, Value.ref 38, Value.ref 39, Value.int 225 0, Value.int 9 0, Value.str (Str.ofString "/claim/cut.py") 226] }) ::
    (nat_lit 41, ?b41) ::
    (nat_lit 42, { cls := Value.type "tuple", data := Data.seq #[] }) ::
    (nat_lit 44, { cls := Value.type "tuple", data := Data.seq #[Value.str (Str.ofString "key") 233, Value.str (Str.ofString "value") 234, Value.str (Str.ofString "branch") 235, Value.str (Str.ofString "hash_of") 236, Value.str (Str.ofString "path") 237, Value.str (Str.ofString "target_bit") 238, Value.str (Str.ofString "node_hash") 239, Value.str (Str.ofString "sibling_node") 240] }) ::
    (nat_lit 45, { cls := Value.type "tuple", data := Data.seq #[] }) ::
    (nat_lit 47, { cls := Value.type "code", data := Data.fields #[Value.str (Str.ofString "calc_root") 230, Value.str (Str.ofString "calc_root") 231, Value.str (Str.ofString "/claim/cut.py") 232, Value.int 13 0, Value.int 4 0, Value.int 0 0, Value.int 0 0, Value.int 3 0, Value.ref 42, Value.bool true, Value.int 181 0, Value.ref 43, Value.none, Value.ref 44, Value.ref 45, Value.ref 46, Value.int 241 0, Value.int 13 0, Value.str (Str.ofString "/claim/cut.py") 242] }) ::
    (nat_lit 48, ?b48) ::
    (nat_lit 56, { cls := Value.type "tuple", data := Data.seq #[Value.int 32 256, Value.bytes #[] 187] }) ::
    (nat_lit 57, { cls := Value.type "tuple", data := Data.seq #[] }) ::
    (nat_lit 59, { cls := Value.type "tuple", data := Data.seq #[Value.str (Str.ofString "self") 260, Value.str (Str.ofString "hash_of") 261, Value.str (Str.ofString "key_size") 262, Value.str (Str.ofString "default") 263, Value.str (Str.ofString "node") 264, Value.str (Str.ofString "_") 265, Value.str (Str.ofString "node_hash") 266] }) ::
    (nat_lit 60, { cls := Value.type "tuple", data := Data.seq #[] }) ::
    (nat_lit 62, { cls := Value.type "code", data := Data.fields #[Value.str (Str.ofString "__init__") 257, Value.str (Str.ofString "SparseMerkleTree.__init__") 258, Value.str (Str.ofString "/claim/cut.py") 259, Value.int 29 0, Value.int 4 0, Value.int 0 0, Value.int 0 0, Value.int 3 0, Value.ref 57, Value.bool true, Value.int 181 0, Value.ref 58, Value.none, Value.ref 59, Value.ref 60, Value.ref 61, Value.int 267 0, Value.int 29 0, Value.str (Str.ofString "/claim/cut.py") 268] }) ::
    (nat_lit 63, ?b63) ::
    (nat_lit 64, { cls := Value.type "tuple", data := Data.seq #[Value.int 32 270, Value.bytes #[] 187] }) ::
    (nat_lit 65, { cls := Value.type "tuple", data := Data.seq #[] }) ::
    (nat_lit 67, { cls := Value.type "tuple", data := Data.seq #[Value.str (Str.ofString "cls") 274, Value.str (Str.ofString "db") 275, Value.str (Str.ofString "root_hash") 276, Value.str (Str.ofString "hash_of") 277, Value.str (Str.ofString "key_size") 278, Value.str (Str.ofString "default") 279, Value.str (Str.ofString "smt") 280] }) ::
    (nat_lit 68, { cls := Value.type "tuple", data := Data.seq #[] }) ::
    (nat_lit 70, { cls := Value.type "code", data := Data.fields #[Value.str (Str.ofString "from_db") 271, Value.str (Str.ofString "SparseMerkleTree.from_db") 272, Value.str (Str.ofString "/claim/cut.py") 273, Value.int 45 0, Value.int 6 0, Value.int 0 0, Value.int 0 0, Value.int 3 0, Value.ref 65, Value.bool true, Value.int 181 0, Value.ref 66, Value.none, Value.ref 67, Value.ref 68, Value.ref 69, Value.int 281 0, Value.int 45 0, Value.str (Str.ofString "/claim/cut.py") 282] }) ::
    (nat_lit 71, ?b71) ::
    (nat_lit 72, { cls := Value.type "dict", data := Data.dict #[{ hash := PyData.keyHash P (Str.ofString "__module__"), key := Value.str (Str.ofString "__module__") 284, val := Value.str (Str.ofString "trie.smt") 228 }, { hash := PyData.keyHash P (Str.ofString "__name__"), key := Value.str (Str.ofString "__name__") 287, val := Value.str (Str.ofString "from_db") 286 }, { hash := PyData.keyHash P (Str.ofString "__qualname__"), key := Value.str (Str.ofString "__qualname__") 290, val := Value.str (Str.ofString "SparseMerkleTree.from_db") 289 }, { hash := PyData.keyHash P (Str.ofString "__doc__"), key := Value.str (Str.ofString "__doc__") 292, val := Value.none }, { hash := PyData.keyHash P (Str.ofString "__annotations__"), key := Value.str (Str.ofString "__annotations__") 294, val := Value.ref 74 }] 5 }) ::
    (nat_lit 73, { cls := Value.type "classmethod", dict := some 72, data := Data.fields #[Value.ref 71, Value.bool false] }) ::
    (nat_lit 74, { cls := Value.type "dict", data := Data.dict #[] }) ::
    (nat_lit 75, { cls := Value.type "tuple", data := Data.seq #[] }) ::
    (nat_lit 77, { cls := Value.type "tuple", data := Data.seq #[Value.str (Str.ofString "self") 299, Value.str (Str.ofString "key") 300, Value.str (Str.ofString "value") 301, Value.str (Str.ofString "_") 302] }) ::
    (nat_lit 78, { cls := Value.type "tuple", data := Data.seq #[] }) ::
    (nat_lit 80, { cls := Value.type "code", data := Data.fields #[Value.str (Str.ofString "get") 296, Value.str (Str.ofString "SparseMerkleTree.get") 297, Value.str (Str.ofString "/claim/cut.py") 298, Value.int 54 0, Value.int 2 0, Value.int 0 0, Value.int 0 0, Value.int 3 0, Value.ref 75, Value.bool true, Value.int 181 0, Value.ref 76, Value.none, Value.ref 77, Value.ref 78, Value.ref 79, Value.int 303 0, Value.int 54 0, Value.str (Str.ofString "/claim/cut.py") 304] }) ::
    (nat_lit 81, ?b81) ::
    (nat_lit 82, { cls := Value.type "tuple", data := Data.seq #[] }) ::
    (nat_lit 84, { cls := Value.type "tuple", data := Data.seq #[Value.str (Str.ofString "self") 309, Value.str (Str.ofString "key") 310, Value.str (Str.ofString "value") 311, Value.str (Str.ofString "branch") 312] }) ::
    (nat_lit 85, { cls := Value.type "tuple", data := Data.seq #[] }) ::
    (nat_lit 87, { cls := Value.type "code", data := Data.fields #[Value.str (Str.ofString "branch") 306, Value.str (Str.ofString "SparseMerkleTree.branch") 307, Value.str (Str.ofString "/claim/cut.py") 308, Value.int 60 0, Value.int 2 0, Value.int 0 0, Value.int 0 0, Value.int 3 0, Value.ref 82, Value.bool true, Value.int 181 0, Value.ref 83, Value.none, Value.ref 84, Value.ref 85, Value.ref 86, Value.int 313 0, Value.int 60 0, Value.str (Str.ofString "/claim/cut.py") 314] }) ::
    (nat_lit 88, ?b88) ::
    (nat_lit 89, { cls := Value.type "tuple", data := Data.seq #[] }) ::
    (nat_lit 91, { cls := Value.type "tuple", data := Data.seq #[Value.str (Str.ofString "self") 319, Value.str (Str.ofString "key") 320, Value.str (Str.ofString "branch") 321, Value.str (Str.ofString "target_bit") 322, Value.str (Str.ofString "path") 323, Value.str (Str.ofString "node_hash") 324, Value.str (Str.ofString "_") 325, Value.str (Str.ofString "node") 326, Value.str (Str.ofString "left") 327, Value.str (Str.ofString "right") 328] }) ::
    (nat_lit 92, { cls := Value.type "tuple", data := Data.seq #[] }) ::
    (nat_lit 94, { cls := Value.type "code", data := Data.fields #[Value.str (Str.ofString "_get") 316, Value.str (Str.ofString "SparseMerkleTree._get") 317, Value.str (Str.ofString "/claim/cut.py") 318, Value.int 66 0, Value.int 2 0, Value.int 0 0, Value.int 0 0, Value.int 3 0, Value.ref 89, Value.bool true, Value.int 181 0, Value.ref 90, Value.none, Value.ref 91, Value.ref 92, Value.ref 93, Value.int 329 0, Value.int 66 0, Value.str (Str.ofString "/claim/cut.py") 330] }) ::
    (nat_lit 95, ?b95) ::
    (nat_lit 96, { cls := Value.type "tuple", data := Data.seq #[] }) ::
    (nat_lit 98, { cls := Value.type "tuple", data := Data.seq #[Value.str (Str.ofString "self") 335, Value.str (Str.ofString "key") 336, Value.str (Str.ofString "value") 337, Value.str (Str.ofString "hash_of") 338, Value.str (Str.ofString "path") 339, Value.str (Str.ofString "node") 340, Value.str (Str.ofString "_") 341, Value.str (Str.ofString "branch") 342, Value.str (Str.ofString "proof_update") 343, Value.str (Str.ofString "target_bit") 344, Value.str (Str.ofString "sibling_node") 345, Value.str (Str.ofString "node_hash") 346] }) ::
    (nat_lit 99, { cls := Value.type "tuple", data := Data.seq #[] }) ::
    (nat_lit 101, { cls := Value.type "code", data := Data.fields #[Value.str (Str.ofString "set") 332, Value.str (Str.ofString "SparseMerkleTree.set") 333, Value.str (Str.ofString "/claim/cut.py") 334, Value.int 85 0, Value.int 3 0, Value.int 0 0, Value.int 0 0, Value.int 3 0, Value.ref 96, Value.bool true, Value.int 181 0, Value.ref 97, Value.none, Value.ref 98, Value.ref 99, Value.ref 100, Value.int 347 0, Value.int 85 0, Value.str (Str.ofString "/claim/cut.py") 348] }) ::
    (nat_lit 102, ?b102) ::
    (nat_lit 103, { cls := Value.type "tuple", data := Data.seq #[] }) ::
    (nat_lit 105, { cls := Value.type "tuple", data := Data.seq #[Value.str (Str.ofString "self") 353, Value.str (Str.ofString "key") 354] }) ::
    (nat_lit 106, { cls := Value.type "tuple", data := Data.seq #[] }) ::
    (nat_lit 108, { cls := Value.type "code", data := Data.fields #[Value.str (Str.ofString "exists") 350, Value.str (Str.ofString "SparseMerkleTree.exists") 351, Value.str (Str.ofString "/claim/cut.py") 352, Value.int 108 0, Value.int 2 0, Value.int 0 0, Value.int 0 0, Value.int 3 0, Value.ref 103, Value.bool true, Value.int 181 0, Value.ref 104, Value.none, Value.ref 105, Value.ref 106, Value.ref 107, Value.int 355 0, Value.int 108 0, Value.str (Str.ofString "/claim/cut.py") 356] }) ::
    (nat_lit 109, ?b109) ::
    (nat_lit 110, { cls := Value.type "tuple", data := Data.seq #[] }) ::
    (nat_lit 112, { cls := Value.type "tuple", data := Data.seq #[Value.str (Str.ofString "self") 361, Value.str (Str.ofString "key") 362] }) ::
    (nat_lit 113, { cls := Value.type "tuple", data := Data.seq #[] }) ::
    (nat_lit 115, { cls := Value.type "code", data := Data.fields #[Value.str (Str.ofString "delete") 358, Value.str (Str.ofString "SparseMerkleTree.delete") 359, Value.str (Str.ofString "/claim/cut.py") 360, Value.int 117 0, Value.int 2 0, Value.int 0 0, Value.int 0 0, Value.int 3 0, Value.ref 110, Value.bool true, Value.int 181 0, Value.ref 111, Value.none, Value.ref 112, Value.ref 113, Value.ref 114, Value.int 363 0, Value.int 117 0, Value.str (Str.ofString "/claim/cut.py") 364] }) ::
    (nat_lit 116, ?b116) ::
    (nat_lit 117, { cls := Value.type "tuple", data := Data.seq #[] }) ::
    (nat_lit 119, { cls := Value.type "tuple", data := Data.seq #[Value.str (Str.ofString "self") 369, Value.str (Str.ofString "key") 370] }) ::
    (nat_lit 120, { cls := Value.type "tuple", data := Data.seq #[] }) ::
    (nat_lit 122, { cls := Value.type "code", data := Data.fields #[Value.str (Str.ofString "__getitem__") 366, Value.str (Str.ofString "SparseMerkleTree.__getitem__") 367, Value.str (Str.ofString "/claim/cut.py") 368, Value.int 122 0, Value.int 2 0, Value.int 0 0, Value.int 0 0, Value.int 3 0, Value.ref 117, Value.bool true, Value.int 181 0, Value.ref 118, Value.none, Value.ref 119, Value.ref 120, Value.ref 121, Value.int 371 0, Value.int 122 0, Value.str (Str.ofString "/claim/cut.py") 372] }) ::
    (nat_lit 123, ?b123) ::
    (nat_lit 124, { cls := Value.type "tuple", data := Data.seq #[] }) ::
    (nat_lit 126, { cls := Value.type "tuple", data := Data.seq #[Value.str (Str.ofString "self") 377, Value.str (Str.ofString "key") 378, Value.str (Str.ofString "value") 379] }) ::
    (nat_lit 127, { cls := Value.type "tuple", data := Data.seq #[] }) ::
    (nat_lit 129, { cls := Value.type "code", data := Data.fields #[Value.str (Str.ofString "__setitem__") 374, Value.str (Str.ofString "SparseMerkleTree.__setitem__") 375, Value.str (Str.ofString "/claim/cut.py") 376, Value.int 125 0, Value.int 3 0, Value.int 0 0, Value.int 0 0, Value.int 3 0, Value.ref 124, Value.bool true, Value.int 181 0, Value.ref 125, Value.none, Value.ref 126, Value.ref 127, Value.ref 128, Value.int 380 0, Value.int 125 0, Value.str (Str.ofString "/claim/cut.py") 381] }) ::
    (nat_lit 130, ?b130) ::
    (nat_lit 131, { cls := Value.type "tuple", data := Data.seq #[] }) ::
    (nat_lit 133, { cls := Value.type "tuple", data := Data.seq #[Value.str (Str.ofString "self") 386, Value.str (Str.ofString "key") 387] }) ::
    (nat_lit 134, { cls := Value.type "tuple", data := Data.seq #[] }) ::
    (nat_lit 136, { cls := Value.type "code", data := Data.fields #[Value.str (Str.ofString "__delitem__") 383, Value.str (Str.ofString "SparseMerkleTree.__delitem__") 384, Value.str (Str.ofString "/claim/cut.py") 385, Value.int 128 0, Value.int 2 0, Value.int 0 0, Value.int 0 0, Value.int 3 0, Value.ref 131, Value.bool true, Value.int 181 0, Value.ref 132, Value.none, Value.ref 133, Value.ref 134, Value.ref 135, Value.int 388 0, Value.int 128 0, Value.str (Str.ofString "/claim/cut.py") 389] }) ::
    (nat_lit 137, ?b137) ::
    (nat_lit 138, { cls := Value.type "tuple", data := Data.seq #[] }) ::
    (nat_lit 140, { cls := Value.type "tuple", data := Data.seq #[Value.str (Str.ofString "self") 394, Value.str (Str.ofString "key") 395] }) ::
    (nat_lit 141, { cls := Value.type "tuple", data := Data.seq #[] }) ::
    (nat_lit 143, { cls := Value.type "code", data := Data.fields #[Value.str (Str.ofString "__contains__") 391, Value.str (Str.ofString "SparseMerkleTree.__contains__") 392, Value.str (Str.ofString "/claim/cut.py") 393, Value.int 131 0, Value.int 2 0, Value.int 0 0, Value.int 0 0, Value.int 3 0, Value.ref 138, Value.bool true, Value.int 181 0, Value.ref 139, Value.none, Value.ref 140, Value.ref 141, Value.ref 142, Value.int 396 0, Value.int 131 0, Value.str (Str.ofString "/claim/cut.py") 397] }) ::
    (nat_lit 144, ?b144) ::
    (nat_lit 145, { cls := Value.type "tuple", data := Data.seq #[Value.str (Str.ofString "_default") 399, Value.str (Str.ofString "_key_size") 400, Value.str (Str.ofString "db") 401, Value.str (Str.ofString "depth") 402, Value.str (Str.ofString "hash_of") 403, Value.str (Str.ofString "root_hash") 404] }) ::
    (nat_lit 146, { cls := Value.type "dict", data := Data.dict #[{ hash := PyData.keyHash P (Str.ofString "__module__"), key := Value.str (Str.ofString "__module__") 251, val := Value.str (Str.ofString "trie.smt") 228 }, { hash := PyData.keyHash P (Str.ofString "__firstlineno__"), key := Value.str (Str.ofString "__firstlineno__") 255, val := Value.int 27 254 }, { hash := PyData.keyHash P (Str.ofString "__init__"), key := Value.str (Str.ofString "__init__") 269, val := Value.ref 63 }, { hash := PyData.keyHash P (Str.ofString "from_db"), key := Value.str (Str.ofString "from_db") 295, val := Value.ref 73 }, { hash := PyData.keyHash P (Str.ofString "get"), key := Value.str (Str.ofString "get") 305, val := Value.ref 81 }, { hash := PyData.keyHash P (Str.ofString "branch"), key := Value.str (Str.ofString "branch") 315, val := Value.ref 88 }, { hash := PyData.keyHash P (Str.ofString "_get"), key := Value.str (Str.ofString "_get") 331, val := Value.ref 95 }, { hash := PyData.keyHash P (Str.ofString "set"), key := Value.str (Str.ofString "set") 349, val := Value.ref 102 }, { hash := PyData.keyHash P (Str.ofString "exists"), key := Value.str (Str.ofString "exists") 357, val := Value.ref 109 }, { hash := PyData.keyHash P (Str.ofString "delete"), key := Value.str (Str.ofString "delete") 365, val := Value.ref 116 }, { hash := PyData.keyHash P (Str.ofString "__getitem__"), key := Value.str (Str.ofString "__getitem__") 373, val := Value.ref 123 }, { hash := PyData.keyHash P (Str.ofString "__setitem__"), key := Value.str (Str.ofString "__setitem__") 382, val := Value.ref 130 }, { hash := PyData.keyHash P (Str.ofString "__delitem__"), key := Value.str (Str.ofString "__delitem__") 390, val := Value.ref 137 }, { hash := PyData.keyHash P (Str.ofString "__contains__"), key := Value.str (Str.ofString "__contains__") 398, val := Value.ref 144 }, { hash := PyData.keyHash P (Str.ofString "__static_attributes__"), key := Value.str (Str.ofString "__static_attributes__") 405, val := Value.ref 145 }, { hash := PyData.keyHash P (Str.ofString "__dict__"), key := Value.str (Str.ofString "__dict__") 407, val := Value.ref 148 }, { hash := PyData.keyHash P (Str.ofString "__weakref__"), key := Value.str (Str.ofString "__weakref__") 409, val := Value.ref 149 }, { hash := PyData.keyHash P (Str.ofString "__doc__"), key := Value.str (Str.ofString "__doc__") 410, val := Value.none }] 4 }) ::
    (nat_lit 147, { cls := Value.type "type", data := Data.cls { name := Str.ofString "SparseMerkleTree", bases := [Value.type "object"], mro := [Value.ref 147, Value.type "object"], ns := 146, qualname := Str.ofString "SparseMerkleTree" }, slots := #[none, none, some (Value.str (Str.ofString "SparseMerkleTree") 244), some (Value.str (Str.ofString "SparseMerkleTree") 252), some (Value.builtin "object.__new__"), some (Value.bool true)] }) ::
    (nat_lit 148, { cls := Value.type "getset_descriptor", data := Data.fields #[Value.str (Str.ofString "__dict__") 406, Value.ref 147, Value.builtin "function.__dict__", Value.builtin "function.__dict__#set"] }) ::
    (nat_lit 149, { cls := Value.type "getset_descriptor", data := Data.fields #[Value.str (Str.ofString "__weakref__") 408, Value.ref 147, Value.builtin "ExceptionGroup.__weakref__", Value.none] }) ::
    (nat_lit 152, { cls := Value.type "tuple", data := Data.seq #[] }) ::
    (nat_lit 154, { cls := Value.type "tuple", data := Data.seq #[Value.str (Str.ofString "hash_of") 418] }) ::
    (nat_lit 155, { cls := Value.type "tuple", data := Data.seq #[Value.str (Str.ofString "register") 419] }) ::
    (nat_lit 157, { cls := Value.type "code", data := Data.fields #[Value.str (Str.ofString "_law_hash") 415, Value.str (Str.ofString "_law_hash") 416, Value.str (Str.ofString "/claim/cut.py") 417, Value.int 134 0, Value.int 0 0, Value.int 0 0, Value.int 0 0, Value.int 3 0, Value.ref 152, Value.bool true, Value.int 181 0, Value.ref 153, Value.none, Value.ref 154, Value.ref 155, Value.ref 156, Value.int 420 0, Value.int 134 0, Value.str (Str.ofString "/claim/cut.py") 421] }) ::
    (nat_lit 158, ?b158) ::
    (nat_lit 159, { cls := Value.type "tuple", data := Data.seq #[] }) ::
    (nat_lit 161, { cls := Value.type "tuple", data := Data.seq #[Value.str (Str.ofString "held") 426, Value.str (Str.ofString "depth") 427, Value.str (Str.ofString "default") 428, Value.str (Str.ofString "hash_of") 429, Value.str (Str.ofString "empty") 430, Value.str (Str.ofString "k") 431, Value.str (Str.ofString "level") 432, Value.str (Str.ofString "key") 433, Value.str (Str.ofString "levels") 434, Value.str (Str.ofString "above") 435, Value.str (Str.ofString "at") 436, Value.str (Str.ofString "low") 437] }) ::
    (nat_lit 162, { cls := Value.type "tuple", data := Data.seq #[] }) ::
    (nat_lit 164, { cls := Value.type "code", data := Data.fields #[Value.str (Str.ofString "_law_levels") 423, Value.str (Str.ofString "_law_levels") 424, Value.str (Str.ofString "/claim/cut.py") 425, Value.int 142 0, Value.int 4 0, Value.int 0 0, Value.int 0 0, Value.int 3 0, Value.ref 159, Value.bool true, Value.int 181 0, Value.ref 160, Value.none, Value.ref 161, Value.ref 162, Value.ref 163, Value.int 438 0, Value.int 142 0, Value.str (Str.ofString "/claim/cut.py") 439] }) ::
    (nat_lit 165, ?b165) ::
    (nat_lit 166, { cls := Value.type "tuple", data := Data.seq #[] }) ::
    (nat_lit 168, { cls := Value.type "tuple", data := Data.seq #[Value.str (Str.ofString "known") 444, Value.str (Str.ofString "height") 445, Value.str (Str.ofString "at") 446, Value.str (Str.ofString "empty") 447, Value.str (Str.ofString "levels") 448] }) ::
    (nat_lit 169, { cls := Value.type "tuple", data := Data.seq #[] }) ::
    (nat_lit 171, { cls := Value.type "code", data := Data.fields #[Value.str (Str.ofString "_law_node") 441, Value.str (Str.ofString "_law_node") 442, Value.str (Str.ofString "/claim/cut.py") 443, Value.int 159 0, Value.int 3 0, Value.int 0 0, Value.int 0 0, Value.int 3 0, Value.ref 166, Value.bool true, Value.int 181 0, Value.ref 167, Value.none, Value.ref 168, Value.ref 169, Value.ref 170, Value.int 449 0, Value.int 159 0, Value.str (Str.ofString "/claim/cut.py") 450] }) ::
    (nat_lit 172, ?b172) ::
    (nat_lit 173, { cls := Value.type "tuple", data := Data.seq #[] }) ::
    (nat_lit 175, { cls := Value.type "tuple", data := Data.seq #[Value.str (Str.ofString "known") 455, Value.str (Str.ofString "key") 456, Value.str (Str.ofString "at") 457, Value.str (Str.ofString "rows") 458, Value.str (Str.ofString "k") 459, Value.str (Str.ofString "place") 460] }) ::
    (nat_lit 176, { cls := Value.type "tuple", data := Data.seq #[] }) ::
    (nat_lit 178, { cls := Value.type "code", data := Data.fields #[Value.str (Str.ofString "_law_beside") 452, Value.str (Str.ofString "_law_beside") 453, Value.str (Str.ofString "/claim/cut.py") 454, Value.int 162 0, Value.int 2 0, Value.int 0 0, Value.int 0 0, Value.int 3 0, Value.ref 173, Value.bool true, Value.int 181 0, Value.ref 174, Value.none, Value.ref 175, Value.ref 176, Value.ref 177, Value.int 461 0, Value.int 162 0, Value.str (Str.ofString "/claim/cut.py") 462] }) ::
    (nat_lit 179, ?b179) ::
    (nat_lit 180, { cls := Value.type "tuple", data := Data.seq #[] }) ::
    (nat_lit 182, { cls := Value.type "tuple", data := Data.seq #[Value.str (Str.ofString "known") 467, Value.str (Str.ofString "key") 468, Value.str (Str.ofString "at") 469, Value.str (Str.ofString "rows") 470, Value.str (Str.ofString "k") 471] }) ::
    (nat_lit 183, { cls := Value.type "tuple", data := Data.seq #[] }) ::
    (nat_lit 185, { cls := Value.type "code", data := Data.fields #[Value.str (Str.ofString "_law_along") 464, Value.str (Str.ofString "_law_along") 465, Value.str (Str.ofString "/claim/cut.py") 466, Value.int 169 0, Value.int 2 0, Value.int 0 0, Value.int 0 0, Value.int 3 0, Value.ref 180, Value.bool true, Value.int 181 0, Value.ref 181, Value.none, Value.ref 182, Value.ref 183, Value.ref 184, Value.int 472 0, Value.int 169 0, Value.str (Str.ofString "/claim/cut.py") 473] }) ::
    (nat_lit 186, ?b186) ::
    (nat_lit 187, { cls := Value.type "tuple", data := Data.seq #[] }) ::
    (nat_lit 189, { cls := Value.type "tuple", data := Data.seq #[Value.str (Str.ofString "number") 478, Value.str (Str.ofString "default") 479, Value.str (Str.ofString "hash_of") 480, Value.str (Str.ofString "kind") 481] }) ::
    (nat_lit 190, { cls := Value.type "tuple", data := Data.seq #[] }) ::
    (nat_lit 192, { cls := Value.type "code", data := Data.fields #[Value.str (Str.ofString "_law_value") 475, Value.str (Str.ofString "_law_value") 476, Value.str (Str.ofString "/claim/cut.py") 477, Value.int 175 0, Value.int 3 0, Value.int 0 0, Value.int 0 0, Value.int 3 0, Value.ref 187, Value.bool true, Value.int 181 0, Value.ref 188, Value.none, Value.ref 189, Value.ref 190, Value.ref 191, Value.int 482 0, Value.int 175 0, Value.str (Str.ofString "/claim/cut.py") 483] }) ::
    (nat_lit 193, ?b193) ::
    (nat_lit 194, { cls := Value.type "tuple", data := Data.seq #[] }) ::
    (nat_lit 196, { cls := Value.type "tuple", data := Data.seq #[Value.str (Str.ofString "tree") 488, Value.str (Str.ofString "which") 489, Value.str (Str.ofString "key") 490, Value.str (Str.ofString "value") 491, Value.str (Str.ofString "default") 492] }) ::
    (nat_lit 197, { cls := Value.type "tuple", data := Data.seq #[] }) ::
    (nat_lit 199, { cls := Value.type "code", data := Data.fields #[Value.str (Str.ofString "_law_done") 485, Value.str (Str.ofString "_law_done") 486, Value.str (Str.ofString "/claim/cut.py") 487, Value.int 182 0, Value.int 5 0, Value.int 0 0, Value.int 0 0, Value.int 3 0, Value.ref 194, Value.bool true, Value.int 181 0, Value.ref 195, Value.none, Value.ref 196, Value.ref 197, Value.ref 198, Value.int 493 0, Value.int 182 0, Value.str (Str.ofString "/claim/cut.py") 494] }) ::
    (nat_lit 200, ?b200) ::
    (nat_lit 201, { cls := Value.type "tuple", data := Data.seq #[] }) ::
    (nat_lit 203, { cls := Value.type "tuple", data := Data.seq #[Value.str (Str.ofString "tree") 499, Value.str (Str.ofString "key") 500, Value.str (Str.ofString "which") 501] }) ::
    (nat_lit 204, { cls := Value.type "tuple", data := Data.seq #[] }) ::
    (nat_lit 206, { cls := Value.type "code", data := Data.fields #[Value.str (Str.ofString "_law_got") 496, Value.str (Str.ofString "_law_got") 497, Value.str (Str.ofString "/claim/cut.py") 498, Value.int 192 0, Value.int 3 0, Value.int 0 0, Value.int 0 0, Value.int 3 0, Value.ref 201, Value.bool true, Value.int 181 0, Value.ref 202, Value.none, Value.ref 203, Value.ref 204, Value.ref 205, Value.int 502 0, Value.int 192 0, Value.str (Str.ofString "/claim/cut.py") 503] }) ::
    (nat_lit 207, ?b207) ::
    (nat_lit 208, { cls := Value.type "tuple", data := Data.seq #[] }) ::
    (nat_lit 210, { cls := Value.type "tuple", data := Data.seq #[Value.str (Str.ofString "tree") 508, Value.str (Str.ofString "held") 509, Value.str (Str.ofString "keys") 510, Value.str (Str.ofString "default") 511, Value.str (Str.ofString "known") 512, Value.str (Str.ofString "hash_of") 513, Value.str (Str.ofString "key") 514, Value.str (Str.ofString "due") 515, Value.str (Str.ofString "there") 516, Value.str (Str.ofString "beside") 517] }) ::
    (nat_lit 211, { cls := Value.type "tuple", data := Data.seq #[] }) ::
    (nat_lit 213, { cls := Value.type "code", data := Data.fields #[Value.str (Str.ofString "_law_tells") 505, Value.str (Str.ofString "_law_tells") 506, Value.str (Str.ofString "/claim/cut.py") 507, Value.int 201 0, Value.int 6 0, Value.int 0 0, Value.int 0 0, Value.int 3 0, Value.ref 208, Value.bool true, Value.int 181 0, Value.ref 209, Value.none, Value.ref 210, Value.ref 211, Value.ref 212, Value.int 518 0, Value.int 201 0, Value.str (Str.ofString "/claim/cut.py") 519] }) ::
    (nat_lit 214, ?b214) ::
    (nat_lit 215, { cls := Value.type "tuple", data := Data.seq #[] }) ::
    (nat_lit 217, { cls := Value.type "tuple", data := Data.seq #[Value.str (Str.ofString "tree") 524, Value.str (Str.ofString "which") 525, Value.str (Str.ofString "key") 526, Value.str (Str.ofString "bad") 527, Value.str (Str.ofString "hash_of") 528] }) ::
    (nat_lit 218, { cls := Value.type "tuple", data := Data.seq #[] }) ::
    (nat_lit 220, { cls := Value.type "code", data := Data.fields #[Value.str (Str.ofString "_law_unfit") 521, Value.str (Str.ofString "_law_unfit") 522, Value.str (Str.ofString "/claim/cut.py") 523, Value.int 214 0, Value.int 5 0, Value.int 0 0, Value.int 0 0, Value.int 3 0, Value.ref 215, Value.bool true, Value.int 181 0, Value.ref 216, Value.none, Value.ref 217, Value.ref 218, Value.ref 219, Value.int 529 0, Value.int 214 0, Value.str (Str.ofString "/claim/cut.py") 530] }) ::
    (nat_lit 221, ?b221) ::
    (nat_lit 222, { cls := Value.type "tuple", data := Data.seq #[] }) ::
    (nat_lit 224, { cls := Value.type "tuple", data := Data.seq #[Value.str (Str.ofString "script") 535, Value.str (Str.ofString "hash_of") 536, Value.str (Str.ofString "first") 537, Value.str (Str.ofString "size") 538, Value.str (Str.ofString "default") 539, Value.str (Str.ofString "moment") 540, Value.str (Str.ofString "trees") 541, Value.str (Str.ofString "helds") 542, Value.str (Str.ofString "keys") 543, Value.str (Str.ofString "k") 544, Value.str (Str.ofString "deed") 545, Value.str (Str.ofString "number") 546, Value.str (Str.ofString "place") 547, Value.str (Str.ofString "key") 548, Value.str (Str.ofString "which") 549, Value.str (Str.ofString "value") 550, Value.str (Str.ofString "told") 551, Value.str (Str.ofString "tree") 552, Value.str (Str.ofString "known") 553, Value.str (Str.ofString "before") 554] }) ::
    (nat_lit 225, { cls := Value.type "tuple", data := Data.seq #[] }) ::
    (nat_lit 227, { cls := Value.type "code", data := Data.fields #[Value.str (Str.ofString "law") 532, Value.str (Str.ofString "law") 533, Value.str (Str.ofString "/claim/cut.py") 534, Value.int 237 0, Value.int 1 0, Value.int 0 0, Value.int 0 0, Value.int 3 0, Value.ref 222, Value.bool true, Value.int 181 0, Value.ref 223, Value.none, Value.ref 224, Value.ref 225, Value.ref 226, Value.int 555 0, Value.int 237 0, Value.str (Str.ofString "/claim/cut.py") 556] }) ::
    (nat_lit 228, ?b228) :: [])
    ⟨?p34, ?p41, ?p48, ?p63, ?p71, ?p81, ?p88, ?p95, ?p102, ?p109, ?p116, ?p123, ?p130, ?p137, ?p144, ?p158, ?p165, ?p172, ?p179, ?p186, ?p193, ?p200, ?p207, ?p214, ?p221, ?p228⟩
  case p34 => conv => lhs; whnf
  case p41 => conv => lhs; whnf
  case p48 => conv => lhs; whnf
  case p63 => conv => lhs; whnf
  case p71 => conv => lhs; whnf
  case p81 => conv => lhs; whnf
  case p88 => conv => lhs; whnf
  case p95 => conv => lhs; whnf
  case p102 => conv => lhs; whnf
  case p109 => conv => lhs; whnf
  case p116 => conv => lhs; whnf
  case p123 => conv => lhs; whnf
  case p130 => conv => lhs; whnf
  case p137 => conv => lhs; whnf
  case p144 => conv => lhs; whnf
  case p158 => conv => lhs; whnf
  case p165 => conv => lhs; whnf
  case p172 => conv => lhs; whnf
  case p179 => conv => lhs; whnf
  case p186 => conv => lhs; whnf
  case p193 => conv => lhs; whnf
  case p200 => conv => lhs; whnf
  case p207 => conv => lhs; whnf
  case p214 => conv => lhs; whnf
  case p221 => conv => lhs; whnf
  case p228 => conv => lhs; whnf
noncomputable def lawView : Program := { Challenge.rw_iu0035_01.row.toRowW.prog with main := { Challenge.rw_iu0035_01.row.toRowW.prog.main with body := [stm 0, stm 2, stm 4, stm 5, stm 7, stm 8, stm 10, stm 11, stm 12, stm 13, stm 14, stm 15, stm 16, stm 17, stm 18, stm 19, stm 20] } }
noncomputable abbrev lawHook : Hook := kmHook hd.heap_39 [nat_lit 2, nat_lit 3, nat_lit 15, nat_lit 22, nat_lit 23, nat_lit 24, nat_lit 25, nat_lit 28, nat_lit 30, nat_lit 31, nat_lit 33, nat_lit 34, nat_lit 35, nat_lit 37, nat_lit 38, nat_lit 40, nat_lit 41, nat_lit 42, nat_lit 44, nat_lit 45, nat_lit 47, nat_lit 48, nat_lit 56, nat_lit 57, nat_lit 59, nat_lit 60, nat_lit 62, nat_lit 63, nat_lit 64, nat_lit 65, nat_lit 67, nat_lit 68, nat_lit 70, nat_lit 71, nat_lit 72, nat_lit 73, nat_lit 74, nat_lit 75, nat_lit 77, nat_lit 78, nat_lit 80, nat_lit 81, nat_lit 82, nat_lit 84, nat_lit 85, nat_lit 87, nat_lit 88, nat_lit 89, nat_lit 91, nat_lit 92, nat_lit 94, nat_lit 95, nat_lit 96, nat_lit 98, nat_lit 99, nat_lit 101, nat_lit 102, nat_lit 103, nat_lit 105, nat_lit 106, nat_lit 108, nat_lit 109, nat_lit 110, nat_lit 112, nat_lit 113, nat_lit 115, nat_lit 116, nat_lit 117, nat_lit 119, nat_lit 120, nat_lit 122, nat_lit 123, nat_lit 124, nat_lit 126, nat_lit 127, nat_lit 129, nat_lit 130, nat_lit 131, nat_lit 133, nat_lit 134, nat_lit 136, nat_lit 137, nat_lit 138, nat_lit 140, nat_lit 141, nat_lit 143, nat_lit 144, nat_lit 145, nat_lit 146, nat_lit 147, nat_lit 148, nat_lit 149, nat_lit 152, nat_lit 154, nat_lit 155, nat_lit 157, nat_lit 158, nat_lit 159, nat_lit 161, nat_lit 162, nat_lit 164, nat_lit 165, nat_lit 166, nat_lit 168, nat_lit 169, nat_lit 171, nat_lit 172, nat_lit 173, nat_lit 175, nat_lit 176, nat_lit 178, nat_lit 179, nat_lit 180, nat_lit 182, nat_lit 183, nat_lit 185, nat_lit 186, nat_lit 187, nat_lit 189, nat_lit 190, nat_lit 192, nat_lit 193, nat_lit 194, nat_lit 196, nat_lit 197, nat_lit 199, nat_lit 200, nat_lit 201, nat_lit 203, nat_lit 204, nat_lit 206, nat_lit 207, nat_lit 208, nat_lit 210, nat_lit 211, nat_lit 213, nat_lit 214, nat_lit 215, nat_lit 217, nat_lit 218, nat_lit 220, nat_lit 221, nat_lit 222, nat_lit 224, nat_lit 225, nat_lit 227, nat_lit 228] (fun _ => by kernel_rfl) [153]
noncomputable abbrev lawLoose : List Str := [Str.ofString "SparseMerkleTree"]
noncomputable abbrev lawXt (s : Shared) : Bool := xlAt lawView [] s && recOk (RowW.records Challenge.rw_iu0035_01.row.toRowW) s
theorem leftA : opening Challenge.rw_iu0035_01.row.toRowW.prog = plainProg Challenge.rw_iu0035_01.row.toRowW.prog.main.scope.names := by kernel_rfl
theorem leftB (s : Shared) : fenceModules? Challenge.rw_iu0035_01.row.toRowW.prog s = some s := by kernel_rfl
/-- the text's top, run by the kernel from where the library's own opening ends -/
theorem leftC : ∀ (w : World) (os : OsState), (topFrom treeTable Challenge.rw_iu0035_01.row.toRowW.prog w 3080 ⟨boot_heap w.params, Array.mk [], boot_drawn, boot_toks, os⟩).map (fun s => (openSeen lawView lawLoose (importedModules Challenge.rw_iu0035_01.row.toRowW.prog.main.body) lawXt true s, lawHook.obs s)) = some (openGood lawView lawLoose, lawHook.val w) := fun w os => by
  unfold topFrom
  rw [PySem.W.Fast.te14082659384304107361, PySem.W.Fast.te4187177175401517315, PySem.W.Fast.te14364793385576792824]
  kernel_rfl
theorem left_of {p q : Program} {loose : List Str} {Xt : Shared → Bool} {α : Type} {Yf : Shared → α} {Ya : World → α} {N : Nat} {g0 : Bool} {H : World → Heap} {gs : Array GenState} {d : Drawn} {k : Nat}
    (boot : ∀ w : World, (fencedOpening treeTable p w N).map (fun s => (s.heap, s.gens, s.drawn, s.toks)) = some (H w, gs, d, k))
    (rest : ∀ (w : World) (os : OsState), (topFrom treeTable p w N ⟨H w, gs, d, k, os⟩).map (fun s => (openSeen q loose (importedModules p.main.body) Xt g0 s, Yf s)) = some (openGood q loose, Ya w)) : LeftO p q loose Xt Yf Ya N g0 := fun w => by
  obtain ⟨⟨s1, s2, s3, s4, s5⟩, hs, hv⟩ := Option.map_eq_some_iff.mp (boot w)
  cases hv
  unfold openEnds
  rw [hs]
  exact rest w s5
theorem leftH : LeftO Challenge.rw_iu0035_01.row.toRowW.prog lawView lawLoose lawXt lawHook.obs lawHook.val 3080 :=
  left_of (H := fun w => boot_heap w.params) (gs := Array.mk []) (d := boot_drawn) (k := boot_toks) (boot_open leftA rfl leftB) leftC
theorem saidH : OpenLaw.wellSaid Challenge.rw_iu0035_01 = true := by
  rw [PySem.W.Fast.te9446332074065402090]
  delta PySem.W.Fast.tw9446332074065402090 PySem.W.Fast.tw17960256430627541270 PySem.W.Fast.tw2436336058641802641 PySem.W.Fast.tw12908688711261696721
  repeat' (with_reducible refine look_both ?_ ?_)
  all_goals decide +kernel
/-! ## the walk's own lines (k_with): the names that a line gives (they end with a stroke) are its own, as in a macro -/
open Lean in
def fresh (t : Syntax) : MacroM Syntax := t.replaceM fun
  | .ident i r (.str .anonymous x) p => do
    if x.endsWith "'" then return some (.ident i r (← Macro.addMacroScope (.str .anonymous x)) p) else return none
  | _ => return none
/-! ## conjunctions and existentials in one piece: their terms stay small -/
set_option genInjectivity false
set_option genSizeOf false
inductive A3 (p1 p2 p3 : Prop) : Prop where
  | mk (h1 : p1) (h2 : p2) (h3 : p3) : A3 p1 p2 p3
inductive A4 (p1 p2 p3 p4 : Prop) : Prop where
  | mk (h1 : p1) (h2 : p2) (h3 : p3) (h4 : p4) : A4 p1 p2 p3 p4
inductive A5 (p1 p2 p3 p4 p5 : Prop) : Prop where
  | mk (h1 : p1) (h2 : p2) (h3 : p3) (h4 : p4) (h5 : p5) : A5 p1 p2 p3 p4 p5
inductive A6 (p1 p2 p3 p4 p5 p6 : Prop) : Prop where
  | mk (h1 : p1) (h2 : p2) (h3 : p3) (h4 : p4) (h5 : p5) (h6 : p6) : A6 p1 p2 p3 p4 p5 p6
inductive A7 (p1 p2 p3 p4 p5 p6 p7 : Prop) : Prop where
  | mk (h1 : p1) (h2 : p2) (h3 : p3) (h4 : p4) (h5 : p5) (h6 : p6) (h7 : p7) : A7 p1 p2 p3 p4 p5 p6 p7
inductive A8 (p1 p2 p3 p4 p5 p6 p7 p8 : Prop) : Prop where
  | mk (h1 : p1) (h2 : p2) (h3 : p3) (h4 : p4) (h5 : p5) (h6 : p6) (h7 : p7) (h8 : p8) : A8 p1 p2 p3 p4 p5 p6 p7 p8
inductive A9 (p1 p2 p3 p4 p5 p6 p7 p8 p9 : Prop) : Prop where
  | mk (h1 : p1) (h2 : p2) (h3 : p3) (h4 : p4) (h5 : p5) (h6 : p6) (h7 : p7) (h8 : p8) (h9 : p9) : A9 p1 p2 p3 p4 p5 p6 p7 p8 p9
inductive A11 (p1 p2 p3 p4 p5 p6 p7 p8 p9 p10 p11 : Prop) : Prop where
  | mk (h1 : p1) (h2 : p2) (h3 : p3) (h4 : p4) (h5 : p5) (h6 : p6) (h7 : p7) (h8 : p8) (h9 : p9) (h10 : p10) (h11 : p11) : A11 p1 p2 p3 p4 p5 p6 p7 p8 p9 p10 p11
inductive A12 (p1 p2 p3 p4 p5 p6 p7 p8 p9 p10 p11 p12 : Prop) : Prop where
  | mk (h1 : p1) (h2 : p2) (h3 : p3) (h4 : p4) (h5 : p5) (h6 : p6) (h7 : p7) (h8 : p8) (h9 : p9) (h10 : p10) (h11 : p11) (h12 : p12) : A12 p1 p2 p3 p4 p5 p6 p7 p8 p9 p10 p11 p12
inductive A13 (p1 p2 p3 p4 p5 p6 p7 p8 p9 p10 p11 p12 p13 : Prop) : Prop where
  | mk (h1 : p1) (h2 : p2) (h3 : p3) (h4 : p4) (h5 : p5) (h6 : p6) (h7 : p7) (h8 : p8) (h9 : p9) (h10 : p10) (h11 : p11) (h12 : p12) (h13 : p13) : A13 p1 p2 p3 p4 p5 p6 p7 p8 p9 p10 p11 p12 p13
inductive A15 (p1 p2 p3 p4 p5 p6 p7 p8 p9 p10 p11 p12 p13 p14 p15 : Prop) : Prop where
  | mk (h1 : p1) (h2 : p2) (h3 : p3) (h4 : p4) (h5 : p5) (h6 : p6) (h7 : p7) (h8 : p8) (h9 : p9) (h10 : p10) (h11 : p11) (h12 : p12) (h13 : p13) (h14 : p14) (h15 : p15) : A15 p1 p2 p3 p4 p5 p6 p7 p8 p9 p10 p11 p12 p13 p14 p15
inductive A16 (p1 p2 p3 p4 p5 p6 p7 p8 p9 p10 p11 p12 p13 p14 p15 p16 : Prop) : Prop where
  | mk (h1 : p1) (h2 : p2) (h3 : p3) (h4 : p4) (h5 : p5) (h6 : p6) (h7 : p7) (h8 : p8) (h9 : p9) (h10 : p10) (h11 : p11) (h12 : p12) (h13 : p13) (h14 : p14) (h15 : p15) (h16 : p16) : A16 p1 p2 p3 p4 p5 p6 p7 p8 p9 p10 p11 p12 p13 p14 p15 p16
inductive A17 (p1 p2 p3 p4 p5 p6 p7 p8 p9 p10 p11 p12 p13 p14 p15 p16 p17 : Prop) : Prop where
  | mk (h1 : p1) (h2 : p2) (h3 : p3) (h4 : p4) (h5 : p5) (h6 : p6) (h7 : p7) (h8 : p8) (h9 : p9) (h10 : p10) (h11 : p11) (h12 : p12) (h13 : p13) (h14 : p14) (h15 : p15) (h16 : p16) (h17 : p17) : A17 p1 p2 p3 p4 p5 p6 p7 p8 p9 p10 p11 p12 p13 p14 p15 p16 p17
inductive A18 (p1 p2 p3 p4 p5 p6 p7 p8 p9 p10 p11 p12 p13 p14 p15 p16 p17 p18 : Prop) : Prop where
  | mk (h1 : p1) (h2 : p2) (h3 : p3) (h4 : p4) (h5 : p5) (h6 : p6) (h7 : p7) (h8 : p8) (h9 : p9) (h10 : p10) (h11 : p11) (h12 : p12) (h13 : p13) (h14 : p14) (h15 : p15) (h16 : p16) (h17 : p17) (h18 : p18) : A18 p1 p2 p3 p4 p5 p6 p7 p8 p9 p10 p11 p12 p13 p14 p15 p16 p17 p18
inductive A19 (p1 p2 p3 p4 p5 p6 p7 p8 p9 p10 p11 p12 p13 p14 p15 p16 p17 p18 p19 : Prop) : Prop where
  | mk (h1 : p1) (h2 : p2) (h3 : p3) (h4 : p4) (h5 : p5) (h6 : p6) (h7 : p7) (h8 : p8) (h9 : p9) (h10 : p10) (h11 : p11) (h12 : p12) (h13 : p13) (h14 : p14) (h15 : p15) (h16 : p16) (h17 : p17) (h18 : p18) (h19 : p19) : A19 p1 p2 p3 p4 p5 p6 p7 p8 p9 p10 p11 p12 p13 p14 p15 p16 p17 p18 p19
inductive A20 (p1 p2 p3 p4 p5 p6 p7 p8 p9 p10 p11 p12 p13 p14 p15 p16 p17 p18 p19 p20 : Prop) : Prop where
  | mk (h1 : p1) (h2 : p2) (h3 : p3) (h4 : p4) (h5 : p5) (h6 : p6) (h7 : p7) (h8 : p8) (h9 : p9) (h10 : p10) (h11 : p11) (h12 : p12) (h13 : p13) (h14 : p14) (h15 : p15) (h16 : p16) (h17 : p17) (h18 : p18) (h19 : p19) (h20 : p20) : A20 p1 p2 p3 p4 p5 p6 p7 p8 p9 p10 p11 p12 p13 p14 p15 p16 p17 p18 p19 p20
inductive X2 {α1 α2 : Type} (p : α1 → α2 → Prop) : Prop where
  | mk (a1 : α1) (a2 : α2) (h : p a1 a2) : X2 p
inductive X3 {α1 α2 α3 : Type} (p : α1 → α2 → α3 → Prop) : Prop where
  | mk (a1 : α1) (a2 : α2) (a3 : α3) (h : p a1 a2 a3) : X3 p
inductive X4 {α1 α2 α3 α4 : Type} (p : α1 → α2 → α3 → α4 → Prop) : Prop where
  | mk (a1 : α1) (a2 : α2) (a3 : α3) (a4 : α4) (h : p a1 a2 a3 a4) : X4 p
inductive X5 {α1 α2 α3 α4 α5 : Type} (p : α1 → α2 → α3 → α4 → α5 → Prop) : Prop where
  | mk (a1 : α1) (a2 : α2) (a3 : α3) (a4 : α4) (a5 : α5) (h : p a1 a2 a3 a4 a5) : X5 p
inductive X6 {α1 α2 α3 α4 α5 α6 : Type} (p : α1 → α2 → α3 → α4 → α5 → α6 → Prop) : Prop where
  | mk (a1 : α1) (a2 : α2) (a3 : α3) (a4 : α4) (a5 : α5) (a6 : α6) (h : p a1 a2 a3 a4 a5 a6) : X6 p
inductive X7 {α1 α2 α3 α4 α5 α6 α7 : Type} (p : α1 → α2 → α3 → α4 → α5 → α6 → α7 → Prop) : Prop where
  | mk (a1 : α1) (a2 : α2) (a3 : α3) (a4 : α4) (a5 : α5) (a6 : α6) (a7 : α7) (h : p a1 a2 a3 a4 a5 a6 a7) : X7 p
inductive X8 {α1 α2 α3 α4 α5 α6 α7 α8 : Type} (p : α1 → α2 → α3 → α4 → α5 → α6 → α7 → α8 → Prop) : Prop where
  | mk (a1 : α1) (a2 : α2) (a3 : α3) (a4 : α4) (a5 : α5) (a6 : α6) (a7 : α7) (a8 : α8) (h : p a1 a2 a3 a4 a5 a6 a7 a8) : X8 p
inductive X9 {α1 α2 α3 α4 α5 α6 α7 α8 α9 : Type} (p : α1 → α2 → α3 → α4 → α5 → α6 → α7 → α8 → α9 → Prop) : Prop where
  | mk (a1 : α1) (a2 : α2) (a3 : α3) (a4 : α4) (a5 : α5) (a6 : α6) (a7 : α7) (a8 : α8) (a9 : α9) (h : p a1 a2 a3 a4 a5 a6 a7 a8 a9) : X9 p
inductive X10 {α1 α2 α3 α4 α5 α6 α7 α8 α9 α10 : Type} (p : α1 → α2 → α3 → α4 → α5 → α6 → α7 → α8 → α9 → α10 → Prop) : Prop where
  | mk (a1 : α1) (a2 : α2) (a3 : α3) (a4 : α4) (a5 : α5) (a6 : α6) (a7 : α7) (a8 : α8) (a9 : α9) (a10 : α10) (h : p a1 a2 a3 a4 a5 a6 a7 a8 a9 a10) : X10 p
inductive X11 {α1 α2 α3 α4 α5 α6 α7 α8 α9 α10 α11 : Type} (p : α1 → α2 → α3 → α4 → α5 → α6 → α7 → α8 → α9 → α10 → α11 → Prop) : Prop where
  | mk (a1 : α1) (a2 : α2) (a3 : α3) (a4 : α4) (a5 : α5) (a6 : α6) (a7 : α7) (a8 : α8) (a9 : α9) (a10 : α10) (a11 : α11) (h : p a1 a2 a3 a4 a5 a6 a7 a8 a9 a10 a11) : X11 p
inductive X12 {α1 α2 α3 α4 α5 α6 α7 α8 α9 α10 α11 α12 : Type} (p : α1 → α2 → α3 → α4 → α5 → α6 → α7 → α8 → α9 → α10 → α11 → α12 → Prop) : Prop where
  | mk (a1 : α1) (a2 : α2) (a3 : α3) (a4 : α4) (a5 : α5) (a6 : α6) (a7 : α7) (a8 : α8) (a9 : α9) (a10 : α10) (a11 : α11) (a12 : α12) (h : p a1 a2 a3 a4 a5 a6 a7 a8 a9 a10 a11 a12) : X12 p
inductive X13 {α1 α2 α3 α4 α5 α6 α7 α8 α9 α10 α11 α12 α13 : Type} (p : α1 → α2 → α3 → α4 → α5 → α6 → α7 → α8 → α9 → α10 → α11 → α12 → α13 → Prop) : Prop where
  | mk (a1 : α1) (a2 : α2) (a3 : α3) (a4 : α4) (a5 : α5) (a6 : α6) (a7 : α7) (a8 : α8) (a9 : α9) (a10 : α10) (a11 : α11) (a12 : α12) (a13 : α13) (h : p a1 a2 a3 a4 a5 a6 a7 a8 a9 a10 a11 a12 a13) : X13 p
/-! ## continuations made variables: the terms stay small -/
structure GenK (K C : Flow → Shared → Prop) : Prop where
  go : ∀ f s', C f s' → K f s'
section
variable {M : Model} {A : Around} {E : Value → Shared → Prop} {s : Shared} {env : Env} {st : Stmt} {rest : List Stmt} {Q : Flow → Shared → Prop}
theorem execs_gen (h : ∀ K : Flow → Shared → Prop, GenK K (fun f s' => match f with | .next => wpAny M A (execs rest env) Q E s' | f => Q f s') → wpAny M A (exec st env) K E s) : wpAny M A (execs (st :: rest) env) Q E s :=
  wpAny_execs_cons (h _ ⟨fun _ _ x => x⟩)
end
theorem subInL {a l r : List (Addr × Obj)} (h : ∀ p ∈ a, p ∈ l) : ∀ p ∈ a, p ∈ l ++ r := fun p hp => List.mem_append_left _ (h p hp)
theorem subInR {a l r : List (Addr × Obj)} (h : ∀ p ∈ a, p ∈ r) : ∀ p ∈ a, p ∈ l ++ r := fun p hp => List.mem_append_right _ (h p hp)
theorem subIn1 {a : Addr × Obj} {l r : List (Addr × Obj)} (h : a ∈ r) (h' : ∀ p ∈ l, p ∈ r) : ∀ p ∈ a :: l, p ∈ r := fun p hp => (List.mem_cons.mp hp).elim (fun e => e ▸ h) (h' p)
theorem subInC {q : Addr × Obj} {l r : List (Addr × Obj)} (h : ∀ p ∈ l, p ∈ r) : ∀ p ∈ l, p ∈ q :: r := fun p hp => .tail _ (h p hp)
theorem subInA {l l' r : List (Addr × Obj)} (h : ∀ p ∈ l, p ∈ r) (h' : ∀ p ∈ l', p ∈ r) : ∀ p ∈ l ++ l', p ∈ r := fun p hp => (List.mem_append.mp hp).elim (h p) (h' p)
theorem subTr {l m r : List (Addr × Obj)} (h : ∀ p ∈ l, p ∈ m) (h' : ∀ p ∈ m, p ∈ r) : ∀ p ∈ l, p ∈ r := fun p hp => h' p (h p hp)
theorem neSplit {l m r : List (Addr × Obj)} {c : Addr} (h : ∀ p ∈ l, p ∈ m ++ r) (h1 : ∀ p ∈ m, p.1 ≠ c) (h2 : ∀ p ∈ r, p.1 ≠ c) : ∀ p ∈ l, p.1 ≠ c := fun p hp => (List.mem_append.mp (h p hp)).elim (h1 p) (h2 p)
/-! ## bounds by small terms -/
theorem bnd0 {b c N K : Nat} (h2 : b + K ≤ N) (h3 : Nat.ble c K = true) : b + c ≤ N := Nat.le_trans (Nat.add_le_add_left (Nat.le_of_ble_eq_true h3) b) h2
theorem bndz {b N K : Nat} (h2 : b + K ≤ N) : b ≤ N := Nat.le_trans (Nat.le_add_right b K) h2
theorem bnd1 {a b c d N K : Nat} (h1 : a ≤ b + d) (h2 : b + K ≤ N) (h3 : Nat.ble (d + c) K = true) : a + c ≤ N := by
  have := Nat.le_of_ble_eq_true h3; omega
theorem bnd1z {a b d N K : Nat} (h1 : a ≤ b + d) (h2 : b + K ≤ N) (h3 : Nat.ble d K = true) : a ≤ N := by
  have := Nat.le_of_ble_eq_true h3; omega
theorem bnd2 {a b c d e f N K : Nat} (h1 : a ≤ b + d) (h2 : b ≤ e + f) (h3 : e + K ≤ N) (h4 : Nat.ble (f + d + c) K = true) : a + c ≤ N := by
  have := Nat.le_of_ble_eq_true h4; omega
theorem bndr {a b c N K : Nat} (h1 : a ≤ b) (h2 : b ≤ K) (h3 : Nat.ble (K + c) N = true) : a + c ≤ N := by
  have := Nat.le_of_ble_eq_true h3; omega
theorem bndn {a K N : Nat} (h1 : a ≤ K) (h3 : Nat.ble K N = true) : a ≤ N := Nat.le_trans h1 (Nat.le_of_ble_eq_true h3)
theorem bndnc {a c K N : Nat} (h1 : a ≤ K) (h3 : Nat.ble (K + c) N = true) : a + c ≤ N := Nat.le_trans (Nat.add_le_add_right h1 c) (Nat.le_of_ble_eq_true h3)
theorem bnde {a K N : Nat} (h1 : a = K) (h3 : Nat.ble K N = true) : a ≤ N := h1 ▸ Nat.le_of_ble_eq_true h3
theorem bndt {a b d : Nat} {e : Nat} (h1 : a ≤ b + d) (h2 : b ≤ e) : a ≤ e + d := Nat.le_trans h1 (Nat.add_le_add_right h2 d)
theorem lt4 : ∀ {k : Nat}, k < 4 → k = 0 ∨ k = 1 ∨ k = 2 ∨ k = 3
  | 0, _ => .inl rfl
  | 1, _ => .inr (.inl rfl)
  | 2, _ => .inr (.inr (.inl rfl))
  | 3, _ => .inr (.inr (.inr rfl))
  | n + 4, h => absurd h (Nat.not_lt_of_le (Nat.le_add_left 4 n))
theorem bnde2 {a b p q N : Nat} (h1 : a = p) (h2 : b = q) (h3 : Nat.ble (p + q) N = true) : a + b ≤ N := h1 ▸ h2 ▸ Nat.le_of_ble_eq_true h3
theorem dbl1 {a : Nat} (h : a % 2 = 1) : 2 * (a / 2) = a - 1 := by omega
theorem dbl1s {a : Nat} (h : a % 2 = 1) : 2 * (a / 2) + 1 = a := by omega
theorem dbl0 {a : Nat} (h : a % 2 = 0) : 2 * (a / 2) = a := by omega
theorem dbl0s {a : Nat} (h : a % 2 = 0) : 2 * (a / 2) + 1 = a + 1 := by omega
/-! ## the abstract data: octet strings, dicts of octet strings without tokens -/
abbrev B := List UInt8
def bv : Value → Option B
  | .bytes b _ => some b.toList
  | _ => none
theorem bv_some {v : Value} {x : B} (h : bv v = some x) : ∃ t, v = .bytes x.toArray t := by
  cases v <;> simp [bv] at h
  subst h; exact ⟨_, rfl⟩
@[simp] theorem bv_bytes (x : B) (t : Tok) : bv (.bytes x.toArray t) = some x := by simp [bv]

/-- a list of values that are these octet strings -/
def BL (vs : List Value) (xs : List B) : Prop := vs.map bv = xs.map some
theorem BL.nil : BL [] [] := rfl
theorem BL.length {vs : List Value} {xs : List B} (h : BL vs xs) : vs.length = xs.length := by have := congrArg List.length h; simpa using this
theorem BL.get {vs : List Value} {xs : List B} (h : BL vs xs) {i : Nat} {x : B} (hx : xs[i]? = some x) : ∃ t, vs[i]? = some (.bytes x.toArray t) := by
  have e := congrArg (fun l => l[i]?) h
  simp only [List.getElem?_map, hx, Option.map_some] at e
  cases q : vs[i]? with
  | none => simp [q] at e
  | some v => simp [q] at e; obtain ⟨t, rfl⟩ := bv_some e; exact ⟨t, rfl⟩
theorem BL.at {vs : List Value} {xs : List B} (h : BL vs xs) {i : Nat} {v : Value} (hx : vs[i]? = some v) : ∃ x t, xs[i]? = some x ∧ v = .bytes x.toArray t := by
  have e := congrArg (fun l => l[i]?) h
  simp only [List.getElem?_map, hx, Option.map_some] at e
  cases q : xs[i]? with
  | none => simp [q] at e
  | some x => simp [q] at e; obtain ⟨t, rfl⟩ := bv_some e; exact ⟨x, t, rfl, rfl⟩
theorem BL.append {vs ws : List Value} {xs ys : List B} (h : BL vs xs) (h' : BL ws ys) : BL (vs ++ ws) (xs ++ ys) := by unfold BL at *; simp [h, h']
theorem BL.cons {v : Value} {vs : List Value} {x : B} {xs : List B} (h : bv v = some x) (h' : BL vs xs) : BL (v :: vs) (x :: xs) := by unfold BL at *; simp [h, h']
theorem BL.one (x : B) (t : Tok) : BL [.bytes x.toArray t] [x] := by simp [BL]
theorem BL.reverse {vs : List Value} {xs : List B} (h : BL vs xs) : BL vs.reverse xs.reverse := by unfold BL at *; simp [h]
theorem BL.uncons {v : Value} {vs : List Value} {xs : List B} (h : BL (v :: vs) xs) : ∃ x t ys, v = .bytes x.toArray t ∧ xs = x :: ys ∧ BL vs ys := by
  cases xs with
  | nil => simp [BL] at h
  | cons x ys => simp [BL] at h; obtain ⟨t, rfl⟩ := bv_some h.1; exact ⟨x, t, ys, rfl, rfl, h.2⟩

section
variable {K : Type} [DecidableEq K]
def Holds (kvs : List (K × Value)) (hs : List (K × B)) : Prop := kvs.map (fun p => (p.1, bv p.2)) = hs.map (fun p => (p.1, some p.2))
def lk (hs : List (K × B)) (k : K) : Option B := (hs.find? fun p => p.1 = k).map (·.2)
def put (hs : List (K × B)) (k : K) (x : B) : List (K × B) :=
  if hs.any (fun p => p.1 = k) then hs.map (fun p => if p.1 = k then (p.1, x) else p) else hs ++ [(k, x)]
theorem Holds.nil : Holds ([] : List (K × Value)) [] := rfl
theorem Holds.length {kvs : List (K × Value)} {hs : List (K × B)} (h : Holds kvs hs) : kvs.length = hs.length := by have := congrArg List.length h; simpa using this
theorem Holds.cons {p : K × Value} {kvs : List (K × Value)} {q : K × B} {hs : List (K × B)} : Holds (p :: kvs) (q :: hs) ↔ p.1 = q.1 ∧ bv p.2 = some q.2 ∧ Holds kvs hs := by
  unfold Holds; simp [and_assoc]
theorem Holds.keys {kvs : List (K × Value)} {hs : List (K × B)} (h : Holds kvs hs) : kvs.map (·.1) = hs.map (·.1) := by
  have := congrArg (List.map Prod.fst) h; simpa [Function.comp_def] using this
theorem Holds.look {kvs : List (K × Value)} {hs : List (K × B)} (h : Holds kvs hs) (k : K) : (valueAt kvs k).map bv = (lk hs k).map some := by
  induction kvs generalizing hs with
  | nil => cases hs with
    | nil => rfl
    | cons q hs => simp [Holds] at h
  | cons p kvs ih => cases hs with
    | nil => simp [Holds] at h
    | cons q hs =>
      obtain ⟨e, f, h⟩ := Holds.cons.mp h
      simp only [valueAt, lk, List.find?_cons, e] at ih ⊢
      by_cases c : q.1 = k
      · simp [c, f]
      · simpa [c] using ih h
theorem Holds.some {kvs : List (K × Value)} {hs : List (K × B)} (h : Holds kvs hs) {k : K} {x : B} (hx : lk hs k = some x) : ∃ t, valueAt kvs k = some (.bytes x.toArray t) := by
  have e := h.look k
  rw [hx] at e
  cases q : valueAt kvs k with
  | none => simp [q] at e
  | some v => simp [q] at e; obtain ⟨t, rfl⟩ := bv_some e; exact ⟨t, rfl⟩
theorem Holds.isSome {kvs : List (K × Value)} {hs : List (K × B)} (h : Holds kvs hs) (k : K) : (valueAt kvs k).isSome = (lk hs k).isSome := by
  have e := congrArg Option.isSome (h.look k)
  simpa using e
theorem Holds.none {kvs : List (K × Value)} {hs : List (K × B)} (h : Holds kvs hs) {k : K} (hx : lk hs k = none) : valueAt kvs k = none := by
  have e := h.look k
  rw [hx] at e
  cases q : valueAt kvs k with
  | none => rfl
  | some v => simp [q] at e
theorem Holds.any {kvs : List (K × Value)} {hs : List (K × B)} (h : Holds kvs hs) (k : K) : kvs.any (fun p => p.1 = k) = hs.any (fun p => p.1 = k) := by
  have e := congrArg (List.any · (fun y => decide (y = k))) h.keys
  simpa [List.any_map, Function.comp_def] using e
theorem Holds.swap {kvs : List (K × Value)} {hs : List (K × B)} (h : Holds kvs hs) (k : K) (x : B) (t : Tok) :
    Holds (kvs.map fun kv => if kv.1 = k then (kv.1, Value.bytes x.toArray t) else kv) (hs.map fun p => if p.1 = k then (p.1, x) else p) := by
  induction kvs generalizing hs with
  | nil => cases hs with
    | nil => rfl
    | cons q hs => simp [Holds] at h
  | cons p kvs ih => cases hs with
    | nil => simp [Holds] at h
    | cons q hs =>
      obtain ⟨e, f, h⟩ := Holds.cons.mp h
      simp only [List.map_cons]
      refine Holds.cons.mpr ?_
      by_cases c : q.1 = k
      · simp [e, c, ih h]
      · simp [e, c, f, ih h]
theorem Holds.stored {kvs : List (K × Value)} {hs : List (K × B)} (h : Holds kvs hs) (k : K) (x : B) (t : Tok) : Holds (stored kvs k (.bytes x.toArray t)) (put hs k x) := by
  unfold PySem.stored put
  rw [h.any k]
  split
  · exact h.swap k x t
  · unfold Holds at *; simp [h]
/-- what a look-up tells behind a store -/
theorem lk_put (hs : List (K × B)) (k j : K) (x : B) : lk (put hs k x) j = if j = k then some x else lk hs j := by
  unfold lk put
  split
  · rename_i ha
    by_cases c : j = k
    · subst c
      simp only [if_true]
      induction hs with
      | nil => simp at ha
      | cons q hs ih =>
        by_cases d : q.1 = j
        · simp [List.find?_cons, d]
        · simp only [List.any_cons, d, decide_false, Bool.false_or] at ha
          simpa [List.find?_cons, d] using ih ha
    · simp only [if_neg c]
      clear ha
      induction hs with
      | nil => rfl
      | cons q hs ih =>
        by_cases d : q.1 = k
        · have : ¬ k = j := fun e => c e.symm
          simpa [List.find?_cons, d, this] using ih
        · by_cases e : q.1 = j
          · simp [List.find?_cons, d, e, c]
          · simpa [List.find?_cons, d, e] using ih
  · rename_i ha
    by_cases c : j = k
    · subst c
      have : hs.find? (fun p => decide (p.1 = j)) = none := by
        rw [List.find?_eq_none]; intro p hp hq
        exact ha (List.any_eq_true.mpr ⟨p, hp, hq⟩)
      simp [List.find?_append, this]
    · have : ¬ k = j := fun e => c e.symm
      simp [List.find?_append, this, c]
theorem put_new {hs : List (K × B)} {k : K} (h : lk hs k = none) (x : B) : put hs k x = hs ++ [(k, x)] := by
  unfold put
  rw [if_neg]
  intro ha
  obtain ⟨p, hp, hq⟩ := List.any_eq_true.mp ha
  unfold lk at h
  rw [Option.map_eq_none_iff, List.find?_eq_none] at h
  exact h p hp hq
theorem put_length_le (hs : List (K × B)) (k : K) (x : B) : (put hs k x).length ≤ hs.length + 1 := by
  unfold put; split <;> simp
theorem lk_of_mem {hs : List (K × B)} (hn : (hs.map (·.1)).Nodup) {k : K} {x : B} (hm : (k, x) ∈ hs) : lk hs k = some x := by
  induction hs with
  | nil => cases hm
  | cons q hs ih =>
    simp only [List.map_cons, List.nodup_cons] at hn
    unfold lk at *
    rcases List.mem_cons.mp hm with rfl | hm
    · simp
    · have : ¬ q.1 = k := fun e => hn.1 (e ▸ List.mem_map.mpr ⟨_, hm, rfl⟩)
      simpa [List.find?_cons, this] using ih hn.2 hm
theorem mem_of_lk {hs : List (K × B)} {k : K} {x : B} (h : lk hs k = some x) : (k, x) ∈ hs := by
  unfold lk at h
  obtain ⟨p, hp, rfl⟩ := Option.map_eq_some_iff.mp h
  have a := List.find?_some hp
  have b := List.mem_of_find?_eq_some hp
  simp at a
  exact a ▸ b
theorem lk_none_iff {hs : List (K × B)} {k : K} : lk hs k = none ↔ k ∉ hs.map (·.1) := by
  unfold lk
  rw [Option.map_eq_none_iff, List.find?_eq_none]
  simp only [List.mem_map, decide_eq_true_eq]
  constructor
  · rintro h ⟨p, hp, rfl⟩; exact h p hp rfl
  · intro h p hp e; exact h ⟨p, hp, e⟩
theorem put_keys (hs : List (K × B)) (k : K) (x : B) : (put hs k x).map (·.1) = if (lk hs k).isSome then hs.map (·.1) else hs.map (·.1) ++ [k] := by
  cases q : lk hs k with
  | none => rw [put_new q]; simp
  | some y =>
    unfold put
    have : hs.any (fun p => decide (p.1 = k)) = true := List.any_eq_true.mpr ⟨_, mem_of_lk q, by simp⟩
    rw [if_pos this]
    simp only [Option.isSome_some, if_true, List.map_map]
    refine List.map_congr_left fun p _ => ?_
    by_cases c : p.1 = k <;> simp [c]

variable {prog : Program} {w : World}
/-- an object that is a dict of these pairs -/
def DictB (knd : KeyKind prog w K) (o : Obj) (hs : List (K × B)) : Prop := ∃ kvs, o.IsDictOf knd kvs ∧ Holds kvs hs
theorem DictB.nodup {knd : KeyKind prog w K} {o : Obj} {hs : List (K × B)} (h : DictB knd o hs) : (hs.map (·.1)).Nodup := by
  obtain ⟨kvs, ⟨es, ep, _, _, _, _, hn⟩, hh⟩ := h
  rw [← hh.keys]; exact hn
variable {knd : KeyKind prog w K} {A : Around} {E : Value → Shared → Prop} {s : Shared} {h₀ : Heap} {L d : Addr} {m : Str → Option Value} {news : List (Addr × Obj)} {g : Obj → List (Addr × Obj)} {o : Obj} {hs : List (K × B)} {k : K} {key v : Value} {x : B}

theorem dictB_item {value slice : PySem.Expr} {Q : Value → Shared → Prop} (N : News h₀ L s.heap news) (hp : (d, o) ∈ news) (hd : DictB knd o hs) (hkey : knd.is k key = true) (hl : lk hs k = some x) (h : ∀ t, Q (.bytes x.toArray t) { s with toks := s.toks + 1 })
    (hs : subscripted slice false (.ref d) key = operate [.ref d, key] (getItem (.ref d) key) := by with_unfolding_all rfl) (hg : ∀ r, letTemporaryGo value (.ref d) r = pure () := by intro _; with_unfolding_all rfl) :
    wpAny (model prog w) A (subscriptTail value slice (.ref d) key) Q E s := by
  obtain ⟨kvs, hd, hh⟩ := hd
  obtain ⟨t, hv⟩ := hh.some hl
  exact kda_item N hp hd hkey hv (h t) hs hg
theorem dictB_notIn {Q : Value → Shared → Prop} (N : News h₀ L s.heap news) (hp : (d, o) ∈ news) (hd : DictB knd o hs) (lo : (d == sysModules) = false) (hkey : knd.is k key = true) (h : Q (.bool (!(lk hs k).isSome)) { s with toks := s.toks + 1 }) :
    wpAny (model prog w) A (compareOp .NotIn key (.ref d)) Q E s := by
  obtain ⟨kvs, hd, hh⟩ := hd
  exact wpAny_notIn_of hkey lo (kda_dict N hp hd).mapOf (by rw [hh.isSome]; exact h)
theorem dictB_len {Q : Value → Shared → Prop} (N : News h₀ L s.heap news) (hp : (d, o) ∈ news) (hd : DictB knd o hs) (lo : (d == sysModules) = false) (hfit : hs.length ≤ 16777216) (h : ∀ t k, Q (.int hs.length t) { s with toks := k }) :
    wpAny (model prog w) A (call (.builtin "len") [.ref d]) Q E s := by
  obtain ⟨kvs, hd, hh⟩ := hd
  exact kda_len N hp hd lo (by rw [hh.length]; exact hfit) (by rw [hh.length]; exact h _ _)
theorem dictB_set {Q : Unit → Shared → Prop} {t : Tok} (F : Fr h₀ L s.heap m) (N : News h₀ L s.heap news) (U : UpdF d o news g) (hd : DictB knd o hs) (hkey : knd.is k key = true) (hsz : hs.length ≤ 16777216)
    (h : ∀ h' o', Fr h₀ L h' m → News h₀ L h' (g o') → DictB knd o' (put hs k x) → Q () { s with heap := h', toks := s.toks + 1 }) : wpAny (model prog w) A (setItem (.ref d) key (.bytes x.toArray t)) Q E s := by
  obtain ⟨kvs, hd, hh⟩ := hd
  exact kda_set F N U hd hkey (by rw [hh.length, sizeLine_eq]; exact hsz) fun h' o' F' N' hd' => h h' o' F' N' ⟨_, hd', hh.stored k x t⟩
end
theorem bkey (prog : Program) (w : World) (k : B) (t : Tok) : (bytesKind prog w).is k (.bytes k.toArray t) = true := bytesKind_is prog w k t
/-- the program -/
abbrev PR : Program := Challenge.rw_iu0035_01.row.prog
/-- all that the callee did not hold stands as it stood -/
def Stay (h : Heap) (as : List Addr) (h' : Heap) : Prop := ∀ b o, h.get? b = some o → b ∉ as → h'.get? b = some o
def LeaveS (h₀ : Heap) (L : Addr) (m : Str → Option Value) (g sh : Heap) (as : List Addr) (R : Result → Shared → Prop) (v : Value) (s' : Shared) : Prop :=
  (X3 fun L' m' news' => A3 (Fr g L' s'.heap m') (News g L' s'.heap news') ((Fr h₀ L s'.heap m → News h₀ L s'.heap news' → Stay sh as s'.heap → (∀ p ∈ news', p.1 ∉ as → sh.get? p.1 = none) → R (.ok (.ret v)) s')))
theorem leaveS_ {h₀ g sh : Heap} {as : List Addr} {L L' : Addr} {m m' : Str → Option Value} {news' : List (Addr × Obj)} {R : Result → Shared → Prop} {v : Value} {s' : Shared} (F' : Fr g L' s'.heap m') (N' : News g L' s'.heap news')
    (k : Fr h₀ L s'.heap m → News h₀ L s'.heap news' → Stay sh as s'.heap → (∀ p ∈ news', p.1 ∉ as → sh.get? p.1 = none) → R (.ok (.ret v)) s') : LeaveS h₀ L m g sh as R v s' := ⟨L', m', news', F', N', k⟩
def StayR (h : Heap) (as : List Addr) (R : Result → Shared → Prop) : Result → Shared → Prop := fun r s' => match r with
  | .ok f => Stay h as s'.heap → R (.ok f) s'
  | .error e => R (.error e) s'

section
variable {prog : Program} {w : World} {A₀ A : Around} {s : Shared} {base h₀ : Heap} {outer : List Env} {L : Addr} {m : Str → Option Value} {env : Env} {news : List (Addr × Obj)}
  {R : Result → Shared → Prop} {name qual : Str} {params : Arguments} {body : List Stmt} {scope : Scope} {cl : List (Str × Addr)} {dV kV doc pm cdv ct : Value} {an : Option Addr} {fo : Obj} {f : Addr} {args : Args} {binds : List (Str × Value)}
  {K : Frag} {mg mb : Str → Option Value} {p : Program} {loose : List Str} {mean : ExcName → Option Value}

theorem callS_plain (B : Below A₀ base outer h₀) (F : Fr h₀ L s.heap m) (N : News h₀ L s.heap news) (hlim : h₀.NoLimit) (hA : A.frames = some (env :: outer)) (hf : env.frame = some L) (hke : env.scope.kind = .function)
    (ho : s.heap.get? f = some fo) (hd : fo.data = .func (fnX name qual params body scope cl dV kV doc pm an cdv ct)) (hcd : s.heap.CodeRec cdv qual) (hroom : A.depth < recursionLimit)
    (hbind : BindsTo s (fnX name qual params body scope cl dV kV doc pm an cdv ct) args binds) (hloc : ∀ y ∈ binds, scope.names.lookup y.1 = some .local)
    (h : ∀ g L' h₁, Fr h₀ L g m → Fr g L' h₁ (fun y => binds.reverse.lookup y) → News g L' h₁ news → Below A base (env :: outer) g → h₀.StaysIn g → (∀ p ∈ news, p.1 < L') →
      wpAny (model prog w) (A.deeper (envX qual scope L' f cdv cl)) (execs body (envX qual scope L' f cdv cl))
        (fun fl s' => LeaveS h₀ L m g s.heap (news.map (·.1)) R (match fl with | .ret v => v | _ => .none) s')
        (fun e s' => wpAny (model prog w) (A.deeper (envX qual scope L' f cdv cl)) (leaving (envX qual scope L' f cdv cl) e) (fun _ s'' => R (.error e) s'') (fun e' s'' => R (.error e') s'') s')
        { s with heap := h₁, toks := s.toks + binds.length })
    (hcell : ∀ x ∈ scope.names, x.2 ≠ .cell) (hco : scope.isCoroutine = false := by rfl) (hgen : scope.isGenerator = false := by rfl) (hk : scope.kind = .function := by rfl) : codeAny (model prog w) A (.call (.ref f) args) R s := by
  obtain ⟨FG, BG, st, lv⟩ := groundX (R := fun r s' => ∀ f, r = .ok f → R r s') B F N hA hf hke
  refine codeAny_call_def (fd := fnX name qual params body scope cl dV kV doc pm an cdv ct) (body := body) (binds := binds) hroom ho hd (hlim.keeps F.keep) hcd rfl hbind hcell hloc (fun h₁ hns hk₁ => ?_) hco hgen hk
  refine wpAny_mono (h _ s.heap.objs.size h₁ FG ⟨hns, fun b o e => hk₁ b o (of_hideAll _ e), Nat.le_of_eq (hideAll_size _ _)⟩
    (fun p hp => ⟨hk₁ _ _ (N p hp).1, Nat.ne_of_lt (Heap.lt_size (N p hp).1), hideAll_none _ (List.mem_map_of_mem hp)⟩) BG st (fun p hp => Heap.lt_size (N p hp).1)) (fun fl s' hl => ?_) fun _ _ y => y
  obtain ⟨L', m', news', F', N', k⟩ := hl
  refine lv _ s' ⟨L', m', news', F', N', fun kF kN f _ => k kF kN (fun b o e hb => F'.keep b o (hideAll_get _ e hb)) fun p hp hn => ?_⟩ _ rfl
  cases q : s.heap.get? p.1 with
  | none => rfl
  | some o => have := (N' p hp).2.2; rw [hideAll_get _ q hn] at this; cases this

theorem code_defS {oc : Value} {od : Option Addr} {osl : Array (Option Value)}
    (B : Below A₀ base outer h₀) (F : Fr h₀ L s.heap m) (X₀ : K.In h₀) (N : News h₀ L s.heap news) (T : Top p loose mean mg mb h₀) (hA : A.frames = some (env :: outer)) (hf : env.frame = some L) (hke : env.scope.kind = .function)
    (ho : K.lookup f = some ⟨oc, od, .func (fnOf name qual params body scope dV kV doc pm an cdv ct), osl⟩) (hcd : codeIn K cdv qual = true) (hroom : A.depth < recursionLimit)
    (hbind : BindsTo s (fnOf name qual params body scope dV kV doc pm an cdv ct) args binds) (hloc : ∀ y ∈ binds, scope.names.lookup y.1 = some .local)
    (h : ∀ g L' h₁, Fr h₀ L g m → Fr g L' h₁ (fun y => binds.reverse.lookup y) → News g L' h₁ news → Below A base (env :: outer) g → K.In g → Top p loose mean mg mb g →
      wpAny (model prog w) (A.deeper (envOf qual scope L' f cdv)) (execs body (envOf qual scope L' f cdv))
        (fun fl s' => LeaveS h₀ L m g s.heap (news.map (·.1)) R (match fl with | .ret v => v | _ => .none) s')
        (fun e s' => wpAny (model prog w) (A.deeper (envOf qual scope L' f cdv)) (leaving (envOf qual scope L' f cdv) e) (fun _ s'' => R (.error e) s'') (fun e' s'' => R (.error e') s'') s')
        { s with heap := h₁, toks := s.toks + binds.length })
    (hco : scope.isCoroutine = false) (hgen : scope.isGenerator = false) (hk : scope.kind = .function)
    (hcell : ∀ x ∈ scope.names, x.2 ≠ .cell) : codeAny (model prog w) A (.call (.ref f) args) R s :=
  callS_plain (cl := []) B F N T.nolimit hA hf hke ((X₀.keeps F.keep) _ _ ho) rfl (codeRec_of (X₀.keeps F.keep) hcd) hroom hbind hloc (fun g L' h₁ FG F' N' B' st _ => h g L' h₁ FG F' N' B' (X₀.keeps st) (T.keeps st)) hcell hco hgen hk

theorem code_nestS {c' : Addr} {ctv : Value}
    (B : Below A₀ base outer h₀) (F : Fr h₀ L s.heap m) (X₀ : K.In h₀) (N : News h₀ L s.heap news) (T : Top p loose mean mg mb h₀) (hA : A.frames = some (env :: outer)) (hf : env.frame = some L) (hke : env.scope.kind = .function)
    (ho : (f, fnMade name qual params body scope cl doc pm c' ctv) ∈ news) (hcd : s.heap.CodeRec (.ref c') qual) (hroom : A.depth < recursionLimit)
    (hbind : BindsTo s (fnX name qual params body scope cl .none .none doc pm none (.ref c') ctv) args binds) (hloc : ∀ y ∈ binds, scope.names.lookup y.1 = some .local)
    (h : ∀ g L' h₁, Fr h₀ L g m → Fr g L' h₁ (fun y => binds.reverse.lookup y) → News g L' h₁ news → Below A base (env :: outer) g → K.In g → Top p loose mean mg mb g →
      wpAny (model prog w) (A.deeper (envX qual scope L' f (.ref c') cl)) (execs body (envX qual scope L' f (.ref c') cl))
        (fun fl s' => LeaveS h₀ L m g s.heap (news.map (·.1)) R (match fl with | .ret v => v | _ => .none) s')
        (fun e s' => wpAny (model prog w) (A.deeper (envX qual scope L' f (.ref c') cl)) (leaving (envX qual scope L' f (.ref c') cl) e) (fun _ s'' => R (.error e) s'') (fun e' s'' => R (.error e') s'') s')
        { s with heap := h₁, toks := s.toks + binds.length })
    (hco : scope.isCoroutine = false) (hgen : scope.isGenerator = false) (hk : scope.kind = .function)
    (hcell : ∀ x ∈ scope.names, x.2 ≠ .cell) : codeAny (model prog w) A (.call (.ref f) args) R s :=
  callS_plain (cl := cl) B F N T.nolimit hA hf hke (N _ ho).1 rfl hcd hroom hbind hloc (fun g L' h₁ FG F' N' B' st _ => h g L' h₁ FG F' N' B' (X₀.keeps st) (T.keeps st)) hcell hco hgen hk
end

/-- a contract: what the call of f on args, in a frame that holds (at least) the ledger `small`, hands back -/
def Con (w : World) (dm um : Nat) (f : Addr) (args : List Value) (small : List (Addr × Obj)) (Post : Value → List (Addr × Obj) → Prop) : Prop :=
  ∀ (p : Program) (loose : List Str) (mean : ExcName → Option Value) (mg mb : Str → Option Value) (dp un : Nat) (gd : Option (List Code)) (cn : Str) (cs : Scope) (a : Addr) (ccd : Value) (cl : List (Str × Addr)) (outer : List Env) (A₀ : Around) (base h₀ : Heap) (L : Addr) (m : Str → Option Value) (s : Shared)
    (R : Result → Shared → Prop),
    Below A₀ base outer h₀ → Fr h₀ L s.heap m → (hd.heap_39 w.params).In h₀ → News h₀ L s.heap small → Top p loose mean mg mb h₀ → cs.kind = .function → dp ≤ dm → un ≤ um →
    (∀ v h' tk news', Fr h₀ L h' m → News h₀ L h' news' → Stay s.heap (small.map (·.1)) h' → (∀ p ∈ news', p.1 ∉ small.map (·.1) → s.heap.get? p.1 = none) → Post v news' → R (.ok (.ret v)) { s with heap := h', toks := tk }) →
    codeAny (model Challenge.rw_iu0035_01.row.prog w) (ktrTop dp un gd cn cs L a ccd cl outer) (.call (.ref f) ⟨args, []⟩) R s
/-! ## contracts in use; the ledger's cut -/
/-- keep: entries of the ledger that the callee does not hold -/
inductive Cut (small : List (Addr × Obj)) : List (Addr × Obj) → List (Addr × Obj) → Prop
  | nil : Cut small [] []
  | drop {p r k} : Cut small r k → Cut small (p :: r) k
  | keep {p r k} : (∀ q ∈ small, q.1 ≠ p.1) → Cut small r k → Cut small (p :: r) (p :: k)
  | lose {r} : Cut small r []
  | tail {r} : (∀ p ∈ r, ∀ q ∈ small, q.1 ≠ p.1) → Cut small r r
theorem Cut.spec {small : List (Addr × Obj)} {news keep : List (Addr × Obj)} (c : Cut small news keep) : ∀ p ∈ keep, p ∈ news ∧ p.1 ∉ small.map (·.1) := by
  have aux : ∀ p : Addr × Obj, (∀ q ∈ small, q.1 ≠ p.1) → p.1 ∉ small.map (·.1) := fun p h hm => by
    obtain ⟨q, hq, e⟩ := List.mem_map.mp hm
    exact h q hq e
  induction c with
  | nil => intro p hp; cases hp
  | drop _ ih => exact fun p hp => ⟨.tail _ (ih p hp).1, (ih p hp).2⟩
  | keep h _ ih =>
    intro p hp
    rcases List.mem_cons.mp hp with rfl | hp
    · exact ⟨.head _, aux _ h⟩
    · exact ⟨.tail _ (ih p hp).1, (ih p hp).2⟩
  | lose => intro p hp; cases hp
  | tail h => exact fun p hp => ⟨hp, aux _ (h p hp)⟩
theorem Cut.news {h₀ h h' : Heap} {L : Addr} {small news keep : List (Addr × Obj)} (c : Cut small news keep) (N : News h₀ L h news) (st : Stay h (small.map (·.1)) h') : News h₀ L h' keep := fun p hp => by
  obtain ⟨hm, hn⟩ := c.spec p hp
  exact ⟨st _ _ (N p hm).1 hn, (N p hm).2⟩
theorem newsSub {h₀ h : Heap} {L : Addr} {small news : List (Addr × Obj)} (N : News h₀ L h news) (hs : ∀ p ∈ small, p ∈ news) : News h₀ L h small := fun p hp => N p (hs p hp)
theorem newsBoth {h₀ h : Heap} {L : Addr} {a b : List (Addr × Obj)} (N : News h₀ L h a) (M : News h₀ L h b) : News h₀ L h (a ++ b) := fun p hp => (List.mem_append.mp hp).elim (N p) (M p)
theorem Stay.trans {h h' h'' : Heap} {as : List Addr} (a : Stay h as h') (b : Stay h' as h'') : Stay h as h'' := fun x o e n => b x o (a x o e n) n

section
variable {w : World} {dm um : Nat} {f : Addr} {args : List Value} {small news keep : List (Addr × Obj)} {Post : Value → List (Addr × Obj) → Prop}
  {p : Program} {loose : List Str} {mean : ExcName → Option Value} {mg mb : Str → Option Value} {dp un : Nat} {gd : Option (List Code)} {cn : Str} {cs : Scope} {a : Addr} {ccd : Value} {cl : List (Str × Addr)} {outer : List Env} {A₀ : Around} {base h₀ : Heap} {L : Addr} {m : Str → Option Value} {s : Shared}
theorem Con.use {Q E : Value → Shared → Prop} (c : Con w dm um f args small Post) (B : Below A₀ base outer h₀) (F : Fr h₀ L s.heap m) (X : (hd.heap_39 w.params).In h₀) (N : News h₀ L s.heap news) (T : Top p loose mean mg mb h₀) (hk : cs.kind = .function) (hd : dp ≤ dm) (hu : un ≤ um)
    (hs : ∀ q ∈ small, q ∈ news) (ct : Cut small news keep)
    (h : ∀ v h' tk nw, Fr h₀ L h' m → News h₀ L h' (keep ++ nw) → Post v nw → (∀ p ∈ nw, p.1 ∉ small.map (·.1) → ∀ q ∈ news, q.1 ≠ p.1) → Q v { s with heap := h', toks := tk }) :
    wpAny (model Challenge.rw_iu0035_01.row.prog w) (ktrTop dp un gd cn cs L a ccd cl outer) (call (.ref f) args) Q E s :=
  wpAny_call (c p loose mean mg mb dp un gd cn cs a ccd cl outer A₀ base h₀ L m s _ B F X (newsSub N hs) T hk hd hu fun v h' tk nw F' N' st ap po => h v h' tk nw F' (newsBoth (ct.news N st) N') po fun r hr hn q hq e => by
    have h1 := ap r hr hn
    rw [← e, (N q hq).1] at h1
    cases h1)
end
/-- a goal laid aside for the hand -/
def Hold (P : Prop) : Prop := P
theorem Hold.mk {P : Prop} (h : Hold P) : P := h
theorem Hold.un {P : Prop} (h : P) : Hold P := h
/-! ## loops by an invariant over the frame's map and the whole ledger -/
section
variable {prog : Program} {w : World} {A : Around} {E : Value → Shared → Prop} {s : Shared} {env : Env} {h₀ : Heap} {x : Str} {body : List Stmt} {Q : Flow → Shared → Prop}

def TurnE (h₀ : Heap) (L I : Addr) (J : (Str → Option Value) → List (Addr × Obj) → Prop) (o : Obj) (s₁ s₂ : Shared) : Prop :=
  (X4 fun h' tk m' nw => A5 (s₂ = { s₁ with heap := h', toks := tk }) (Fr h₀ L h' m') (News h₀ L h' ((I, o) :: nw)) ((∀ p ∈ nw, p.1 ≠ I)) (J m' nw))
def TurnP (h₀ : Heap) (L I : Addr) (J : (Str → Option Value) → List (Addr × Obj) → Prop) (o : Obj) (s₁ : Shared) (Q : Flow → Shared → Prop) (f : Flow) (s₂ : Shared) : Prop :=
  match f with
  | .ret v => Q (.ret v) s₂
  | .brk => Q .next s₂
  | _ => TurnE h₀ L I J o s₁ s₂
theorem TurnE.intro {L I : Addr} {J : (Str → Option Value) → List (Addr × Obj) → Prop} {o : Obj} {s₁ : Shared} {h' : Heap} {tk : Nat} {m' : Str → Option Value} {nw : List (Addr × Obj)} (F : Fr h₀ L h' m') (N : News h₀ L h' ((I, o) :: nw))
    (hn : ∀ p ∈ nw, p.1 ≠ I) (hj : J m' nw) : TurnE h₀ L I J o s₁ { s₁ with heap := h', toks := tk } := ⟨h', tk, m', nw, rfl, F, N, hn, hj⟩

theorem TurnE.sub {L I : Addr} {J : (Str → Option Value) → List (Addr × Obj) → Prop} {o : Obj} {s₁ : Shared} {h' : Heap} {tk : Nat} {m' : Str → Option Value} {full : List (Addr × Obj)} (nw : List (Addr × Obj)) (F : Fr h₀ L h' m') (N : News h₀ L h' full)
    (hs : ∀ p ∈ (I, o) :: nw, p ∈ full) (hn : ∀ p ∈ nw, p.1 ≠ I) (hj : J m' nw) : TurnE h₀ L I J o s₁ { s₁ with heap := h', toks := tk } := TurnE.intro F (fun p hp => N p (hs p hp)) hn hj

theorem loop_gen {I : Addr} {fp : List Addr} {n : Nat} {P : Nat → Value → Prop} {St : Nat → Heap → Prop} {m₀ : Str → Option Value} {news : List (Addr × Obj)} (fixed : List (Addr × Obj)) (J : Nat → (Str → Option Value) → List (Addr × Obj) → Prop)
    (W : Walks prog w A I fp [I] n P St) (hIf : I ∈ fp) (hfp : ∀ b ∈ fp, b = I ∨ ∃ o, (b, o) ∈ fixed) (hfix : ∀ i m nw, J i m nw → ∀ p ∈ fixed, p ∈ nw)
    (hI0 : h₀.get? I = none) (hob : ∀ i h, St i h → ∃ o, h.get? I = some o) (hLI : env.locals ≠ I)
    (hst : St 0 s.heap) (F : Fr h₀ env.locals s.heap m₀) (N : News h₀ env.locals s.heap news) (hne : ∀ p ∈ news, p.1 ≠ I) (hJ : J 0 m₀ news)
    (turn : ∀ i v m₁ nw h tk o, i < n → P i v → J i m₁ nw → (∀ p ∈ nw, p.1 ≠ I) → Fr h₀ env.locals h (fun y => if y = x then some v else m₁ y) → News h₀ env.locals h ((I, o) :: nw) →
      wpAny (model prog w) A (execs body env) (TurnP h₀ env.locals I (J (i + 1)) o { s with heap := h, toks := tk } Q) E { s with heap := h, toks := tk })
    (done : ∀ m₁ nw h tk, J n m₁ nw → Fr h₀ env.locals h m₁ → News h₀ env.locals h nw → Q .next { s with heap := h, toks := tk }) :
    LoopAtV prog w A h₀ env x body Q E (.ref I) s := by
  have hfx0 := hfix 0 m₀ news hJ
  refine ⟨I, fp, [I], n, P, St, m₀, news, J, rfl, W, ?_, ?_, ?_, hst, F, N, hJ, ?_, ?_⟩
  · intro hm
    rcases hfp _ hm with e | ⟨o, ho⟩
    · exact hLI e
    · exact (N _ (hfx0 _ ho)).2.1 rfl
  · intro b hb; rw [List.mem_singleton.mp hb]; exact hI0
  · intro p hp hq; exact hne p hp (List.mem_singleton.mp hq)
  · rintro i v m₁ news₁ s₁ own ⟨hh', tk', rfl⟩ hin hP hJ₁ hoff hown hget hall hst' F₁ N₁
    obtain ⟨o, ho⟩ := hob _ _ hst'
    have hio : (I, o) ∈ own := hall I hIf hI0 o ho
    have N₂ : News h₀ env.locals hh' ((I, o) :: news₁) := fun p hp => by
      rcases List.mem_cons.mp hp with rfl | hp
      · exact N₁ _ (List.mem_append_left _ hio)
      · exact N₁ _ (List.mem_append_right _ hp)
    have hoff' : ∀ p ∈ news₁, p.1 ≠ I := fun p hp e => hoff p hp (by rw [e]; exact List.mem_singleton.mpr rfl)
    refine wpAny_mono (turn i v m₁ news₁ hh' tk' o hin hP hJ₁ hoff' F₁ N₂) (fun f s₂ p => ?_) fun _ _ e => e
    have fin : TurnE h₀ env.locals I (J (i + 1)) o { s with heap := hh', toks := tk' } s₂ → LoopStepU h₀ env.locals [I] own (J (i + 1)) { s with heap := hh', toks := tk' } .next s₂ := by
      rintro ⟨h', tk, m', news', rfl, F', N', hn, hj⟩
      refine ⟨rfl, h', tk, m', news', rfl, F', fun p hp => ?_, fun p hp hq => hn p hp (List.mem_singleton.mp hq), hj⟩
      rcases List.mem_append.mp hp with hp | hp
      · rcases hfp _ (hown p hp) with e | ⟨o', ho'⟩
        · have h1 := hget p hp
          dsimp only at h1 ho
          rw [e, ho] at h1
          have : p = (I, o) := Prod.ext e (Option.some.inj h1).symm
          rw [this]; exact N' _ (.head _)
        · have h1 := hget p hp
          have h2 := (N₁ _ (List.mem_append_right own (hfix i m₁ news₁ hJ₁ _ ho'))).1
          dsimp only at h1 h2
          rw [h2] at h1
          have : p = (p.1, o') := Prod.ext rfl (Option.some.inj h1).symm
          rw [this]; exact N' _ (.tail _ (hfix _ _ _ hj _ ho'))
      · exact N' _ (.tail _ hp)
    cases f with
    | ret v => exact .ret p
    | brk => exact .brk p
    | next => exact .next (fin p)
    | cont => exact .cont (fin p)
  · exact fun h' tk m' news' F' N' _ hj => done m' news' h' tk hj F' N'

/-- a loop over a range by any written step -/
theorem loop_range {r : Addr} {a₀ b₀ c₀ : Int} {t₀ u₀ v₀ : Tok} {n : Nat} {m₀ : Str → Option Value} {news : List (Addr × Obj)} (J : Nat → (Str → Option Value) → List (Addr × Obj) → Prop)
    (hh : A.handled = none) (hr : IsRange s.heap r a₀ b₀ c₀ t₀ u₀ v₀) (hsmall : Builtin.Range.small a₀ b₀ c₀ = true) (hn : Builtin.Range.rangeSize a₀ b₀ c₀ = (n : Int)) (F : Fr h₀ env.locals s.heap m₀) (N : News h₀ env.locals s.heap news) (hJ : J 0 m₀ news)
    (turn : ∀ i t m₁ nw h tk I o, i < n → J i m₁ nw → (∀ p ∈ news, p.1 < I) → (∀ p ∈ nw, p.1 ≠ I) → Fr h₀ env.locals h (fun y => if y = x then some (.int (a₀ + (i : Int) * c₀) t) else m₁ y) → News h₀ env.locals h ((I, o) :: nw) →
      wpAny (model prog w) A (execs body env) (TurnP h₀ env.locals I (J (i + 1)) o { s with heap := h, toks := tk } Q) E { s with heap := h, toks := tk })
    (done : ∀ m₁ nw h tk, J n m₁ nw → Fr h₀ env.locals h m₁ → News h₀ env.locals h nw → Q .next { s with heap := h, toks := tk }) :
    wpAny (model prog w) A (pyIter (.ref r)) (fun it s₂ => LoopAtV prog w A h₀ env x body Q E it s₂) E s := by
  refine wpAny_pyIter_range hr hsmall ?_
  have W : Walks prog w A s.heap.objs.size [s.heap.objs.size] [s.heap.objs.size] n (fun i v => i < n ∧ ∃ t, v = .int (a₀ + i * c₀) t)
      (fun i h => IsRangeIter h s.heap.objs.size (a₀ + (i : Nat) * c₀) ((n : Int) - (i : Nat)) c₀) := (Walks.range hh _ a₀ c₀ n).bound
  refine loop_gen (s := { s with heap := s.heap.push _ }) [] J W (List.mem_singleton.mpr rfl) (fun b hb => .inl (List.mem_singleton.mp hb)) (fun _ _ _ _ _ hp => nomatch hp) (next_is_new F) (fun i h hs => ⟨_, hs⟩) (Nat.ne_of_lt F.ns.lt)
    (by show IsRangeIter _ _ _ _ _; rw [hn]; simpa using Heap.get?_push_size _ rfl) (F.push _) (fun p hp => ⟨Heap.get?_push_of_some _ (N p hp).1, (N p hp).2⟩) (fun p hp => Nat.ne_of_lt (Heap.lt_size (N p hp).1)) hJ ?_ done
  rintro i v m₁ nw h tk o hi ⟨_, t, rfl⟩ hj hne F₁ N₁
  exact turn i t m₁ nw h tk _ o hi hj (fun p hp => Heap.lt_size (N p hp).1) hne F₁ N₁

/-- a loop over an iterator that stands in the ledger, over a sequence or a dict that stands there too -/
theorem loop_iter {I l : Addr} {n : Nat} {P : Nat → Value → Prop} {St : Nat → Heap → Prop} {m₀ : Str → Option Value} {oI lo : Obj} {news : List (Addr × Obj)} (J : Nat → (Str → Option Value) → List (Addr × Obj) → Prop)
    (W : Walks prog w A I [I, l] [I] n P St) (hob : ∀ i h, St i h → ∃ o, h.get? I = some o) (hst : St 0 s.heap) (F : Fr h₀ env.locals s.heap m₀) (N : News h₀ env.locals s.heap ((I, oI) :: news)) (hl : ∀ i m nw, J i m nw → (l, lo) ∈ nw) (hne : ∀ p ∈ news, p.1 ≠ I) (hJ : J 0 m₀ news)
    (turn : ∀ i v m₁ nw h tk o, i < n → P i v → J i m₁ nw → (∀ p ∈ nw, p.1 ≠ I) → Fr h₀ env.locals h (fun y => if y = x then some v else m₁ y) → News h₀ env.locals h ((I, o) :: nw) →
      wpAny (model prog w) A (execs body env) (TurnP h₀ env.locals I (J (i + 1)) o { s with heap := h, toks := tk } Q) E { s with heap := h, toks := tk })
    (done : ∀ m₁ nw h tk, J n m₁ nw → Fr h₀ env.locals h m₁ → News h₀ env.locals h nw → Q .next { s with heap := h, toks := tk }) :
    LoopAtV prog w A h₀ env x body Q E (.ref I) s :=
  loop_gen [(l, lo)] J W (.head _) (fun b hb => by
    rcases List.mem_cons.mp hb with e | hb
    · exact .inl e
    · exact .inr ⟨lo, by rw [List.mem_singleton.mp hb]; exact .head _⟩) (fun i m nw hj p hp => by rw [List.mem_singleton.mp hp]; exact hl i m nw hj) (N _ (.head _)).2.2 hob (Ne.symm (N _ (.head _)).2.1) hst F (fun p hp => N p (.tail _ hp)) hne hJ turn done
end

section
variable {prog : Program} {w : World} {A : Around} {E : Value → Shared → Prop} {s : Shared} {env : Env} {h₀ : Heap} {x : Str} {body : List Stmt} {Q : Flow → Shared → Prop} {K : Type} [DecidableEq K] {knd : KeyKind prog w K}
theorem loop_keys {d : Addr} {o : Obj} {hs : List (K × B)} {m₀ : Str → Option Value} {news : List (Addr × Obj)} (J : Nat → (Str → Option Value) → List (Addr × Obj) → Prop)
    (hh : A.handled = none) (lo : (d == sysModules) = false) (hD : DictB knd o hs) (F : Fr h₀ env.locals s.heap m₀) (N : News h₀ env.locals s.heap news) (hl : ∀ i m nw, J i m nw → (d, o) ∈ nw) (hJ : J 0 m₀ news)
    (turn : ∀ i k v m₁ nw h tk I oI, (hs.map (·.1))[i]? = some k → knd.is k v = true → J i m₁ nw → (∀ p ∈ news, p.1 < I) → (∀ p ∈ nw, p.1 ≠ I) → Fr h₀ env.locals h (fun y => if y = x then some v else m₁ y) → News h₀ env.locals h ((I, oI) :: nw) →
      wpAny (model prog w) A (execs body env) (TurnP h₀ env.locals I (J (i + 1)) oI { s with heap := h, toks := tk } Q) E { s with heap := h, toks := tk })
    (done : ∀ m₁ nw h tk, J hs.length m₁ nw → Fr h₀ env.locals h m₁ → News h₀ env.locals h nw → Q .next { s with heap := h, toks := tk }) :
    wpAny (model prog w) A (pyIter (.ref d)) (fun it s₂ => LoopAtV prog w A h₀ env x body Q E it s₂) E s := by
  obtain ⟨kvs, hd, hhs⟩ := hD
  obtain ⟨ep, ha⟩ := KdkAt.of hd
  have hdn := hl 0 m₀ news hJ
  have hat := ha.dictAt (N _ hdn).1
  refine wpAny_pyIter_dict lo hat ?_
  have hlt := Heap.lt_size (N _ hdn).1
  have W := Walks.dictKeys (prog := prog) (w := w) hh s.heap.objs.size d (Nat.ne_of_lt hlt) kvs ep (knd := knd)
  have hlen : kvs.length = hs.length := hhs.length
  refine loop_iter (s := { s with heap := s.heap.push _ }) (lo := o) J W (fun i h hs => let ⟨o, ho, _⟩ := hs.1; ⟨o, ho⟩) ⟨⟨_, Heap.get?_push_size _ rfl, rfl, rfl⟩, hat.at' fun o e => Heap.get?_push_of_some _ e⟩ (F.push _) (News.push F N _ rfl) hl (fun p hp => Nat.ne_of_lt (Heap.lt_size (N p hp).1)) hJ ?_ (by rw [hlen]; exact done)
  rintro i v m₁ nw h tk oI hi ⟨k, y, hk, hkv⟩ hj hne F₁ N₁
  refine turn i k v m₁ nw h tk _ oI ?_ hkv hj (fun p hp => Heap.lt_size (N p hp).1) hne F₁ N₁
  rw [← hhs.keys, List.getElem?_map, hk]; rfl

/-- `for y in l`: a list that stands in the ledger -/
theorem loop_list {l : Addr} {its : Array Value} {c : Nat} {m₀ : Str → Option Value} {news : List (Addr × Obj)} (J : Nat → (Str → Option Value) → List (Addr × Obj) → Prop)
    (hh : A.handled = none) (F : Fr h₀ env.locals s.heap m₀) (N : News h₀ env.locals s.heap news) (hl : ∀ i m nw, J i m nw → (l, listOf its c) ∈ nw) (hJ : J 0 m₀ news)
    (turn : ∀ i v m₁ nw h tk I oI, its[i]? = some v → J i m₁ nw → (∀ p ∈ news, p.1 < I) → (∀ p ∈ nw, p.1 ≠ I) → Fr h₀ env.locals h (fun y => if y = x then some v else m₁ y) → News h₀ env.locals h ((I, oI) :: nw) →
      wpAny (model prog w) A (execs body env) (TurnP h₀ env.locals I (J (i + 1)) oI { s with heap := h, toks := tk } Q) E { s with heap := h, toks := tk })
    (done : ∀ m₁ nw h tk, J its.size m₁ nw → Fr h₀ env.locals h m₁ → News h₀ env.locals h nw → Q .next { s with heap := h, toks := tk }) :
    wpAny (model prog w) A (pyIter (.ref l)) (fun it s₂ => LoopAtV prog w A h₀ env x body Q E it s₂) E s := by
  have hln := hl 0 m₀ news hJ
  have hls : s.heap.IsList l its := ⟨_, (N _ hln).1, rfl, c, rfl⟩
  have hlt := Heap.lt_size (N _ hln).1
  refine wpAny_pyIter_list hls ?_
  have W := Walks.list (prog := prog) (w := w) hh s.heap.objs.size l (Nat.ne_of_lt hlt) its
  refine loop_iter (s := { s with heap := s.heap.push _ }) (lo := listOf its c) J W (fun i h hs => let ⟨o, ho, _⟩ := hs.1; ⟨o, ho⟩) ⟨⟨_, Heap.get?_push_size _ rfl, rfl, rfl⟩, hls.at fun o e => Heap.get?_push_of_some _ e⟩ (F.push _) (News.push F N _ rfl) hl (fun p hp => Nat.ne_of_lt (Heap.lt_size (N p hp).1)) hJ ?_ done
  rintro i v m₁ nw h tk oI hi hv hj hne F₁ N₁
  exact turn i v m₁ nw h tk _ oI hv hj (fun p hp => Heap.lt_size (N p hp).1) hne F₁ N₁
end
section
variable {K : Type} [DecidableEq K] {prog : Program} {w : World}
variable {knd : KeyKind prog w K} {A : Around} {E : Value → Shared → Prop} {s : Shared} {h₀ : Heap} {L d : Addr} {news : List (Addr × Obj)} {o : Obj} {hs : List (K × B)} {k : K} {key : Value} {b : Bool}
theorem lk_put_self (hs : List (K × B)) (k : K) (x : B) : lk (put hs k x) k = some x := by rw [lk_put, if_pos rfl]
theorem isSome_t {α : Type} {o : Option α} {x : α} (h : o = some x) : o.isSome = true := by rw [h]; rfl
theorem isSome_f {α : Type} {o : Option α} (h : o = none) : o.isSome = false := by rw [h]; rfl
theorem dictB_notInB {Q : Value → Shared → Prop} (N : News h₀ L s.heap news) (hp : (d, o) ∈ news) (hd : DictB knd o hs) (lo : (d == sysModules) = false) (hkey : knd.is k key = true) (hb : (lk hs k).isSome = b) (h : Q (.bool (!b)) { s with toks := s.toks + 1 }) :
    wpAny (model prog w) A (compareOp .NotIn key (.ref d)) Q E s := dictB_notIn N hp hd lo hkey (by rw [hb]; exact h)
end

/-! ## to_bytes of any length -/
section
open PySem.Builtin.Int (intBits)
variable {prog : Program} {w : World} {A : Around} {E : Value → Shared → Prop} {s : Shared} {x : Int} {k : Nat} {t u v : Tok}
def beZ (k : Nat) (x : Int) : B := (KTBy.low x k).reverse
theorem beZ_length (k : Nat) (x : Int) : (beZ k x).length = k := by rw [beZ, List.length_reverse, KTBy.low_length]
theorem to_bytes_any {Q : Value → Shared → Prop} (hk : k ≤ 16777216) (h0 : 0 ≤ x) (h1 : x < 256 ^ k) (h : ∀ t' k', Q (.bytes (beZ k x).toArray t') { s with toks := k' }) :
    wpAny (model prog w) A (call (.builtin "int.to_bytes") [.int x t, .int (k : Int) u, .str (PySem.Str.ofString "big") v]) Q E s := by
  refine wpAny_call_entry KTBy.slot (typeIs_int s x t) KTBy.entry ?_ (KTBy.args _ _ _)
  have hb := KTBy.bits_le (k := k) rfl h0 h1
  show wpAny _ _ (Builtin.Int.intOfSelf (.int x t) >>= fun y => _) _ _ s
  refine wpAny_bind (wpAny_of_eq (a := x) rfl ?_)
  show wpAny _ _ (Builtin.Int.intBindNamed "to_bytes" ["length", "byteorder", "signed"] 0 2 [.int (k : Int) u, .str (PySem.Str.ofString "big") v] [] >>= fun l => _) _ _ s
  refine wpAny_bind (wpAny_of_eq (a := [some (.int (k : Int) u), some (.str (PySem.Str.ofString "big") v), none]) (by kernel_rfl) ?_)
  show wpAny _ _ (Builtin.Int.intIndex "int.to_bytes" (.int (k : Int) u) >>= fun n => _) _ _ s
  refine wpAny_bind (wpAny_of_eq (a := (k : Int)) rfl ?_)
  refine KTBy.if_not (by show (decide ((k : Int) < -(2 ^ 63 : Int)) || decide ((k : Int) ≥ 2 ^ 63)) = false; rw [decide_eq_false (show ¬ ((k : Int) < -(2 ^ 63 : Int)) by omega), decide_eq_false (show ¬ ((k : Int) ≥ 2 ^ 63) by omega)]; rfl) ?_
  refine wpAny_bind (wpAny_of_eq (a := PySem.Str.ofString "big") (by kernel_rfl) ?_)
  refine wpAny_bind (wpAny_of_eq (a := false) rfl ?_)
  refine wpAny_bind (wpAny_of_eq (a := false) (by kernel_rfl) ?_)
  refine wpAny_ite_false (decide_eq_false (show ¬ ((k : Int) < 0) by omega)) ?_
  refine wpAny_ite_false (decide_eq_false (show ¬ ((k : Int) > 2 ^ 63 - 1 - 33) by omega)) ?_
  refine wpAny_ite_false (decide_eq_false (show ¬ ((k : Int) > (sizeLine : Int)) by rw [sizeLine_eq]; omega)) ?_
  refine KTBy.if_not (by show (decide (x < 0) && !false) = false; rw [decide_eq_false (show ¬ x < 0 by omega)]; rfl) ?_
  refine KTBy.if_not (by show (_ && decide ((intBits x : Int) > 8 * (k : Int))) = false; rw [decide_eq_false (show ¬ ((intBits x : Int) > 8 * (k : Int)) by omega), Bool.and_false]) ?_
  exact wpAny_bind (wpAny_mkBytes (wpAny_pure ⟨_, rfl, h _ _⟩) (by show (List.reverse (KTBy.low x (Int.toNat (k : Int)))).length ≤ sizeLine; rw [List.length_reverse, KTBy.low_length, Int.toNat_natCast, sizeLine_eq]; omega))
end

/-! ## the register -/
/-- the i-th number of the register -/
def hv (i : Nat) : B := beZ 32 ((i : Int) + 1)
theorem hv_length (i : Nat) : (hv i).length = 32 := beZ_length _ _
theorem beZ_inj {k : Nat} {x y : Int} (hx0 : 0 ≤ x) (hx : x < 256 ^ k) (hy0 : 0 ≤ y) (hy : y < 256 ^ k) (e : beZ k x = beZ k y) : x = y := by
  have e1 : KTBy.low x k = KTBy.low y k := by simpa [beZ] using e
  have e2 := congrArg (List.map fun c : UInt8 => ((c.toNat : Nat) : Int)) e1
  rw [KTBy.low_ints hx0 hx, KTBy.low_ints hy0 hy, ← KTBy.little_eq, ← KTBy.little_eq] at e2
  clear e e1
  induction k generalizing x y with
  | zero => simp at hx hy; omega
  | succ k ih =>
    simp only [KTBy.little, List.cons.injEq] at e2
    have hk : (256 : Int) ^ (k + 1) = 256 * 256 ^ k := by rw [Int.pow_succ, Int.mul_comm]
    have := ih (x := x / 256) (y := y / 256) (by omega) (by omega) (by omega) (by omega) e2.2
    omega
def Reg (R : List B) (t x : B) : Prop := ∃ i, R[i]? = some t ∧ x = hv i
theorem Reg.length {R : List B} {t x : B} (h : Reg R t x) : x.length = 32 := by obtain ⟨i, _, rfl⟩ := h; exact hv_length i
theorem Reg.mono {R R' : List B} {t x : B} (h : Reg R t x) (hp : R <+: R') : Reg R' t x := by
  obtain ⟨i, hi, rfl⟩ := h
  obtain ⟨S, rfl⟩ := hp
  refine ⟨i, ?_, rfl⟩
  rw [List.getElem?_append_left (by obtain ⟨h, _⟩ := List.getElem?_eq_some_iff.mp hi; exact h)]; exact hi
theorem Reg.fn {R : List B} (hn : R.Nodup) {t x y : B} (h : Reg R t x) (h' : Reg R t y) : x = y := by
  obtain ⟨i, hi, rfl⟩ := h; obtain ⟨j, hj, rfl⟩ := h'
  obtain ⟨hi', e1⟩ := List.getElem?_eq_some_iff.mp hi
  obtain ⟨hj', e2⟩ := List.getElem?_eq_some_iff.mp hj
  have : i = j := (List.getElem_inj hn).mp (e1.trans e2.symm)
  rw [this]
theorem hv_inj {i j : Nat} (hi : i < 16777216) (hj : j < 16777216) (e : hv i = hv j) : i = j := by
  have h256 : (16777217 : Int) < 256 ^ 32 := by decide
  have := beZ_inj (by omega) (by omega) (by omega) (by omega) e
  omega
theorem Reg.inj {R : List B} (hl : R.length ≤ 16777216) {t u x : B} (h : Reg R t x) (h' : Reg R u x) : t = u := by
  obtain ⟨i, hi, rfl⟩ := h; obtain ⟨j, hj, e⟩ := h'
  obtain ⟨hi', e1⟩ := List.getElem?_eq_some_iff.mp hi
  obtain ⟨hj', e2⟩ := List.getElem?_eq_some_iff.mp hj
  have := hv_inj (by omega) (by omega) e
  subst this
  exact e1.symm.trans e2
/-- the register's pairs -/
def regOf (R : List B) : List (B × B) := R.zipIdx.map fun p => (p.1, hv p.2)
theorem regOf_length (R : List B) : (regOf R).length = R.length := by simp [regOf]
theorem regOf_keys (R : List B) : (regOf R).map (·.1) = R := by
  simp only [regOf, List.map_map]
  exact List.zipIdx_map_fst 0 R
theorem regOf_snoc (R : List B) (t : B) : regOf (R ++ [t]) = regOf R ++ [(t, hv R.length)] := by simp [regOf, List.zipIdx_append]
theorem lk_regOf_none {R : List B} {t : B} : lk (regOf R) t = none ↔ t ∉ R := by rw [lk_none_iff, regOf_keys]
theorem lk_regOf {R : List B} (hn : R.Nodup) {t x : B} (h : Reg R t x) : lk (regOf R) t = some x := by
  obtain ⟨i, hi, rfl⟩ := h
  refine lk_of_mem (by rw [regOf_keys]; exact hn) ?_
  simp only [regOf, List.mem_map]
  exact ⟨(t, i), List.mem_zipIdx_iff_getElem?.mpr (by simpa using hi), rfl⟩
theorem reg_of_lk {R : List B} {t x : B} (h : lk (regOf R) t = some x) : Reg R t x := by
  have := mem_of_lk h
  simp only [regOf, List.mem_map] at this
  obtain ⟨⟨u, i⟩, hm, e⟩ := this
  simp only [Prod.mk.injEq] at e
  obtain ⟨rfl, rfl⟩ := e
  exact ⟨i, by simpa using List.mem_zipIdx_iff_getElem?.mp hm, rfl⟩
/-! ## the closure -/
def hashStmt : Stmt := match Challenge.pw_iu0035_01.main.body.getD 10 (.Pass default) with
  | .FunctionDef _ _ [_, s, _] _ _ _ _ _ _ _ => s
  | _ => .Pass default
def hashParams : Arguments := match hashStmt with | .FunctionDef _ p _ _ _ _ _ _ _ _ => p | _ => default
def hashBody : List Stmt := match hashStmt with | .FunctionDef _ _ b _ _ _ _ _ _ _ => b | _ => []
def hashScope : Scope := match hashStmt with | .FunctionDef _ _ _ _ _ _ sc _ _ _ => sc | _ => default

/-- the ledger's group of the hash closure, its register being R -/
def HashG (w : World) (φ : Addr) (c₀ : Nat) (R : List B) (HG : List (Addr × Obj)) : Prop :=
  (X12 fun (κ ρ γ : Addr) (oc o oγ : Obj) (vs : Array Value) (t : Tok) (qual : Str) (doc pm ctv : Value) => A11 (HG = [(φ, fnMade (Str.ofString "hash_of") qual hashParams hashBody hashScope [(Str.ofString "register", γ)] doc pm κ ctv), (κ, oc), (ρ, o), (γ, oγ)]) (oc.data = .fields vs) (vs[1]? = some (.str qual t)) (oγ.data = .cell (some (.ref ρ))) (DictB (bytesKind Challenge.rw_iu0035_01.row.prog w) o (regOf R)) ((ρ == sysModules) = false) (ρ ≠ φ) (ρ ≠ κ) (ρ ≠ γ) (R.Nodup) ((@LT.lt Nat _ φ c₀ ∧ @LT.lt Nat _ κ c₀ ∧ @LT.lt Nat _ ρ c₀ ∧ @LT.lt Nat _ γ c₀ ∧ @LT.lt Nat _ 153 φ ∧ @LT.lt Nat _ 153 κ ∧ @LT.lt Nat _ 153 ρ ∧ @LT.lt Nat _ 153 γ)))


theorem HashG.nodup {w : World} {φ : Addr} {c₀ : Nat} {R : List B} {HG : List (Addr × Obj)} (H : HashG w φ c₀ R HG) : R.Nodup := by
  obtain ⟨κ, ρ, γ, oc, o, oγ, vs, t', qual, doc, pm, ctv, rfl, hd1, hd2, hd3, hD, hlo, n1, n2, n3, hnd, hc⟩ := H
  exact hnd
theorem HashG.off {w : World} {φ : Addr} {c₀ a : Nat} {R : List B} {HG : List (Addr × Obj)} (H : HashG w φ c₀ R HG) (h : c₀ ≤ a) : ∀ p ∈ HG, p.1 ≠ a := by
  obtain ⟨κ, ρ, γ, oc, o, oγ, vs, t', qual, doc, pm, ctv, rfl, hd1, hd2, hd3, hD, hlo, n1, n2, n3, hnd, h1, h2, h3, h4⟩ := H
  intro p hp
  simp only [List.mem_cons, List.not_mem_nil, or_false] at hp
  rcases hp with rfl | rfl | rfl | rfl <;> (refine neN ?_; dsimp only; omega)
theorem HashG.fn {w : World} {φ : Addr} {c₀ : Nat} {R : List B} {HG : List (Addr × Obj)} (H : HashG w φ c₀ R HG) {h₀ h : Heap} {L : Addr} {news : List (Addr × Obj)} (N : News h₀ L h news) (hs : ∀ p ∈ HG, p ∈ news) : FnAt φ h := by
  obtain ⟨κ, ρ, γ, oc, o, oγ, vs, t', qual, doc, pm, ctv, rfl, hd1, hd2, hd3, hD, hlo, n1, n2, n3, hnd, hc⟩ := H
  exact FnAt.of N (hs _ (.head _))

theorem HashG.off153 {w : World} {φ : Addr} {c₀ : Nat} {R : List B} {HG : List (Addr × Obj)} (H : HashG w φ c₀ R HG) : ∀ p ∈ HG, p.1 ≠ 153 := by
  obtain ⟨κ, ρ, γ, oc, o, oγ, vs, t', qual, doc, pm, ctv, rfl, hd1, hd2, hd3, hD, hlo, n1, n2, n3, hnd, h1, h2, h3, h4⟩ := H
  intro p hp
  simp only [List.mem_cons, List.not_mem_nil, or_false] at hp
  rcases hp with rfl | rfl | rfl | rfl <;> (refine neN ?_; dsimp only; omega)
/-! ## rules over octet strings -/
section
variable {prog : Program} {w : World} {A : Around} {E : Value → Shared → Prop} {s : Shared} {h₀ : Heap} {L d : Addr} {m : Str → Option Value} {news : List (Addr × Obj)} {t u : Tok} {x y : B}
theorem len_b {Q : Value → Shared → Prop} (hz : x.length ≤ 16777216) (h : ∀ t' k, Q (.int (x.length : Int) t') { s with toks := k }) : wpAny (model prog w) A (call (.builtin "len") [.bytes x.toArray t]) Q E s :=
  len_bytes (by rw [List.size_toArray]; omega) (by rw [List.size_toArray]; exact h _ _)
theorem add_b {Q : Value → Shared → Prop} (hz : x.length + y.length ≤ 16777216) (h : ∀ t' k, Q (.bytes (x ++ y).toArray t') { s with toks := k }) : wpAny (model prog w) A (binaryOp .Add (.bytes x.toArray t) (.bytes y.toArray u)) Q E s :=
  KBy.add_bytes (by rw [List.size_toArray, List.size_toArray]; exact hz) (fun t' k => by rw [List.append_toArray]; exact h t' k)
theorem eq_b {Q : Value → Shared → Prop} (h : Q (.bool (decide (x = y))) s) : wpAny (model prog w) A (compareOp .Eq (.bytes x.toArray t) (.bytes y.toArray u)) Q E s :=
  eq_bytes (by have e : (x.toArray.toList == y.toArray.toList) = decide (x = y) := by rw [Bool.eq_iff_iff]; simp
               rw [e]; exact h)
theorem ne_b {Q : Value → Shared → Prop} (h : Q (.bool (!decide (x = y))) s) : wpAny (model prog w) A (compareOp .NotEq (.bytes x.toArray t) (.bytes y.toArray u)) Q E s :=
  ne_bytes (by have e : (x.toArray.toList != y.toArray.toList) = !decide (x = y) := by rw [Bool.eq_iff_iff]; simp
               rw [e]; exact h)
theorem slice_any {value slice : PySem.Expr} {l r : Value} {lo hi : Option Int} {Q : Value → Shared → Prop} (hF : Fr h₀ L s.heap m) (hN : News h₀ L s.heap news) (hl : IsPart l lo) (hu : IsPart r hi) (hz : x.length ≤ 16777216)
    (hy : (x.drop (lo.elim 0 (clipAt x.length))).take (hi.elim x.length (clipAt x.length) - lo.elim 0 (clipAt x.length)) = y)
    (h : ∀ h' t' k, Fr h₀ L h' m → News h₀ L h' news → Q (.bytes y.toArray t') { s with heap := h', toks := k })
    (hs : subscripted slice false (.bytes x.toArray t) (.ref s.heap.objs.size) = operate [.ref s.heap.objs.size, .bytes x.toArray t] (getItem (.bytes x.toArray t) (.ref s.heap.objs.size)) := by with_unfolding_all rfl)
    (ht : ∀ r, letTemporaryGo value (.bytes x.toArray t) r = pure () := by intro _; with_unfolding_all rfl) :
    wpAny (model prog w) A (subscriptTail value slice (.bytes x.toArray t) (.ref s.heap.objs.size)) Q E { s with heap := s.heap.push { cls := .type "slice", data := .fields #[l, r, .none] } } :=
  KBc.slice_K hF hN rfl hl hu (by rw [KBw.ints_length, List.size_toArray]; exact hz) (fun h' t' k F' N' _ => by
    have e : KBy.picked x.toArray lo hi = y.toArray := by
      rw [KBc.picked_eq, ← hy]; simp
    rw [e]; exact h h' t' k F' N') hs ht
theorem cut_lo (x : B) (k : Nat) : (x.drop ((none : Option Int).elim 0 (clipAt x.length))).take ((some (@OfNat.ofNat Int k instOfNat)).elim x.length (clipAt x.length) - (none : Option Int).elim 0 (clipAt x.length)) = x.take k := by
  show (x.drop 0).take (clipAt x.length (@OfNat.ofNat Int k instOfNat) - 0) = _
  rw [KBc.clip_lit, List.drop_zero, Nat.sub_zero]
  rcases Nat.le_total k x.length with h | h
  · rw [Nat.min_eq_left h]
  · rw [Nat.min_eq_right h, List.take_length, List.take_of_length_le h]
theorem cut_hi (x : B) (k : Nat) : (x.drop ((some (@OfNat.ofNat Int k instOfNat)).elim 0 (clipAt x.length))).take ((none : Option Int).elim x.length (clipAt x.length) - (some (@OfNat.ofNat Int k instOfNat)).elim 0 (clipAt x.length)) = x.drop k := by
  show (x.drop (clipAt x.length (@OfNat.ofNat Int k instOfNat))).take (x.length - clipAt x.length (@OfNat.ofNat Int k instOfNat)) = _
  rw [KBc.clip_lit]
  rcases Nat.le_total k x.length with h | h
  · rw [Nat.min_eq_left h, List.take_of_length_le (by simp)]
  · rw [Nat.min_eq_right h, List.drop_length, List.drop_of_length_le h]; simp
/-- the number that an octet string writes -/
def natOf (k : B) : Nat := k.foldl (fun (acc : Nat) (b : UInt8) => acc * 256 + b.toNat) 0
theorem from_b {a : Addr} {Q : Value → Shared → Prop} (N : News h₀ L s.heap news) (hm : (a, KFB.bound) ∈ news) (hl : x.length ≤ 8) (h : ∀ t' k, Q (.int (natOf x : Int) t') { s with toks := k }) :
    wpAny (model prog w) A (call (.ref a) [.bytes x.toArray t, .str (PySem.Str.ofString "big") u]) Q E s :=
  KFB.call_big N hm rfl (by rw [KBw.ints_length, List.size_toArray]; exact hl) (fun t' k => by
    have e : KFB.value (KBw.bInts x.toArray) = (natOf x : Int) := (KFB.fold_cast x 0).symm
    rw [e]; exact h t' k)
theorem len_t {a : Addr} {vs : List Value} {n : Nat} {Q : Value → Shared → Prop} (N : News h₀ L s.heap news) (hm : (a, ({ cls := .type "tuple", data := .seq vs.toArray n } : Obj)) ∈ news) (hl : vs.length ≤ 16777216) (h : ∀ t' k, Q (.int (vs.length : Int) t') { s with toks := k }) :
    wpAny (model prog w) A (call (.builtin "len") [.ref a]) Q E s :=
  len_tuple ⟨_, (N _ hm).1, rfl, n, rfl⟩ (by rw [List.size_toArray]; omega) (by rw [List.size_toArray]; exact h _ _)
end
abbrev tupOf (vs : List Value) : Obj := { cls := .type "tuple", data := .seq vs.toArray }
section
variable {w : World} {φ : Addr} {c₀ : Nat} {R : List B} {HG : List (Addr × Obj)} {news keep : List (Addr × Obj)}
  {p : Program} {loose : List Str} {mean : ExcName → Option Value} {mg mb : Str → Option Value} {dp un : Nat} {gd : Option (List Code)} {cn : Str} {cs : Scope} {a : Addr} {ccd : Value} {cl : List (Str × Addr)} {outer : List Env} {A₀ : Around} {base h₀ : Heap} {L : Addr} {m : Str → Option Value} {s : Shared}
end
theorem con_vb_dummy : True := trivial
section
variable {prog : Program} {w : World} {A : Around} {E : Value → Shared → Prop} {s : Shared} {h₀ : Heap} {L D : Addr} {m : Str → Option Value} {news news' : List (Addr × Obj)} {t u : Tok} {vs : List Value} {c : Nat} {v : Value}
theorem append_L {Q : Value → Shared → Prop} (F : Fr h₀ L s.heap m) (N : News h₀ L s.heap news) (U : Upd D (listOf vs.toArray c) (listOf (vs ++ [v]).toArray (c + 1)) news news')
    (hz : vs.length ≤ 16777216) (h : ∀ h', Fr h₀ L h' m → News h₀ L h' news' → Q .none { s with heap := h' }) : wpAny (model prog w) A (call (.builtin "list.append") [.ref D, v]) Q E s := by
  have e : (vs ++ [v]).toArray = vs.toArray.push v := by simp
  rw [e] at U
  exact append_K F N U h (by rw [List.size_toArray, sizeLine_eq]; exact hz)
theorem insert_L {Q : Value → Shared → Prop} (F : Fr h₀ L s.heap m) (N : News h₀ L s.heap news) (U : Upd D (listOf vs.toArray c) (listOf (v :: vs).toArray (c + 1)) news news')
    (hz : vs.length ≤ 16777216) (h : ∀ h', Fr h₀ L h' m → News h₀ L h' news' → Q .none { s with heap := h' }) : wpAny (model prog w) A (call (.builtin "list.insert") [.ref D, .int 0 u, v]) Q E s := by
  refine kl_insert (l := v :: vs) F N (by decide) ?_ U (by rw [sizeLine_eq]; exact hz) h
  show List.take (min 0 vs.length) vs ++ v :: List.drop (min 0 vs.length) vs = v :: vs
  rw [Nat.zero_min]; rfl
theorem tuple_L {Q : Value → Shared → Prop} (F : Fr h₀ L s.heap m) (N : News h₀ L s.heap news) (hm : (D, listOf vs.toArray c) ∈ news) (hz : vs.length ≤ 16777216)
    (h : ∀ T h', Fr h₀ L h' m → News h₀ L h' ((T, tupOf vs) :: news) → (∀ p ∈ news, p.1 < T) → Q (.ref T) { s with heap := h' }) : wpAny (model prog w) A (call (.type "tuple") [.ref D]) Q E s := by
  refine call_tuple_list (items := vs.toArray) ⟨_, (N _ hm).1, rfl, c, rfl⟩ (fun h' hk => ?_) (by rw [List.size_toArray, sizeLine_eq]; exact hz)
  have F' : Fr h₀ L h' m := F.keeps hk
  have N' : News h₀ L h' news := fun p hp => ⟨hk _ _ (N p hp).1, (N p hp).2⟩
  exact h _ _ (F'.push _) (N'.push F' _) fun p hp => Heap.lt_size (N' p hp).1
theorem and_bit0 {p k : Nat} {Q : Value → Shared → Prop} (hb : p / 2 ^ k % 2 = 0) (h : ∀ t' k', Q (.int 0 t') { s with toks := k' }) : wpAny (model prog w) A (binaryOp .BitAnd (.int (p : Int) t) (.int ((2 ^ k : Nat) : Int) u)) Q E s := by
  refine and_int ?_
  have e : Builtin.bitAnd (p : Int) ((2 ^ k : Nat) : Int) = 0 := by
    rw [kbt_cast, kbt_bit, ← kbt_cast, ← Int.natCast_ediv]
    have : ((p / 2 ^ k : Nat) : Int) % 2 = 0 := by omega
    rw [this, Int.zero_mul]
  rw [e]; exact h _ _
theorem and_bit1 {p k : Nat} {Q : Value → Shared → Prop} (hb : p / 2 ^ k % 2 = 1) (h : ∀ t' k', Q (.int ((2 ^ k : Nat) : Int) t') { s with toks := k' }) : wpAny (model prog w) A (binaryOp .BitAnd (.int (p : Int) t) (.int ((2 ^ k : Nat) : Int) u)) Q E s := by
  refine and_int ?_
  have e : Builtin.bitAnd (p : Int) ((2 ^ k : Nat) : Int) = ((2 ^ k : Nat) : Int) := by
    rw [kbt_cast, kbt_bit, ← kbt_cast, ← Int.natCast_ediv]
    have : ((p / 2 ^ k : Nat) : Int) % 2 = 1 := by omega
    rw [this, Int.one_mul]
  rw [e]; exact h _ _
end
theorem small_up {a b c : Int} (h : Builtin.Range.small a b c = true) : Builtin.Range.small a b c = true := h
theorem take_app {l r : B} {k : Nat} (h : l.length = k) : (l ++ r).take k = l := by subst h; simp
theorem drop_app {l r : B} {k : Nat} (h : l.length = k) : (l ++ r).drop k = r := by subst h; simp
/-- the target bit, from the top down -/
def tbD (dep i : Nat) : Int := if i < dep then ((2 ^ (dep - 1 - i) : Nat) : Int) else 0
theorem tbD_in {dep i : Nat} (h : i < dep) : tbD dep i = ((2 ^ (dep - 1 - i) : Nat) : Int) := if_pos h
theorem tbD_next {dep i : Nat} (h : i < dep) : ((2 ^ (dep - 1 - i) : Nat) : Int).fdiv (2 ^ (1 : Int).toNat) = tbD dep (i + 1) := by
  unfold tbD
  rw [Int.fdiv_eq_ediv_of_nonneg _ (by decide)]
  show ((2 ^ (dep - 1 - i) : Nat) : Int) / 2 = _
  by_cases c : i + 1 < dep
  · rw [if_pos c]
    have e : dep - 1 - i = (dep - 1 - (i + 1)) + 1 := by omega
    rw [e, Nat.pow_succ]
    omega
  · rw [if_neg c]
    have e : dep - 1 - i = 0 := by omega
    rw [e]; decide
/-! ## the tree's objects -/
abbrev treeEs (H : Nat → Int) (T U : Nat → Tok) (size dep : Nat) (dflt : B) (φ δ : Addr) (root : B) : List DictEntry :=
  [⟨H 0, .str (Str.ofString "_key_size") (T 0), .int (size : Int) (U 0)⟩, ⟨H 1, .str (Str.ofString "depth") (T 1), .int (dep : Int) (U 1)⟩, ⟨H 2, .str (Str.ofString "_default") (T 2), .bytes dflt.toArray (U 2)⟩,
   ⟨H 3, .str (Str.ofString "hash_of") (T 3), .ref φ⟩, ⟨H 4, .str (Str.ofString "db") (T 4), .ref δ⟩, ⟨H 5, .str (Str.ofString "root_hash") (T 5), .bytes root.toArray (U 5)⟩]

/-- the node x of height k at place i stands in the store D, the leaves being val -/
noncomputable def TN (D : List (B × B)) (val : Nat → B) : Nat → Nat → B → Prop
  | 0, i, x => x.length = 32 ∧ lk D x = some (val i)
  | k + 1, i, x => x.length = 32 ∧ ∃ l r, TN D val k (2 * i) l ∧ TN D val k (2 * i + 1) r ∧ lk D x = some (l ++ r)
theorem TN.length {D : List (B × B)} {val : Nat → B} {k i : Nat} {x : B} (h : TN D val k i x) : x.length = 32 := by
  cases k <;> exact h.1
/-- the neighbour's place -/
def sib (i : Nat) : Nat := if i % 2 = 0 then i + 1 else i - 1

theorem frKnow {h₀ h : Heap} {L : Addr} {m : Str → Option Value} {n : Str} {v : Value} (F : Fr h₀ L h m) (e : m n = some v) : Fr h₀ L h (fun y => if y = n then some v else m y) := by
  have : (fun y => if y = n then some v else m y) = m := by
    funext y
    by_cases c : y = n
    · subst c; simp [e]
    · simp [c]
  rw [this]; exact F
theorem snocAll {xs : List B} {x : B} {P : Nat → B → Prop} (h : ∀ j y, xs[j]? = some y → P j y) (hx : P xs.length x) : ∀ j y, (xs ++ [x])[j]? = some y → P j y := by
  intro j y hj
  rcases Nat.lt_trichotomy j xs.length with c | c | c
  · rw [List.getElem?_append_left c] at hj; exact h j y hj
  · subst c; simp at hj; subst hj; exact hx
  · rw [List.getElem?_eq_none (by simp; omega)] at hj; cases hj
theorem halfDiv (p k : Nat) : p / 2 ^ (k + 1) = p / 2 ^ k / 2 := by rw [Nat.pow_succ, Nat.div_div_eq_div_mul]
/-! ## reversed(tuple) -/
namespace Rv
theorem slot_next : Slot "reversed" "__next__" "reversed.__next__" :=
  .of (owner := "reversed") (n := "__next__") (by rw [typeLookup_type, builtinLookup_eq_fast]; kernel_rfl) (by decide +kernel) (by decide +kernel) (by decide +kernel)
    (by first | exact .inl (by decide +kernel) | exact .inr (by decide +kernel)) (by rw [isSubtype_type]; kernel_rfl)
theorem entry_next : entryFor table "reversed.__next__" = some Builtin.«reversed.__next__» := entryFor_of_tree (by kernel_rfl)
theorem args_next (a : Value) : argsOk "reversed.__next__" ⟨[a], []⟩ := by unfold argsOk; kernel_rfl
theorem slot_iter : Slot "reversed" "__iter__" "reversed.__iter__" :=
  .of (owner := "reversed") (n := "__iter__") (by rw [typeLookup_type, builtinLookup_eq_fast]; kernel_rfl) (by decide +kernel) (by decide +kernel) (by decide +kernel)
    (by first | exact .inl (by decide +kernel) | exact .inr (by decide +kernel)) (by rw [isSubtype_type]; kernel_rfl)
theorem entry_iter : entryFor table "reversed.__iter__" = some Builtin.«dict_keyiterator.__iter__» :=
  entryFor_alias (id' := "dict_keyiterator.__iter__") (by kernel_rfl) (by first | rfl | decide +kernel | (unfold String.splitOn; simp +decide [String.splitOnAux])) (by decide +kernel) (by kernel_rfl)
theorem args_iter (a : Value) : argsOk "reversed.__iter__" ⟨[a], []⟩ := by unfold argsOk; kernel_rfl
theorem slot_init : Slot "reversed" "__init__" "object.__init__" :=
  .of (owner := "object") (n := "__init__") (by rw [typeLookup_type, builtinLookup_eq_fast]; kernel_rfl) (by decide +kernel) (by decide +kernel) (by decide +kernel)
    (by first | exact .inl (by decide +kernel) | exact .inr (by decide +kernel)) (by rw [isSubtype_type]; kernel_rfl)
theorem called : TypeCalled "reversed" "reversed.__new__" "object.__init__" :=
  ⟨by decide +kernel, by decide +kernel, ⟨_, _, F.mro_reversed⟩, F.made_reversed, by decide +kernel, by rw [isSubtype_type]; kernel_rfl, slot_init⟩
theorem no_reversed : typeLookup (.type "tuple") "__reversed__" = pure none := by rw [typeLookup_type, builtinLookup_eq_fast]; kernel_rfl
theorem sub_dict : isSubtype (.type "tuple") (.type "dict") = pure false := by rw [isSubtype_type]; kernel_rfl
theorem slot_get : Slot "tuple" "__getitem__" "tuple.__getitem__" :=
  .of (owner := "tuple") (n := "__getitem__") (by rw [typeLookup_type, builtinLookup_eq_fast]; kernel_rfl) (by decide +kernel) (by decide +kernel) (by decide +kernel)
    (by first | exact .inl (by decide +kernel) | exact .inr (by decide +kernel)) (by rw [isSubtype_type]; kernel_rfl)

section
variable {prog : Program} {w : World} {A : Around} {E : Value → Shared → Prop} {s : Shared}
def rtObj (l : Addr) (i : Int) : Obj := { cls := .type "reversed", data := .fields #[.ref l, rawInt i] }
def At (h : Heap) (a l : Addr) (i : Int) : Prop := ∃ o, h.get? a = some o ∧ o.cls = .type "reversed" ∧ o.data = .fields #[.ref l, rawInt i]
theorem At.typeIs {a l : Addr} {i : Int} (x : At s.heap a l i) : s.TypeIs (.ref a) "reversed" := let ⟨o, ho, hc, _⟩ := x; ⟨o, ho, hc⟩
theorem At.at {h h' : Heap} {a l : Addr} {i : Int} (x : At h a l i) (e : ∀ o, h.get? a = some o → h'.get? a = some o) : At h' a l i := let ⟨o, ho, r⟩ := x; ⟨o, e _ ho, r⟩
theorem keepsTup {h h' : Heap} {a : Addr} {items : Array Value} (x : IsTup h a items) (e : ∀ o, h.get? a = some o → h'.get? a = some o) : IsTup h' a items := let ⟨o, ho, r⟩ := x; ⟨o, e _ ho, r⟩

theorem code_new {l : Addr} {items : Array Value} {Q₁ : Value → Shared → Prop} (hl : IsTup s.heap l items) (hz : (items.size : Int) < 2 ^ 63)
    (h : ∀ tk, Q₁ (.ref s.heap.objs.size) { s with heap := s.heap.push (rtObj l ((items.size : Int) - 1)), toks := tk }) :
    codeAny (model prog w) A (.call (.builtin "reversed.__new__") ⟨[.type "reversed", .ref l], []⟩) (wants Q₁ E) s := by
  refine codeAny_of_tree ?_
  show wpAny _ A.in1 (do checkBuiltinCall "reversed.__new__" ⟨[.type "reversed", .ref l], []⟩; again (.builtin "reversed.__new__" ⟨[.type "reversed", .ref l], []⟩)) _ _ s
  refine wpAny_bind (wpAny_of_eq (F.newCall_reversed_1 _) (wpAny_pure ⟨plainId_quiet F.plain_reversed_new _, codeAny_builtin F.entry_reversed_new ?_⟩))
  rw [Around.under_plainId F.plain_reversed_new _]
  unfold Builtin.«reversed.__new__»
  refine wpAny_bind (wpAny_of_eq (newClass_reversed _) ?_)
  try dsimp only
  refine wpAny_bind (wpAny_of_eq (a := ()) (by first | rfl | kernel_rfl) ?_)
  refine wpAny_bind (wpAny_of_eq (a := ()) (by first | rfl | kernel_rfl) ?_)
  try dsimp only
  refine wpAny_bind (wpAny_specialOf hl.typeIs no_reversed ?_)
  try dsimp only
  refine wpAny_bind ?_
  show wpAny _ _ (isInstance (.ref l) (.type "dict") >>= _) _ _ s
  refine wpAny_bind (wpAny_isInstance (T := "tuple") (b := false) hl.typeIs sub_dict ?_)
  simp only [Bool.false_eq_true, if_false]
  refine wpAny_bind (wpAny_specialOf hl.typeIs slot_get.lookup ?_)
  dsimp only
  rw [if_pos (by decide)]
  refine wpAny_pure ?_
  simp only [Bool.not_true, Bool.false_eq_true, if_false]
  refine wpAny_bind (len_tuple hl hz ?_)
  refine wpAny_bind (wpAny_of_eq (a := some (items.size : Int)) (by rfl) ?_)
  dsimp only
  refine wpAny_bind ?_
  unfold Builtin.SmallTypes.newRecord
  exact wpAny_newObj_type (wpAny_pure (h _))

theorem call_reversed {l : Addr} {items : Array Value} {Q : Value → Shared → Prop} (hl : IsTup s.heap l items) (hz : (items.size : Int) < 2 ^ 63)
    (h : ∀ tk, Q (.ref s.heap.objs.size) { s with heap := s.heap.push (rtObj l ((items.size : Int) - 1)), toks := tk }) : wpAny (model prog w) A (call (.type "reversed") [.ref l]) Q E s := by
  refine callType_codes (Q₁ := fun obj s₁ => s₁.TypeIs obj "reversed" ∧ Q obj s₁) called (F.typeCall_reversed_1 _) F.entry_object_init
    (code_new hl hz fun tk => ⟨⟨_, Heap.get?_push_size _ rfl, rfl⟩, h tk⟩) fun obj s₁ h₁ => ?_
  exact ⟨h₁.1, F.args_object_init_2 obj _, object_init_meets called.init.lookup called.made (by decide) prog w A.in1 _ s₁ ⟨h₁.1, rfl, h₁.2⟩⟩

theorem next_item {it l : Addr} {i : Nat} {items : Array Value} {x : Value} {Q : Option Value → Shared → Prop} (hit : At s.heap it l (i : Int)) (hl : IsTup s.heap l items) (hx : items[i]? = some x) (hz : items.size ≤ 16777216)
    (hQ : ∀ h' tk, At h' it l ((i : Int) - 1) → Heap.SameBut it s.heap h' → Q (some x) { s with heap := h', toks := tk }) : wpAny (model prog w) A (pyNext (.ref it)) Q E s := by
  obtain ⟨o, ho, hc, hd⟩ := id hit
  have hlt : i < items.size := (Array.getElem?_eq_some_iff.mp hx).1
  unfold pyNext
  refine wpAny_bind (wpAny_attempt (wpAny_callSpecial?_slot (name := Str.ofString "__next__") hit.typeIs slot_next
    (wpAny_call_entry slot_next hit.typeIs entry_next ?_ (args_next _))))
  unfold Builtin.«reversed.__next__»
  refine wpAny_bind (wpAny_of_eq (a := (Value.ref it, [])) rfl ?_)
  try dsimp only
  refine wpAny_bind (wpAny_field ho hd (x := .ref l) rfl ?_)
  refine wpAny_bind (wpAny_field ho hd (x := rawInt (i : Int)) rfl ?_)
  show wpAny _ _ (if (i : Int) < 0 then _ else _) _ _ s
  rw [if_neg (by omega)]
  refine wpAny_bind (wpAny_specialOf hl.typeIs slot_get.lookup ?_)
  simp only [Option.isNone_some, Bool.false_eq_true, if_false]
  refine wpAny_bind (wpAny_mkInt ?_)
  have hi : seqIndex? (i : Int) items.size = some i := by
    unfold seqIndex?
    have h1 : ¬ ((i : Int) < 0) := by omega
    simp [h1, hlt]
  refine wpAny_bind (wpAny_attempt (getItem_tuple (s := { s with toks := s.toks + 1 }) hl (by omega) (by omega) hi hx ?_))
  dsimp only
  refine wpAny_bind (wpAny_field ho hd (x := rawInt (i : Int)) rfl ?_)
  show wpAny _ _ (setField (.ref it) 1 (rawInt ((i : Int) - 1)) >>= _) _ _ _
  refine wpAny_bind (wpAny_setField ho hd (by simp) ?_)
  refine wpAny_pure ⟨x, rfl, wpAny_pure (hQ _ _ ?_ (Heap.SameBut.update ..))⟩
  exact ⟨_, Heap.get?_update_self _ ho (Obj.isFreed_of_fields (Obj.data_mapFields hd _)), (Obj.cls_mapFields ..).trans hc, by
    rw [Obj.data_mapFields hd]; simp⟩

theorem next_end {it l : Addr} {Q : Option Value → Shared → Prop} (hh : A.handled = none) (hit : At s.heap it l (-1))
    (hQ : ∀ h', Heap.ExtBut it s.heap h' → Q none { s with heap := h' }) : wpAny (model prog w) A (pyNext (.ref it)) Q E s := by
  obtain ⟨o, ho, hc, hd⟩ := id hit
  unfold pyNext
  refine wpAny_bind (wpAny_attempt (wpAny_callSpecial?_slot (name := Str.ofString "__next__") hit.typeIs slot_next
    (wpAny_call_entry slot_next hit.typeIs entry_next ?_ (args_next _))))
  unfold Builtin.«reversed.__next__»
  refine wpAny_bind (wpAny_of_eq (a := (Value.ref it, [])) rfl ?_)
  try dsimp only
  refine wpAny_bind (wpAny_field ho hd (x := .ref l) rfl ?_)
  refine wpAny_bind (wpAny_field ho hd (x := rawInt (-1)) rfl ?_)
  show wpAny _ _ (if (-1 : Int) < 0 then _ else _) _ _ s
  rw [if_pos (by decide)]
  refine wpAny_bind (wpAny_rule ?_)
  refine wpAny_bind ?_
  show wpAny _ _ (setField (.ref it) 1 (rawInt (-1)) >>= _) _ _ _
  refine wpAny_bind (wpAny_setField ho hd (by simp) ?_)
  have ho2 := Heap.get?_update_self (Obj.mapFields (·.setIfInBounds 1 (rawInt (-1)))) ho (Obj.isFreed_of_fields (Obj.data_mapFields hd _))
  refine wpAny_setField ho2 (Obj.data_mapFields hd _) (by simp) ?_
  refine wpAny_bind ?_
  unfold Builtin.SmallTypes.stopIteration
  refine wpAny_bind ?_
  simp only [newExc, newTuple]
  refine wpAny_bind (wpAny_newObj_type ?_ (by size_fits))
  refine wpAny_bind (m := firstArgMember _ _) (wpAny_of_eq (a := Value.none) (by first | rfl | (simp only [firstArgMember]; rfl)) ?_)
  refine wpAny_newObj_type ?_ (by size_fits)
  simp only [raiseNew]
  refine wpAny_bind (wpAny_handled ?_)
  first | rw [show A.in1.handled = none from hh] | rw [hh]
  refine wpAny_bind (wpAny_pure (wpAny_throw ?_))
  refine wpAny_bind (wpAny_isInstance (T := "StopIteration") (b := true) ⟨_, Heap.get?_push_size _ rfl, rfl⟩ isSubtype_stop ?_)
  refine wpAny_pure (hQ _ ?_)
  exact ((Heap.SameBut.extBut (Heap.SameBut.update ..)).trans (Heap.SameBut.extBut (Heap.SameBut.update ..))).trans (((Heap.ExtBut.refl _ _).push _).push _)

theorem iter_self {it l : Addr} {i : Int} {Q : Value → Shared → Prop} (hit : At s.heap it l i) (h : Q (.ref it) s) : wpAny (model prog w) A (pyIter (.ref it)) Q E s := by
  refine wpAny_pyIter_slot hit.typeIs slot_iter (wpAny_call_entry slot_iter hit.typeIs entry_iter ?_ (args_iter _))
  show wpAny _ _ (ret (.ref it)) _ _ s
  exact wpAny_pure ⟨_, rfl, "reversed", _, hit.typeIs, slot_next.lookup, h⟩
end

theorem walks {prog : Program} {w : World} {A : Around} (hh : A.handled = none) (I l : Addr) (hne : l ≠ I) (items : Array Value) (hz : items.size ≤ 16777216) :
    Walks prog w A I [I, l] [I] items.size (fun i v => items[items.size - 1 - i]? = some v) (fun i h => i ≤ items.size ∧ At h I l ((items.size : Int) - 1 - (i : Int)) ∧ IsTup h l items) where
  sub := fun b hb => by simp at hb; simp [hb]
  frame := fun _ _ _ x hk => ⟨x.1, x.2.1.at fun o e => hk I (by simp) o e, keepsTup x.2.2 fun o e => hk l (by simp) o e⟩
  item := fun i s Q E hi x hQ => by
    have e : (items.size : Int) - 1 - (i : Int) = ((items.size - 1 - i : Nat) : Int) := by omega
    have hit := x.2.1
    rw [e] at hit
    have hx : items[items.size - 1 - i]? = some (items[items.size - 1 - i]'(by omega)) := Array.getElem?_eq_getElem (by omega)
    refine next_item hit x.2.2 hx hz fun h' tk hit' hs' => ?_
    have e2 : ((items.size - 1 - i : Nat) : Int) - 1 = (items.size : Int) - 1 - ((i + 1 : Nat) : Int) := by omega
    rw [e2] at hit'
    exact hQ _ h' tk hx ⟨hi, hit', keepsTup x.2.2 fun o eo => (hs'.2 l hne).trans eo⟩ fun b o hb eo => hs'.extBut b o (fun h => hb (by simp [h])) eo
  done := fun s Q E x hQ => by
    have e : (items.size : Int) - 1 - (items.size : Int) = -1 := by omega
    have hit := x.2.1
    rw [e] at hit
    exact next_end hh hit fun h' he' => hQ h' s.toks fun b o hb eo => he' b o (fun h => hb (by simp [h])) eo
  self := fun _ _ _ _ x hQ => iter_self x.2.1 hQ
end Rv
/-! ## tuple(reversed(list)) -/
namespace Rl
theorem nolen : typeLookup (.type "list_reverseiterator") "__len__" = pure none := by rw [typeLookup_type, builtinLookup_eq_fast]; kernel_rfl
theorem hint : typeLookup (.type "list_reverseiterator") "__length_hint__" = pure (some (.builtin "list_reverseiterator.__length_hint__")) := by rw [typeLookup_type, builtinLookup_eq_fast]; kernel_rfl
section
variable {prog : Program} {w : World} {A : Around} {E : Value → Shared → Prop} {s : Shared} {I : Addr} {fp wr : List Addr} {G : Array GenState → Array GenState → Prop} {n : Nat} {P : Nat → Value → Prop} {St : Nat → Shared → Prop}
theorem collect_rev {Q : List Value → Shared → Prop} (W : WalksS prog w A.in1 I fp wr G n P St) (hT : ∀ i s, St i s → s.TypeIs (.ref I) "list_reverseiterator") (hst : St 0 s) (hfp : ∀ b ∈ fp, b < s.heap.objs.size) (hI : I ∈ fp)
    (hQ : ∀ s' acc, Moved wr G s s' → ItemsOf P acc n → Q acc.toList s') (hn : n ≤ sizeLine) : wpAny (model prog w) A (collect (.ref I)) Q E s := by
  have hSf : s.heap.objs.size ∉ fp := fun hm => Nat.lt_irrefl _ (hfp _ hm)
  have hSI : s.heap.objs.size ≠ I := fun e => hSf (e ▸ hI)
  unfold collect
  refine wpAny_bind (wpAny_runValue (codeAny_builtin F.entry_proto_collect ?_))
  rw [Around.under_plainId F.plain_proto_collect _]
  show wpAny _ A.in1 (newList [] >>= fun l => again (.builtin "list.__iadd__" ⟨[l, .ref I], []⟩)) _ _ s
  refine wpAny_bind (wpAny_newObj_type ?_)
  refine wpAny_pure ⟨plainId_quiet F.plain_list_iadd _, codeAny_builtin F.entry_list_iadd ?_⟩
  rw [Around.under_plainId F.plain_list_iadd _]
  have hst₁ := W.frame 0 s (s.heap.push { cls := .type "list", data := .seq ([] : List Value).toArray }) s.toks hst (Nat.le_refl _) fun b _ o e => Heap.get?_push_of_some _ e
  have hS₁ : (s.heap.push { cls := .type "list", data := .seq ([] : List Value).toArray }).get? s.heap.objs.size = some { cls := .type "list", data := .seq ([] : List Value).toArray } := Heap.get?_push_size _ rfl
  have h1 : Builtin.List.listSameRef (.ref s.heap.objs.size) (.ref I) = false := by simp [Builtin.List.listSameRef, hSI]
  show wpAny _ A.in1 (Builtin.List.listExtendWith (.ref s.heap.objs.size) (.ref I) (.ref s.heap.objs.size)) _ _ _
  unfold Builtin.List.listExtendWith
  refine wpAny_bind (wpAny_typeOf (hT 0 _ hst₁) ?_)
  rw [if_neg (by rw [h1]; decide)]
  refine wpAny_bind (W.self 0 _ _ _ hst₁ ?_)
  refine wpAny_bind (wpAny_holding ?_)
  unfold Builtin.List.listLengthHint
  refine wpAny_bind (wpAny_specialOf (hT 0 _ hst₁) nolen ?_)
  show wpAny _ A.in1 (specialOf (Value.ref I) (Str.ofString "__length_hint__") >>= _) _ _ _
  refine wpAny_bind (wpAny_specialOf (hT 0 _ hst₁) hint ?_)
  generalize hid : ("list_reverseiterator.__length_hint__" : String) = id0
  wp_delta
  rw [show splitId id0 = some ("list_reverseiterator", "__length_hint__") from by subst hid; decide +kernel]
  subst hid
  refine wpAny_bind (wpAny_isInstance (b := true) (hT 0 _ hst₁) (by rw [isSubtype_type]; kernel_rfl) ?_)
  refine wpAny_pure ?_
  rw [if_neg (by decide)]
  refine wpAny_pure ⟨plainId_quiet F.plain_extend_loop _, codeAny_extend_loopS W hn _ hSf _ n 0 _ _ _ rfl (Nat.zero_le _) hst₁ hS₁ (ItemsOf.nil P) fun s' acc' c' hm hS' hacc => ?_⟩
  show wpAny _ A (load s.heap.objs.size >>= _) _ _ s'
  refine wpAny_bind (wpAny_load hS' ?_)
  exact wpAny_pure (hQ s' acc' (Moved.drop_new (o := { cls := .type "list", data := .seq ([] : List Value).toArray }) (tk := s.toks) hm (Nat.le_refl _)) hacc)

theorem code_tuple {Q₁ : Value → Shared → Prop} (W : WalksS prog w A.in1.in1 I fp wr G n P St) (hT : ∀ i s, St i s → s.TypeIs (.ref I) "list_reverseiterator") (hst : St 0 s) (hfp : ∀ b ∈ fp, b < s.heap.objs.size) (hI : I ∈ fp)
    (h : ∀ s' acc, Moved wr G s s' → ItemsOf P acc n → Q₁ (.ref s'.heap.objs.size) { s' with heap := s'.heap.push { cls := .type "tuple", data := .seq acc } }) (hsz : n ≤ sizeLine) :
    codeAny (model prog w) A (.call (.builtin "tuple.__new__") ⟨[.type "tuple", .ref I], []⟩) (wants Q₁ E) s := by
  refine codeAny_of_tree ?_
  show wpAny _ A.in1 (do checkBuiltinCall "tuple.__new__" ⟨[.type "tuple", .ref I], []⟩; again (.builtin "tuple.__new__" ⟨[.type "tuple", .ref I], []⟩)) _ _ s
  refine wpAny_bind (wpAny_of_eq (F.newCall_tuple_1 _) (wpAny_pure ⟨plainId_quiet F.plain_tuple_new _, codeAny_builtin F.entry_tuple_new ?_⟩))
  rw [Around.under_plainId F.plain_tuple_new _]
  have hsub := sub_tuple_self
  have hinit := init_tuple_lookup
  have hmh := madeHere_tuple
  have hTI := hT 0 s hst
  wp_walk using wpAny_typeOf hTI, collect_rev (hn := hsz) W hT hst hfp hI
  intro s' acc hm hacc
  show wpAny _ _ (Builtin.Tuple.tupleExact acc.toList.toArray >>= fun v => ret v) _ _ _
  unfold Builtin.Tuple.tupleExact
  refine wpAny_bind (wpAny_newObj_type ?_ (by show acc.toList.toArray.size ≤ sizeLine; simp only [Array.toArray_toList]; rw [hacc.1]; exact hsz))
  refine wpAny_pure ?_
  have e : acc.toList.toArray = acc := by simp
  rw [e]
  exact h s' acc hm hacc

theorem call_tuple {Q : Value → Shared → Prop} (W : WalksS prog w A.in1.in1.in1 I fp wr G n P St) (hT : ∀ i s, St i s → s.TypeIs (.ref I) "list_reverseiterator") (hst : St 0 s) (hfp : ∀ b ∈ fp, b < s.heap.objs.size) (hI : I ∈ fp)
    (hQ : ∀ s' acc, Moved wr G s s' → ItemsOf P acc n → Q (.ref s'.heap.objs.size) { s' with heap := s'.heap.push { cls := .type "tuple", data := .seq acc } }) (hsz : n ≤ sizeLine) :
    wpAny (model prog w) A (call (.type "tuple") [.ref I]) Q E s := by
  refine callType_codes (Q₁ := fun obj s₁ => s₁.TypeIs obj "tuple" ∧ Q obj s₁) F.called_tuple (F.typeCall_tuple_1 _) F.entry_object_init
    (code_tuple (hsz := hsz) W hT hst hfp hI fun s' acc hm hacc => ⟨⟨_, Heap.get?_push_size _ rfl, rfl⟩, hQ s' acc hm hacc⟩) fun obj s₁ h₁ => ?_
  exact ⟨h₁.1, F.args_object_init_2 obj _, object_init_meets F.called_tuple.init.lookup F.called_tuple.made (by decide) prog w A.in1 _ s₁ ⟨h₁.1, rfl, h₁.2⟩⟩
end
section
variable {prog : Program} {w : World} {A : Around} {E : Value → Shared → Prop} {s : Shared} {h₀ : Heap} {L I l : Addr} {m : Str → Option Value} {news keep : List (Addr × Obj)} {vs : List Value} {c : Nat}
/-- the iterator's entry goes, the rest of the ledger stays -/
theorem tuple_rev {Q : Value → Shared → Prop} (hh : A.handled = none) (F : Fr h₀ L s.heap m) (N : News h₀ L s.heap ((I, revObj l ((vs.length : Int) - 1)) :: news)) (hm : (l, listOf vs.toArray c) ∈ news) (hne : ∀ p ∈ news, p.1 ≠ I) (hz : vs.length ≤ 16777216)
    (h : ∀ T h' tk, Fr h₀ L h' m → News h₀ L h' ((T, tupOf vs.reverse) :: news) → (∀ p ∈ news, p.1 < T) → Q (.ref T) { s with heap := h', toks := tk }) : wpAny (model prog w) A (call (.type "tuple") [.ref I]) Q E s := by
  have hI := N _ (.head _)
  have hl := N _ (.tail _ hm)
  have hli : l ≠ I := hne _ hm
  have W := (Walks.listRev (prog := prog) (w := w) (A := A.in1.in1.in1) hh I l hli vs.toArray).toS
  refine call_tuple W (fun i u st => st.2.1.typeIs) ⟨Nat.zero_le _, ⟨_, hI.1, rfl, by simp [revObj]⟩, ⟨_, hl.1, rfl, c, rfl⟩⟩ (fun b hb => ?_) (List.mem_cons_self ..) (fun s' acc hmv ha => ?_) (by rw [List.size_toArray, sizeLine_eq]; exact hz)
  · rcases List.mem_cons.mp hb with rfl | hb
    · exact Heap.lt_size hI.1
    · rw [List.mem_singleton.mp hb]; exact Heap.lt_size hl.1
  · obtain ⟨hp, g, dr, tk, os⟩ := s'
    obtain ⟨k1, k2, k3, k4, k5⟩ := hmv
    dsimp only at k1 k2 k3 k4 k5
    subst k2 k3 k4
    have hk : ∀ b o, b ≠ I → s.heap.get? b = some o → hp.get? b = some o := fun b o hb e => k1 b o (fun hq => hb (List.mem_singleton.mp hq)) e
    have F' : Fr h₀ L hp m := ⟨F.ns.at' fun o e => hk _ o (fun q => hI.2.1 q.symm) e, fun b o e => hk b o (fun q => by rw [← q, e] at hI; exact nomatch hI.2.2) (F.keep b o e), F.above⟩
    have N' : News h₀ L hp news := fun p hp' => ⟨hk _ _ (hne p hp') (N p (.tail _ hp')).1, (N p (.tail _ hp')).2⟩
    have e : acc = vs.reverse.toArray := by
      apply Array.ext'
      apply List.ext_getElem?
      intro i
      have hs : acc.size = vs.length := by rw [ha.1, List.size_toArray]
      by_cases hi : i < vs.length
      · have h1 : acc[i]? = some acc[i] := Array.getElem?_eq_getElem (by omega)
        have h2 := ha.2 i _ h1
        rw [Array.getElem?_toList, h1, List.toList_toArray, List.getElem?_reverse hi]
        rw [List.size_toArray] at h2
        simpa using h2.symm
      · rw [Array.getElem?_toList, Array.getElem?_eq_none (by omega), List.toList_toArray, List.getElem?_eq_none (by simp; omega)]
    rw [e]
    exact h _ _ _ (F'.push _) (N'.push F' _) fun p hp' => Heap.lt_size (N' p hp').1
end
end Rl
/-! ## reversed, in the ledger; loops over it -/
section
variable {prog : Program} {w : World} {A : Around} {E : Value → Shared → Prop} {s : Shared} {h₀ : Heap} {L l I : Addr} {m : Str → Option Value} {news : List (Addr × Obj)} {t u : Tok} {vs : List Value} {c : Nat}
theorem rev_list {Q : Value → Shared → Prop} (F : Fr h₀ L s.heap m) (N : News h₀ L s.heap news) (hm : (l, listOf vs.toArray c) ∈ news)
    (h : ∀ I h', Fr h₀ L h' m → News h₀ L h' ((I, revObj l ((vs.length : Int) - 1)) :: news) → (∀ p ∈ news, p.1 < I) → Q (.ref I) { s with heap := h' }) : wpAny (model prog w) A (call (.type "reversed") [.ref l]) Q E s := by
  refine call_reversed_list (items := vs.toArray) ⟨_, (N _ hm).1, rfl, c, rfl⟩ ?_
  rw [List.size_toArray]
  exact h _ _ (F.push _) (News.push F N _ rfl) fun p hp => Heap.lt_size (N p hp).1
theorem rev_tup {Q : Value → Shared → Prop} (F : Fr h₀ L s.heap m) (N : News h₀ L s.heap news) (hm : (l, tupOf vs) ∈ news) (hz : vs.length ≤ 16777216)
    (h : ∀ I h' tk, Fr h₀ L h' m → News h₀ L h' ((I, Rv.rtObj l ((vs.length : Int) - 1)) :: news) → (∀ p ∈ news, p.1 < I) → Q (.ref I) { s with heap := h', toks := tk }) : wpAny (model prog w) A (call (.type "reversed") [.ref l]) Q E s := by
  refine Rv.call_reversed (items := vs.toArray) ⟨_, (N _ hm).1, rfl, 0, rfl⟩ (by rw [List.size_toArray]; omega) fun tk => ?_
  rw [List.size_toArray]
  exact h _ _ tk (F.push _) (News.push F N _ rfl) fun p hp => Heap.lt_size (N p hp).1
theorem shl_bit {k : Nat} {Q : Value → Shared → Prop} (hk : k ≤ 60) (h : ∀ t' k', Q (.int ((2 ^ (k + 1) : Nat) : Int) t') { s with toks := k' }) : wpAny (model prog w) A (inplaceOp .LShift (.int ((2 ^ k : Nat) : Int) t) (.int 1 u)) Q E s := by
  refine ilshift_int_small (by decide) (by decide) ?_ ?_
  · rw [Int.natAbs_natCast]; exact Nat.pow_lt_pow_right (by decide) (by omega)
  · have e : ((2 ^ k : Nat) : Int) * 2 ^ (1 : Int).toNat = ((2 ^ (k + 1) : Nat) : Int) := by rw [Nat.pow_succ]; push_cast; rfl
    rw [e]; exact h _ _
end
section
variable {prog : Program} {w : World} {A : Around} {E : Value → Shared → Prop} {s : Shared} {env : Env} {h₀ : Heap} {x : Str} {body : List Stmt} {Q : Flow → Shared → Prop}
theorem loop_revT {I l : Addr} {vs : List Value} {m₀ : Str → Option Value} {news : List (Addr × Obj)} (J : Nat → (Str → Option Value) → List (Addr × Obj) → Prop)
    (hh : A.handled = none) (hz : vs.length ≤ 16777216) (F : Fr h₀ env.locals s.heap m₀) (N : News h₀ env.locals s.heap ((I, Rv.rtObj l ((vs.length : Int) - 1)) :: news)) (hl : ∀ i m nw, J i m nw → (l, tupOf vs) ∈ nw) (hne : ∀ p ∈ news, p.1 ≠ I) (hJ : J 0 m₀ news)
    (turn : ∀ i v m₁ nw h tk o, vs.reverse[i]? = some v → J i m₁ nw → (∀ p ∈ nw, p.1 ≠ I) → Fr h₀ env.locals h (fun y => if y = x then some v else m₁ y) → News h₀ env.locals h ((I, o) :: nw) →
      wpAny (model prog w) A (execs body env) (TurnP h₀ env.locals I (J (i + 1)) o { s with heap := h, toks := tk } Q) E { s with heap := h, toks := tk })
    (done : ∀ m₁ nw h tk, J vs.length m₁ nw → Fr h₀ env.locals h m₁ → News h₀ env.locals h nw → Q .next { s with heap := h, toks := tk }) :
    wpAny (model prog w) A (pyIter (.ref I)) (fun it s₂ => LoopAtV prog w A h₀ env x body Q E it s₂) E s := by
  have hI := N _ (.head _)
  have hln := hl 0 m₀ news hJ
  have hlI := N _ (.tail _ hln)
  have hat : Rv.At s.heap I l ((vs.length : Int) - 1) := ⟨_, hI.1, rfl, rfl⟩
  refine Rv.iter_self hat ?_
  have W := Rv.walks (prog := prog) (w := w) hh I l (hne _ hln) vs.toArray (by rw [List.size_toArray]; exact hz)
  refine loop_iter (lo := tupOf vs) J W (fun i h hs => let ⟨o, ho, _⟩ := hs.2.1; ⟨o, ho⟩) ⟨Nat.zero_le _, by simpa using hat, ⟨_, hlI.1, rfl, 0, rfl⟩⟩ F N hl hne hJ ?_ (by rw [List.size_toArray]; exact done)
  rintro i v m₁ nw h tk o hi hv hj hne' F₁ N₁
  refine turn i v m₁ nw h tk o ?_ hj hne' F₁ N₁
  rw [List.size_toArray] at hi hv
  rw [List.getElem?_reverse hi]
  simpa using hv
end
theorem Cut.dropIf {small : List (Addr × Obj)} {p : Addr × Obj} {r k : List (Addr × Obj)} (_ : p ∈ small) (h : Cut small r k) : Cut small (p :: r) k := .drop h

/-- the store says of a number only what the register says -/
def DbOk (R : List B) (D : List (B × B)) : Prop := ∀ y t, lk D y = some t → Reg R t y
def Sub (D D' : List (B × B)) : Prop := ∀ y t, lk D y = some t → lk D' y = some t
theorem Sub.refl (D : List (B × B)) : Sub D D := fun _ _ h => h
theorem Sub.trans {D D' D'' : List (B × B)} (a : Sub D D') (b : Sub D' D'') : Sub D D'' := fun y t h => b y t (a y t h)
theorem TN.mono {D D' : List (B × B)} (hs : Sub D D') {val : Nat → B} : ∀ {k i : Nat} {x : B}, TN D val k i x → TN D' val k i x
  | 0, _, _, h => ⟨h.1, hs _ _ h.2⟩
  | _ + 1, _, _, h => let ⟨a, l, r, hl, hr, e⟩ := h; ⟨a, l, r, hl.mono hs, hr.mono hs, hs _ _ e⟩
theorem DbOk.mono {R R' : List B} {D : List (B × B)} (h : DbOk R D) (hp : R <+: R') : DbOk R' D := fun y t e => (h y t e).mono hp
theorem DbOk.put {R : List B} {D : List (B × B)} (h : DbOk R D) {x t : B} (hr : Reg R t x) : DbOk R (put D x t) := fun y u e => by
  rw [lk_put] at e
  by_cases c : y = x
  · rw [if_pos c] at e; cases e; rw [c]; exact hr
  · rw [if_neg c] at e; exact h y u e
theorem Sub.put {R : List B} {D : List (B × B)} (hl : R.length ≤ 16777216) (h : DbOk R D) {x t : B} (hr : Reg R t x) : Sub D (put D x t) := fun y u e => by
  rw [lk_put]
  by_cases c : y = x
  · rw [if_pos c]; subst c; rw [(h _ _ e).inj hl hr]
  · rw [if_neg c]; exact e
/-- a text that is the node of height k at place i -/
def NT (D : List (B × B)) (val : Nat → B) : Nat → Nat → B → Prop
  | 0, i, t => t = val i
  | k + 1, i, t => ∃ l r, TN D val k (2 * i) l ∧ TN D val k (2 * i + 1) r ∧ t = l ++ r
theorem NT.mono {D D' : List (B × B)} (hs : Sub D D') {val : Nat → B} {k i : Nat} {x : B} (h : NT D val k i x) : NT D' val k i x := by
  cases k with
  | zero => exact h
  | succ k => obtain ⟨l, r, hl, hr, e⟩ := h; exact ⟨l, r, hl.mono hs, hr.mono hs, e⟩
theorem NT.node {D : List (B × B)} {val : Nat → B} {k i : Nat} {t x : B} (h : NT D val k i t) (hx : x.length = 32) (e : lk D x = some t) : TN D val k i x := by
  cases k with
  | zero => rw [show t = val i from h] at e; exact ⟨hx, e⟩
  | succ k => obtain ⟨l, r, hl, hr, rfl⟩ := h; exact ⟨hx, l, r, hl, hr, e⟩
/-- the leaves behind a store -/
def setV (val : Nat → B) (p : Nat) (v : B) : Nat → B := fun i => if i = p then v else val i
theorem TN.setV {D : List (B × B)} {val : Nat → B} {p : Nat} {v : B} : ∀ {k i : Nat} {x : B}, i ≠ p / 2 ^ k → TN D val k i x → TN D (setV val p v) k i x
  | 0, i, x, hn, h => by
    refine ⟨h.1, ?_⟩
    have hq : i ≠ p := by simpa using hn
    show _ = some (if i = p then v else val i)
    rw [if_neg hq]; exact h.2
  | k + 1, i, x, hn, h => by
    obtain ⟨a, l, r, hl, hr, e⟩ := h
    rw [halfDiv] at hn
    exact ⟨a, l, r, TN.setV (by omega) hl, TN.setV (by omega) hr, e⟩
theorem sib_ne (i : Nat) : sib i ≠ i := by unfold sib; split <;> omega
theorem HashG.cut {w : World} {φ : Addr} {c₀ : Nat} {R : List B} {HG small : List (Addr × Obj)} (H : HashG w φ c₀ R HG) (h : ∀ q ∈ small, @LE.le Nat _ c₀ q.1) : Cut small HG HG := .tail fun p hp q hq e => H.off (h q hq) p hp e.symm
section
variable {w : World} {dm um : Nat} {f : Addr} {args : List Value} {small news keep : List (Addr × Obj)} {Post : Value → List (Addr × Obj) → Prop}
  {p : Program} {loose : List Str} {mean : ExcName → Option Value} {mg mb : Str → Option Value} {dp un : Nat} {gd : Option (List Code)} {cn : Str} {cs : Scope} {a : Addr} {ccd : Value} {cl : List (Str × Addr)} {outer : List Env} {A₀ : Around} {base h₀ : Heap} {L : Addr} {m : Str → Option Value} {s : Shared}
/-- as Con.use, the new ledger first -/
theorem Con.useR {Q E : Value → Shared → Prop} (c : Con w dm um f args small Post) (B : Below A₀ base outer h₀) (F : Fr h₀ L s.heap m) (X : (hd.heap_39 w.params).In h₀) (N : News h₀ L s.heap news) (T : Top p loose mean mg mb h₀) (hk : cs.kind = .function) (hd : dp ≤ dm) (hu : un ≤ um)
    (hs : ∀ q ∈ small, q ∈ news) (ct : Cut small news keep)
    (h : ∀ v h' tk nw, Fr h₀ L h' m → News h₀ L h' (nw ++ keep) → Post v nw → (∀ p ∈ nw, p.1 ∉ small.map (·.1) → ∀ q ∈ news, q.1 ≠ p.1) → Q v { s with heap := h', toks := tk }) :
    wpAny (model Challenge.rw_iu0035_01.row.prog w) (ktrTop dp un gd cn cs L a ccd cl outer) (call (.ref f) args) Q E s :=
  c.use B F X N T hk hd hu hs ct fun v h' tk nw F' N' => h v h' tk nw F' fun p hp => N' p (List.mem_append.mpr (List.mem_append.mp hp).symm)
end
def six {α : Type} (a b c d e f : α) : Nat → α
  | 0 => a | 1 => b | 2 => c | 3 => d | 4 => e | _ => f
abbrev treeE5 (H : Nat → Int) (T U : Nat → Tok) (size dep : Nat) (dflt : B) (φ δ : Addr) : List DictEntry :=
  [⟨H 0, .str (Str.ofString "_key_size") (T 0), .int (size : Int) (U 0)⟩, ⟨H 1, .str (Str.ofString "depth") (T 1), .int (dep : Int) (U 1)⟩, ⟨H 2, .str (Str.ofString "_default") (T 2), .bytes dflt.toArray (U 2)⟩,
   ⟨H 3, .str (Str.ofString "hash_of") (T 3), .ref φ⟩, ⟨H 4, .str (Str.ofString "db") (T 4), .ref δ⟩]
section
variable {prog : Program} {w : World} {A : Around} {E : Value → Shared → Prop} {s : Shared} {h₀ : Heap} {L : Addr} {m : Str → Option Value} {news : List (Addr × Obj)}
theorem new_dict {env : Env} {pos : Pos} {Q : Value → Shared → Prop} (F : Fr h₀ L s.heap m) (N : News h₀ L s.heap news) (hbig : h₀.NoLimit)
    (k : ∀ d h' o, Fr h₀ L h' m → News h₀ L h' ((d, o) :: news) → (∀ p ∈ news, p.1 < d) → (d == sysModules) = false → DictB (bytesKind prog w) o [] → DictB (intKind prog w) o [] → Q (.ref d) { s with heap := h' }) : wpAny (model prog w) A (eval (.Dict [] [] pos) env) Q E s := by
  refine wpAny_Dict_empty (k _ _ _ (F.push _) (News.push F N _ rfl) (fun p hp => Heap.lt_size (N p hp).1) (F.notModules (modules_low hbig)) ⟨[], ?_, Holds.nil⟩ ⟨[], ?_, Holds.nil⟩)
  · obtain ⟨o, ho, hd⟩ := Heap.dictOf_iff.mp (Heap.DictOf.new (knd := bytesKind prog w) s.heap)
    rw [Heap.get?_push_size _ rfl] at ho
    exact (Option.some.inj ho) ▸ hd
  · obtain ⟨o, ho, hd⟩ := Heap.dictOf_iff.mp (Heap.DictOf.new (knd := intKind prog w) s.heap)
    rw [Heap.get?_push_size _ rfl] at ho
    exact (Option.some.inj ho) ▸ hd
end
/-- a contract, the arguments whole -/
def ConA (w : World) (dm um : Nat) (f : Addr) (args : Args) (small : List (Addr × Obj)) (Post : Value → List (Addr × Obj) → Prop) : Prop :=
  ∀ (p : Program) (loose : List Str) (mean : ExcName → Option Value) (mg mb : Str → Option Value) (dp un : Nat) (gd : Option (List Code)) (cn : Str) (cs : Scope) (a : Addr) (ccd : Value) (cl : List (Str × Addr)) (outer : List Env) (A₀ : Around) (base h₀ : Heap) (L : Addr) (m : Str → Option Value) (s : Shared)
    (R : Result → Shared → Prop),
    Below A₀ base outer h₀ → Fr h₀ L s.heap m → (hd.heap_39 w.params).In h₀ → News h₀ L s.heap small → Top p loose mean mg mb h₀ → cs.kind = .function → dp ≤ dm → un ≤ um →
    (∀ v h' tk news', Fr h₀ L h' m → News h₀ L h' news' → Stay s.heap (small.map (·.1)) h' → (∀ p ∈ news', p.1 ∉ small.map (·.1) → s.heap.get? p.1 = none) → Post v news' → R (.ok (.ret v)) { s with heap := h', toks := tk }) →
    codeAny (model Challenge.rw_iu0035_01.row.prog w) (ktrTop dp un gd cn cs L a ccd cl outer) (.call (.ref f) args) R s
theorem Con.toA {w : World} {dm um : Nat} {f : Addr} {args : List Value} {small : List (Addr × Obj)} {Post : Value → List (Addr × Obj) → Prop} (c : Con w dm um f args small Post) : ConA w dm um f ⟨args, []⟩ small Post := c
section
variable {w : World} {dm um : Nat} {f : Addr} {args : Args} {small news keep : List (Addr × Obj)} {Post : Value → List (Addr × Obj) → Prop}
  {p : Program} {loose : List Str} {mean : ExcName → Option Value} {mg mb : Str → Option Value} {dp un : Nat} {gd : Option (List Code)} {cn : Str} {cs : Scope} {a : Addr} {ccd : Value} {cl : List (Str × Addr)} {outer : List Env} {A₀ : Around} {base h₀ : Heap} {L : Addr} {m : Str → Option Value} {s : Shared}
theorem ConA.useI {R : Result → Shared → Prop} (c : ConA w dm um f args small Post) (B : Below A₀ base outer h₀) (F : Fr h₀ L s.heap m) (X : (hd.heap_39 w.params).In h₀) (N : News h₀ L s.heap news) (T : Top p loose mean mg mb h₀) (hk : cs.kind = .function) (hd : dp ≤ dm) (hu : un ≤ um)
    (hs : ∀ q ∈ small, q ∈ news) (ct : Cut small news keep)
    (h : ∀ v h' tk nw, Fr h₀ L h' m → News h₀ L h' (keep ++ nw) → Post v nw → (∀ p ∈ nw, p.1 ∉ small.map (·.1) → ∀ q ∈ news, q.1 ≠ p.1) → R (.ok (.ret v)) { s with heap := h', toks := tk }) :
    codeAny (model Challenge.rw_iu0035_01.row.prog w) (ktrTop dp un gd cn cs L a ccd cl outer) (.call (.ref f) args) R s :=
  c p loose mean mg mb dp un gd cn cs a ccd cl outer A₀ base h₀ L m s _ B F X (newsSub N hs) T hk hd hu fun v h' tk nw F' N' st ap po => h v h' tk nw F' (newsBoth (ct.news N st) N') po fun r hr hn q hq e => by
    have h1 := ap r hr hn
    rw [← e, (N q hq).1] at h1
    cases h1
end
theorem exE5 {h₀ h : Heap} {L δ τ dx φ : Addr} {o io : Obj} {HG : List (Addr × Obj)} {h0 h1 h2 h3 h4 : Int} {t0 t1 t2 t3 t4 u0 u1 u2 : Tok} {size dep : Nat} {dflt : B}
    (N : News h₀ L h ((δ, o) :: (τ, io) :: (dx, dictOf [⟨h0, .str (Str.ofString "_key_size") t0, .int (size : Int) u0⟩, ⟨h1, .str (Str.ofString "depth") t1, .int ((size : Int) * 8) u1⟩, ⟨h2, .str (Str.ofString "_default") t2, .bytes dflt.toArray u2⟩,
   ⟨h3, .str (Str.ofString "hash_of") t3, .ref φ⟩, ⟨h4, .str (Str.ofString "db") t4, .ref δ⟩] 5) :: HG)) (hd : dep = 8 * size) :
    ∃ H T U, News h₀ L h ((δ, o) :: (τ, io) :: (dx, dictOf (treeE5 H T U size dep dflt φ δ) 5) :: HG) := by
  rw [show (size : Int) * 8 = (dep : Int) by omega] at N
  exact ⟨six h0 h1 h2 h3 h4 0, six t0 t1 t2 t3 t4 t0, six u0 u1 u2 u0 u0 u0, N⟩
theorem weight_call (C : Addr) (vals : List Value) (kw : List (Str × Value)) : (Code.builtin "type.__call__" ⟨.ref C :: vals, kw⟩).weight = 1 := rfl
theorem cUnits_call (C : Addr) (vals : List Value) (kw : List (Str × Value)) : (Code.builtin "type.__call__" ⟨.ref C :: vals, kw⟩).cUnits = 1 := rfl
/-! ## contracts of functions that catch: the frames outside may get slots -/
def LeaveT (fs : List Addr) (A₀ : Around) (base : Heap) (outer : List Env) (K : Frag) (p : Program) (loose : List Str) (mean : ExcName → Option Value) (mg mb : Str → Option Value) (h₀ : Heap) (L : Addr) (m : Str → Option Value) (g sh : Heap) (as : List Addr) (R : Result → Shared → Prop) (v : Value) (s' : Shared) : Prop :=
  (X4 fun g' L' m' news' => A4 (KtsTurn fs g g') (Fr g' L' s'.heap m') (News g' L' s'.heap news') (∀ h₀', KtsTurn (outer.filterMap (·.frame)) h₀ h₀' → Fr h₀' L s'.heap m → News h₀' L s'.heap news' → Below A₀ base outer h₀' → K.In h₀' → Top p loose mean mg mb h₀' →
    KtsDicts (outer.filterMap (·.frame)) h₀' → Stay sh (as ++ fs) s'.heap → (∀ p ∈ news', p.1 ∉ as → sh.get? p.1 = none) → R (.ok (.ret v)) s'))
section
variable {prog : Program} {w : World} {A₀ A : Around} {s : Shared} {base h₀ : Heap} {outer : List Env} {L a : Addr} {m : Str → Option Value} {cn : Str} {cs : Scope} {ccd : Value} {news : List (Addr × Obj)} {K : Frag} {p : Program} {loose : List Str} {mean : ExcName → Option Value} {mg mb : Str → Option Value}
    {R : Result → Shared → Prop} {name qual : Str} {params : Arguments} {body : List Stmt} {scope : Scope} {dV kV doc pm cdv ct oc : Value} {an od : Option Addr} {osl : Array (Option Value)} {f : Addr} {args : Args} {binds : List (Str × Value)}
theorem leaveT_ {fs : List Addr} {g g' sh : Heap} {as : List Addr} {L' : Addr} {m' : Str → Option Value} {news' : List (Addr × Obj)} {v : Value} {s' : Shared} (F' : Fr g' L' s'.heap m') (N' : News g' L' s'.heap news') (T : KtsTurn fs g g')
    (k : ∀ h₀', KtsTurn (outer.filterMap (·.frame)) h₀ h₀' → Fr h₀' L s'.heap m → News h₀' L s'.heap news' → Below A₀ base outer h₀' → K.In h₀' → Top p loose mean mg mb h₀' →
    KtsDicts (outer.filterMap (·.frame)) h₀' → Stay sh (as ++ fs) s'.heap → (∀ p ∈ news', p.1 ∉ as → sh.get? p.1 = none) → R (.ok (.ret v)) s') : LeaveT fs A₀ base outer K p loose mean mg mb h₀ L m g sh as R v s' := ⟨g', L', m', news', T, F', N', k⟩
theorem code_defT (B : Below A₀ base outer h₀) (F : Fr h₀ L s.heap m) (X₀ : K.In h₀) (N : News h₀ L s.heap news) (T : Top p loose mean mg mb h₀) (XB : K.In base) (TB : Top p loose mean mg mb base) (D : KtsDicts (outer.filterMap (·.frame)) h₀)
    (hA : A.frames = some (envOf cn cs L a ccd :: outer))
    (ho : K.lookup f = some ⟨oc, od, .func (fnOf name qual params body scope dV kV doc pm an cdv ct), osl⟩) (hcd : codeIn K cdv qual = true) (hroom : A.depth < recursionLimit)
    (hbind : BindsTo s (fnOf name qual params body scope dV kV doc pm an cdv ct) args binds) (hloc : ∀ y ∈ binds, scope.names.lookup y.1 = some .local)
    (h : ∀ g L' h₁, Fr h₀ L g m → Fr g L' h₁ (fun y => binds.reverse.lookup y) → News g L' h₁ news → Below A base (envOf cn cs L a ccd :: outer) g → K.In g → Top p loose mean mg mb g → KtsDicts ((envOf cn cs L a ccd :: outer).filterMap (·.frame)) g → (∀ p ∈ news, p.1 < L') →
      wpAny (model prog w) (A.deeper (envOf qual scope L' f cdv)) (execs body (envOf qual scope L' f cdv))
        (fun fl s' => LeaveT ((envOf cn cs L a ccd :: outer).filterMap (·.frame)) A₀ base outer K p loose mean mg mb h₀ L m g s.heap (news.map (·.1)) R (match fl with | .ret v => v | _ => .none) s')
        (fun e s' => wpAny (model prog w) (A.deeper (envOf qual scope L' f cdv)) (leaving (envOf qual scope L' f cdv) e) (fun _ s'' => R (.error e) s'') (fun e' s'' => R (.error e') s'') s')
        { s with heap := h₁, toks := s.toks + binds.length })
    (hck : cs.kind = .function) (hco : scope.isCoroutine = false) (hgen : scope.isGenerator = false) (hk : scope.kind = .function)
    (hcell : ∀ x ∈ scope.names, x.2 ≠ .cell) : codeAny (model prog w) A (.call (.ref f) args) R s := by
  have X := X₀.keeps F.keep
  refine codeAny_call_def (fd := fnOf name qual params body scope dV kV doc pm an cdv ct) (body := body) (binds := binds) hroom (X _ _ ho) rfl (T.nolimit.keeps F.keep) (codeRec_of X hcd) rfl hbind hcell hloc (fun h₁ hns hk₁ => ?_) hco hgen hk
  obtain ⟨oL, es, ep, hLg, hLd, hN, hNs, st, B₂⟩ := kts_enter B F N hA hck
  have DD : KtsDicts ((envOf cn cs L a ccd :: outer).filterMap (·.frame)) (hideAll s.heap (news.map (·.1))) := fun b hb => by
    rcases kts_mem hb with rfl | hb
    · exact ⟨oL, es, ep, hLg, hLd⟩
    · obtain ⟨o, es', n', ho', hd'⟩ := D b hb
      exact ⟨o, es', n', st b o ho', hd'⟩
  refine wpAny_mono (h _ s.heap.objs.size h₁ ⟨hN _ hLg, st, F.above⟩ ⟨hns, fun b o e => hk₁ b o (of_hideAll _ e), Nat.le_of_eq (hideAll_size _ _)⟩
    (fun p hp => ⟨hk₁ _ _ (N p hp).1, Nat.ne_of_lt (Heap.lt_size (N p hp).1), hideAll_none _ (List.mem_map_of_mem hp)⟩) B₂ (X₀.keeps st) (T.keeps st) DD (fun p hp => Heap.lt_size (N p hp).1)) (fun fl s' hl => ?_) fun _ _ y => y
  have nL₀ : h₀.get? L = none := kts_self F
  obtain ⟨g', L', m', news', T', F', N', k⟩ := hl
  obtain ⟨sl, hs⟩ := T'.up hLg
  obtain ⟨T₁, S₁⟩ := kts_turn_at (h := s'.heap) (fs := outer.filterMap (·.frame)) (g := h₀)
    (fun b hb => let ⟨_, o, ho', _⟩ := B.frames.mem hb; ⟨o, ho'⟩)
    (fun b o e nmem => F'.keep b o (T'.other b o (st b o e) (fun q => (kts_mem q).elim (fun z => by rw [z, nL₀] at e; cases e) nmem)))
    (fun b o e hm => let ⟨sl', hs'⟩ := T'.up (st b o e); ⟨sl', F'.keep _ _ hs'⟩)
  have B₃ : Below A₀ base outer (ktsHeap s'.heap (outer.filterMap (·.frame)) h₀) := ⟨B.stack, fun b o e => T₁.other b o (B.stays b o e) (fun hm => by
    rw [(B.frames.mem hm).1] at e; cases e), B.frames.of_keeps fun b o e _ => let ⟨sl', hs'⟩ := T₁.up e; ⟨_, hs', rfl⟩⟩
  have gnone : ∀ b, g'.get? b = none → (hideAll s.heap (news.map (·.1))).get? b = none := fun b e => by
    cases q : (hideAll s.heap (news.map (·.1))).get? b with
    | none => rfl
    | some o => obtain ⟨sl', hs'⟩ := T'.up q; rw [e] at hs'; cases hs'
  refine k _ T₁ ⟨hNs sl _ (F'.keep _ _ hs), S₁, by rw [T₁.size]; exact F.above⟩ (fun p hp => ⟨(N' p hp).1, fun q => ?_, ?_⟩) B₃ (XB.keeps B₃.stays) (TB.keeps B₃.stays) (D.turn T₁) ?_ ?_
  · have := (N' p hp).2.2; rw [q, hs] at this; cases this
  · have e := gnone _ (N' p hp).2.2
    refine T₁.none_ _ ?_
    cases q : h₀.get? p.1 with
    | none => rfl
    | some o => rw [st _ _ q] at e; cases e
  · intro b o e nb
    rw [List.mem_append, not_or] at nb
    exact F'.keep b o (T'.other b o (hideAll_get _ e nb.1) nb.2)
  · intro q hq hn
    have e := gnone _ (N' q hq).2.2
    cases z : s.heap.get? q.1 with
    | none => rfl
    | some o => rw [hideAll_get _ z hn] at e; cases e
end
/-- a contract of a function that catches -/
def ConT (w : World) (dm um : Nat) (f : Addr) (args : List Value) (small : List (Addr × Obj)) (Post : Value → List (Addr × Obj) → Prop) : Prop :=
  ∀ (p : Program) (loose : List Str) (mean : ExcName → Option Value) (mg mb : Str → Option Value) (dp un : Nat) (gd : Option (List Code)) (cn : Str) (cs : Scope) (a : Addr) (ccd : Value) (outer : List Env) (A₀ : Around) (base h₀ : Heap) (L : Addr) (m : Str → Option Value) (s : Shared)
    (R : Result → Shared → Prop),
    Below A₀ base outer h₀ → Fr h₀ L s.heap m → (hd.heap_39 w.params).In h₀ → News h₀ L s.heap small → Top p loose mean mg mb h₀ → (hd.heap_39 w.params).In base → Top p loose mean mg mb base → KtsDicts (outer.filterMap (·.frame)) h₀ → cs.kind = .function → dp ≤ dm → un ≤ um →
    (∀ v h' tk news' h₀', KtsTurn (outer.filterMap (·.frame)) h₀ h₀' → Fr h₀' L h' m → News h₀' L h' news' → Below A₀ base outer h₀' → (hd.heap_39 w.params).In h₀' → Top p loose mean mg mb h₀' → KtsDicts (outer.filterMap (·.frame)) h₀' →
      Stay s.heap (small.map (·.1) ++ (envOf cn cs L a ccd :: outer).filterMap (·.frame)) h' → (∀ p ∈ news', p.1 ∉ small.map (·.1) → s.heap.get? p.1 = none) → Post v news' → R (.ok (.ret v)) { s with heap := h', toks := tk }) →
    codeAny (model Challenge.rw_iu0035_01.row.prog w) (ktrTop dp un gd cn cs L a ccd [] outer) (.call (.ref f) ⟨args, []⟩) R s
theorem Cut.newsT {h₀ h₀' h h' : Heap} {L a : Addr} {cn : Str} {cs : Scope} {ccd : Value} {outer : List Env} {A₀ : Around} {base : Heap} {small news keep : List (Addr × Obj)} (c : Cut small news keep) (B : Below A₀ base outer h₀) (N : News h₀ L h news) (T : KtsTurn (outer.filterMap (·.frame)) h₀ h₀')
    (st : Stay h (small.map (·.1) ++ (envOf cn cs L a ccd :: outer).filterMap (·.frame)) h') : News h₀' L h' keep := fun p hp => by
  obtain ⟨hm, hn⟩ := c.spec p hp
  refine ⟨st _ _ (N p hm).1 ?_, (N p hm).2.1, T.none_ _ (N p hm).2.2⟩
  rw [List.mem_append, not_or]
  refine ⟨hn, fun q => ?_⟩
  rcases kts_mem q with z | z
  · exact (N p hm).2.1 z
  · obtain ⟨_, o, ho, _⟩ := B.frames.mem z
    rw [(N p hm).2.2] at ho; cases ho
section
variable {w : World} {dm um : Nat} {f : Addr} {args : List Value} {small news keep : List (Addr × Obj)} {Post : Value → List (Addr × Obj) → Prop}
  {p : Program} {loose : List Str} {mean : ExcName → Option Value} {mg mb : Str → Option Value} {dp un : Nat} {gd : Option (List Code)} {cn : Str} {cs : Scope} {a : Addr} {ccd : Value} {outer : List Env} {A₀ : Around} {base h₀ : Heap} {L : Addr} {m : Str → Option Value} {s : Shared}
theorem ConT.use {Q E : Value → Shared → Prop} (c : ConT w dm um f args small Post) (B : Below A₀ base outer h₀) (F : Fr h₀ L s.heap m) (X : (hd.heap_39 w.params).In h₀) (N : News h₀ L s.heap news) (T : Top p loose mean mg mb h₀) (XB : (hd.heap_39 w.params).In base) (TB : Top p loose mean mg mb base) (D : KtsDicts (outer.filterMap (·.frame)) h₀)
    (hk : cs.kind = .function) (hd : dp ≤ dm) (hu : un ≤ um) (hs : ∀ q ∈ small, q ∈ news) (ct : Cut small news keep)
    (h : ∀ v h' tk nw h₀', KtsTurn (outer.filterMap (·.frame)) h₀ h₀' → Fr h₀' L h' m → News h₀' L h' (keep ++ nw) → Below A₀ base outer h₀' → (Mine.hd.heap_39 w.params).In h₀' → Top p loose mean mg mb h₀' → KtsDicts (outer.filterMap (·.frame)) h₀' → Post v nw → (∀ p ∈ nw, p.1 ∉ small.map (·.1) → ∀ q ∈ news, q.1 ≠ p.1) → Q v { s with heap := h', toks := tk }) :
    wpAny (model Challenge.rw_iu0035_01.row.prog w) (ktrTop dp un gd cn cs L a ccd [] outer) (call (.ref f) args) Q E s :=
  wpAny_call (c p loose mean mg mb dp un gd cn cs a ccd outer A₀ base h₀ L m s _ B F X (newsSub N hs) T XB TB D hk hd hu fun v h' tk nw h₀' t F' N' B' X' T' D' st ap po => h v h' tk nw h₀' t F' (newsBoth (ct.newsT B N t st) N') B' X' T' D' po fun r hr hn q hq e => by
    have h1 := ap r hr hn
    rw [← e, (N q hq).1] at h1
    cases h1)
theorem fr_nil {h h₀' h' : Heap} (t : KtsTurn [] h h₀') (F : Fr h₀' L h' m) : Fr h L h' m := ⟨F.ns, fun b o e => F.keep b o (t.other b o e (fun q => nomatch q)), by rw [← t.size]; exact F.above⟩
theorem news_nil {h h₀' h' : Heap} {nw : List (Addr × Obj)} (t : KtsTurn [] h h₀') (N : News h₀' L h' nw) : News h L h' nw := fun p hp => ⟨(N p hp).1, (N p hp).2.1, by
  cases q : h.get? p.1 with
  | none => rfl
  | some o => have := t.other _ _ q (fun q => nomatch q); rw [(N p hp).2.2] at this; cases this⟩
theorem ConT.use0 {Q E : Value → Shared → Prop} (c : ConT w dm um f args small Post) (B : Below A₀ h₀ [] h₀) (F : Fr h₀ L s.heap m) (X : (hd.heap_39 w.params).In h₀) (N : News h₀ L s.heap news) (T : Top p loose mean mg mb h₀)
    (hk : cs.kind = .function) (hd : dp ≤ dm) (hu : un ≤ um) (hs : ∀ q ∈ small, q ∈ news) (ct : Cut small news keep)
    (h : ∀ v h' tk nw, Fr h₀ L h' m → News h₀ L h' (keep ++ nw) → Post v nw → (∀ p ∈ nw, p.1 ∉ small.map (·.1) → ∀ q ∈ news, q.1 ≠ p.1) → Q v { s with heap := h', toks := tk }) :
    wpAny (model Challenge.rw_iu0035_01.row.prog w) (ktrTop dp un gd cn cs L a ccd [] []) (call (.ref f) args) Q E s :=
  c.use B F X N T X T ktsDicts_nil hk hd hu hs ct fun v h' tk nw h₀' t F' N' _ _ _ _ po ap => h v h' tk nw (fr_nil t F') (news_nil t N') po ap
end
section
variable {M : Model} {A : Around} {E : Value → Shared → Prop} {s : Shared} {K : Frag} {x C L f : Addr} {h₀ : Heap} {m : Str → Option Value} {ox : Obj} {od : Option Obj} {i : Value}
/-- `del x[i]`, x an object whose class defines it -/
theorem del_inst {Q : Unit → Shared → Prop} (F : Fr h₀ L s.heap m) (X₀ : K.In h₀) (I : InstAt s.heap x ox C od) (hq : noSeq K C = true) (hs : findIn K (.ref C) "__delitem__" = some (some (.ref f))) (hf : isFn K (.ref f) = true)
    (h : wpAny M A (call (.ref f) [.ref x, i]) (fun _ s' => Q () s') E s) : wpAny M A (delItem (.ref x) i) Q E s := by
  have X := X₀.keeps F.keep
  unfold delItem sequenceKey
  refine wpAny_holding (wpAny_bind (wpAny_bind (I.type.here ?_)))
  refine wpAny_bind ((anyM_none X hq).here ?_)
  rw [if_pos (show (!false) = true from rfl)]
  exact wpAny_pure (wpAny_bind (special_fn X I hs (beq_iff_eq.mp hf) (wpAny_mono h (fun _ _ z => wpAny_pure z) fun _ _ z => z)))
end
/-! ## nodes by the register alone -/
noncomputable def NR (R : List B) (val : Nat → B) : Nat → Nat → B → Prop
  | 0, i, x => Reg R (val i) x
  | k + 1, i, x => ∃ l r, NR R val k (2 * i) l ∧ NR R val k (2 * i + 1) r ∧ Reg R (l ++ r) x
theorem NR.length {R : List B} {val : Nat → B} {k i : Nat} {x : B} (h : NR R val k i x) : x.length = 32 := by
  cases k with
  | zero => exact Reg.length h
  | succ k => obtain ⟨l, r, _, _, e⟩ := h; exact Reg.length e
theorem NR.mono {R R' : List B} (hp : R <+: R') {val : Nat → B} : ∀ {k i : Nat} {x : B}, NR R val k i x → NR R' val k i x
  | 0, _, _, h => Reg.mono h hp
  | _ + 1, _, _, h => let ⟨l, r, hl, hr, e⟩ := h; ⟨l, r, NR.mono hp hl, NR.mono hp hr, Reg.mono e hp⟩
theorem NR.fn {R : List B} (hn : R.Nodup) {val : Nat → B} : ∀ {k i : Nat} {x y : B}, NR R val k i x → NR R val k i y → x = y
  | 0, _, _, _, h, h' => Reg.fn hn h h'
  | _ + 1, _, _, _, h, h' => by
    obtain ⟨l, r, hl, hr, e⟩ := h
    obtain ⟨l', r', hl', hr', e'⟩ := h'
    rw [NR.fn hn hl hl', NR.fn hn hr hr'] at e
    exact Reg.fn hn e e'
theorem TN.toNR {R : List B} {D : List (B × B)} (hd : DbOk R D) {val : Nat → B} : ∀ {k i : Nat} {x : B}, TN D val k i x → NR R val k i x
  | 0, _, _, h => hd _ _ h.2
  | _ + 1, _, _, h => let ⟨_, l, r, hl, hr, e⟩ := h; ⟨l, r, TN.toNR hd hl, TN.toNR hd hr, hd _ _ e⟩
/-- the leaves may be told otherwise where they agree below the node -/
theorem NR.congr {R : List B} {val val' : Nat → B} : ∀ {k i : Nat} {x : B}, (∀ j, j / 2 ^ k = i → val j = val' j) → NR R val k i x → NR R val' k i x
  | 0, i, x, hv, h => by
    have := hv i (by simp)
    unfold NR at h ⊢
    rw [← this]; exact h
  | k + 1, i, x, hv, h => by
    obtain ⟨l, r, hl, hr, e⟩ := h
    refine ⟨l, r, NR.congr (fun j hj => hv j ?_) hl, NR.congr (fun j hj => hv j ?_) hr, e⟩
    · rw [halfDiv, hj]; omega
    · rw [halfDiv, hj]; omega
section
variable {prog : Program} {w : World} {A : Around} {E : Value → Shared → Prop} {s : Shared} {t u : Tok} {x : B}
theorem mul2_b {Q : Value → Shared → Prop} (hx : x.length = 32) (h : ∀ t' k, Q (.bytes (x ++ x).toArray t') { s with toks := k }) : wpAny (model prog w) A (binaryOp .Mult (.bytes x.toArray t) (.int 2 u)) Q E s := by
  refine bytes_mul_K (fun e => by rw [e] at hx; cases hx) (by decide) (by decide) (by rw [hx]; decide) ?_ h
  show (List.replicate 2 x).flatten = _
  simp [List.replicate_succ]
theorem mul1_b {c : UInt8} {n : Int} {Q : Value → Shared → Prop} (h0 : 0 ≤ n) (h1 : n ≤ 40) (h : ∀ y t' k, y.length ≤ 40 → Q (.bytes (List.toArray y) t') { s with toks := k }) : wpAny (model prog w) A (binaryOp .Mult (.bytes #[c] t) (.int n u)) Q E s := by
  refine bytes_mul_any (b := [c]) (fun e => by cases e) (by omega) (by omega) (by simp) fun t' k => h _ _ _ ?_
  simp; omega
end
section
variable {prog : Program} {w : World} {K : Type} [DecidableEq K] {knd : KeyKind prog w K} {A : Around} {E : Value → Shared → Prop} {s : Shared} {h₀ : Heap} {L d : Addr} {m : Str → Option Value} {news : List (Addr × Obj)} {o : Obj} {hs : List (K × B)} {k : K} {key : Value} {y : B} {t : Tok}
theorem dictB_method {pl : Sem Bool} {Q : Value × List Value → Shared → Prop} (N : News h₀ L s.heap news) (hp : (d, o) ∈ news) (hd : DictB knd o hs) (h : Q (.builtin "dict.get", [.ref d]) s) : wpAny (model prog w) A (getMethod (.ref d) "get" pl) Q E s := by
  obtain ⟨kvs, hd, hh⟩ := hd
  exact kdg_method N hp hd h
theorem dictB_get2 {Q : Value → Shared → Prop} (N : News h₀ L s.heap news) (hp : (d, o) ∈ news) (hd : DictB knd o hs) (lo : (d == sysModules) = false) (hkey : knd.is k key = true) (h : ∀ t', Q (.bytes ((lk hs k).getD y).toArray t') { s with toks := s.toks + 1 }) :
    wpAny (model prog w) A (call (.builtin "dict.get") [.ref d, key, .bytes y.toArray t]) Q E s := by
  obtain ⟨kvs, hd, hh⟩ := hd
  refine kdg_get2 N hp hd lo hkey _ rfl ?_
  cases hl : lk hs k with
  | none => rw [hh.none hl]; simpa [hl] using h t
  | some x => obtain ⟨t', ht⟩ := hh.some hl; rw [ht]; simpa [hl] using h t'
end
theorem ikey (prog : Program) (w : World) (k : Int) (t : Tok) : (intKind prog w).is k (.int k t) = true := intKind_is prog w k t
section
variable {prog : Program} {w : World} {A : Around} {E : Value → Shared → Prop} {s : Shared} {t u : Tok}
theorem pow2_n {k : Nat} {Q : Value → Shared → Prop} (hk : k ≤ 1000) (h : ∀ t' k', Q (.int ((2 ^ k : Nat) : Int) t') { s with toks := k' }) : wpAny (model prog w) A (binaryOp .Pow (.int 2 t) (.int (k : Int) u)) Q E s := by
  refine pow_int_small (by omega) (by omega) (by decide) ?_
  have e : (2 : Int) ^ ((k : Int)).toNat = ((2 ^ k : Nat) : Int) := by rw [Int.toNat_natCast]; push_cast; rfl
  rw [e]; exact h _ _
theorem fdiv_n {a b : Nat} {Q : Value → Shared → Prop} (hz : b ≤ 16777216) (hb : 0 < b) (h : ∀ t' k', Q (.int ((a / b : Nat) : Int) t') { s with toks := k' }) : wpAny (model prog w) A (binaryOp .FloorDiv (.int (a : Int) t) (.int (b : Int) u)) Q E s := by
  refine floordiv_int (by omega) ?_
  have e : ((a : Int)).fdiv (b : Int) = ((a / b : Nat) : Int) := by rw [Int.fdiv_eq_ediv_of_nonneg _ (by omega)]; rfl
  rw [e]; exact h _ _
end
/-- the law's own levels, in the ledger: the pair, the empties, the list of levels, the levels -/
def Known (w : World) (R : List B) (val : Nat → B) (dep : Nat) (kn : Addr) (KG : List (Addr × Obj)) : Prop :=
  (X9 fun (e l : Addr) (evs : List Value) (es : List B) (ds : List Addr) (DG : List (Addr × Obj)) (Ls : Nat → List (Int × B)) (ce cl : Nat) => A6 (KG = (kn, tupOf [.ref e, .ref l]) :: (e, listOf evs.toArray ce) :: (l, listOf (ds.map Value.ref).toArray cl) :: DG) (BL evs es) (es.length = dep + 1) (ds.length = dep + 1) ((∀ k d, ds[k]? = some d → (d == sysModules) = false ∧ ∃ o, (d, o) ∈ DG ∧ DictB (intKind Challenge.rw_iu0035_01.row.prog w) o (Ls k))) ((∀ k x, es[k]? = some x → ∀ i : Nat, NR R val k i ((lk (Ls k) (i : Int)).getD x))))
theorem Known.mono {w : World} {R R' : List B} (hp : R <+: R') {val : Nat → B} {dep : Nat} {kn : Addr} {KG : List (Addr × Obj)} (h : Known w R val dep kn KG) : Known w R' val dep kn KG := by
  obtain ⟨e, l, evs, es, ds, DG, Ls, ce, cl, h1, h2, h3, h4, h5, h6⟩ := h
  exact ⟨e, l, evs, es, ds, DG, Ls, ce, cl, h1, h2, h3, h4, h5, fun k x hx i => (h6 k x hx i).mono hp⟩
theorem Stay.dup {h h' : Heap} {a : Addr} {as : List Addr} (s : Stay h (a :: as) h') (hm : a ∈ as) : Stay h as h' := fun b o e n => s b o e fun q => (List.mem_cons.mp q).elim (fun z => n (z ▸ hm)) n
section
variable {prog : Program} {w : World} {A : Around} {E : Value → Shared → Prop} {s : Shared} {h₀ : Heap} {L l : Addr} {news : List (Addr × Obj)} {vs : List Value} {c : Nat} {u : Tok} {x : Value} {k : Nat}
theorem item_V {value slice : PySem.Expr} {Q : Value → Shared → Prop} (N : News h₀ L s.heap news) (hm : (l, listOf vs.toArray c) ∈ news) (hk : k ≤ 16777216) (hx : vs[k]? = some x) (h : Q x s)
    (hs : subscripted slice false (.ref l) (.int (k : Int) u) = operate [.ref l, .int (k : Int) u] (getItem (.ref l) (.int (k : Int) u)) := by with_unfolding_all rfl) (hg : ∀ r, letTemporaryGo value (.ref l) r = pure () := by intro _; with_unfolding_all rfl) :
    wpAny (model prog w) A (subscriptTail value slice (.ref l) (.int (k : Int) u)) Q E s :=
  item_listL ⟨_, (N _ hm).1, rfl, c, rfl⟩ (by omega) (by omega) (by rw [Int.toNat_natCast]; exact hx) h hs hg
end
theorem allLt_lt {c : Addr} : ∀ {l : List (Addr × Obj)}, AllLt c l → ∀ p ∈ l, @LT.lt Nat _ p.1 c
  | [], _, _, hp => nomatch hp
  | q :: l, h, p, hp => by
    rcases List.mem_cons.mp hp with rfl | hp
    · exact h.1
    · exact allLt_lt h.2 p hp
theorem allLt_ne {c : Addr} {l : List (Addr × Obj)} (h : AllLt c l) : ∀ p ∈ l, p.1 ≠ c := fun p hp => Nat.ne_of_lt (allLt_lt h p hp)
section
variable {prog : Program} {w : World} {A : Around} {E : Value → Shared → Prop} {s : Shared} {t u : Tok}
theorem mod2_n {a : Nat} {Q : Value → Shared → Prop} (h : ∀ t' k', Q (.int ((a % 2 : Nat) : Int) t') { s with toks := k' }) : wpAny (model prog w) A (binaryOp .Mod (.int (a : Int) t) (.int 2 u)) Q E s := by
  refine mod_int (by decide) ?_
  have e : ((a : Int)).fmod 2 = ((a % 2 : Nat) : Int) := by rw [Int.fmod_eq_emod_of_nonneg _ (by decide)]; rfl
  rw [e]; exact h _ _
theorem add1_n {a : Nat} {Q : Value → Shared → Prop} (h : ∀ t' k', Q (.int ((a + 1 : Nat) : Int) t') { s with toks := k' }) : wpAny (model prog w) A (binaryOp .Add (.int (a : Int) t) (.int 1 u)) Q E s := add_int (h _ _)
theorem sub1_n {a : Nat} {Q : Value → Shared → Prop} (ha : 1 ≤ a) (h : ∀ t' k', Q (.int ((a - 1 : Nat) : Int) t') { s with toks := k' }) : wpAny (model prog w) A (binaryOp .Sub (.int (a : Int) t) (.int 1 u)) Q E s := sub_int (by
  have e : (a : Int) - 1 = ((a - 1 : Nat) : Int) := by omega
  rw [e]; exact h _ _)
end
/-! ## the numbers of keys; the levels, in plain Lean -/
theorem natOf_go (k : B) : ∀ a : Nat, k.foldl (fun (acc : Nat) (b : UInt8) => acc * 256 + b.toNat) a = a * 256 ^ k.length + natOf k := by
  unfold natOf
  induction k with
  | nil => intro a; simp
  | cons b k ih =>
    intro a
    simp only [List.foldl_cons, List.length_cons]
    rw [ih (a * 256 + b.toNat), ih (0 * 256 + b.toNat), Nat.pow_succ, Nat.add_mul, Nat.zero_mul, Nat.zero_add, Nat.add_assoc, Nat.mul_assoc, Nat.mul_comm 256]
theorem natOf_cons (b : UInt8) (k : B) : natOf (b :: k) = b.toNat * 256 ^ k.length + natOf k := by
  show (b :: k).foldl _ 0 = _
  rw [List.foldl_cons, natOf_go]; simp
theorem natOf_lt : ∀ k : B, natOf k < 256 ^ k.length
  | [] => by decide
  | b :: k => by
    rw [natOf_cons, List.length_cons, Nat.pow_succ]
    have := natOf_lt k
    have hb := b.toNat_lt
    have : b.toNat * 256 ^ k.length + 256 ^ k.length ≤ 256 ^ k.length * 256 := by
      rw [← Nat.succ_mul, Nat.mul_comm]
      exact Nat.mul_le_mul_left _ (by omega)
    omega
theorem natOf_inj : ∀ {k k' : B}, k.length = k'.length → natOf k = natOf k' → k = k'
  | [], [], _, _ => rfl
  | [], _ :: _, h, _ => by simp at h
  | _ :: _, [], h, _ => by simp at h
  | b :: k, b' :: k', h, e => by
    have hl : k.length = k'.length := by simpa using h
    rw [natOf_cons, natOf_cons, hl] at e
    have h1 := natOf_lt k
    have h2 := natOf_lt k'
    rw [hl] at h1
    have hb : b.toNat = b'.toNat := by
      have e1 := congrArg (· / 256 ^ k'.length) e
      have hp : 0 < 256 ^ k'.length := Nat.pow_pos (by decide)
      simp only [Nat.mul_comm _ (256 ^ k'.length), Nat.mul_add_div hp, Nat.div_eq_of_lt h1, Nat.div_eq_of_lt h2, Nat.add_zero] at e1
      exact e1
    have hbb : b = b' := UInt8.toNat_inj.mp hb
    subst hbb
    rw [natOf_inj hl (by omega)]
/-- the leaf of number i: what is held under the key of that number, else the default -/
def valOf (hh : List (B × B)) (dflt : B) (i : Nat) : B := ((hh.find? fun p => natOf p.1 = i).map (·.2)).getD dflt
theorem valOf_some {hh : List (B × B)} {dflt : B} {size : Nat} (hs : ∀ p ∈ hh, p.1.length = size) {k v : B} (hk : k.length = size) (h : lk hh k = some v) : valOf hh dflt (natOf k) = v := by
  unfold valOf lk at *
  have : (hh.find? fun p => natOf p.1 = natOf k) = hh.find? fun p => p.1 = k := by
    induction hh with
    | nil => rfl
    | cons p hh ih =>
      rw [List.find?_cons, List.find?_cons]
      have hp := hs p (.head _)
      by_cases c : p.1 = k
      · simp [c]
      · have c' : natOf p.1 ≠ natOf k := fun q => c (natOf_inj (hp.trans hk.symm) q)
        simp only [c, c', decide_false]
        refine ih (fun q hq => hs q (.tail _ hq)) ?_
        simpa [List.find?_cons, c] using h
  rw [this, h]; rfl
theorem valOf_none {hh : List (B × B)} {dflt : B} {i : Nat} (h : ∀ p ∈ hh, natOf p.1 ≠ i) : valOf hh dflt i = dflt := by
  unfold valOf
  rw [List.find?_eq_none.mpr (by simpa using h)]; rfl
theorem bkey_inv {prog : Program} {w : World} {k : B} {v : Value} (h : (bytesKind prog w).is k v = true) : ∃ t, v = .bytes k.toArray t := by
  cases v <;> simp [bytesKind, isBytes] at h
  rename_i a t
  exact ⟨t, by rw [← h]⟩
theorem ikey_inv {prog : Program} {w : World} {k : Int} {v : Value} (h : (intKind prog w).is k v = true) : ∃ t, v = .int k t := by
  cases v <;> simp [intKind, Value.isInt] at h
  rename_i a t
  exact ⟨t, by rw [h]⟩
/-- one level up -/
theorem levelUp {R : List B} {val : Nat → B} {k : Nat} {ls as : List (Int × B)} {e e' : B} (hN : ∀ n : Nat, NR R val k n ((lk ls (n : Int)).getD e)) (hE : Reg R (e ++ e) e')
    (h1 : ∀ a x, lk as a = some x → ∃ n : Nat, a = (n : Int) ∧ Reg R ((lk ls ((2 * n : Nat) : Int)).getD e ++ (lk ls ((2 * n + 1 : Nat) : Int)).getD e) x)
    (h2 : ∀ n : Nat, (lk ls (n : Int)).isSome → (n % 2 = 0 ∨ lk ls ((n - n % 2 : Nat) : Int) = none) → (lk as ((n / 2 : Nat) : Int)).isSome) (n : Nat) : NR R val (k + 1) n ((lk as (n : Int)).getD e') := by
  cases ha : lk as (n : Int) with
  | some x =>
    obtain ⟨n', en, hr⟩ := h1 _ _ ha
    have : n = n' := by omega
    subst this
    exact ⟨_, _, hN (2 * n), hN (2 * n + 1), hr⟩
  | none =>
    have e0 : lk ls ((2 * n : Nat) : Int) = none := by
      cases q : lk ls ((2 * n : Nat) : Int) with
      | none => rfl
      | some x =>
        have := h2 (2 * n) (by rw [q]; rfl) (.inl (by omega))
        rw [show 2 * n / 2 = n by omega, ha] at this; cases this
    have e1 : lk ls ((2 * n + 1 : Nat) : Int) = none := by
      cases q : lk ls ((2 * n + 1 : Nat) : Int) with
      | none => rfl
      | some x =>
        have := h2 (2 * n + 1) (by rw [q]; rfl) (.inr (by rw [show 2 * n + 1 - (2 * n + 1) % 2 = 2 * n by omega]; exact e0))
        rw [show (2 * n + 1) / 2 = n by omega, ha] at this; cases this
    have a0 := hN (2 * n)
    have a1 := hN (2 * n + 1)
    rw [e0] at a0
    rw [e1] at a1
    exact ⟨_, _, a0, a1, hE⟩
theorem Cut.app {small a ka b kb : List (Addr × Obj)} (h : Cut small a ka) (h' : Cut small b kb) : Cut small (a ++ b) (ka ++ kb) := by
  induction h with
  | nil => exact h'
  | drop _ ih => exact .drop ih
  | keep hq _ ih => exact .keep hq ih
  | lose => rename_i r; induction r with
    | nil => exact h'
    | cons p r ih => exact .drop ih
  | tail ht => rename_i r; induction r with
    | nil => exact h'
    | cons p r ih => exact .keep (ht p (.head _)) (ih fun q hq => ht q (.tail _ hq))
theorem HashG.cutApp {w : World} {φ : Addr} {c₀ : Nat} {R : List B} {HG DG : List (Addr × Obj)} (H : HashG w φ c₀ R HG) (h : ∀ p ∈ DG, @LE.le Nat _ c₀ p.1) : Cut HG (DG ++ HG) DG := by
  have : Cut HG (DG ++ HG) (DG ++ []) := Cut.app (.tail fun p hp => H.off (h p hp)) .lose
  rwa [List.append_nil] at this
section
variable {prog : Program} {w : World} {A : Around} {E : Value → Shared → Prop} {s : Shared} {t u : Tok}
theorem fdiv2_n {a : Nat} {Q : Value → Shared → Prop} (h : ∀ t' k', Q (.int ((a / 2 : Nat) : Int) t') { s with toks := k' }) : wpAny (model prog w) A (binaryOp .FloorDiv (.int (a : Int) t) (.int 2 u)) Q E s := by
  refine floordiv_int (by decide) ?_
  have e : ((a : Int)).fdiv 2 = ((a / 2 : Nat) : Int) := by rw [Int.fdiv_eq_ediv_of_nonneg _ (by decide)]; rfl
  rw [e]; exact h _ _
theorem sub_n {a b : Nat} {Q : Value → Shared → Prop} (hb : b ≤ a) (h : ∀ t' k', Q (.int ((a - b : Nat) : Int) t') { s with toks := k' }) : wpAny (model prog w) A (binaryOp .Sub (.int (a : Int) t) (.int (b : Int) u)) Q E s := sub_int (by
  have e : (a : Int) - (b : Int) = ((a - b : Nat) : Int) := by omega
  rw [e]; exact h _ _)
end
theorem allApp {a : Addr} {l l' : List (Addr × Obj)} (h : ∀ p ∈ l, p.1 ≠ a) (h' : ∀ p ∈ l', p.1 ≠ a) : ∀ p ∈ l ++ l', p.1 ≠ a := fun p hp => (List.mem_append.mp hp).elim (h p) (h' p)
theorem subApp {l l' r : List (Addr × Obj)} (h : ∀ p ∈ l, p ∈ r) (h' : ∀ p ∈ l', p ∈ r) : ∀ p ∈ l ++ l', p ∈ r := fun p hp => (List.mem_append.mp hp).elim (h p) (h' p)
theorem subL (l l' : List (Addr × Obj)) : ∀ p ∈ l, p ∈ l ++ l' := fun _ hp => List.mem_append_left _ hp
theorem subR (l l' : List (Addr × Obj)) : ∀ p ∈ l', p ∈ l ++ l' := fun _ hp => List.mem_append_right _ hp
theorem subC {q : Addr × Obj} {l r : List (Addr × Obj)} (h : ∀ p ∈ l, p ∈ r) : ∀ p ∈ l, p ∈ q :: r := fun p hp => .tail _ (h p hp)
theorem subId (l : List (Addr × Obj)) : ∀ p ∈ l, p ∈ l := fun _ hp => hp
/-! ## the levels, in plain Lean -/
def Lev0 (R : List B) (hh : List (B × B)) (dflt : B) (i : Nat) (ls : List (Int × B)) : Prop :=
  (∀ a x, lk ls a = some x → ∃ n : Nat, a = (n : Int) ∧ Reg R (valOf hh dflt n) x) ∧ ∀ j k, j < i → (hh.map (·.1))[j]? = some k → (lk ls (natOf k : Int)).isSome
theorem Lev0.start (R : List B) (hh : List (B × B)) (dflt : B) : Lev0 R hh dflt 0 [] := ⟨fun a x h => by simp [lk] at h, fun j k h => by omega⟩
theorem Lev0.step {R R' : List B} {hh : List (B × B)} {dflt : B} {i size : Nat} {ls : List (Int × B)} {k v x : B} (h : Lev0 R hh dflt i ls) (hp : R <+: R') (hk : (hh.map (·.1))[i]? = some k) (hv : lk hh k = some v) (hs : ∀ p ∈ hh, p.1.length = size) (hkl : k.length = size) (hr : Reg R' v x) :
    Lev0 R' hh dflt (i + 1) (put ls (natOf k : Int) x) := by
  refine ⟨fun a y e => ?_, fun j k' hj hk' => ?_⟩
  · rw [lk_put] at e
    by_cases c : a = (natOf k : Int)
    · rw [if_pos c] at e; cases e
      exact ⟨_, c, by rw [valOf_some hs hkl hv]; exact hr⟩
    · rw [if_neg c] at e
      obtain ⟨n, e1, e2⟩ := h.1 a y e
      exact ⟨n, e1, e2.mono hp⟩
  · rw [lk_put]
    split
    · rfl
    · rename_i c
      by_cases q : j = i
      · subst q; rw [hk] at hk'; cases hk'; exact absurd rfl c
      · exact h.2 j k' (by omega) hk'
theorem Lev0.done {R : List B} {hh : List (B × B)} {dflt e : B} {ls : List (Int × B)} (h : Lev0 R hh dflt hh.length ls) (hr : Reg R dflt e) (n : Nat) : NR R (valOf hh dflt) 0 n ((lk ls (n : Int)).getD e) := by
  cases q : lk ls (n : Int) with
  | some x =>
    obtain ⟨n', e1, e2⟩ := h.1 _ _ q
    have : n = n' := by omega
    subst this; exact e2
  | none =>
    have : valOf hh dflt n = dflt := valOf_none fun p hp e => by
      obtain ⟨j, hj⟩ := List.getElem?_of_mem hp
      have hlt := (List.getElem?_eq_some_iff.mp hj).1
      have := h.2 j p.1 hlt (by rw [List.getElem?_map, hj]; rfl)
      rw [e, q] at this; cases this
    show Reg R (valOf hh dflt n) e
    rw [this]; exact hr
theorem Lev0.nat {R : List B} {hh : List (B × B)} {dflt : B} {i : Nat} {ls : List (Int × B)} (h : Lev0 R hh dflt i ls) : ∀ a ∈ ls.map (·.1), ∃ n : Nat, a = (n : Int) := fun a ha => by
  cases q : lk ls a with
  | none => exact absurd ha (lk_none_iff.mp q)
  | some x => obtain ⟨n, e, _⟩ := h.1 a x q; exact ⟨n, e⟩
def LevU (R : List B) (ls : List (Int × B)) (e : B) (i : Nat) (as : List (Int × B)) : Prop :=
  (∀ a x, lk as a = some x → ∃ n : Nat, a = (n : Int) ∧ Reg R ((lk ls ((2 * n : Nat) : Int)).getD e ++ (lk ls ((2 * n + 1 : Nat) : Int)).getD e) x) ∧
    ∀ (j n : Nat), j < i → (ls.map (·.1))[j]? = some (n : Int) → (n % 2 = 0 ∨ lk ls ((n - n % 2 : Nat) : Int) = none) → (lk as ((n / 2 : Nat) : Int)).isSome
theorem LevU.start (R : List B) (ls : List (Int × B)) (e : B) : LevU R ls e 0 [] := ⟨fun a x h => by simp [lk] at h, fun j k h => by omega⟩
theorem LevU.step {R R' : List B} {ls : List (Int × B)} {e x : B} {i n : Nat} {as : List (Int × B)} (h : LevU R ls e i as) (hp : R <+: R') (hk : (ls.map (·.1))[i]? = some (n : Int))
    (hr : Reg R' ((lk ls ((n - n % 2 : Nat) : Int)).getD e ++ (lk ls ((n - n % 2 + 1 : Nat) : Int)).getD e) x) : LevU R' ls e (i + 1) (put as ((n / 2 : Nat) : Int) x) := by
  refine ⟨fun a y q => ?_, fun j n' hj hk' hc => ?_⟩
  · rw [lk_put] at q
    by_cases c : a = ((n / 2 : Nat) : Int)
    · rw [if_pos c] at q; cases q
      refine ⟨_, c, ?_⟩
      rw [show n - n % 2 = 2 * (n / 2) by omega] at hr
      exact hr
    · rw [if_neg c] at q
      obtain ⟨n', e1, e2⟩ := h.1 a y q
      exact ⟨n', e1, e2.mono hp⟩
  · rw [lk_put]
    split
    · rfl
    · rename_i c
      by_cases q : j = i
      · subst q; rw [hk] at hk'; have : n = n' := by injection hk' with z; omega
        subst this; exact absurd rfl c
      · exact h.2 j n' (by omega) hk' hc
theorem LevU.skip {R : List B} {ls : List (Int × B)} {e : B} {i n : Nat} {as : List (Int × B)} (h : LevU R ls e i as) (hk : (ls.map (·.1))[i]? = some (n : Int)) (h1 : n % 2 = 1) (h2 : (lk ls ((n - n % 2 : Nat) : Int)).isSome = true) : LevU R ls e (i + 1) as := by
  refine ⟨h.1, fun j n' hj hk' hc => ?_⟩
  by_cases q : j = i
  · subst q; rw [hk] at hk'; have : n = n' := by injection hk' with z; omega
    subst this
    rcases hc with hc | hc
    · omega
    · rw [hc] at h2; cases h2
  · exact h.2 j n' (by omega) hk' hc
theorem LevU.mono {R R' : List B} {ls : List (Int × B)} {e : B} {i : Nat} {as : List (Int × B)} (h : LevU R ls e i as) (hp : R <+: R') : LevU R' ls e i as :=
  ⟨fun a x q => let ⟨n, e1, e2⟩ := h.1 a x q; ⟨n, e1, e2.mono hp⟩, h.2⟩
theorem LevU.nat {R : List B} {ls : List (Int × B)} {e : B} {i : Nat} {as : List (Int × B)} (h : LevU R ls e i as) : ∀ a ∈ as.map (·.1), ∃ n : Nat, a = (n : Int) := fun a ha => by
  cases q : lk as a with
  | none => exact absurd ha (lk_none_iff.mp q)
  | some x => obtain ⟨n, e, _⟩ := h.1 a x q; exact ⟨n, e⟩
theorem LevU.done {R : List B} {val : Nat → B} {k : Nat} {ls as : List (Int × B)} {e e' : B} (h : LevU R ls e ls.length as) (hN : ∀ n : Nat, NR R val k n ((lk ls (n : Int)).getD e)) (hE : Reg R (e ++ e) e') (n : Nat) :
    NR R val (k + 1) n ((lk as (n : Int)).getD e') := by
  refine levelUp hN hE h.1 (fun m hm hc => ?_) n
  cases q : lk ls (m : Int) with
  | none => rw [q] at hm; cases hm
  | some x =>
    have hmem := mem_of_lk q
    obtain ⟨j, hj⟩ := List.getElem?_of_mem hmem
    have hlt := (List.getElem?_eq_some_iff.mp hj).1
    exact h.2 j m hlt (by rw [List.getElem?_map, hj]; rfl) hc
theorem key_at {K : Type} [DecidableEq K] {hs : List (K × B)} (hn : (hs.map (·.1)).Nodup) {i : Nat} {k : K} (h : (hs.map (·.1))[i]? = some k) : ∃ v, (k, v) ∈ hs ∧ lk hs k = some v ∧ i < hs.length := by
  rw [List.getElem?_map] at h
  obtain ⟨⟨k', v⟩, hp, rfl⟩ := Option.map_eq_some_iff.mp h
  have hm := List.mem_of_getElem? hp
  exact ⟨v, hm, lk_of_mem hn hm, (List.getElem?_eq_some_iff.mp hp).1⟩
theorem newsAdd {h₀ h : Heap} {L : Addr} {q : Addr × Obj} {news : List (Addr × Obj)} (N : News h₀ L h news) (hq : q ∈ news) : News h₀ L h (q :: news) := fun p hp => (List.mem_cons.mp hp).elim (fun e => e ▸ N q hq) (N p)
theorem allLt_left {c : Addr} : ∀ {l r : List (Addr × Obj)}, AllLt c (l ++ r) → ∀ p ∈ l, @LT.lt Nat _ p.1 c := fun h p hp => allLt_lt h p (List.mem_append_left _ hp)
theorem consSub {a : Addr × Obj} {l r : List (Addr × Obj)} (h : a ∈ r) (h' : ∀ p ∈ l, p ∈ r) : ∀ p ∈ a :: l, p ∈ r := fun p hp => (List.mem_cons.mp hp).elim (fun e => e ▸ h) (h' p)
theorem consNe {a : Addr × Obj} {c : Addr} {l : List (Addr × Obj)} (h : a.1 ≠ c) (h' : ∀ p ∈ l, p.1 ≠ c) : ∀ p ∈ a :: l, p.1 ≠ c := fun p hp => (List.mem_cons.mp hp).elim (fun e => e ▸ h) (h' p)
theorem subMid {a b r : List (Addr × Obj)} (h : ∀ p ∈ a, p ∈ r) : ∀ p ∈ a, p ∈ b ++ r := fun p hp => List.mem_append_right _ (h p hp)
/-! ## what is no octet string -/
def BadV (β : Addr) (oβ : Obj) (v : Value) : Prop := oβ.cls = .type "list" ∧ ((∃ n t, v = .int n t) ∨ (∃ x t, v = .str x t) ∨ v = .none ∨ v = .ref β)
section
variable {prog : Program} {w : World} {A : Around} {E : Value → Shared → Prop} {s : Shared} {h₀ : Heap} {L β : Addr} {m : Str → Option Value} {news : List (Addr × Obj)} {oβ : Obj} {v : Value} {t : Tok} {x y : B}
theorem isi_bad {Q : Value → Shared → Prop} (hb : BadV β oβ v) (N : News h₀ L s.heap news) (hm : (β, oβ) ∈ news) (h : Q (.bool false) { s with toks := s.toks + 1 }) : wpAny (model prog w) A (call (.builtin "isinstance") [v, .type "bytes"]) Q E s := by
  obtain ⟨hc, ⟨n, t, rfl⟩ | ⟨x, t, rfl⟩ | rfl | rfl⟩ := hb
  · exact IsiPair.int_bytes h
  · exact IsiPair.str_bytes h
  · exact IsiPair.NoneType_bytes h
  · exact IsiPair.list_bytes (N _ hm).1 hc h
theorem drop1_length (hx : x.length = k) : (x.drop 1).length = k - 1 := by rw [List.length_drop, hx]
end
theorem joinParts_end {M : Model} {A : Around} {E : Value → Shared → Prop} {s : Shared} {out : Str} {Q : Value → Shared → Prop} (hsz : out.length ≤ sizeLine) (h : ∀ o, Q (.str o s.toks) { s with toks := s.toks + 1 }) : wpAny M A (joinParts out []) Q E s := joinParts_nil (h out) hsz
section
variable {prog : Program} {w : World} {A : Around} {E : Value → Shared → Prop} {s : Shared}
theorem field_lit {a : Int} {t : Tok} {Q : Value → Shared → Prop} (hd : a.natAbs.log2 < 1920) (hl : (Str.ofString (toString a)).length ≤ 100) (h : ∀ (y : Str) (u : Tok) (k : Nat), y.length ≤ 100 → Q (.str y u) { s with toks := k }) : wpAny (model prog w) A (formatField (.int a t) Str.empty) Q E s :=
  formatField_int_small hd (h _ _ _ hl)
end
/-! ## a loop whose ground may change between its turns -/
section
variable {prog : Program} {w : World} {A : Around} {E : Value → Shared → Prop} {s : Shared} {env : Env} {h₀ : Heap} {x : Str} {px : Pos} {body : List Stmt} {Q : Flow → Shared → Prop}
def LoopG (prog : Program) (w : World) (A : Around) (env : Env) (x : Str) (px : Pos) (body : List Stmt) (Q : Flow → Shared → Prop) (E : Value → Shared → Prop) (it : Value) (s₂ : Shared) : Prop :=
  codeAny (model prog w) A (.forLoop (.Name x px) it body [] env) (fun r s' => match r with | .ok f => Q f s' | .error e => cameBackBy (model prog w) A env E e s') s₂
theorem For_G {pos : Pos} {iter : PySem.Expr} (h : wpAny (model prog w) A (eval iter env) (fun xv s₁ => wpAny (model prog w) A (pyIter xv) (fun it s₂ => LoopG prog w A env x px body Q E it s₂) E s₁) E s)
    (hs : ∀ x, foldedSetIterable iter env x = pure x := by intro _; rfl) : wpAny (model prog w) A (exec (.For (.Name x px) iter body [] pos) env) Q E s :=
  wpAny_For h hs
def TurnG (L I : Addr) (J : Heap → (Str → Option Value) → List (Addr × Obj) → Prop) (o : Obj) (s₁ s₂ : Shared) : Prop :=
  (X5 fun g h' tk m' nw => A5 (s₂ = { s₁ with heap := h', toks := tk }) (Fr g L h' m') (News g L h' ((I, o) :: nw)) ((∀ p ∈ nw, p.1 ≠ I)) (J g m' nw))
def TurnQ (L I : Addr) (J : Heap → (Str → Option Value) → List (Addr × Obj) → Prop) (o : Obj) (s₁ : Shared) (Q : Flow → Shared → Prop) (f : Flow) (s₂ : Shared) : Prop :=
  match f with
  | .ret v => Q (.ret v) s₂
  | .brk => Q .next s₂
  | _ => TurnG L I J o s₁ s₂
theorem TurnG.sub {g : Heap} {L I : Addr} {J : Heap → (Str → Option Value) → List (Addr × Obj) → Prop} {o : Obj} {s₁ : Shared} {h' : Heap} {tk : Nat} {m' : Str → Option Value} {full : List (Addr × Obj)} (nw : List (Addr × Obj)) (F : Fr g L h' m') (N : News g L h' full)
    (hs : ∀ p ∈ (I, o) :: nw, p ∈ full) (hn : ∀ p ∈ nw, p.1 ≠ I) (hj : J g m' nw) : TurnG L I J o s₁ { s₁ with heap := h', toks := tk } := ⟨g, h', tk, m', nw, rfl, F, fun p hp => N p (hs p hp), hn, hj⟩

theorem loop_G {l : Addr} {its : Array Value} {c : Nat} {m₀ : Str → Option Value} {news : List (Addr × Obj)} (J : Nat → Heap → (Str → Option Value) → List (Addr × Obj) → Prop)
    (hh : A.handled = none) (hx : env.kindOf x = some .local) (hcl : (env.scope.kind == .class || (env.scope.kind == .module && env.locals != env.globals)) = false)
    (F : Fr h₀ env.locals s.heap m₀) (N : News h₀ env.locals s.heap news) (hl : ∀ i g m nw, J i g m nw → (l, listOf its c) ∈ nw) (hJ : J 0 h₀ m₀ news)
    (turn : ∀ i v g m₁ nw h tk I oI, its[i]? = some v → J i g m₁ nw → (∀ p ∈ news, p.1 < I) → (∀ p ∈ nw, p.1 ≠ I) → Fr g env.locals h (fun y => if y = x then some v else m₁ y) → News g env.locals h ((I, oI) :: nw) →
      wpAny (model prog w) A (execs body env) (TurnQ env.locals I (J (i + 1)) oI { s with heap := h, toks := tk } Q) E { s with heap := h, toks := tk })
    (done : ∀ g m₁ nw h tk, J its.size g m₁ nw → Fr g env.locals h m₁ → News g env.locals h nw → Q .next { s with heap := h, toks := tk })
    (hE : PassesOwn (model prog w) A env E := by passes_own) :
    wpAny (model prog w) A (pyIter (.ref l)) (fun it s₂ => LoopG prog w A env x px body Q E it s₂) E s := by
  have hln := hl 0 h₀ m₀ news hJ
  have hls : s.heap.IsList l its := ⟨_, (N _ hln).1, rfl, c, rfl⟩
  have hlt := Heap.lt_size (N _ hln).1
  refine wpAny_pyIter_list hls ?_
  have W := Walks.list (prog := prog) (w := w) hh s.heap.objs.size l (Nat.ne_of_lt hlt) its
  generalize hI : s.heap.objs.size = I at W ⊢
  have hnews : ∀ p ∈ news, @LT.lt Nat _ p.1 I := fun p hp => hI ▸ Heap.lt_size (N p hp).1
  have hLI : env.locals ≠ I := by rw [← hI]; exact Nat.ne_of_lt F.ns.lt
  have hgI : h₀.get? I = none := by rw [← hI]; exact next_is_new F
  unfold LoopG
  refine codeAny_forLoop
    (fun k s' => (X7 fun g h' tk m' nw oI i => A8 (s' = { s with heap := h', toks := tk }) ((h'.IsListIter I l i ∧ h'.IsList l its)) (Fr g env.locals h' m') (News g env.locals h' ((I, oI) :: nw)) ((∀ p ∈ nw, p.1 ≠ I)) (J i g m' nw) (i ≤ its.size) (k = its.size + 1 - i))) ?_ (its.size + 1)
    ⟨h₀, _, s.toks, m₀, news, { cls := .type "list_iterator", data := .fields #[.ref l, .int 0 0] }, 0, rfl, ⟨⟨_, hI ▸ Heap.get?_push_size _ rfl, rfl, rfl⟩, hls.at fun o e => Heap.get?_push_of_some _ e⟩, F.push _, fun p hp => ?ini, fun p hp => Nat.ne_of_lt (hnews p hp), hJ, Nat.zero_le _, rfl⟩
  case ini =>
    rcases List.mem_cons.mp hp with rfl | hp
    · exact ⟨hI ▸ Heap.get?_push_size _ rfl, Ne.symm hLI, hgI⟩
    · exact ⟨Heap.get?_push_of_some _ (N p hp).1, (N p hp).2⟩
  rintro k s' ⟨g, h', tk, m', nw, oI, i, rfl, hst', F', N', hnI, hJ', hi, rfl⟩
  have hgI' := (N' _ (.head _)).2.2
  have next : ∀ h₁ : Heap, (∀ b o, b ∉ [I] → h'.get? b = some o → h₁.get? b = some o) → Fr g env.locals h₁ m' ∧ News g env.locals h₁ nw := fun h₁ hk₁ =>
    ⟨⟨F'.ns.at' fun o e => hk₁ _ o (fun q => hLI (List.mem_singleton.mp q)) e, fun b o e => hk₁ b o (fun q => by rw [List.mem_singleton.mp q, hgI'] at e; cases e) (F'.keep b o e), F'.above⟩,
      fun p hp => ⟨hk₁ _ _ (fun q => hnI p hp (List.mem_singleton.mp q)) (N' p (.tail _ hp)).1, (N' p (.tail _ hp)).2⟩⟩
  by_cases hlti : i < its.size
  · refine W.item i _ _ _ hlti hst' fun v h₁ tk₁ hP hst₁ hk₁ => ?_
    obtain ⟨F₁, N₁⟩ := next h₁ hk₁
    obtain ⟨o₁, ho₁, ho₁'⟩ := hst₁.1
    have N₁' : News g env.locals h₁ ((I, o₁) :: nw) := fun p hp => by
      rcases List.mem_cons.mp hp with rfl | hp
      · exact ⟨ho₁, Ne.symm hLI, hgI'⟩
      · exact N₁ p hp
    refine wpAny_assign_Name (wpAny_storeName_local hx F₁.ns (fun h₂ hn₂ hs₂ => ?_) hcl)
    have F₂ := F₁.set hn₂ hs₂
    have N₂ := N₁'.set hs₂
    refine wpAny_mono (wpAny_passesOwn hE (turn i v g m' nw h₂ _ I o₁ hP hJ' hnews hnI F₂ N₂)) (fun f s₃ h₃ => ?_) fun _ _ e => e
    have fin : TurnG env.locals I (J (i + 1)) o₁ { s with heap := h₂, toks := tk₁ } s₃ → ∃ m, m < its.size + 1 - i ∧ (X7 fun g h' tk m' nw oI i => A8 (s₃ = { s with heap := h', toks := tk }) ((h'.IsListIter I l i ∧ h'.IsList l its)) (Fr g env.locals h' m') (News g env.locals h' ((I, oI) :: nw)) ((∀ p ∈ nw, p.1 ≠ I)) (J i g m' nw) (i ≤ its.size) (m = its.size + 1 - i)) := by
      rintro ⟨g₃, h₃', tk₃, m₃, nw₃, rfl, F₃, N₃, hn₃, hJ₃⟩
      refine ⟨its.size + 1 - (i + 1), by omega, g₃, h₃', tk₃, m₃, nw₃, o₁, i + 1, rfl, ?_, F₃, N₃, hn₃, hJ₃, hlti, rfl⟩
      refine W.frame _ _ _ hst₁ fun b hb o e => ?_
      rcases List.mem_cons.mp hb with rfl | hb
      · rw [ho₁] at e; cases e; exact (N₃ _ (.head _)).1
      · rw [List.mem_singleton.mp hb] at e ⊢
        have h1 := (N₁ _ (hl i g m' nw hJ')).1
        rw [e] at h1
        have h2 := (N₃ _ (.tail _ (hl (i + 1) g₃ m₃ nw₃ hJ₃))).1
        rw [Option.some.inj h1]; exact h2
    cases f with
    | ret v => exact h₃
    | brk => exact h₃
    | cont => exact fin h₃
    | next => exact fin h₃
  · have hin : i = its.size := by omega
    subst hin
    refine W.done _ _ _ hst' fun h₁ tk₁ hk₁ => wpAny_execs_nil ?_
    obtain ⟨F₁, N₁⟩ := next h₁ hk₁
    exact done g m' nw h₁ tk₁ hJ' F₁ N₁
end
/-! ## tuples of octet strings that are the same -/
section
variable {prog : Program} {w : World} {A : Around} {E : Value → Shared → Prop} {s : Shared} {h₀ : Heap} {L a b : Addr} {news : List (Addr × Obj)} {vs us : List Value} {xs : List B}
theorem eqAt_b (x : B) (t u : Tok) : SeqAt.EqAt A s (.bytes x.toArray t) (.bytes x.toArray u) true := fun prog w E Q hq => by
  unfold eqBool
  refine wpAny_holding ?_
  refine wpAny_ite_split (fun _ => ?_) (fun _ => ?_)
  · exact wpAny_bind (wpAny_rule (wpAny_pure hq))
  · have := eq_b (prog := prog) (w := w) (A := A) (E := E) (s := s) (t := t) (u := u) (x := x) (y := x) (Q := fun v s' => wpAny (model prog w) A (truthOfDropped v) Q E s') (by rw [decide_eq_true (rfl : x = x)]; exact wpAny_truthy_bool hq)
    exact wpAny_bind this
theorem eqAt_all (h1 : BL vs xs) (h2 : BL us xs) : ∀ j (j1 : j < vs.toArray.size) (j2 : j < us.toArray.size), SeqAt.EqAt A s vs.toArray[j] us.toArray[j] true := fun j j1 j2 => by
  rw [List.size_toArray] at j1 j2
  obtain ⟨x, t, hx, e1⟩ := h1.at (List.getElem?_eq_getElem j1)
  obtain ⟨u, e2⟩ := h2.get hx
  rw [List.getElem?_eq_getElem j2] at e2
  simp only [List.getElem_toArray]
  rw [e1, Option.some.inj e2]
  exact eqAt_b x t u
theorem ne_tup {Q : Value → Shared → Prop} (N : News h₀ L s.heap news) (ma : (a, tupOf vs) ∈ news) (mb : (b, tupOf us) ∈ news) (h1 : BL vs xs) (h2 : BL us xs) (hu : A.units < cLine) (h : Q (.bool false) s) : wpAny (model prog w) A (compareOp .NotEq (.ref a) (.ref b)) Q E s := by
  have := SeqAt.RcNeAt.tuples (A := A) (s := s) (e := fun _ => true) ⟨_, (N _ ma).1, rfl, 0, rfl⟩ ⟨_, (N _ mb).1, rfl, 0, rfl⟩ hu (eqAt_all h1 h2) prog w E Q
  refine this ?_
  have hl : vs.length = us.length := by rw [h1.length, h2.length]
  have e : (!((List.range (min vs.toArray.size us.toArray.size)).all (fun _ => true) && vs.toArray.size == us.toArray.size)) = false := by
    simp [hl]
  rw [e]; exact h
end
/-- two rows that say the same of a register are one row -/
theorem rowsEq {R : List B} (hn : R.Nodup) {val : Nat → B} {dep : Nat} {f : Nat → Nat} {xs ys : List B} (hx : xs.length = dep) (hy : ys.length = dep) (h1 : ∀ j y, xs[j]? = some y → NR R val (dep - 1 - j) (f j) y) (h2 : ∀ j y, ys[j]? = some y → NR R val (dep - 1 - j) (f j) y) : xs = ys := by
  refine List.ext_getElem? fun j => ?_
  by_cases c : j < dep
  · have c1 : j < xs.length := by omega
    have c2 : j < ys.length := by omega
    rw [List.getElem?_eq_getElem c1, List.getElem?_eq_getElem c2]
    rw [(h1 j _ (List.getElem?_eq_getElem c1)).fn hn (h2 j _ (List.getElem?_eq_getElem c2))]
  · rw [List.getElem?_eq_none (by omega), List.getElem?_eq_none (by omega)]
theorem valOf_key {hh : List (B × B)} {dflt : B} {size : Nat} (hs : ∀ p ∈ hh, p.1.length = size) {k : B} (hk : k.length = size) : (lk hh k).getD dflt = valOf hh dflt (natOf k) := by
  cases q : lk hh k with
  | some v => exact (valOf_some hs hk q).symm
  | none => exact (valOf_none fun p hp e => by
      have := natOf_inj ((hs p hp).trans hk.symm) e
      exact lk_none_iff.mp q (List.mem_map.mpr ⟨p, hp, this⟩)).symm
section
variable {prog : Program} {w : World} {K : Type} [DecidableEq K] {knd : KeyKind prog w K} {A : Around} {E : Value → Shared → Prop} {s : Shared} {h₀ : Heap} {L d : Addr} {m : Str → Option Value} {news : List (Addr × Obj)} {o : Obj} {hs : List (K × B)} {k : K} {key : Value} {y z : B} {t : Tok}
theorem dictB_get3 {Q : Value → Shared → Prop} (N : News h₀ L s.heap news) (hp : (d, o) ∈ news) (hd : DictB knd o hs) (lo : (d == sysModules) = false) (hkey : knd.is k key = true) (hz : (lk hs k).getD y = z) (h : ∀ t', Q (.bytes z.toArray t') { s with toks := s.toks + 1 }) :
    wpAny (model prog w) A (call (.builtin "dict.get") [.ref d, key, .bytes y.toArray t]) Q E s := by
  subst hz; exact dictB_get2 N hp hd lo hkey h
end
section
variable {w : World} {dm um : Nat} {f : Addr} {args : List Value} {small news keep : List (Addr × Obj)} {Post : Value → List (Addr × Obj) → Prop}
  {p : Program} {loose : List Str} {mean : ExcName → Option Value} {mg mb : Str → Option Value} {dp un : Nat} {gd : Option (List Code)} {cn : Str} {cs : Scope} {a : Addr} {ccd : Value} {outer : List Env} {A₀ : Around} {base h₀ : Heap} {L : Addr} {m : Str → Option Value} {s : Shared}
/-- as ConT.use, the new ledger first -/
theorem ConT.useR {Q E : Value → Shared → Prop} (c : ConT w dm um f args small Post) (B : Below A₀ base outer h₀) (F : Fr h₀ L s.heap m) (X : (hd.heap_39 w.params).In h₀) (N : News h₀ L s.heap news) (T : Top p loose mean mg mb h₀) (XB : (hd.heap_39 w.params).In base) (TB : Top p loose mean mg mb base) (D : KtsDicts (outer.filterMap (·.frame)) h₀)
    (hk : cs.kind = .function) (hd : dp ≤ dm) (hu : un ≤ um) (hs : ∀ q ∈ small, q ∈ news) (ct : Cut small news keep)
    (h : ∀ v h' tk nw h₀', KtsTurn (outer.filterMap (·.frame)) h₀ h₀' → Fr h₀' L h' m → News h₀' L h' (nw ++ keep) → Below A₀ base outer h₀' → (Mine.hd.heap_39 w.params).In h₀' → Top p loose mean mg mb h₀' → KtsDicts (outer.filterMap (·.frame)) h₀' → Post v nw → (∀ p ∈ nw, p.1 ∉ small.map (·.1) → ∀ q ∈ news, q.1 ≠ p.1) → Q v { s with heap := h', toks := tk }) :
    wpAny (model Challenge.rw_iu0035_01.row.prog w) (ktrTop dp un gd cn cs L a ccd [] outer) (call (.ref f) args) Q E s :=
  c.use B F X N T XB TB D hk hd hu hs ct fun v h' tk nw h₀' t F' N' => h v h' tk nw h₀' t F' fun q hq => N' q (List.mem_append.mpr (List.mem_append.mp hq).symm)
end
theorem Cut.off {small r : List (Addr × Obj)} (h : ∀ q ∈ small, ∀ p ∈ r, p.1 ≠ q.1) : Cut small r r := .tail fun p hp q hq e => h q hq p hp e.symm
theorem offCons {q : Addr × Obj} {small r : List (Addr × Obj)} (h : ∀ p ∈ r, p.1 ≠ q.1) (h' : ∀ q ∈ small, ∀ p ∈ r, p.1 ≠ q.1) : ∀ q' ∈ q :: small, ∀ p ∈ r, p.1 ≠ q'.1 := fun q' hq => (List.mem_cons.mp hq).elim (fun e => e ▸ h) (h' q')
theorem offNil {r : List (Addr × Obj)} : ∀ q' ∈ ([] : List (Addr × Obj)), ∀ p ∈ r, p.1 ≠ q'.1 := fun _ hq => nomatch hq
theorem HashG.cutK {w : World} {φ : Addr} {c₀ : Nat} {R : List B} {HG KG : List (Addr × Obj)} (H : HashG w φ c₀ R HG) (h : ∀ p ∈ KG, @LE.le Nat _ c₀ p.1) : Cut KG (KG ++ HG) HG := by
  have : Cut KG (KG ++ HG) ([] ++ HG) := Cut.app .lose (.tail fun p hp q hq e => H.off (h q hq) p hp e.symm)
  exact this
theorem HashG.cutB {w : World} {φ : Addr} {c₀ : Nat} {R : List B} {HG KG : List (Addr × Obj)} {q : Addr × Obj} (H : HashG w φ c₀ R HG) (hq : ∀ p ∈ KG, p.1 ≠ q.1) (h : ∀ p ∈ KG, @LE.le Nat _ c₀ p.1) : Cut (q :: HG) (KG ++ HG) KG := by
  have : Cut (q :: HG) (KG ++ HG) (KG ++ []) := Cut.app (.tail fun p hp q' hq' e => by
    rcases List.mem_cons.mp hq' with rfl | hq'
    · exact hq p hp e.symm
    · exact H.off (h p hp) q' hq' e) .lose
  rwa [List.append_nil] at this
section
variable {prog : Program} {w : World} {A : Around} {E : Value → Shared → Prop} {s : Shared} {t u : Tok} {x y : B}
theorem ne_bF {Q : Value → Shared → Prop} (e : x = y) (h : Q (.bool false) s) : wpAny (model prog w) A (compareOp .NotEq (.bytes x.toArray t) (.bytes y.toArray u)) Q E s := ne_b (by rw [decide_eq_true e]; exact h)
theorem ne_bT {Q : Value → Shared → Prop} (e : ¬ x = y) (h : Q (.bool true) s) : wpAny (model prog w) A (compareOp .NotEq (.bytes x.toArray t) (.bytes y.toArray u)) Q E s := ne_b (by rw [decide_eq_false e]; exact h)
end
theorem Known.low {w : World} {R : List B} {val : Nat → B} {dep c₀ r : Nat} {kn : Addr} {KG : List (Addr × Obj)} (h : Known w R val dep kn KG) (hc : ∀ p ∈ KG, @LE.le Nat _ c₀ p.1) (hl : ∀ p ∈ KG, @LT.lt Nat _ p.1 r) : c₀ ≤ r := by
  obtain ⟨e, l, evs, es, ds, DG, Ls, ce, cl, rfl, _⟩ := h
  exact Nat.le_trans (hc _ (.head _)) (Nat.le_of_lt (hl _ (.head _)))
theorem key_lt {key : B} {size dep : Nat} (hkey : key.length = size) (hdep : dep = 8 * size) : natOf key < 2 ^ dep := by
  have := natOf_lt key
  rw [hkey] at this
  rw [hdep, Nat.pow_mul]; exact this
section
variable {prog : Program} {w : World} {A : Around} {E : Value → Shared → Prop} {s : Shared} {h₀ : Heap} {L l : Addr} {news : List (Addr × Obj)} {vs : List Value} {c : Nat} {t u : Tok} {x : Value}
theorem eq_bT {y z : B} {Q : Value → Shared → Prop} (e : y = z) (h : Q (.bool true) s) : wpAny (model prog w) A (compareOp .Eq (.bytes y.toArray t) (.bytes z.toArray u)) Q E s := eq_b (by rw [decide_eq_true e]; exact h)
theorem item_V0 {value slice : PySem.Expr} {Q : Value → Shared → Prop} (N : News h₀ L s.heap news) (hm : (l, listOf vs.toArray c) ∈ news) (hx : vs[0]? = some x) (h : Q x s)
    (hs : subscripted slice false (.ref l) (.int 0 u) = operate [.ref l, .int 0 u] (getItem (.ref l) (.int 0 u)) := by with_unfolding_all rfl) (hg : ∀ r, letTemporaryGo value (.ref l) r = pure () := by intro _; with_unfolding_all rfl) :
    wpAny (model prog w) A (subscriptTail value slice (.ref l) (.int 0 u)) Q E s :=
  item_V (k := 0) N hm (by omega) hx h hs hg
end
/-! ## for the law's own frame -/
structure HoldOn (n : Nat) : Prop where
  on : n = n
/-- a number that is not told -/
structure GotNat (P : Nat → Prop) (s : Shared) (v : Value) (s' : Shared) : Prop where
  got : ∃ (f : Nat) (t : Tok) (k : Nat), v = .int (f : Int) t ∧ s' = { s with toks := k } ∧ P f
section
variable {M : Model} {A : Around} {E : Value → Shared → Prop} {s : Shared} {e : Sem Value}
theorem mono_nat {P : Nat → Prop} {Q : Value → Shared → Prop} (h1 : wpAny M A e (GotNat P s) E s) (h2 : ∀ (f : Nat) t k, P f → Q (.int (f : Int) t) { s with toks := k }) : wpAny M A e Q E s :=
  wpAny_mono h1 (fun v s' ⟨⟨f, t, k, e1, e2, hp⟩⟩ => by subst e1; subst e2; exact h2 f t k hp) fun _ _ x => x
theorem GotNat.lit {P : Nat → Prop} {f : Nat} {t : Tok} {k : Nat} (hp : P f) : GotNat P s (.int (@OfNat.ofNat Int f instOfNat) t) { s with toks := k } := ⟨⟨f, t, k, rfl, rfl, hp⟩⟩
theorem GotNat.nat {P : Nat → Prop} {f : Nat} {t : Tok} {k : Nat} (hp : P f) : GotNat P s (.int (f : Int) t) { s with toks := k } := ⟨⟨f, t, k, rfl, rfl, hp⟩⟩
theorem GotNat.abs {P : Nat → Prop} {x : Int} {t : Tok} {k : Nat} (hp : ∀ n, P n) : GotNat P s (.int (if x < 0 then -x else x) t) { s with toks := k } := ⟨⟨x.natAbs, t, k, by congr 1; omega, rfl, hp _⟩⟩
end
section
variable {prog : Program} {w : World} {A : Around} {E : Value → Shared → Prop} {s : Shared} {t u : Tok} {a k : Nat}
theorem mod_lit {Q : Value → Shared → Prop} (hk : 0 < k) (h : ∀ t' k', Q (.int ((a % (@OfNat.ofNat Nat k (instOfNatNat k)) : Nat) : Int) t') { s with toks := k' }) : wpAny (model prog w) A (binaryOp .Mod (.int (a : Int) t) (.int (@OfNat.ofNat Int k instOfNat) u)) Q E s := by
  have hk' : (0 : Int) < (k : Int) := by omega
  refine mod_int (b := (k : Int)) (by omega) ?_
  have e : ((a : Int)).fmod (k : Int) = ((a % k : Nat) : Int) := by rw [Int.fmod_eq_emod_of_nonneg _ (by omega)]; rfl
  rw [e]; exact h _ _
theorem fdiv_lit {Q : Value → Shared → Prop} (hk : 0 < k) (hz : k ≤ 1000000) (h : ∀ t' k', Q (.int ((a / (@OfNat.ofNat Nat k (instOfNatNat k)) : Nat) : Int) t') { s with toks := k' }) : wpAny (model prog w) A (binaryOp .FloorDiv (.int (a : Int) t) (.int (@OfNat.ofNat Int k instOfNat) u)) Q E s := by
  refine floordiv_int (b := (k : Int)) (by omega) ?_ (.inl (PyProof.noPylong_small (by omega)))
  have e : ((a : Int)).fdiv (k : Int) = ((a / k : Nat) : Int) := by rw [Int.fdiv_eq_ediv_of_nonneg _ (by omega)]; rfl
  rw [e]; exact h _ _
theorem mod_n {b : Nat} {Q : Value → Shared → Prop} (hb : 0 < b) (h : ∀ t' k', Q (.int ((a % b : Nat) : Int) t') { s with toks := k' }) : wpAny (model prog w) A (binaryOp .Mod (.int (a : Int) t) (.int (b : Int) u)) Q E s := by
  refine mod_int (by omega) ?_
  have e : ((a : Int)).fmod (b : Int) = ((a % b : Nat) : Int) := by rw [Int.fmod_eq_emod_of_nonneg _ (by omega)]; rfl
  rw [e]; exact h _ _
theorem mulz_b {c : UInt8} {Q : Value → Shared → Prop} (hk : k ≤ 100) (h : ∀ y t' k', List.length y = k → Q (.bytes (List.toArray y) t') { s with toks := k' }) : wpAny (model prog w) A (binaryOp .Mult (.bytes #[c] t) (.int (k : Int) u)) Q E s := by
  refine bytes_mul_any (b := [c]) (fun e => by cases e) (by omega) (by omega) (by simp) fun t' k' => h _ _ _ ?_
  simp
theorem mulz_lit {c : UInt8} {Q : Value → Shared → Prop} (hk : k ≤ 100) (h : ∀ y t' k', List.length y = (@OfNat.ofNat Nat k (instOfNatNat k)) → Q (.bytes (List.toArray y) t') { s with toks := k' }) : wpAny (model prog w) A (binaryOp .Mult (.bytes #[c] t) (.int (@OfNat.ofNat Int k instOfNat) u)) Q E s := mulz_b hk h
theorem mul_n {b : Nat} {Q : Value → Shared → Prop} (ha : a ≤ 1000) (hb : b ≤ 1000) (h : ∀ t' k', Q (.int ((a * b : Nat) : Int) t') { s with toks := k' }) : wpAny (model prog w) A (binaryOp .Mult (.int (a : Int) t) (.int (b : Int) u)) Q E s := mul_int (by
  have e : (a : Int) * (b : Int) = ((a * b : Nat) : Int) := by push_cast; rfl
  rw [e]; exact h _ _)
theorem mul_lit {Q : Value → Shared → Prop} (ha : a ≤ 1000) (hb : k ≤ 1000) (h : ∀ t' k', Q (.int ((a * (@OfNat.ofNat Nat k (instOfNatNat k)) : Nat) : Int) t') { s with toks := k' }) : wpAny (model prog w) A (binaryOp .Mult (.int (a : Int) t) (.int (@OfNat.ofNat Int k instOfNat) u)) Q E s := mul_n ha hb h
end
theorem HashG.start {w : World} {h₀ h : Heap} {L : Addr} {rest : List (Addr × Obj)} {φ κ ρ γ : Addr} {oc o oγ : Obj} {vs : Array Value} {t : Tok} {qual : Str} {doc pm ctv : Value}
    (N : News h₀ L h ((φ, fnMade (Str.ofString "hash_of") qual hashParams hashBody hashScope [(Str.ofString "register", γ)] doc pm κ ctv) :: (κ, oc) :: (ρ, o) :: (γ, oγ) :: rest))
    (h1 : oc.data = .fields vs) (h2 : vs[1]? = some (.str qual t)) (h3 : oγ.data = .cell (some (.ref ρ))) (hD : DictB (bytesKind Challenge.rw_iu0035_01.row.prog w) o []) (lo : (ρ == sysModules) = false)
    (l1 : @LT.lt Nat _ ρ κ) (l2 : @LT.lt Nat _ γ ρ) (l3 : @LT.lt Nat _ κ φ) (l4 : @LT.lt Nat _ 153 γ) :
    ∃ R HG, HashG w φ (φ + 1) R HG ∧ R.length = 0 ∧ HG = [(φ, fnMade (Str.ofString "hash_of") qual hashParams hashBody hashScope [(Str.ofString "register", γ)] doc pm κ ctv), (κ, oc), (ρ, o), (γ, oγ)] ∧ News h₀ L h (HG ++ rest) :=
  ⟨[], _, ⟨κ, ρ, γ, oc, o, oγ, vs, t, qual, doc, pm, ctv, rfl, h1, h2, h3, hD, lo, neN (by omega), neN (by omega), neN (by omega), List.nodup_nil, by omega⟩, rfl, rfl, N⟩
def IsB (v : Value) : Prop := ∃ (d : B) (t : Tok), v = .bytes d.toArray t ∧ d.length ≤ 1000
theorem IsB.mk (d : B) (t : Tok) (h : d.length ≤ 1000) : IsB (.bytes d.toArray t) := ⟨d, t, rfl, h⟩
section
variable {prog : Program} {w : World} {A : Around} {E : Value → Shared → Prop} {s : Shared} {h₀ : Heap} {L l : Addr} {news : List (Addr × Obj)} {c : Nat} {u : Tok} {v0 v1 v2 v3 : Value} {k : Nat}
theorem item_pick4 {value slice : PySem.Expr} {Q : Value → Shared → Prop} (N : News h₀ L s.heap news) (hm : (l, listOf [v0, v1, v2, v3].toArray c) ∈ news) (hk : k < 4) (h0 : IsB v0) (h1 : IsB v1) (h2 : IsB v2) (h3 : IsB v3)
    (h : ∀ (d : B) (t : Tok), d.length ≤ 1000 → Q (.bytes d.toArray t) s)
    (hs : subscripted slice false (.ref l) (.int (k : Int) u) = operate [.ref l, .int (k : Int) u] (getItem (.ref l) (.int (k : Int) u)) := by with_unfolding_all rfl) :
    wpAny (model prog w) A (subscriptTail value slice (.ref l) (.int (k : Int) u)) Q E s := by
  have go : ∀ v, IsB v → [v0, v1, v2, v3][k]? = some v → wpAny (model prog w) A (subscriptTail value slice (.ref l) (.int (k : Int) u)) Q E s := fun v ⟨d, t, e, hd⟩ hx => by
    subst e; exact kba_turn (value' := .Name (PySem.Str.ofString "_") ⟨0, 0, 0, 0⟩) (fun _ => rfl) (item_V N hm (by omega) hx (h d t hd) hs (fun _ => rfl))
  have : k = 0 ∨ k = 1 ∨ k = 2 ∨ k = 3 := lt4 hk
  rcases this with rfl | rfl | rfl | rfl
  · exact go _ h0 rfl
  · exact go _ h1 rfl
  · exact go _ h2 rfl
  · exact go _ h3 rfl
end
/-! ## dict(d), abs, lists of octet strings, for the law's own frame -/
section
variable {prog : Program} {w : World} {K : Type} [DecidableEq K] {knd : KeyKind prog w K} {A : Around} {E : Value → Shared → Prop} {s : Shared} {h₀ : Heap} {L η : Addr} {m : Str → Option Value} {news : List (Addr × Obj)} {oh : Obj} {hs : List (K × B)}
theorem dictB_copy {Q : Value → Shared → Prop} (F : Fr h₀ L s.heap m) (N : News h₀ L s.heap news) (hbig : h₀.NoLimit) (hm : (η, oh) ∈ news) (hD : DictB knd oh hs) (lo : (η == sysModules) = false) (hsz : hs.length ≤ 16777216)
    (k : ∀ d h' o, Fr h₀ L h' m → News h₀ L h' ((d, o) :: news) → (∀ p ∈ news, p.1 < d) → (d == sysModules) = false → DictB knd o hs → Q (.ref d) { s with heap := h' }) :
    wpAny (model prog w) A (call (.type "dict") [.ref η]) Q E s := by
  obtain ⟨kvs, hd, hh⟩ := hD
  refine kt_call_dict lo (kda_dict N hm hd) (by rw [hh.length, sizeLine_eq]; exact hsz) fun h' hm' hs' => ?_
  obtain ⟨o', ho', hd'⟩ := Heap.dictOf_iff.mp hm'
  have N1 := News.push F N { cls := .type "dict", data := .dict #[] }
  exact k _ h' o' ((F.push _).change hs' (N1 _ (.head _)).2.1 (N1.fresh (.head _))) (N1.setHead N.apart hs' ho') (fun p hp => Heap.lt_size (N p hp).1) (F.notModules (modules_low hbig)) ⟨kvs, hd', hh⟩
end
section
variable {prog : Program} {w : World} {A : Around} {E : Value → Shared → Prop} {s : Shared} {h₀ : Heap} {L l : Addr} {m : Str → Option Value} {news : List (Addr × Obj)} {vs : List Value} {xs : List B} {c n k : Nat} {t u : Tok} {x : B} {z : Int}
theorem abs_n {Q : Value → Shared → Prop} (h : ∀ (n : Nat) t' k', Q (.int (n : Int) t') { s with toks := k' }) : wpAny (model prog w) A (call (.builtin "abs") [.int z t]) Q E s :=
  call_abs_int fun u tk => by
    have e : (if z < 0 then -z else z) = ((z.natAbs : Nat) : Int) := by omega
    rw [e]; exact h _ _ _
theorem len_l {Q : Value → Shared → Prop} (N : News h₀ L s.heap news) (hm : (l, listOf vs.toArray c) ∈ news) (hn : vs.length = n) (hz : n ≤ 16777216) (h : ∀ t' k', Q (.int (n : Int) t') { s with toks := k' }) : wpAny (model prog w) A (call (.builtin "len") [.ref l]) Q E s := by
  subst hn
  exact len_list ⟨_, (N _ hm).1, rfl, c, rfl⟩ (by rw [List.size_toArray]; omega) (by rw [List.size_toArray]; exact h _ _)
theorem eqAt_bb (x y : B) (t u : Tok) : SeqAt.EqAt A s (.bytes x.toArray t) (.bytes y.toArray u) (decide (x = y)) := fun prog w E Q hq => by
  unfold eqBool
  refine wpAny_holding ?_
  refine wpAny_ite_split (fun hab => ?_) (fun _ => ?_)
  · have e := eq_of_beq hab
    injection e with e1 e2
    have : x = y := by simpa using congrArg Array.toList e1
    rw [decide_eq_true this] at hq
    exact wpAny_bind (wpAny_rule (wpAny_pure hq))
  · exact wpAny_bind (eq_b (prog := prog) (w := w) (A := A) (E := E) (s := s) (t := t) (u := u) (x := x) (y := y) (Q := fun v s' => wpAny (model prog w) A (truthOfDropped v) Q E s') (wpAny_truthy_bool hq))
def isB (x : B) : Value → Bool
  | .bytes b _ => decide (b.toList = x)
  | _ => false
theorem notIn_b {Q : Value → Shared → Prop} (N : News h₀ L s.heap news) (hm : (l, listOf vs.toArray c) ∈ news) (hb : BL vs xs) (h : ∀ b, Q (.bool b) s) : wpAny (model prog w) A (compareOp .NotIn (.bytes x.toArray t) (.ref l)) Q E s :=
  SeqAt.notIn_listAt (isB x) ⟨_, (N _ hm).1, rfl, c, rfl⟩ (fun y hy => by
    obtain ⟨i, hi, rfl⟩ := List.getElem_of_mem (Array.mem_toList_iff.mpr hy)
    obtain ⟨z, u, _, e⟩ := hb.at (List.getElem?_eq_getElem (by simpa using hi))
    have e' : vs.toArray.toList[i] = vs[i]'(by simpa using hi) := by simp
    rw [e', e]
    have := eqAt_bb (A := A.in1) (s := s) z x u t
    simpa [isB] using this) (h _)
def IsN (v : Value) : Prop := ∃ (n : Nat) (t : Tok), v = .int (n : Int) t
theorem IsN.lit (n : Nat) (t : Tok) : IsN (.int (@OfNat.ofNat Int n instOfNat) t) := ⟨n, t, rfl⟩
theorem IsN.nat (n : Nat) (t : Tok) : IsN (.int (n : Int) t) := ⟨n, t, rfl⟩
theorem item_pickN {value slice : PySem.Expr} {Q : Value → Shared → Prop} (N : News h₀ L s.heap news) (hm : (l, listOf vs.toArray c) ∈ news) (hz : vs.length ≤ 100) (hk : k < vs.length) (h0 : ∀ v ∈ vs, IsN v)
    (h : ∀ (n : Nat) (t : Tok), Q (.int (n : Int) t) s)
    (hs : subscripted slice false (.ref l) (.int (k : Int) u) = operate [.ref l, .int (k : Int) u] (getItem (.ref l) (.int (k : Int) u)) := by with_unfolding_all rfl) :
    wpAny (model prog w) A (subscriptTail value slice (.ref l) (.int (k : Int) u)) Q E s := by
  obtain ⟨n, t, e⟩ := h0 _ (List.getElem_mem hk)
  exact kba_turn (value' := .Name (PySem.Str.ofString "_") ⟨0, 0, 0, 0⟩) (fun _ => rfl) (item_V N hm (by omega) (by rw [List.getElem?_eq_getElem hk, e]) (h n t) hs (fun _ => rfl))
theorem pow256 {Q : Value → Shared → Prop} (hk : k ≤ 1000) (h : ∀ t' k', Q (.int ((256 ^ k : Nat) : Int) t') { s with toks := k' }) : wpAny (model prog w) A (binaryOp .Pow (.int 256 t) (.int (k : Int) u)) Q E s := by
  refine pow_int_small (by omega) (by omega) (by decide) ?_
  have e : (256 : Int) ^ ((k : Int)).toNat = ((256 ^ k : Nat) : Int) := by rw [Int.toNat_natCast]; push_cast; rfl
  rw [e]; exact h _ _
theorem to_bytes_n {Q : Value → Shared → Prop} {a : Nat} (hk : k ≤ 1000) (h1 : a < 256 ^ k) (h : ∀ (y : B) t' k', y.length = k → Q (.bytes y.toArray t') { s with toks := k' }) {v : Tok} :
    wpAny (model prog w) A (call (.builtin "int.to_bytes") [.int (a : Int) t, .int (k : Int) u, .str (PySem.Str.ofString "big") v]) Q E s :=
  to_bytes_any (by omega) (by omega) (by have : ((a : Nat) : Int) < ((256 ^ k : Nat) : Int) := by omega
                                         simpa using this) fun t' k' => h _ t' k' (beZ_length _ _)
end
/-! ## what is held behind a store -/
theorem put_cases {K : Type} [DecidableEq K] {hh : List (K × B)} {k : K} {x : B} {p : K × B} (h : p ∈ put hh k x) : p ∈ hh ∨ p = (k, x) := by
  unfold put at h
  split at h
  · obtain ⟨q, hq, e⟩ := List.mem_map.mp h
    by_cases c : q.1 = k
    · rw [if_pos c] at e; right; rw [← e, c]
    · rw [if_neg c] at e; left; exact e ▸ hq
  · rcases List.mem_append.mp h with h | h
    · exact .inl h
    · exact .inr (List.mem_singleton.mp h)
theorem valOf_put {hh : List (B × B)} {dflt k x : B} {size : Nat} (hs : ∀ p ∈ hh, p.1.length = size) (hk : k.length = size) : valOf (put hh k x) dflt = setV (valOf hh dflt) (natOf k) x := by
  have hs' : ∀ p ∈ put hh k x, p.1.length = size := fun p hp => (put_cases hp).elim (hs p) fun e => by rw [e]; exact hk
  funext i
  unfold setV
  by_cases c : i = natOf k
  · rw [if_pos c, c]; exact valOf_some hs' hk (lk_put_self _ _ _)
  · rw [if_neg c]
    by_cases e : ∃ p ∈ hh, natOf p.1 = i
    · obtain ⟨p, hp, rfl⟩ := e
      rw [← valOf_key hs' (hs p hp), ← valOf_key hs (hs p hp), lk_put, if_neg (fun q => c (by rw [q]))]
    · rw [valOf_none (hh := hh) fun p hp q => e ⟨p, hp, q⟩, valOf_none fun p hp q => ?_]
      rcases put_cases hp with h | h
      · exact e ⟨p, h, q⟩
      · rw [h] at q; exact c q.symm
theorem valOf_le {hh : List (B × B)} {dflt : B} {z : Nat} (hd : dflt.length ≤ z) (hv : ∀ p ∈ hh, p.2.length ≤ z) (i : Nat) : (valOf hh dflt i).length ≤ z := by
  unfold valOf
  cases q : hh.find? fun p => natOf p.1 = i with
  | none => exact hd
  | some p => exact hv p (List.mem_of_find?_eq_some q)
theorem Con.mono {w : World} {dm um : Nat} {f : Addr} {args : List Value} {small : List (Addr × Obj)} {P P' : Value → List (Addr × Obj) → Prop} (c : Con w dm um f args small P) (h : ∀ v nw, P v nw → P' v nw) : Con w dm um f args small P' :=
  fun p loose mean mg mb dp un gd cn cs a ccd cl outer A₀ base h₀ L m s R B F X N T hk hd hu hr => c p loose mean mg mb dp un gd cn cs a ccd cl outer A₀ base h₀ L m s R B F X N T hk hd hu fun v h' tk nw F' N' st ap po => hr v h' tk nw F' N' st ap (h v nw po)
/-! ## a list's beginning -/
section
variable {prog : Program} {w : World} {A : Around} {E : Value → Shared → Prop} {s : Shared} {h₀ : Heap} {L l : Addr} {m : Str → Option Value} {news : List (Addr × Obj)} {vs : List Value} {c k : Nat} {vl vu : Value}
theorem slice_pre {value slice : PySem.Expr} {Q : Value → Shared → Prop} (F : Fr h₀ L s.heap m) (N : News h₀ L s.heap news) (hm : (l, listOf vs.toArray c) ∈ news) (pl : IsPart vl none) (pu : IsPart vu (some (@OfNat.ofNat Int k instOfNat))) (hz : vs.length ≤ 1000)
    (h : ∀ D h', Fr h₀ L h' m → News h₀ L h' ((D, listOf (vs.take k).toArray 0) :: news) → (∀ p ∈ news, p.1 < D) → Q (.ref D) { s with heap := h' })
    (hs : subscripted slice false (.ref l) (.ref s.heap.objs.size) = operate [.ref s.heap.objs.size, .ref l] (getItem (.ref l) (.ref s.heap.objs.size)) := by with_unfolding_all rfl)
    (ht : ∀ r, letTemporaryGo value (.ref l) r = pure () := by intro _; with_unfolding_all rfl) :
    wpAny (model prog w) A (subscriptTail value slice (.ref l) (.ref s.heap.objs.size)) Q E { s with heap := s.heap.push { cls := .type "slice", data := .fields #[vl, vu, .none] } } := by
  refine kmk_slice_lit (its := vs.toArray) (zs := vs.take k) F N ⟨_, (N _ hm).1, rfl, c, rfl⟩ pl pu ?_ h hs ht (by rw [List.size_toArray, sizeLine_eq]; omega)
  rw [kmk_pick_nat (a := 0) (b := min k vs.toArray.size) (items := vs.toArray) (by rw [sliceBounds_plain]; simp only [Option.elim]; rw [KBc.clip_lit])]
  simp only [List.drop_zero, Nat.sub_zero, List.size_toArray]
  rw [kmk_take_min]
end
theorem BL.take {vs : List Value} {xs : List B} (h : BL vs xs) (k : Nat) : BL (vs.take k) (xs.take k) := by
  unfold BL at *
  rw [List.map_take, h, List.map_take]
open Lean in
local macro_rules | `(tactic| k_with $s => $t) => do
  let u ← fresh t.raw
  if u == t.raw then Macro.throwUnsupported else `(tactic| k_with $s => $(⟨u⟩))
local macro_rules | `(tactic| walk_at $s:str) => `(tactic| k_extra $s)
local macro_rules | `(tactic| k_room) => `(tactic| k_extra "MyKRoom")
local macro_rules | `(tactic| k_ne) => `(tactic| k_extra "MyKNe")
local macro_rules | `(tactic| k_all) => `(tactic| k_extra "MyKAll")
theorem words1 : True := by
  -- ## lines of our own
  -- one ledger in another
  k_with "MyIn" => first | with_reducible exact List.mem_cons_self | (with_reducible refine List.mem_cons_of_mem _ ?_; k_extra "MyIn") | (with_reducible refine List.mem_append_left _ ?_; k_extra "MyIn") | (with_reducible refine List.mem_append_right _ ?_; k_extra "MyIn") | assumption
  k_with "MySg" => first | with_reducible exact fun _ hp => hp | (with_reducible refine subInC ?_; k_extra "MySg") | (with_reducible refine subInL ?_; k_extra "MySg") | (with_reducible refine subInR ?_; k_extra "MySg") | assumption
  k_with "MySb" => first | with_reducible exact List.forall_mem_nil _ | (with_reducible refine' subIn1 ?msA ?msB; (case msA => k_extra "MyIn"); (case msB => k_extra "MySb")) | (with_reducible refine subInA ?_ ?_ <;> k_extra "MySb") | k_extra "MySg"
  -- order of addresses without omega's long terms
  k_with "MyLq" => first | with_reducible exact bndn (by assumption) rfl | with_reducible exact bndnc (by assumption) rfl | with_reducible exact bnd0 (by assumption) rfl | with_reducible exact bnde (by assumption) rfl | with_reducible exact bndz (by assumption) | with_reducible exact bnde2 (by assumption) (by assumption) rfl | with_reducible exact bnd1 (by assumption) (by assumption) rfl | with_reducible exact bnd1z (by assumption) (by assumption) rfl | with_reducible exact bndr (by assumption) (by assumption) rfl | with_reducible exact bndt (by assumption) (by assumption) | with_reducible exact bnd2 (by assumption) (by assumption) (by assumption) rfl
  k_with "MyCj" => first | with_reducible exact hcj.1 | with_reducible exact hcj.2 | (replace hcj := hcj.2; k_extra "MyCj")
  k_with "MyConj" => first | with_reducible assumption | ((with_reducible rename And _ _ => hcj); first | k_extra "MyCj" | (clear hcj; k_extra "MyConj"))
  k_with "MyLeT" => ((with_reducible rename @LE.le Nat _ _ _ => hle'); first | (with_reducible refine Nat.le_of_lt (Nat.lt_of_le_of_lt hle' ?_); k_extra "MyConj") | (clear hle'; k_extra "MyLeT"))
  k_with "MyOm" => first | with_reducible assumption | with_reducible exact dbl1 (by assumption) | with_reducible exact dbl1s (by assumption) | with_reducible exact dbl0 (by assumption) | with_reducible exact dbl0s (by assumption) | with_reducible exact Nat.le_refl _ | ((with_reducible show @LE.le Nat _ _ (@OfNat.ofNat Nat _ _)); first | ((with_reducible show @LE.le Nat _ (@OfNat.ofNat Nat _ _) _); decide) | k_extra "MyLq" | omega) | (with_reducible refine Nat.ne_of_lt ?_; k_extra "MyConj") | (with_reducible refine Nat.ne_of_gt ?_; k_extra "MyConj") | ((with_reducible show @LT.lt Nat _ _ _); k_extra "MyConj") | ((with_reducible show @LE.le Nat _ _ _); first | k_extra "MyLq" | (with_reducible refine Nat.le_of_lt ?_; k_extra "MyConj") | k_extra "MyLeT") | omega
  k_with "MyKRoom" => first | ((try simp only [depth_under_make, depth_under_kw, depth_in1, depth_deeper, depth_caller]); decide) | ((try simp only [depth_under_make, depth_under_kw, depth_in1, depth_deeper, depth_caller, ktrTop, recursionLimit] at *); k_extra "MyOm")
  k_with "MyKNe" => first | ((try dsimp only); assumption) | ((try dsimp only); exact Ne.symm (by assumption)) | (refine neN ?_; (try dsimp only); k_extra "MyOm")
  k_with "MyKAll" => (refine' HashG.off ?myHa ?myHb; (case myHa => assumption); (case myHb => k_extra "MyOm"))
  k_with "execs cons" => ((with_reducible refine execs_gen ?_); intro kkQ hkkQ)
  k_with "MySteps" => repeat' (first | (k_unfold; (try dsimp only)) | ((with_reducible refine GenK.go (by assumption) _ _ ?_); (try clear hkkQ kkQ); (try dsimp only)) | walk1 | (dsimp only; walk1))
  k_with "MyEnter" => (k_dflt (refine' code_defS ?k1 ?k2 ?k3 ?k4 ?k5 ?kA ?kF ?kK ?k6 ?k7 ?k8 ?k9 ?kB ?_ ?c2 ?c3 ?c4 ?c5; (case kA => exact rfl); (case kF => exact rfl); (case kK => assumption); (case k1 => k_asm); (case k2 => k_asm); (case k3 => k_asm); (case k4 => k_asm); (case k5 => k_asm); (case k6 => k_is); (case k7 => k_is); (case k8 => k_room); (case k9 => first | exact BindsTo.of_eq rfl | exact binds_K (by k_in) rfl (by k_is) rfl rfl rfl | fail "no rule for these arguments"); (case c5 => decide); (case kB => exact locs rfl); (case c2 => exact rfl); (case c3 => exact rfl); (case c4 => exact rfl); k_whole; intro g' L' h' FG' F' N' B' X' T'; (try dsimp only); (try k_fold)))
  k_with "MyNest" => (k_dflt (refine' code_nestS ?k1 ?k2 ?k3 ?k4 ?k5 ?kA ?kF ?kK ?k6 ?k7 ?k8 ?k9 ?kB ?_ ?c2 ?c3 ?c4 ?c5; (case kA => exact rfl); (case kF => exact rfl); (case kK => assumption); (case k1 => k_asm); (case k2 => k_asm); (case k3 => k_asm); (case k4 => k_asm); (case k5 => k_asm); (case k6 => k_mem); (case k7 => exact codeRec_news (by k_asm) (by k_mem) (by assumption) (by assumption)); (case k8 => k_room); (case k9 => exact BindsTo.of_eq rfl); (case c5 => decide); (case kB => exact locs rfl); (case c2 => exact rfl); (case c3 => exact rfl); (case c4 => exact rfl); k_whole; intro g' L' h' FG' F' N' B' X' T'; (try dsimp only); (try k_fold)))
  k_with "LeaveS" => (k_dflt (refine' leaveS_ ?myk1 ?myk2 ?_; (case myk1 => k_asm); (case myk2 => k_asm)); intro kF' kN' kS' kO')
  k_with "eval Name" => (kc_free; k_dflt (refine' nameX_F ?myN ?myc ?mym ?myd ?_ ?mya ?myb; (case mya => rfl); (case myb => rfl); (case myN => k_asm); (case myc => rfl); (case mym => k_mem); (case myd => k_asm); k_whole))
  k_with "compareOp NotIn bytes ref" => (k_dflt (refine' dictB_notInB ?myN ?myp ?myd ?mylo (bkey _ _ _ _) ?myb ?_; (case myN => k_asm); (case myp => k_mem); (case myd => k_asm); (case mylo => k_asm); (case myb => first | exact isSome_f (by k_asm) | exact isSome_t (by k_asm)); k_whole))
  k_with "call builtin:len" => ((with_reducible show wpAny _ _ (call (Value.builtin "len") [Value.ref _]) _ _ _); k_dflt (refine' dictB_len (knd := bytesKind _ _) ?myN ?myp ?myd ?mylo ?myz ?_; (case myN => k_asm); (case myp => k_mem); (case myd => k_asm); (case mylo => k_asm); (case myz => (try simp only [regOf_length]); k_extra "MyOm"); k_whole); intro _ _)
  k_with "subscriptTail" => ((with_reducible show wpAny _ _ (subscriptTail _ _ (Value.ref _) (Value.bytes _ _)) _ _ _); k_dflt (refine' dictB_item ?myN ?myp ?myd (bkey _ _ _ _) ?myl ?_; (case myN => k_asm); (case myp => k_mem); (case myd => k_asm); (case myl => first | k_asm | exact lk_put_self _ _ _); k_whole); intro _)
  k_with "setItem ref bytes" => (k_dflt (refine' dictB_set ?myF ?myN ?myU ?myd (bkey _ _ _ _) ?myz ?_; (case myF => k_asm); (case myN => k_asm); (case myU => k_updF); (case myd => k_asm); (case myz => (try simp only [regOf_length]); k_extra "MyOm"); k_whole); intro h' o' F' N' hd'; (try dsimp only at N'))
  k_with "exec For Name Call cons nil" => ((rename Fr _ _ _ _ => lF'); (with_unfolding_all refine' For_invVF lF' ?myk1 ?myk2 ?_; (case myk1 => exact rfl); (case myk2 => exact rfl); k_whole))
  k_with "exec For Name Name cons nil" => ((rename Fr _ _ _ _ => lF'); (with_unfolding_all refine' For_invVF lF' ?myk1 ?myk2 ?_; (case myk1 => exact rfl); (case myk2 => exact rfl); k_whole))
  k_with "pyIter ref" => ((with_reducible show wpAny _ _ (pyIter (Value.ref _)) (fun it s₂ => LoopAtV _ _ _ _ _ _ _ _ _ it s₂) _ _); refine Hold.mk ?_)
  k_with "exec If" => (with_reducible refine wpAny_If ?_)
  trivial
theorem wordsh : True := by
  k_with "call builtin:int.to_bytes" => ((with_unfolding_all refine to_bytes_any (k := 32) (by decide) (by k_extra "MyOm") (Int.lt_of_le_of_lt (b := 16777217) (by simp only [regOf_length] at *; k_extra "MyOm") (by decide)) ?_); intro _ _)
  trivial
set_option maxHeartbeats 1000000 in
theorem con_hash {w : World} {φ : Addr} {c₀ : Nat} {R : List B} {HG : List (Addr × Obj)} (H : HashG w φ c₀ R HG) (hlen : R.length + 1 ≤ 16777216) (t : B) (tk : Tok) :
    Con w 400 600 φ [.bytes t.toArray tk] HG (fun v nw => (X3 fun R' x u => A5 (v = .bytes x.toArray u) (HashG w φ c₀ R' nw) (R <+: R') (R'.length ≤ R.length + 1) (Reg R' t x))) := by
  obtain ⟨κ, ρ, γ, oc, o, oγ, vs, t', qual, doc, pm, ctv, rfl, hd1, hd2, hd3, hD, hlo, n1, n2, n3, hnd, hc⟩ := H
  unfold Con
  k_fill
  intro p loose mean mg mb dp un gd cn cs a ccd cl outer A₀ base h₀ L m s Rr B F X N T hk hd hu hret
  have e1 : hashBody = hashBody := rfl
  have e2 : hashScope = hashScope := rfl
  have e3 : hashParams = hashParams := rfl
  conv at e1 => rhs; whnf
  conv at e2 => rhs; whnf
  conv at e3 => rhs; whnf
  rw [e1, e2, e3] at N
  k_extra "MyNest"
  rcases hlk : lk (regOf R) t with _ | x
  · have hnm : t ∉ R := lk_regOf_none.mp hlk
    k_extra "MySteps"
    rename DictB _ _ (put _ _ _) => hD'
    rw [put_new hlk] at hD'
    have hsz : ((regOf R).length : Int) + 1 = (R.length : Int) + 1 := by rw [regOf_length]
    rw [hsz] at hD' ⊢
    change DictB _ _ (regOf R ++ [(t, hv R.length)]) at hD'
    rw [← regOf_snoc] at hD'
    refine' hret _ _ _ _ ?za1 ?zb1 (by assumption) (by assumption) ?zc1
    case za1 => assumption
    case zb1 => assumption
    exact ⟨R ++ [t], hv R.length, _, rfl, ⟨κ, ρ, γ, oc, _, oγ, vs, t', qual, doc, pm, ctv, by rw [e1, e2, e3], hd1, hd2, hd3, hD', hlo, n1, n2, n3, List.nodup_append.mpr ⟨hnd, by simp, by intro a ha b hb e; simp at hb; subst hb; subst e; exact hnm ha⟩, hc⟩, List.prefix_append _ _, by simp, ⟨R.length, by simp, rfl⟩⟩
  · k_extra "MySteps"
    refine' hret _ _ _ _ ?za2 ?zb2 (by assumption) (by assumption) ?zc2
    case za2 => assumption
    case zb2 => assumption
    exact ⟨R, x, _, rfl, ⟨κ, ρ, γ, oc, o, oγ, vs, t', qual, doc, pm, ctv, by rw [e1, e2, e3], hd1, hd2, hd3, hD, hlo, n1, n2, n3, hnd, hc⟩, List.prefix_refl _, by k_extra "MyOm", reg_of_lk hlk⟩
theorem words2 : True := by
  k_with "MyLe" => first | k_extra "MyLq" | ((try dsimp only [ktrTop, Around.deeper, Around.under, Around.in1, Around.mark]); first | k_extra "MyLq" | omega) | ((try simp only [depth_under_make, depth_under_kw, depth_in1, depth_deeper, depth_caller, units_in1, units_deeper, Around.mark_units, units_caller, ktrTop] at *); omega)
  k_with "call builtin:len" => ((with_reducible show wpAny _ _ (call (Value.builtin "len") [Value.bytes (List.toArray _) _]) _ _ _); (refine len_b (by k_extra "MyOm") ?_); intro _ _)
  k_with "binaryOp Add bytes bytes" => ((with_reducible show wpAny _ _ (binaryOp Operator.Add (Value.bytes (List.toArray _) _) (Value.bytes (List.toArray _) _)) _ _ _); (refine add_b (by k_extra "MyOm") ?_); intro _ _)
  k_with "compareOp Eq bytes bytes" => ((with_reducible show wpAny _ _ (compareOp CmpOp.Eq (Value.bytes (List.toArray _) _) (Value.bytes (List.toArray _) _)) _ _ _); (refine eq_b ?_))
  k_with "compareOp NotEq bytes bytes" => ((with_reducible show wpAny _ _ (compareOp CmpOp.NotEq (Value.bytes (List.toArray _) _) (Value.bytes (List.toArray _) _)) _ _ _); (refine ne_b ?_))
  k_with "call ref" => ((with_reducible show wpAny _ _ (call (Value.ref _) [Value.bytes (List.toArray _) _, Value.str _ _]) _ _ _); k_dflt (refine from_b (by k_asm) (by k_mem) (by k_extra "MyOm") ?_); intro _ _)
  k_with "MyBool" => (simp only [bne_iff_ne, beq_iff_eq, decide_eq_true_eq, decide_eq_false_iff_not, Bool.not_eq_true', Bool.not_eq_true, Bool.not_eq_false', Bool.and_eq_true, Bool.or_eq_true, ne_eq, bne_eq_false_iff_eq, beq_eq_false_iff_ne, Bool.not_true, Bool.not_false, Bool.false_eq_true, not_false_eq_true, not_true_eq_false] at *)
  k_with "ite" => (first | (refine ite_neg (by simp only [Bool.false_eq_true, not_false_eq_true, Bool.not_true, Bool.not_false, bne_self_eq_false, beq_self_eq_true, decide_true, decide_false]; done) ?_) | (refine ite_pos (by simp only [Bool.false_eq_true, not_false_eq_true, Bool.not_true, Bool.not_false, bne_self_eq_false, beq_self_eq_true, decide_true, decide_false]; done) ?_) | (refine ite_neg (by simp only [bne_iff_ne, beq_iff_eq, decide_eq_true_eq, ne_eq, Decidable.not_not]; k_extra "MyOm") ?_) | (refine ite_pos (by simp only [bne_iff_ne, beq_iff_eq, decide_eq_true_eq, ne_eq]; k_extra "MyOm") ?_))
  trivial
set_option maxHeartbeats 1000000 in
theorem con_vb {w : World} (x : B) (t : Tok) : Con w 400 600 34 [.bytes x.toArray t] [] (fun v nw => v = .none ∧ nw = []) := by
  unfold Con
  k_fill
  intro p loose mean mg mb dp un gd cn cs a ccd cl outer A₀ base h₀ L m s Rr B F X N T hk hd hu hret
  k_extra "MyEnter"
  k_extra "MySteps"
  refine' hret _ _ _ _ ?za3 ?zb3 (by assumption) (by assumption) ?zc3
  case za3 => assumption
  case zb3 => assumption
  exact ⟨rfl, rfl⟩
set_option maxHeartbeats 1000000 in
theorem con_vl {w : World} (x : B) (t u : Tok) (n : Int) (hz : x.length ≤ 16777216) (hn : (x.length : Int) = n) : Con w 400 600 41 [.bytes x.toArray t, .int n u] [] (fun v nw => v = .none ∧ nw = []) := by
  unfold Con
  k_fill
  intro p loose mean mg mb dp un gd cn cs a ccd cl outer A₀ base h₀ L m s Rr B F X N T hk hd hu hret
  k_extra "MyEnter"
  k_extra "MySteps"
  refine' hret _ _ _ _ ?za4 ?zb4 (by assumption) (by assumption) ?zc4
  case za4 => assumption
  case zb4 => assumption
  exact ⟨rfl, rfl⟩
theorem words3 : True := by
  -- contracts that hold nothing
  k_with "MyUse0" => ((case myB => k_asm); (case myF => k_asm); (case myX => k_asm); (case myN => k_asm); (case myT => k_asm); (case myk => first | exact rfl | assumption); (case myd => k_extra "MyLe"); (case myu => k_extra "MyLe"); (case mys => exact fun _ hq => nomatch hq); (case myct => exact Cut.tail (fun _ _ _ hq => nomatch hq)))
  k_with "call ref" => (k_dflt (refine' Con.use (con_vb _ _) ?myB ?myF ?myX ?myN ?myT ?myk ?myd ?myu ?mys ?myct ?_; k_extra "MyUse0"); intro v' h' tk' nw' F' N' po' ap'; obtain ⟨e1', e2'⟩ := po'; subst e1'; subst e2'; simp only [List.append_nil] at N'; clear ap'; (try dsimp only); (try k_sweep))
  k_with "call ref" => (k_dflt (refine' Con.use (con_vl _ _ _ _ ?myz ?mye) ?myB ?myF ?myX ?myN ?myT ?myk ?myd ?myu ?mys ?myct ?_; (case myz => k_extra "MyOm"); (case mye => k_extra "MyOm"); k_extra "MyUse0"); intro v' h' tk' nw' F' N' po' ap'; obtain ⟨e1', e2'⟩ := po'; subst e1'; subst e2'; simp only [List.append_nil] at N'; clear ap'; (try dsimp only); (try k_sweep))
  k_with "binaryOp BitAnd int int" => (first | (refine and_bit0 (by assumption) ?_) | (refine and_bit1 (by assumption) ?_)); intro _ _
  k_with "subscriptTail" => ((with_reducible show wpAny _ _ (subscriptTail _ (Expr.Slice none _ none _) (Value.bytes (List.toArray _) _) (Value.ref _)) _ _ _); (with_reducible rename Fr _ _ _ _ => F'); (with_reducible rename News _ _ _ _ => N'); (refine slice_any (s := ⟨_, _, _, _, _⟩) F' N' (by constructor) (by constructor) (by (try simp only [List.length_append]); k_extra "MyOm") ((cut_lo _ 32).trans (take_app (by assumption))) ?_); intro _ _ _ F' N')
  k_with "subscriptTail" => ((with_reducible show wpAny _ _ (subscriptTail _ (Expr.Slice _ none none _) (Value.bytes (List.toArray _) _) (Value.ref _)) _ _ _); (with_reducible rename Fr _ _ _ _ => F'); (with_reducible rename News _ _ _ _ => N'); (refine slice_any (s := ⟨_, _, _, _, _⟩) F' N' (by constructor) (by constructor) (by (try simp only [List.length_append]); k_extra "MyOm") ((cut_hi _ 32).trans (drop_app (by assumption))) ?_); intro _ _ _ F' N')
  k_with "call builtin:list.append" => (k_dflt (refine' append_L ?myF ?myN ?myU ?myz ?_; (case myF => k_asm); (case myN => k_asm); (case myU => k_upd); (case myz => k_extra "MyOm")); intro h' F' N'; (try k_sweep))
  k_with "call builtin:list.insert" => (k_dflt (refine' insert_L ?myF ?myN ?myU ?myz ?_; (case myF => k_asm); (case myN => k_asm); (case myU => k_upd); (case myz => k_extra "MyOm")); intro h' F' N'; (try k_sweep))
  k_with "call type:tuple" => (k_dflt (refine' tuple_L ?myF ?myN ?mym ?myz ?_; (case myF => k_asm); (case myN => k_asm); (case mym => k_mem); (case myz => k_extra "MyOm")); intro T' h' F' N' l1'; (try k_lt l1'); (try k_sweep))
  k_with "MyKnow" => first | assumption | (refine (if_neg (by decide)).trans ?_; k_extra "MyKnow")
  k_with "MySub" => first | exact List.forall_mem_nil _ | (refine List.forall_mem_cons.mpr ⟨by k_memK, ?_⟩; k_extra "MySub") | (intro p' hp'; k_ownIn)
  trivial
set_option maxHeartbeats 2000000 in
set_option pp.deepTerms false in
set_option pp.deepTerms.threshold 6 in
theorem con_get {w : World} {τ dx δ : Addr} {oδ : Obj} {H : Nat → Int} {T' U' : Nat → Tok} {size dep n : Nat} {dflt root : B} {φ : Addr} {D : List (B × B)} {val : Nat → B}
    (hD : DictB (bytesKind Challenge.rw_iu0035_01.row.prog w) oδ D) (hdep : dep = 8 * size) (hsz1 : 1 ≤ size) (hsz2 : size ≤ 2) (hroot : TN D val dep 0 root) (key : B) (hkey : key.length = size) (hpath : natOf key < 2 ^ dep) (tk : Tok) :
    Con w 390 590 95 [.ref τ, .bytes key.toArray tk] [(τ, instObj 147 dx), (dx, dictOf (treeEs H T' U' size dep dflt φ δ root) n), (δ, oδ)]
      (fun v nw => (X5 fun (b r : Addr) (vs : List Value) (xs : List B) (t : Tok) => A9 (v = .ref r) (nw = [(r, tupOf [.bytes (val (natOf key)).toArray t, .ref b]), (b, tupOf vs), (τ, instObj 147 dx), (dx, dictOf (treeEs H T' U' size dep dflt φ δ root) n), (δ, oδ)]) (BL vs xs) (xs.length = dep) ((∀ j y, xs[j]? = some y → TN D val (dep - 1 - j) (sib (natOf key / 2 ^ (dep - 1 - j))) y)) (@LT.lt Nat _ τ b) (@LT.lt Nat _ dx b) (@LT.lt Nat _ δ b) (@LT.lt Nat _ b r))) := by
  unfold Con
  k_fill
  intro p loose mean mg mb dp un gd cn cs a ccd cl outer A₀ base h₀ L m s Rr Bl F X N T hk hd hu hret
  k_extra "MyEnter"
  k_extra "MySteps"
  rename IsRange _ _ _ _ _ _ _ _ => hR
  rename Fr _ _ _ _ => F1
  rename News _ _ _ ((_, _) :: (_, W.listOf _ _) :: _) => N1
  rename (_ ∧ _ ∧ _ ∧ _) => l1
  obtain ⟨o1, o2, o3, o4⟩ := l1
  rename (_ ∧ _ ∧ _) => l2
  obtain ⟨o5, o6, o7⟩ := l2
  refine Hold.un ?_
  refine' loop_range (n := dep) (fun i m nw => (X7 fun (ℓ : Addr) (vs : List Value) (c : Nat) (xs : List B) (x : B) (t t2 : Tok) => A13 (nw = [(ℓ, listOf vs.toArray c), (τ, instObj 147 dx), (dx, dictOf (treeEs H T' U' size dep dflt φ δ root) n), (δ, oδ)]) (@LT.lt Nat _ τ ℓ) (@LT.lt Nat _ dx ℓ) (@LT.lt Nat _ δ ℓ) (BL vs xs) (xs.length = i) ((∀ j y, xs[j]? = some y → TN D val (dep - 1 - j) (sib (natOf key / 2 ^ (dep - 1 - j))) y)) (TN D val (dep - i) (natOf key / 2 ^ (dep - i)) x) (m (Str.ofString "self") = some (.ref τ)) (m (Str.ofString "branch") = some (.ref ℓ)) (m (Str.ofString "path") = some (.int (natOf key : Int) t2)) (m (Str.ofString "node_hash") = some (.bytes x.toArray t)) (∃ u, m (Str.ofString "target_bit") = some (.int (tbD dep i) u))))
      rfl hR ?sm ?sz F1 (newsSub N1 (fun p hp => List.Mem.tail _ hp)) ?ini ?turn ?done
  case sm => exact small_one (by k_extra "MyOm") (by k_extra "MyOm") (by k_extra "MyOm") (by k_extra "MyOm")
  case sz => rw [rangeSize_one]; split <;> k_extra "MyOm"
  case ini =>
    have htb : (1 : Int) * 2 ^ ((dep : Int) - 1).toNat = tbD dep 0 := by
      have e : ((dep : Int) - 1).toNat = dep - 1 - 0 := by k_extra "MyOm"
      rw [tbD_in (by k_extra "MyOm"), kbt_cast, Int.one_mul, e]
    refine ⟨_, [], _, [], root, _, _, rfl, o5, o6, o7, rfl, rfl, (fun j y hj => by simp at hj), ?_, rfl, rfl, rfl, rfl, ⟨_, (rfl : _ = some (Value.int ((1 : Int) * 2 ^ ((dep : Int) - 1).toNat) _)).trans (by rw [htb])⟩⟩
    rw [Nat.sub_zero, Nat.div_eq_of_lt hpath]; exact hroot
  case turn =>
    rintro i t0 m₁ nw h tk0 I o hi ⟨ℓ, vs, c, xs, x, t, t2, rfl, q1, q2, q3, hbl, hxl, hxs, hx, e1, e2, e3, e4, u, e5⟩ hnew hI F2 N2
    rw [tbD_in hi] at e5
    have hk1 : dep - i = (dep - 1 - i) + 1 := by k_extra "MyOm"
    rw [hk1] at hx
    generalize hkk : dep - 1 - i = k at *
    obtain ⟨hxlen, l, r, hl, hr, hlr⟩ := hx
    have hl32 := hl.length
    have hr32 := hr.length
    have hvl : vs.length = i := by rw [hbl.length]; exact hxl
    have hpos : 0 < 2 ^ k := Nat.pow_pos (by decide)
    have F3 := frKnow (frKnow (frKnow (frKnow (frKnow F2 (n := Str.ofString "self") (by k_extra "MyKnow")) (n := Str.ofString "branch") (by k_extra "MyKnow")) (n := Str.ofString "path") (by k_extra "MyKnow")) (n := Str.ofString "node_hash") (by k_extra "MyKnow")) (n := Str.ofString "target_bit") (by k_extra "MyKnow")
    clear F2
    have hIs := hI
    simp only [List.forall_mem_cons] at hIs
    obtain ⟨g1, g2, g3, g4, -⟩ := hIs
    have hbit : natOf key / 2 ^ k % 2 = 0 ∨ natOf key / 2 ^ k % 2 = 1 := Nat.mod_two_eq_zero_or_one _
    rw [halfDiv] at hl hr
    rcases hbit with hb | hb
    · have hnx : TN D val k (natOf key / 2 ^ k) l := by
        have e : 2 * (natOf key / 2 ^ k / 2) = natOf key / 2 ^ k := by k_extra "MyOm"
        rw [e] at hl
        exact hl
      have hsb : TN D val k (sib (natOf key / 2 ^ k)) r := by
        have e : 2 * (natOf key / 2 ^ k / 2) + 1 = sib (natOf key / 2 ^ k) := by unfold sib; rw [if_pos hb]; k_extra "MyOm"
        rw [e] at hr
        exact hr
      k_extra "MySteps"
      refine TurnE.sub [(ℓ, listOf (vs ++ [_]).toArray (c + 1)), (τ, instObj 147 dx), (dx, dictOf (treeEs H T' U' size dep dflt φ δ root) n), (δ, oδ)] (by assumption) (by assumption) (by k_extra "MySub") (by first | k_all | fail "k_all") ⟨ℓ, vs ++ [_], c + 1, xs ++ [r], l, _, _, rfl, q1, q2, q3, hbl.append (BL.one _ _), by simp [hxl], snocAll hxs ?_, ?_, rfl, rfl, rfl, rfl, ⟨_, (rfl : _ = some (Value.int (((2 ^ k : Nat) : Int).fdiv (2 ^ (1 : Int).toNat)) _)).trans (by rw [← hkk, tbD_next hi])⟩⟩
      · rw [hxl, hkk]; exact hsb
      · have e : dep - (i + 1) = k := by k_extra "MyOm"
        rw [e]; exact hnx
    · have hnx : TN D val k (natOf key / 2 ^ k) r := by
        have e : 2 * (natOf key / 2 ^ k / 2) + 1 = natOf key / 2 ^ k := by k_extra "MyOm"
        rw [e] at hr
        exact hr
      have hsb : TN D val k (sib (natOf key / 2 ^ k)) l := by
        have e : 2 * (natOf key / 2 ^ k / 2) = sib (natOf key / 2 ^ k) := by unfold sib; rw [if_neg (by k_extra "MyOm")]; k_extra "MyOm"
        rw [e] at hl
        exact hl
      k_extra "MySteps"
      refine TurnE.sub [(ℓ, listOf (vs ++ [_]).toArray (c + 1)), (τ, instObj 147 dx), (dx, dictOf (treeEs H T' U' size dep dflt φ δ root) n), (δ, oδ)] (by assumption) (by assumption) (by k_extra "MySub") (by first | k_all | fail "k_all") ⟨ℓ, vs ++ [_], c + 1, xs ++ [l], r, _, _, rfl, q1, q2, q3, hbl.append (BL.one _ _), by simp [hxl], snocAll hxs ?_, ?_, rfl, rfl, rfl, rfl, ⟨_, (rfl : _ = some (Value.int (((2 ^ k : Nat) : Int).fdiv (2 ^ (1 : Int).toNat)) _)).trans (by rw [← hkk, tbD_next hi])⟩⟩
      · rw [hxl, hkk]; exact hsb
      · have e : dep - (i + 1) = k := by k_extra "MyOm"
        rw [e]; exact hnx
  case done =>
    rintro m₁ nw h tk0 ⟨ℓ, vs, c, xs, x, t, t2, rfl, q1, q2, q3, hbl, hxl, hxs, hx, e1, e2, e3, e4, u, e5⟩ F2 N2
    rw [Nat.sub_self] at hx
    have hx2 : lk D x = some (val (natOf key)) := by have := hx.2; simpa using this
    have hvl : vs.length = dep := by rw [hbl.length]; exact hxl
    have F3 := frKnow (frKnow (frKnow F2 (n := Str.ofString "self") (by k_extra "MyKnow")) (n := Str.ofString "branch") (by k_extra "MyKnow")) (n := Str.ofString "node_hash") (by k_extra "MyKnow")
    clear F2
    k_extra "MySteps"
    rename (_ ∧ _ ∧ _ ∧ _ ∧ _) => l1
    obtain ⟨r1, r2, r3, r4, r5⟩ := l1
    rename (_ ∧ _ ∧ _ ∧ _) => l2
    obtain ⟨r6, r7, r8, r9⟩ := l2
    rename News _ _ _ (_ :: _ :: _ :: _ :: _ :: _ :: _) => hN
    rename (∀ p ∈ (_ :: _ :: _ :: _ :: _ :: _ :: _), _ → _) => hO
    refine' hret _ _ _ [(_, tupOf [.bytes (val (natOf key)).toArray _, .ref _]), (_, tupOf vs), (τ, instObj 147 dx), (dx, dictOf (treeEs H T' U' size dep dflt φ δ root) n), (δ, oδ)] ?za5 (newsSub hN ?zs5) (by assumption) (fun p hp => hO p (?zs5 p hp)) ?zc5
    case za5 => assumption
    case zs5 => k_extra "MySub"
    case zc5 => exact ⟨_, _, vs, xs, _, rfl, rfl, hbl, hxl, hxs, r7, r8, r9, r1⟩
theorem words4 : True := by
  k_with "MyAll" => first | exact List.forall_mem_nil _ | (refine' HashG.off ?myHa ?myHb; (case myHa => assumption); (case myHb => k_extra "MyOm")) | (refine List.forall_mem_cons.mpr ⟨by k_ne, ?_⟩; k_extra "MyAll")
  k_with "MyAllLe" => first | exact List.forall_mem_nil _ | (refine List.forall_mem_cons.mpr ⟨by (try dsimp only); k_extra "MyOm", ?_⟩; k_extra "MyAllLe")
  k_with "MyMem" => first | (with_reducible exact List.mem_cons_self) | (with_reducible refine List.mem_cons_of_mem _ ?_; k_extra "MyMem")
  k_with "MyCut" => first | exact Cut.nil | (refine' Cut.dropIf ?cutA ?cutB; (case cutA => k_extra "MyMem"); (case cutB => k_extra "MyCut")) | (refine' Cut.keep ?cutC ?cutD; (case cutC => first | k_extra "MyAll" | fail "MyAll"); (case cutD => k_extra "MyCut")) | (refine' HashG.cut ?myHa ?myHb; (case myHa => assumption); (case myHb => k_extra "MyAllLe")) | exact Cut.lose
  k_with "FnAt" => (exact HashG.fn (by assumption) (by assumption) (by k_extra "MySub"))
  k_with "callWith ref" => (k_dflt (refine' callWith_F ?myfn ?_; (case myfn => (refine' HashG.fn ?myh ?myn ?mys; (case myh => assumption); (case myn => assumption); (case mys => k_extra "MySub"))); k_whole))
  k_with "call ref" => (k_dflt (refine' Con.use (con_hash ?myH ?myl _ _) ?myB ?myF ?myX ?myN ?myT ?myk ?myd ?myu ?mys ?myct ?_; (case myH => assumption); (case myl => k_extra "MyOm"); (case myB => k_asm); (case myF => k_asm); (case myX => k_asm); (case myN => k_asm); (case myT => k_asm); (case myk => first | exact rfl | assumption); (case myd => k_extra "MyLe"); (case myu => k_extra "MyLe"); (case mys => k_extra "MySub"); (case myct => k_extra "MyCut")); intro v' h' tk' nw' F' N' po' ap'; obtain ⟨R', x', u', e1', H', hp', hn', hr'⟩ := po'; subst e1'; simp only [List.append_nil, List.cons_append, List.nil_append] at N'; clear ap'; have hx32' := Reg.length hr'; (try dsimp only); (try k_sweep))
  k_with "inplaceOp LShift int int" => ((refine shl_bit (by k_extra "MyOm") ?_); intro _ _)
  k_with "call type:reversed" => (k_dflt (refine' rev_list ?myF ?myN ?mym ?_; (case myF => k_asm); (case myN => k_asm); (case mym => k_mem)); intro I' h' F' N' l1'; (try k_lt l1'); (try k_sweep))
  k_with "call type:reversed" => (k_dflt (refine' rev_tup ?myF ?myN ?mym ?myz ?_; (case myF => k_asm); (case myN => k_asm); (case mym => k_mem); (case myz => k_extra "MyOm")); intro I' h' tk' F' N' l1'; (try k_lt l1'); (try k_sweep))
  k_with "call type:tuple" => (k_dflt (refine' Rl.tuple_rev ?myh ?myF ?myN ?mym ?myn ?myz ?_; (case myh => exact rfl); (case myF => k_asm); (case myN => k_asm); (case mym => k_mem); (case myn => k_extra "MyAll"); (case myz => k_extra "MyOm")); intro T' h' tk' F' N' l1'; (try k_lt l1'); (try k_sweep))
  k_with "call ref" => (k_dflt (refine' Con.useR (con_get ?my1 ?my2 ?my3 ?my4 ?my5 _ ?my6 ?my7 _) ?myB ?myF ?myX ?myN ?myT ?myk ?myd ?myu ?mys ?myct ?_; (case my1 => assumption); (case my5 => assumption); (case my2 => k_extra "MyOm"); (case my3 => k_extra "MyOm"); (case my4 => k_extra "MyOm"); (case my6 => k_extra "MyOm"); (case my7 => assumption); (case myB => k_asm); (case myF => k_asm); (case myX => k_asm); (case myN => k_asm); (case myT => k_asm); (case myk => first | exact rfl | assumption); (case myd => k_extra "MyLe"); (case myu => k_extra "MyLe"); (case mys => k_extra "MySub"); (case myct => k_extra "MyCut")); intro v' h' tk' nw' F' N' po' ap'; obtain ⟨b', r', vs', xs', t', e1', e2', hb1', hb2', hb3', q1', q2', q3', q4'⟩ := po'; have hbl' := BL.length hb1'; subst e1'; subst e2'; simp only [List.append_nil, List.cons_append, List.nil_append] at N'; clear ap'; (try dsimp only))
  -- members of ledgers, the cheap way
  k_with "MyTail" => first | with_reducible exact subId _ | with_reducible exact subL _ _ | with_reducible exact subR _ _ | (with_reducible refine subC ?_; k_extra "MyTail") | (with_reducible refine subApp ?_ ?_ <;> k_extra "MyTail")
  k_with "MyMem2" => first | k_extra "MyMem" | k_memK
  k_with "MySub" => first | exact List.forall_mem_nil _ | (with_reducible refine' consSub ?msA ?msB; (case msA => k_extra "MyMem2"); (case msB => k_extra "MySub")) | k_extra "MyTail" | (intro p' hp'; k_ownIn)
  trivial
set_option maxHeartbeats 2000000 in
set_option pp.deepTerms false in
set_option pp.deepTerms.threshold 6 in
theorem con_set {w : World} {τ dx δ : Addr} {oδ : Obj} {H : Nat → Int} {T' U' : Nat → Tok} {size dep : Nat} {dflt root : B} {φ : Addr} {c₀ : Nat} {R : List B} {HG : List (Addr × Obj)} {D : List (B × B)} {val : Nat → B}
    (HH : HashG w φ c₀ R HG) (hD : DictB (bytesKind Challenge.rw_iu0035_01.row.prog w) oδ D) (hok : DbOk R D) (hRl : R.length + 40 ≤ 16777216) (hDl : D.length + 40 ≤ 16777216) (hdep : dep = 8 * size) (hsz1 : 1 ≤ size) (hsz2 : size ≤ 2) (hroot : TN D val dep 0 root)
    (key : B) (hkey : key.length = size) (hpath : natOf key < 2 ^ dep) (tk : Tok) (value : B) (hv : value.length ≤ 1000) (tv : Tok)
    (hc1 : @LE.le Nat _ c₀ τ) (hc2 : @LE.le Nat _ c₀ dx) (hc3 : @LE.le Nat _ c₀ δ) (hne1 : δ ≠ τ) (hne2 : δ ≠ dx) (hne3 : dx ≠ τ) :
    Con w 380 580 102 [.ref τ, .bytes key.toArray tk, .bytes value.toArray tv] ((τ, instObj 147 dx) :: (dx, dictOf (treeEs H T' U' size dep dflt φ δ root) 6) :: (δ, oδ) :: HG)
      (fun v nw => (X9 fun (r : Addr) (vs : List Value) (xs : List B) (R' : List B) (D' : List (B × B)) (oδ' : Obj) (HG' : List (Addr × Obj)) (U'' : Nat → Tok) (root' : B) => A16 (v = .ref r) (nw = (r, tupOf vs) :: (τ, instObj 147 dx) :: (dx, dictOf (treeEs H T' U'' size dep dflt φ δ root') 6) :: (δ, oδ') :: HG') (BL vs xs) (xs.length = dep) ((∀ j y, xs[j]? = some y → TN D' (setV val (natOf key) value) (dep - 1 - j) (natOf key / 2 ^ (dep - 1 - j)) y)) (HashG w φ c₀ R' HG') (R <+: R') (R'.length ≤ R.length + 17) (DictB (bytesKind Challenge.rw_iu0035_01.row.prog w) oδ' D') (DbOk R' D') (Sub D D') (D'.length ≤ D.length + 17) (TN D' (setV val (natOf key) value) dep 0 root') (@LT.lt Nat _ τ r) (@LT.lt Nat _ dx r) (@LT.lt Nat _ δ r))) := by
  unfold Con
  k_fill
  intro p loose mean mg mb dp un gd cn cs a ccd cl outer A₀ base h₀ L m s Rr Bl F X N T hk hd hu hret
  k_extra "MyEnter"
  k_extra "MySteps"
  rename (∀ (j : Nat) (y : B), _ → _) => hys
  rename BL _ _ => hbl0
  rename List.length _ = dep => hyl
  rename (List.length _ = List.length _) => hbl1
  rename Fr _ _ _ _ => F1
  rename News _ _ _ (_ :: _ :: _ :: _ :: _) => N1
  rename List B => ys
  first
    | (rename_i b' r' bs' t' q1 q2 q3 q4 z1 z2 z3 z4 ℓ' z5 z6 z7 z8 I' z9 z10 z11; have chk1 : BL bs' ys := hbl0; have chk2 : @LT.lt Nat _ b' r' := q4; have chk3 := N1 (ℓ', listOf #[] 0) (.tail _ (.head _)); clear chk1 chk2 chk3)
    | (rename_i b' r' bs' t' q1 q2 q3 q4 z1 z2 z3 ℓ' z5 z6 z7 z8 I' z9 z10 z11; have chk1 : BL bs' ys := hbl0; have chk2 : @LT.lt Nat _ b' r' := q4; have chk3 := N1 (ℓ', listOf #[] 0) (.tail _ (.head _)); clear chk1 chk2 chk3)
  refine Hold.un ?_
  refine' loop_revT (fun i m nw => (X10 fun (vs : List Value) (c : Nat) (xs : List B) (Ri : List B) (Di : List (B × B)) (oi : Obj) (Gi : List (Addr × Obj)) (nd : B) (t2 t : Tok) => A19 (nw = (ℓ', listOf vs.toArray c) :: (b', tupOf bs') :: (τ, instObj 147 dx) :: (dx, dictOf (treeEs H T' U' size dep dflt φ δ root) 6) :: (δ, oi) :: Gi) (BL vs xs) (xs.length = i) ((∀ j y, xs[j]? = some y → TN Di (setV val (natOf key) value) j (natOf key / 2 ^ j) y)) (HashG w φ c₀ Ri Gi) (R <+: Ri) (Ri.length ≤ R.length + i) (DictB (bytesKind Challenge.rw_iu0035_01.row.prog w) oi Di) (DbOk Ri Di) (Sub D Di) (Di.length ≤ D.length + i) (NT Di (setV val (natOf key) value) i (natOf key / 2 ^ i) nd) (nd.length ≤ 1000) (m (Str.ofString "self") = some (.ref τ)) (m (Str.ofString "path") = some (.int (natOf key : Int) t2)) (m (Str.ofString "node") = some (.bytes nd.toArray t)) (m (Str.ofString "hash_of") = some (.ref φ)) (m (Str.ofString "proof_update") = some (.ref ℓ')) (∃ u, m (Str.ofString "target_bit") = some (.int ((2 ^ i : Nat) : Int) u))))
      rfl (by k_extra "MyOm") F1 (newsSub N1 (small := (I', Rv.rtObj b' ((bs'.length : Int) - 1)) :: (ℓ', listOf (List.toArray []) 0) :: (b', tupOf bs') :: (τ, instObj 147 dx) :: (dx, dictOf (treeEs H T' U' size dep dflt φ δ root) 6) :: (δ, oδ) :: HG) ?zsub) ?hl ?hne ?ini ?turn ?done
  case zsub => k_extra "MySub"
  case hl => rintro i m nw ⟨vs, c, xs, Ri, Di, oi, Gi, nd, t2, t, rfl, -⟩; exact .tail _ (.head _)
  case hne => k_extra "MyAll"
  case ini => exact ⟨[], 0, [], R, D, oδ, HG, value, _, _, rfl, rfl, rfl, (fun j y hj => by simp at hj), HH, List.prefix_refl _, by k_extra "MyOm", hD, hok, Sub.refl _, by k_extra "MyOm", by show _ = setV _ _ _ _; unfold setV; rw [if_pos (by simp)], hv, rfl, rfl, rfl, rfl, rfl, ⟨_, rfl⟩⟩
  case turn =>
    rintro i v m₁ nw h tk0 o hi ⟨vs, c, xs, Ri, Di, oi, Gi, nd, t2, t, rfl, hbl, hxl, hxs, HHi, hpre, hRi, hDi, hoki, hsub, hDil, hnd, hndl, e1, e2, e3, e4, e5, u, e6⟩ hI F2 N2
    obtain ⟨hlt, -⟩ := List.getElem?_eq_some_iff.mp hi
    obtain ⟨y, ty, hy, rfl⟩ := hbl0.reverse.at hi
    rw [List.length_reverse] at hlt
    rw [List.getElem?_reverse (by k_extra "MyOm")] at hy
    have hsib := (hys _ _ hy).mono hsub
    rw [hyl] at hsib
    rw [Nat.sub_sub_self (show i ≤ dep - 1 by omega)] at hsib
    have hs32 := hsib.length
    have hsv := TN.setV (p := natOf key) (v := value) (sib_ne _) hsib
    have hvl : vs.length = i := by rw [hbl.length]; exact hxl
    have bi : i ≤ 16 := by omega
    have bR : Ri.length + 20 ≤ 16777216 := by omega
    have bD : Di.length + 20 ≤ 16777216 := by omega
    have bv : vs.length ≤ 16 := hvl ▸ bi
    have F3 := frKnow (frKnow (frKnow (frKnow (frKnow (frKnow F2 (n := Str.ofString "self") (by k_extra "MyKnow")) (n := Str.ofString "path") (by k_extra "MyKnow")) (n := Str.ofString "node") (by k_extra "MyKnow")) (n := Str.ofString "hash_of") (by k_extra "MyKnow")) (n := Str.ofString "proof_update") (by k_extra "MyKnow")) (n := Str.ofString "target_bit") (by k_extra "MyKnow")
    clear F2
    have hIs := hI
    simp only [List.forall_mem_cons] at hIs
    obtain ⟨g1, g2, g3, g4, g5, -⟩ := hIs
    have hbit : natOf key / 2 ^ i % 2 = 0 ∨ natOf key / 2 ^ i % 2 = 1 := Nat.mod_two_eq_zero_or_one _
    have hpos : 0 < 2 ^ i := Nat.pow_pos (by decide)
    rcases hbit with hb | hb
    · k_extra "MySteps"
      rename HashG _ _ _ _ _ => HH2
      rename List (Addr × Obj) => G2
      rename Reg _ _ _ => hreg
      rename DictB _ _ (put _ _ _) => hD2
      rename Ri <+: _ => hp2
      rename List.length _ = 32 => hx32
      rename List.length _ ≤ List.length Ri + 1 => hn2
      have hsub2 := Sub.put (by k_extra "MyOm") (hoki.mono hp2) hreg
      have hnode := NT.node (hnd.mono hsub2) hx32 (by rw [lk_put, if_pos rfl])
      refine TurnE.sub ((ℓ', listOf (vs ++ [_]).toArray (c + 1)) :: (b', tupOf bs') :: (τ, instObj 147 dx) :: (dx, dictOf (treeEs H T' U' size dep dflt φ δ root) 6) :: (δ, _) :: G2) (by assumption) (by assumption) (by k_extra "MySub") (by k_extra "MyAll")
        ⟨vs ++ [_], c + 1, xs ++ [_], _, _, _, _, _, _, _, rfl, hbl.append (BL.one _ _), by simp [hxl], snocAll (fun j y hj => (hxs j y hj).mono hsub2) (by rw [hxl]; exact hnode), HH2, hpre.trans hp2, by k_extra "MyOm", hD2, (hoki.mono hp2).put hreg, hsub.trans hsub2, Nat.le_trans (put_length_le _ _ _) (by k_extra "MyOm"), ⟨_, _, by rw [halfDiv, show 2 * (natOf key / 2 ^ i / 2) = natOf key / 2 ^ i by k_extra "MyOm"]; exact hnode, by rw [halfDiv, show 2 * (natOf key / 2 ^ i / 2) + 1 = sib (natOf key / 2 ^ i) by unfold sib; rw [if_pos hb]; k_extra "MyOm"]; exact hsv.mono hsub2, rfl⟩, by rw [List.length_append]; k_extra "MyOm", rfl, rfl, rfl, rfl, rfl, ⟨_, rfl⟩⟩
    · k_extra "MySteps"
      rename HashG _ _ _ _ _ => HH2
      rename List (Addr × Obj) => G2
      rename Reg _ _ _ => hreg
      rename DictB _ _ (put _ _ _) => hD2
      rename Ri <+: _ => hp2
      rename List.length _ = 32 => hx32
      rename List.length _ ≤ List.length Ri + 1 => hn2
      have hsub2 := Sub.put (by k_extra "MyOm") (hoki.mono hp2) hreg
      have hnode := NT.node (hnd.mono hsub2) hx32 (by rw [lk_put, if_pos rfl])
      refine TurnE.sub ((ℓ', listOf (vs ++ [_]).toArray (c + 1)) :: (b', tupOf bs') :: (τ, instObj 147 dx) :: (dx, dictOf (treeEs H T' U' size dep dflt φ δ root) 6) :: (δ, _) :: G2) (by assumption) (by assumption) (by k_extra "MySub") (by k_extra "MyAll")
        ⟨vs ++ [_], c + 1, xs ++ [_], _, _, _, _, _, _, _, rfl, hbl.append (BL.one _ _), by simp [hxl], snocAll (fun j y hj => (hxs j y hj).mono hsub2) (by rw [hxl]; exact hnode), HH2, hpre.trans hp2, by k_extra "MyOm", hD2, (hoki.mono hp2).put hreg, hsub.trans hsub2, Nat.le_trans (put_length_le _ _ _) (by k_extra "MyOm"), ⟨_, _, by rw [halfDiv, show 2 * (natOf key / 2 ^ i / 2) = sib (natOf key / 2 ^ i) by unfold sib; rw [if_neg (by k_extra "MyOm")]; k_extra "MyOm"]; exact hsv.mono hsub2, by rw [halfDiv, show 2 * (natOf key / 2 ^ i / 2) + 1 = natOf key / 2 ^ i by k_extra "MyOm"]; exact hnode, rfl⟩, by rw [List.length_append]; k_extra "MyOm", rfl, rfl, rfl, rfl, rfl, ⟨_, rfl⟩⟩
  case done =>
    rintro m₁ nw h tk0 ⟨vs, c, xs, Ri, Di, oi, Gi, nd, t2, t, rfl, hbl, hxl, hxs, HHi, hpre, hRi, hDi, hoki, hsub, hDil, hnd, hndl, e1, e2, e3, e4, e5, u, e6⟩ F2 N2
    have hn0 : bs'.length = dep := by k_extra "MyOm"
    rw [hn0] at hxl hRi hDil hnd
    have hvl : vs.length = dep := by rw [hbl.length]; exact hxl
    have F3 := frKnow (frKnow (frKnow (frKnow F2 (n := Str.ofString "self") (by k_extra "MyKnow")) (n := Str.ofString "node") (by k_extra "MyKnow")) (n := Str.ofString "hash_of") (by k_extra "MyKnow")) (n := Str.ofString "proof_update") (by k_extra "MyKnow")
    clear F2
    k_extra "MySteps"
    rename HashG _ _ _ _ _ => HH2
    rename List (Addr × Obj) => G2
    rename Reg _ _ _ => hreg
    rename DictB _ _ (put _ _ _) => hD2
    rename Ri <+: _ => hp2
    rename List.length _ = 32 => hx32
    rename List.length _ ≤ List.length Ri + 1 => hn2
    have hsub2 := Sub.put (by k_extra "MyOm") (hoki.mono hp2) hreg
    have hnode := NT.node (hnd.mono hsub2) hx32 (by rw [lk_put, if_pos rfl])
    rw [Nat.div_eq_of_lt hpath] at hnode
    rename News _ _ _ ((_, tupOf (List.reverse _)) :: _) => hN
    rename (∀ p ∈ ((_, tupOf (List.reverse _)) :: _), _ → _) => hO
    rename (ℓ' < _ ∧ _) => l1
    refine' hret _ _ _ ((_, tupOf vs.reverse) :: (τ, instObj 147 dx) :: (dx, dictOf (treeEs H T' (fun i => if i = 5 then _ else U' i) size dep dflt φ δ _) 6) :: (δ, _) :: G2) ?za6 (newsSub hN ?zs6) (by assumption) (fun p hp => hO p (?zs6 p hp)) ?zc6
    case za6 => assumption
    case zs6 => k_extra "MySub"
    case zc6 =>
      refine ⟨_, vs.reverse, xs.reverse, _, _, _, _, (fun i => if i = 5 then _ else U' i), _, rfl, rfl, hbl.reverse, by rw [List.length_reverse, hxl], ?_, HH2, hpre.trans hp2, by k_extra "MyOm", hD2, (hoki.mono hp2).put hreg, hsub.trans hsub2, Nat.le_trans (put_length_le _ _ _) (by k_extra "MyOm"), hnode, by k_extra "MyOm", by k_extra "MyOm", by k_extra "MyOm"⟩
      intro j y hj
      obtain ⟨hjl, -⟩ := List.getElem?_eq_some_iff.mp hj
      rw [List.length_reverse] at hjl
      rw [List.getElem?_reverse hjl] at hj
      have := (hxs _ _ hj).mono hsub2
      rw [hxl] at this
      exact this
theorem words5 : True := by
  k_with "eval Dict nil nil" => (k_dflt (refine' new_dict ?k1 ?k2 (TopRead.nolimit (by k_asm)) ?_; (case k1 => k_asm); (case k2 => k_asm); k_whole); intro d' h' o' F' N' l1' lo' hb' hi'; (try k_lt l1'); (try k_sweep))
  k_with "MyKAll" => k_extra "MyAll"
  trivial
set_option maxHeartbeats 2000000 in
set_option pp.deepTerms false in
set_option pp.deepTerms.threshold 6 in
theorem con_init {w : World} {τ dx : Addr} {size dep : Nat} {dflt : B} {φ : Addr} {c₀ : Nat} {R : List B} {HG : List (Addr × Obj)}
    (HH : HashG w φ c₀ R HG) (hRl : R.length + 40 ≤ 16777216) (hdep : dep = 8 * size) (hsz1 : 1 ≤ size) (hsz2 : size ≤ 2) (hv : dflt.length ≤ 1000) (tz td : Tok)
    (hc1 : @LE.le Nat _ c₀ τ) (hc2 : @LE.le Nat _ c₀ dx) (hne3 : dx ≠ τ) :
    Con w 380 580 63 [.ref τ, .ref φ, .int (size : Int) tz, .bytes dflt.toArray td] ((τ, instObj 147 dx) :: (dx, dictOf [] 0) :: HG)
      (fun v nw => (X9 fun (δ : Addr) (oδ : Obj) (D : List (B × B)) (R' : List B) (HG' : List (Addr × Obj)) (H : Nat → Int) (T' U' : Nat → Tok) (root : B) => A11 (v = .none) (nw = (τ, instObj 147 dx) :: (dx, dictOf (treeEs H T' U' size dep dflt φ δ root) 6) :: (δ, oδ) :: HG') (HashG w φ c₀ R' HG') (R <+: R') (R'.length ≤ R.length + 17) (DictB (bytesKind Challenge.rw_iu0035_01.row.prog w) oδ D) (DbOk R' D) (D.length ≤ 17) (TN D (fun _ => dflt) dep 0 root) (@LT.lt Nat _ τ δ) (@LT.lt Nat _ dx δ))) := by
  unfold Con
  k_fill
  intro p loose mean mg mb dp un gd cn cs a ccd cl outer A₀ base h₀ L m s Rr Bl F X N T hk hd hu hret
  k_extra "MyEnter"
  k_extra "MySteps"
  rename_i δ z1 oδ lo hb hi l1 z2 z3 F0 N0 z4 z5 t1 u1 v1 hR F1 N1 hstay
  clear hi
  obtain ⟨H, T', U', N2⟩ := exE5 N1 hdep
  refine Hold.un ?_
  refine' loop_range (n := dep) (fun i m nw => (X6 fun (Ri : List B) (Di : List (B × B)) (oi : Obj) (Gi : List (Addr × Obj)) (nd : B) (t : Tok) => A12 (nw = (τ, instObj 147 dx) :: (dx, dictOf (treeE5 H T' U' size dep dflt φ δ) 5) :: (δ, oi) :: Gi) (HashG w φ c₀ Ri Gi) (R <+: Ri) (Ri.length ≤ R.length + i) (DictB (bytesKind Challenge.rw_iu0035_01.row.prog w) oi Di) (DbOk Ri Di) (Di.length ≤ i) ((∀ a, NT Di (fun _ => dflt) i a nd)) (nd.length ≤ 1000) (m (Str.ofString "self") = some (.ref τ)) (m (Str.ofString "hash_of") = some (.ref φ)) (m (Str.ofString "node") = some (.bytes nd.toArray t))))
      rfl hR ?sm ?sz F1 (newsSub N2 (small := (τ, instObj 147 dx) :: (dx, dictOf (treeE5 H T' U' size dep dflt φ δ) 5) :: (δ, oδ) :: HG) ?zsub) ?ini ?turn ?done
  case sm => exact small_one (by k_extra "MyOm") (by k_extra "MyOm") (by k_extra "MyOm") (by k_extra "MyOm")
  case sz => rw [rangeSize_one]; split <;> k_extra "MyOm"
  case zsub => k_extra "MySub"
  case ini => exact ⟨R, [], oδ, HG, dflt, _, rfl, HH, List.prefix_refl _, by k_extra "MyOm", hb, (fun y t e => by simp [lk] at e), by simp, (fun a => rfl), hv, rfl, rfl, rfl⟩
  case turn =>
    rintro i t0 m₁ nw h tk0 I o hi ⟨Ri, Di, oi, Gi, nd, t, rfl, HHi, hpre, hRi, hDi, hoki, hDil, hnd, hndl, e1, e2, e3⟩ hnew hI F2 N3
    have F3 := frKnow (frKnow (frKnow F2 (n := Str.ofString "self") (by k_extra "MyKnow")) (n := Str.ofString "hash_of") (by k_extra "MyKnow")) (n := Str.ofString "node") (by k_extra "MyKnow")
    clear F2
    have lI := hnew
    k_lt lI
    k_extra "MySteps"
    rename HashG _ _ _ _ _ => HH2
    rename List (Addr × Obj) => G2
    rename Reg _ _ _ => hreg
    rename DictB _ _ (put _ _ _) => hD2
    rename Ri <+: _ => hp2
    rename List.length _ = 32 => hx32
    rename List.length _ ≤ List.length Ri + 1 => hn2
    have hsub2 := Sub.put (by k_extra "MyOm") (hoki.mono hp2) hreg
    have hnode := fun a => NT.node ((hnd a).mono hsub2) hx32 (by rw [lk_put, if_pos rfl])
    refine TurnE.sub ((τ, instObj 147 dx) :: (dx, dictOf (treeE5 H T' U' size dep dflt φ δ) 5) :: (δ, _) :: G2) (by assumption) (by assumption) (by k_extra "MySub") (by k_extra "MyAll")
      ⟨_, _, _, G2, _, _, rfl, HH2, hpre.trans hp2, by k_extra "MyOm", hD2, (hoki.mono hp2).put hreg, Nat.le_trans (put_length_le _ _ _) (by k_extra "MyOm"), fun a => ⟨_, _, hnode _, hnode _, rfl⟩, by rw [List.length_append]; k_extra "MyOm", rfl, rfl, rfl⟩
  case done =>
    rintro m₁ nw h tk0 ⟨Ri, Di, oi, Gi, nd, t, rfl, HHi, hpre, hRi, hDi, hoki, hDil, hnd, hndl, e1, e2, e3⟩ F2 N3
    have F3 := frKnow (frKnow (frKnow F2 (n := Str.ofString "self") (by k_extra "MyKnow")) (n := Str.ofString "hash_of") (by k_extra "MyKnow")) (n := Str.ofString "node") (by k_extra "MyKnow")
    clear F2
    k_extra "MySteps"
    rename HashG _ _ _ _ _ => HH2
    rename List (Addr × Obj) => G2
    rename Reg _ _ _ => hreg
    rename DictB _ _ (put _ _ _) => hD2
    rename Ri <+: _ => hp2
    rename List.length _ = 32 => hx32
    rename List.length _ ≤ List.length Ri + 1 => hn2
    have hsub2 := Sub.put (by k_extra "MyOm") (hoki.mono hp2) hreg
    have hnode := NT.node ((hnd 0).mono hsub2) hx32 (by rw [lk_put, if_pos rfl])
    rename News _ _ _ ((τ, _) :: _) => hN
    rename (∀ p ∈ ((τ, _) :: _), _ → _) => hO
    refine' hret _ _ _ ((τ, instObj 147 dx) :: (dx, dictOf (treeEs (six (H 0) (H 1) (H 2) (H 3) (H 4) _) (six (T' 0) (T' 1) (T' 2) (T' 3) (T' 4) _) (six (U' 0) (U' 1) (U' 2) (U' 3) (U' 4) _) size dep dflt φ δ _) 6) :: (δ, _) :: G2) ?za7 (newsSub hN ?zs7) (by assumption) (fun p hp => hO p (?zs7 p hp)) ?zc7
    case za7 => assumption
    case zs7 => k_extra "MySub"
    case zc7 =>
      exact ⟨δ, _, _, _, G2, (six (H 0) (H 1) (H 2) (H 3) (H 4) _), (six (T' 0) (T' 1) (T' 2) (T' 3) (T' 4) _), (six (U' 0) (U' 1) (U' 2) (U' 3) (U' 4) _), _, rfl, rfl, HH2, hpre.trans hp2, by k_extra "MyOm", hD2, (hoki.mono hp2).put hreg, Nat.le_trans (put_length_le _ _ _) (by k_extra "MyOm"), hnode, by k_extra "MyOm", by k_extra "MyOm"⟩
set_option maxHeartbeats 2000000 in
set_option pp.deepTerms false in
set_option pp.deepTerms.threshold 6 in
theorem con_initk {w : World} {τ dx : Addr} {size dep : Nat} {dflt : B} {φ : Addr} {c₀ : Nat} {R : List B} {HG : List (Addr × Obj)}
    (HH : HashG w φ c₀ R HG) (hRl : R.length + 40 ≤ 16777216) (hdep : dep = 8 * size) (hsz1 : 1 ≤ size) (hsz2 : size ≤ 2) (hv : dflt.length ≤ 1000) (tz td : Tok)
    (hc1 : @LE.le Nat _ c₀ τ) (hc2 : @LE.le Nat _ c₀ dx) (hne3 : dx ≠ τ) :
    ConA w 380 580 63 ⟨[.ref τ, .ref φ], [(Str.ofString "key_size", .int (size : Int) tz), (Str.ofString "default", .bytes dflt.toArray td)]⟩ ((τ, instObj 147 dx) :: (dx, dictOf [] 0) :: HG)
      (fun v nw => (X9 fun (δ : Addr) (oδ : Obj) (D : List (B × B)) (R' : List B) (HG' : List (Addr × Obj)) (H : Nat → Int) (T' U' : Nat → Tok) (root : B) => A11 (v = .none) (nw = (τ, instObj 147 dx) :: (dx, dictOf (treeEs H T' U' size dep dflt φ δ root) 6) :: (δ, oδ) :: HG') (HashG w φ c₀ R' HG') (R <+: R') (R'.length ≤ R.length + 17) (DictB (bytesKind Challenge.rw_iu0035_01.row.prog w) oδ D) (DbOk R' D) (D.length ≤ 17) (TN D (fun _ => dflt) dep 0 root) (@LT.lt Nat _ τ δ) (@LT.lt Nat _ dx δ))) := by
  unfold ConA
  k_fill
  intro p loose mean mg mb dp un gd cn cs a ccd cl outer A₀ base h₀ L m s Rr Bl F X N T hk hd hu hret
  k_extra "MyEnter"
  k_extra "MySteps"
  rename_i δ z1 oδ lo hb hi l1 z2 z3 F0 N0 z4 z5 t1 u1 v1 hR F1 N1 hstay
  clear hi
  obtain ⟨H, T', U', N2⟩ := exE5 N1 hdep
  refine Hold.un ?_
  refine' loop_range (n := dep) (fun i m nw => (X6 fun (Ri : List B) (Di : List (B × B)) (oi : Obj) (Gi : List (Addr × Obj)) (nd : B) (t : Tok) => A12 (nw = (τ, instObj 147 dx) :: (dx, dictOf (treeE5 H T' U' size dep dflt φ δ) 5) :: (δ, oi) :: Gi) (HashG w φ c₀ Ri Gi) (R <+: Ri) (Ri.length ≤ R.length + i) (DictB (bytesKind Challenge.rw_iu0035_01.row.prog w) oi Di) (DbOk Ri Di) (Di.length ≤ i) ((∀ a, NT Di (fun _ => dflt) i a nd)) (nd.length ≤ 1000) (m (Str.ofString "self") = some (.ref τ)) (m (Str.ofString "hash_of") = some (.ref φ)) (m (Str.ofString "node") = some (.bytes nd.toArray t))))
      rfl hR ?sm ?sz F1 (newsSub N2 (small := (τ, instObj 147 dx) :: (dx, dictOf (treeE5 H T' U' size dep dflt φ δ) 5) :: (δ, oδ) :: HG) ?zsub) ?ini ?turn ?done
  case sm => exact small_one (by k_extra "MyOm") (by k_extra "MyOm") (by k_extra "MyOm") (by k_extra "MyOm")
  case sz => rw [rangeSize_one]; split <;> k_extra "MyOm"
  case zsub => k_extra "MySub"
  case ini => exact ⟨R, [], oδ, HG, dflt, _, rfl, HH, List.prefix_refl _, by k_extra "MyOm", hb, (fun y t e => by simp [lk] at e), by simp, (fun a => rfl), hv, rfl, rfl, rfl⟩
  case turn =>
    rintro i t0 m₁ nw h tk0 I o hi ⟨Ri, Di, oi, Gi, nd, t, rfl, HHi, hpre, hRi, hDi, hoki, hDil, hnd, hndl, e1, e2, e3⟩ hnew hI F2 N3
    have F3 := frKnow (frKnow (frKnow F2 (n := Str.ofString "self") (by k_extra "MyKnow")) (n := Str.ofString "hash_of") (by k_extra "MyKnow")) (n := Str.ofString "node") (by k_extra "MyKnow")
    clear F2
    have lI := hnew
    k_lt lI
    k_extra "MySteps"
    rename HashG _ _ _ _ _ => HH2
    rename List (Addr × Obj) => G2
    rename Reg _ _ _ => hreg
    rename DictB _ _ (put _ _ _) => hD2
    rename Ri <+: _ => hp2
    rename List.length _ = 32 => hx32
    rename List.length _ ≤ List.length Ri + 1 => hn2
    have hsub2 := Sub.put (by k_extra "MyOm") (hoki.mono hp2) hreg
    have hnode := fun a => NT.node ((hnd a).mono hsub2) hx32 (by rw [lk_put, if_pos rfl])
    refine TurnE.sub ((τ, instObj 147 dx) :: (dx, dictOf (treeE5 H T' U' size dep dflt φ δ) 5) :: (δ, _) :: G2) (by assumption) (by assumption) (by k_extra "MySub") (by k_extra "MyAll")
      ⟨_, _, _, G2, _, _, rfl, HH2, hpre.trans hp2, by k_extra "MyOm", hD2, (hoki.mono hp2).put hreg, Nat.le_trans (put_length_le _ _ _) (by k_extra "MyOm"), fun a => ⟨_, _, hnode _, hnode _, rfl⟩, by rw [List.length_append]; k_extra "MyOm", rfl, rfl, rfl⟩
  case done =>
    rintro m₁ nw h tk0 ⟨Ri, Di, oi, Gi, nd, t, rfl, HHi, hpre, hRi, hDi, hoki, hDil, hnd, hndl, e1, e2, e3⟩ F2 N3
    have F3 := frKnow (frKnow (frKnow F2 (n := Str.ofString "self") (by k_extra "MyKnow")) (n := Str.ofString "hash_of") (by k_extra "MyKnow")) (n := Str.ofString "node") (by k_extra "MyKnow")
    clear F2
    k_extra "MySteps"
    rename HashG _ _ _ _ _ => HH2
    rename List (Addr × Obj) => G2
    rename Reg _ _ _ => hreg
    rename DictB _ _ (put _ _ _) => hD2
    rename Ri <+: _ => hp2
    rename List.length _ = 32 => hx32
    rename List.length _ ≤ List.length Ri + 1 => hn2
    have hsub2 := Sub.put (by k_extra "MyOm") (hoki.mono hp2) hreg
    have hnode := NT.node ((hnd 0).mono hsub2) hx32 (by rw [lk_put, if_pos rfl])
    rename News _ _ _ ((τ, _) :: _) => hN
    rename (∀ p ∈ ((τ, _) :: _), _ → _) => hO
    refine' hret _ _ _ ((τ, instObj 147 dx) :: (dx, dictOf (treeEs (six (H 0) (H 1) (H 2) (H 3) (H 4) _) (six (T' 0) (T' 1) (T' 2) (T' 3) (T' 4) _) (six (U' 0) (U' 1) (U' 2) (U' 3) (U' 4) _) size dep dflt φ δ _) 6) :: (δ, _) :: G2) ?za8 (newsSub hN ?zs8) (by assumption) (fun p hp => hO p (?zs8 p hp)) ?zc8
    case za8 => assumption
    case zs8 => k_extra "MySub"
    case zc8 =>
      exact ⟨δ, _, _, _, G2, (six (H 0) (H 1) (H 2) (H 3) (H 4) _), (six (T' 0) (T' 1) (T' 2) (T' 3) (T' 4) _), (six (U' 0) (U' 1) (U' 2) (U' 3) (U' 4) _), _, rfl, rfl, HH2, hpre.trans hp2, by k_extra "MyOm", hD2, (hoki.mono hp2).put hreg, Nat.le_trans (put_length_le _ _ _) (by k_extra "MyOm"), hnode, by k_extra "MyOm", by k_extra "MyOm"⟩
theorem words6 : True := by
  k_with "MyLe2" => (simp only [weight_call, cUnits_call]; k_extra "MyLe")
  k_with "MyInit" => ((case myH => assumption); (case myB => k_asm); (case myF => k_asm); (case myX => k_asm); (case myN => k_asm); (case myT => k_asm); (case myk => first | exact rfl | assumption); (case mys => k_extra "MySub"); (case my1 => k_extra "MyOm"); (case my2 => assumption); (case my3 => assumption); (case my4 => assumption); (case my5 => k_extra "MyOm"); (case my6 => k_extra "MyOm"); (case my7 => k_extra "MyOm"); (case my8 => k_ne); (case myct => k_extra "MyCut"); (case myd => k_extra "MyLe2"); (case myu => k_extra "MyLe2"))
  k_with "call ref" => (k_dflt (refine' call_cls ?k1 ?k2 ?k3 ?k4 ?k5 ?k6 ?_; (case k1 => k_asm); (case k2 => k_asm); (case k3 => k_asm); (case k4 => k_is); (case k5 => k_is); (case k6 => k_is); k_whole; intro x' d' h' F' N' l1' l2'; (try k_lt l1'); (try k_lt2 l2'); (try k_sweep); (try dsimp only); refine' ConA.useI (con_initk ?myH ?my1 ?my2 ?my3 ?my4 ?my5 _ _ ?my6 ?my7 ?my8) ?myB ?myF ?myX ?myN ?myT ?myk ?myd ?myu ?mys ?myct ?_; k_extra "MyInit"); intro v' h' tk' nw' F' N' po' ap'; obtain ⟨δ', oδ', D', R', HG', H', T', U', root', e1', e2', H'', hp', hn', hd', hok', hDl', hroot', q1', q2'⟩ := po'; subst e1'; subst e2'; simp only [List.append_nil, List.cons_append, List.nil_append] at N'; clear ap'; (try dsimp only [InitBack]); (try k_sweep))
  trivial
set_option maxHeartbeats 2000000 in
set_option pp.deepTerms false in
set_option pp.deepTerms.threshold 6 in
theorem con_from {w : World} {δ : Addr} {oδ : Obj} {size dep : Nat} {dflt root : B} {φ : Addr} {c₀ : Nat} {R : List B} {HG : List (Addr × Obj)}
    (HH : HashG w φ c₀ R HG) (hRl : R.length + 40 ≤ 16777216) (hdep : dep = 8 * size) (hsz1 : 1 ≤ size) (hsz2 : size ≤ 2) (hv : dflt.length ≤ 1000) (hr : root.length = 32) (tr tz td : Tok)
    (hc3 : @LE.le Nat _ c₀ δ) :
    Con w 370 570 71 [.ref 147, .ref δ, .bytes root.toArray tr, .ref φ, .int (size : Int) tz, .bytes dflt.toArray td] ((δ, oδ) :: HG)
      (fun v nw => (X7 fun (τ dx : Addr) (R' : List B) (HG' : List (Addr × Obj)) (H : Nat → Int) (T' U' : Nat → Tok) => A7 (v = .ref τ) (nw = (τ, instObj 147 dx) :: (dx, dictOf (treeEs H T' U' size dep dflt φ δ root) 6) :: (δ, oδ) :: HG') (HashG w φ c₀ R' HG') (R <+: R') (R'.length ≤ R.length + 17) (@LT.lt Nat _ δ dx) (@LT.lt Nat _ dx τ))) := by
  unfold Con
  k_fill
  intro p loose mean mg mb dp un gd cn cs a ccd cl outer A₀ base h₀ L m s Rr Bl F X N T hk hd hu hret
  k_extra "MyEnter"
  k_extra "MySteps"
  rename_i x d h6 l1 l2 h5 tk2 δ2 oδ2 D2 R2 G2 H2 T2 U2 root2 HH2 hp2 hn2 hd2 hok2 hDl2 hroot2 q1 q2 h4 h3 h2 tk1 h1 tk0 hx Fx Nx kF kN kS kO
  refine' hret _ _ _ ((x, instObj 147 d) :: (d, dictOf (treeEs H2 T2 (fun i => if i = 5 then tr else U2 i) size dep dflt φ δ root) 6) :: (δ, oδ) :: G2) ?za9 (newsSub kN ?zs9) (by assumption) (fun p hp => kO p (?zs9 p hp)) ?zc9
  case za9 => assumption
  case zs9 => k_extra "MySub"
  case zc9 => exact ⟨x, d, R2, G2, H2, T2, (fun i => if i = 5 then tr else U2 i), rfl, rfl, HH2, hp2, hn2, by k_extra "MyOm", by k_extra "MyOm"⟩
theorem words7 : True := by
  k_with "ite" => (first | (refine ite_neg (by simp only [bne_iff_ne, beq_iff_eq, decide_eq_true_eq, ne_eq, Decidable.not_not, Bool.not_eq_true', decide_eq_false_iff_not]; assumption) ?_) | (refine ite_pos (by simp only [bne_iff_ne, beq_iff_eq, decide_eq_true_eq, ne_eq, Bool.not_eq_true', decide_eq_false_iff_not]; assumption) ?_))
  trivial
theorem words8 : True := by
  k_with "MyEnterT" => (k_dflt (refine' code_defT ?k1 ?k2 ?k3 ?k4 ?k5 ?XB ?TB ?D ?kA ?k6 ?k7 ?k8 ?k9 ?kB ?_ ?kK ?c2 ?c3 ?c4 ?c5; (case kA => exact rfl); (case kK => assumption); (case k1 => k_asm); (case k2 => k_asm); (case k3 => k_asm); (case k4 => k_asm); (case k5 => k_asm); (case XB => assumption); (case TB => assumption); (case D => assumption); (case k6 => k_is); (case k7 => k_is); (case k8 => k_room); (case k9 => first | exact BindsTo.of_eq rfl | exact binds_K (by k_in) rfl (by k_is) rfl rfl rfl | fail "no rule for these arguments"); (case c5 => decide); (case kB => exact locs rfl); (case c2 => exact rfl); (case c3 => exact rfl); (case c4 => exact rfl); k_whole; intro g' L' h' FG' F' N' B' X' T' D' l1'; (try dsimp only); (try k_lt l1'); (try k_fold)))
  k_with "LeaveT" => (k_dflt (refine' leaveT_ ?myk1 ?myk2 ?myk3 ?_; (case myk1 => k_asm); (case myk2 => k_asm); (case myk3 => first | assumption | exact KtsTurn.refl)); intro kh' kT' kF' kN' kB' kX' kP' kD' kS' kO')
  trivial
set_option maxHeartbeats 2000000 in
set_option pp.deepTerms false in
set_option pp.deepTerms.threshold 6 in
theorem con_got0 {w : World} {τ dx δ : Addr} {oδ : Obj} {H : Nat → Int} {T' U' : Nat → Tok} {size dep n : Nat} {dflt root : B} {φ : Addr} {D : List (B × B)} {val : Nat → B}
    (hD : DictB (bytesKind Challenge.rw_iu0035_01.row.prog w) oδ D) (hdep : dep = 8 * size) (hsz1 : 1 ≤ size) (hsz2 : size ≤ 2) (hroot : TN D val dep 0 root) (key : B) (hkey : key.length = size) (hpath : natOf key < 2 ^ dep) (tk tw : Tok) :
    ConT w 370 570 207 [.ref τ, .bytes key.toArray tk, .int 0 tw] [(τ, instObj 147 dx), (dx, dictOf (treeEs H T' U' size dep dflt φ δ root) n), (δ, oδ)]
      (fun v nw => nw = [(τ, instObj 147 dx), (dx, dictOf (treeEs H T' U' size dep dflt φ δ root) n), (δ, oδ)] ∧ (val (natOf key) = [] → v = .none) ∧ (val (natOf key) ≠ [] → ∃ t, v = .bytes (val (natOf key)).toArray t)) := by
  unfold ConT
  k_fill
  intro p loose mean mg mb dp un gd cn cs a ccd outer A₀ base h₀ L m s Rr Bl F X N T XB TB kdD hk hd hu hret
  by_cases hv : val (natOf key) = []
  · k_extra "MyEnterT"
    k_extra "MySteps"
    rename News _ _ _ ((_, _) :: _) => hN
    rename (∀ p ∈ ((_, _) :: _), _ → _) => hO
    refine' hret _ _ _ ([(τ, instObj 147 dx), (dx, dictOf (treeEs H T' U' size dep dflt φ δ root) n), (δ, oδ)]) _ (by assumption) (by assumption) (newsSub hN ?zsg0a) (by assumption) (by assumption) (by assumption) (by assumption) (by assumption) (fun p hp => hO p (?zsg0a p hp)) ?zcg0a
    case zsg0a => k_extra "MySub"
    case zcg0a => exact ⟨rfl, fun _ => rfl, fun q => absurd hv q⟩
  · k_extra "MyEnterT"
    k_extra "MySteps"
    rename News _ _ _ ((_, _) :: _) => hN
    rename (∀ p ∈ ((_, _) :: _), _ → _) => hO
    refine' hret _ _ _ ([(τ, instObj 147 dx), (dx, dictOf (treeEs H T' U' size dep dflt φ δ root) n), (δ, oδ)]) _ (by assumption) (by assumption) (newsSub hN ?zsg0b) (by assumption) (by assumption) (by assumption) (by assumption) (by assumption) (fun p hp => hO p (?zsg0b p hp)) ?zcg0b
    case zsg0b => k_extra "MySub"
    case zcg0b => exact ⟨rfl, fun q => absurd q hv, fun _ => ⟨_, rfl⟩⟩
set_option maxHeartbeats 2000000 in
set_option pp.deepTerms false in
set_option pp.deepTerms.threshold 6 in
theorem con_got1 {w : World} {τ dx δ : Addr} {oδ : Obj} {H : Nat → Int} {T' U' : Nat → Tok} {size dep n : Nat} {dflt root : B} {φ : Addr} {D : List (B × B)} {val : Nat → B}
    (hD : DictB (bytesKind Challenge.rw_iu0035_01.row.prog w) oδ D) (hdep : dep = 8 * size) (hsz1 : 1 ≤ size) (hsz2 : size ≤ 2) (hroot : TN D val dep 0 root) (key : B) (hkey : key.length = size) (hpath : natOf key < 2 ^ dep) (tk tw : Tok) :
    ConT w 370 570 207 [.ref τ, .bytes key.toArray tk, .int 1 tw] [(τ, instObj 147 dx), (dx, dictOf (treeEs H T' U' size dep dflt φ δ root) n), (δ, oδ)]
      (fun v nw => nw = [(τ, instObj 147 dx), (dx, dictOf (treeEs H T' U' size dep dflt φ δ root) n), (δ, oδ)] ∧ (val (natOf key) = [] → v = .none) ∧ (val (natOf key) ≠ [] → ∃ t, v = .bytes (val (natOf key)).toArray t)) := by
  unfold ConT
  k_fill
  intro p loose mean mg mb dp un gd cn cs a ccd outer A₀ base h₀ L m s Rr Bl F X N T XB TB kdD hk hd hu hret
  by_cases hv : val (natOf key) = []
  · k_extra "MyEnterT"
    k_extra "MySteps"
    rename News _ _ _ ((_, _) :: _) => hN
    rename (∀ p ∈ ((_, _) :: _), _ → _) => hO
    refine' hret _ _ _ ([(τ, instObj 147 dx), (dx, dictOf (treeEs H T' U' size dep dflt φ δ root) n), (δ, oδ)]) _ (by assumption) (by assumption) (newsSub hN ?zsg1a) (by assumption) (by assumption) (by assumption) (by assumption) (by assumption) (fun p hp => hO p (?zsg1a p hp)) ?zcg1a
    case zsg1a => k_extra "MySub"
    case zcg1a => exact ⟨rfl, fun _ => rfl, fun q => absurd hv q⟩
  · k_extra "MyEnterT"
    k_extra "MySteps"
    rename News _ _ _ ((_, _) :: _) => hN
    rename (∀ p ∈ ((_, _) :: _), _ → _) => hO
    refine' hret _ _ _ ([(τ, instObj 147 dx), (dx, dictOf (treeEs H T' U' size dep dflt φ δ root) n), (δ, oδ)]) _ (by assumption) (by assumption) (newsSub hN ?zsg1b) (by assumption) (by assumption) (by assumption) (by assumption) (by assumption) (fun p hp => hO p (?zsg1b p hp)) ?zcg1b
    case zsg1b => k_extra "MySub"
    case zcg1b => exact ⟨rfl, fun q => absurd q hv, fun _ => ⟨_, rfl⟩⟩
set_option maxHeartbeats 2000000 in
set_option pp.deepTerms false in
set_option pp.deepTerms.threshold 6 in
theorem con_got2 {w : World} {τ dx δ : Addr} {oδ : Obj} {H : Nat → Int} {T' U' : Nat → Tok} {size dep n : Nat} {dflt root : B} {φ : Addr} {D : List (B × B)} {val : Nat → B}
    (hD : DictB (bytesKind Challenge.rw_iu0035_01.row.prog w) oδ D) (hdep : dep = 8 * size) (hsz1 : 1 ≤ size) (hsz2 : size ≤ 2) (hroot : TN D val dep 0 root) (key : B) (hkey : key.length = size) (hpath : natOf key < 2 ^ dep) (tk tw : Tok) :
    ConT w 370 570 207 [.ref τ, .bytes key.toArray tk, .int 2 tw] [(τ, instObj 147 dx), (dx, dictOf (treeEs H T' U' size dep dflt φ δ root) n), (δ, oδ)]
      (fun v nw => (val (natOf key) = [] → v = .none ∧ nw = [(τ, instObj 147 dx), (dx, dictOf (treeEs H T' U' size dep dflt φ δ root) n), (δ, oδ)]) ∧ (val (natOf key) ≠ [] → (X3 fun (b : Addr) (vs : List Value) (xs : List B) => A8 (v = .ref b) (nw = (b, tupOf vs) :: [(τ, instObj 147 dx), (dx, dictOf (treeEs H T' U' size dep dflt φ δ root) n), (δ, oδ)]) (BL vs xs) (xs.length = dep) ((∀ j y, xs[j]? = some y → TN D val (dep - 1 - j) (sib (natOf key / 2 ^ (dep - 1 - j))) y)) (@LT.lt Nat _ τ b) (@LT.lt Nat _ dx b) (@LT.lt Nat _ δ b)))) := by
  unfold ConT
  k_fill
  intro p loose mean mg mb dp un gd cn cs a ccd outer A₀ base h₀ L m s Rr Bl F X N T XB TB kdD hk hd hu hret
  by_cases hv : val (natOf key) = []
  · k_extra "MyEnterT"
    k_extra "MySteps"
    rename News _ _ _ ((_, _) :: _) => hN
    rename (∀ p ∈ ((_, _) :: _), _ → _) => hO
    refine' hret _ _ _ ([(τ, instObj 147 dx), (dx, dictOf (treeEs H T' U' size dep dflt φ δ root) n), (δ, oδ)]) _ (by assumption) (by assumption) (newsSub hN ?zsg2a) (by assumption) (by assumption) (by assumption) (by assumption) (by assumption) (fun p hp => hO p (?zsg2a p hp)) ?zcg2a
    case zsg2a => k_extra "MySub"
    case zcg2a => exact ⟨fun _ => ⟨rfl, rfl⟩, fun q => absurd hv q⟩
  · k_extra "MyEnterT"
    k_extra "MySteps"
    rename_i b2 r2 vs2 xs2 t2 hb1 hb2 hb3 q1 q2 q3 q4 hbl z1 z2 z3 F2 N2 kF1 kN1 T1 X1 kh kT kF kN kB kX kP kD kS kO
    refine' hret _ _ _ ((b2, tupOf vs2) :: [(τ, instObj 147 dx), (dx, dictOf (treeEs H T' U' size dep dflt φ δ root) n), (δ, oδ)]) _ kT kF (newsSub kN ?zsg2b) kB kX kP kD kS (fun p hp => kO p (?zsg2b p hp)) ?zcg2b
    case zsg2b => k_extra "MySub"
    case zcg2b => exact ⟨fun q => absurd q hv, fun _ => ⟨_, _, _, rfl, rfl, hb1, hb2, hb3, q1, q2, q3⟩⟩
theorem words9 : True := by
  k_with "MyUseT" => ((case myB => k_asm); (case myF => k_asm); (case myX => k_asm); (case myN => k_asm); (case myT => k_asm); (case myXB => assumption); (case myTB => assumption); (case myD => assumption); (case myk => first | exact rfl | assumption); (case myd => k_extra "MyLe"); (case myu => k_extra "MyLe"); (case mys => k_extra "MySub"); (case myct => k_extra "MyCut"))
  trivial
set_option maxHeartbeats 2000000 in
set_option pp.deepTerms false in
set_option pp.deepTerms.threshold 6 in
theorem con_exists {w : World} {τ dx δ : Addr} {oδ : Obj} {H : Nat → Int} {T' U' : Nat → Tok} {size dep n : Nat} {dflt root : B} {φ : Addr} {D : List (B × B)} {val : Nat → B}
    (hD : DictB (bytesKind Challenge.rw_iu0035_01.row.prog w) oδ D) (hdep : dep = 8 * size) (hsz1 : 1 ≤ size) (hsz2 : size ≤ 2) (hroot : TN D val dep 0 root) (key : B) (hkey : key.length = size) (hpath : natOf key < 2 ^ dep) (tk : Tok) :
    ConT w 370 570 109 [.ref τ, .bytes key.toArray tk] [(τ, instObj 147 dx), (dx, dictOf (treeEs H T' U' size dep dflt φ δ root) n), (δ, oδ)]
      (fun v nw => nw = [(τ, instObj 147 dx), (dx, dictOf (treeEs H T' U' size dep dflt φ δ root) n), (δ, oδ)] ∧ v = .bool (decide (val (natOf key) ≠ []))) := by
  unfold ConT
  k_fill
  intro p loose mean mg mb dp un gd cn cs a ccd outer A₀ base h₀ L m s Rr Bl F X N T XB TB kdD hk hd hu hret
  by_cases hv : val (natOf key) = []
  · k_extra "MyEnterT"
    k_extra "MySteps"
    rename News _ _ _ ((_, _) :: _) => hN
    rename (∀ p ∈ ((_, _) :: _), _ → _) => hO
    refine' hret _ _ _ ([(τ, instObj 147 dx), (dx, dictOf (treeEs H T' U' size dep dflt φ δ root) n), (δ, oδ)]) _ (by assumption) (by assumption) (newsSub hN ?zsexa) (by assumption) (by assumption) (by assumption) (by assumption) (by assumption) (fun p hp => hO p (?zsexa p hp)) ?zcexa
    case zsexa => k_extra "MySub"
    case zcexa => exact ⟨rfl, by simp [hv]⟩
  · k_extra "MyEnterT"
    k_extra "MySteps"
    rename News _ _ _ ((_, _) :: _) => hN
    rename (∀ p ∈ ((_, _) :: _), _ → _) => hO
    refine' hret _ _ _ ([(τ, instObj 147 dx), (dx, dictOf (treeEs H T' U' size dep dflt φ δ root) n), (δ, oδ)]) _ (by assumption) (by assumption) (newsSub hN ?zsexb) (by assumption) (by assumption) (by assumption) (by assumption) (by assumption) (fun p hp => hO p (?zsexb p hp)) ?zcexb
    case zsexb => k_extra "MySub"
    case zcexb => exact ⟨rfl, by simp [hv]⟩
set_option maxHeartbeats 2000000 in
set_option pp.deepTerms false in
set_option pp.deepTerms.threshold 6 in
theorem con_contains {w : World} {τ dx δ : Addr} {oδ : Obj} {H : Nat → Int} {T' U' : Nat → Tok} {size dep n : Nat} {dflt root : B} {φ : Addr} {D : List (B × B)} {val : Nat → B}
    (hD : DictB (bytesKind Challenge.rw_iu0035_01.row.prog w) oδ D) (hdep : dep = 8 * size) (hsz1 : 1 ≤ size) (hsz2 : size ≤ 2) (hroot : TN D val dep 0 root) (key : B) (hkey : key.length = size) (hpath : natOf key < 2 ^ dep) (tk : Tok) :
    ConT w 370 570 144 [.ref τ, .bytes key.toArray tk] [(τ, instObj 147 dx), (dx, dictOf (treeEs H T' U' size dep dflt φ δ root) n), (δ, oδ)]
      (fun v nw => nw = [(τ, instObj 147 dx), (dx, dictOf (treeEs H T' U' size dep dflt φ δ root) n), (δ, oδ)] ∧ v = .bool (decide (val (natOf key) ≠ []))) := by
  unfold ConT
  k_fill
  intro p loose mean mg mb dp un gd cn cs a ccd outer A₀ base h₀ L m s Rr Bl F X N T XB TB kdD hk hd hu hret
  by_cases hv : val (natOf key) = []
  · k_extra "MyEnterT"
    k_extra "MySteps"
    rename News _ _ _ ((_, _) :: _) => hN
    rename (∀ p ∈ ((_, _) :: _), _ → _) => hO
    refine' hret _ _ _ ([(τ, instObj 147 dx), (dx, dictOf (treeEs H T' U' size dep dflt φ δ root) n), (δ, oδ)]) _ (by assumption) (by assumption) (newsSub hN ?zscxa) (by assumption) (by assumption) (by assumption) (by assumption) (by assumption) (fun p hp => hO p (?zscxa p hp)) ?zccxa
    case zscxa => k_extra "MySub"
    case zccxa => exact ⟨rfl, by simp [hv]⟩
  · k_extra "MyEnterT"
    k_extra "MySteps"
    rename News _ _ _ ((_, _) :: _) => hN
    rename (∀ p ∈ ((_, _) :: _), _ → _) => hO
    refine' hret _ _ _ ([(τ, instObj 147 dx), (dx, dictOf (treeEs H T' U' size dep dflt φ δ root) n), (δ, oδ)]) _ (by assumption) (by assumption) (newsSub hN ?zscxb) (by assumption) (by assumption) (by assumption) (by assumption) (by assumption) (fun p hp => hO p (?zscxb p hp)) ?zccxb
    case zscxb => k_extra "MySub"
    case zccxb => exact ⟨rfl, by simp [hv]⟩
theorem words10 : True := by
  k_with "call ref" => (k_dflt (refine' Con.use (con_set ?my1 ?my2 ?my3 ?my4 ?my5 ?my6 ?my7 ?my8 ?my9 _ ?my10 ?my11 _ _ ?my12 _ ?my13 ?my14 ?my15 ?my16 ?my17 ?my18) ?myB ?myF ?myX ?myN ?myT ?myk ?myd ?myu ?mys ?myct ?_; (case my1 => assumption); (case my9 => assumption); (case my2 => assumption); (case my3 => assumption); (case myB => k_asm); (case myF => k_asm); (case myX => k_asm); (case myN => k_asm); (case myT => k_asm); (case mys => k_extra "MySub"); (case my4 => k_extra "MyOm"); (case my5 => k_extra "MyOm"); (case my6 => assumption); (case my7 => assumption); (case my8 => assumption); (case my10 => assumption); (case my11 => assumption); (case my12 => k_extra "MyOm"); (case my13 => k_extra "MyOm"); (case my14 => k_extra "MyOm"); (case my15 => k_extra "MyOm"); (case my16 => k_ne); (case my17 => k_ne); (case my18 => k_ne); (case myk => first | exact rfl | assumption); (case myd => k_extra "MyLe"); (case myu => k_extra "MyLe"); (case myct => k_extra "MyCut")); intro v' h' tk' nw' F' N' po' ap'; obtain ⟨r', vs', xs', R', D', oδ', HG', U'', root', e1', e2', hb1', hb2', hb3', HH', hp', hl', hD', hok', hsub', hDl', hroot', q1', q2', q3'⟩ := po'; subst e1'; subst e2'; simp only [List.append_nil, List.cons_append, List.nil_append] at N'; clear ap'; (try dsimp only); (try k_sweep))
  k_with "delItem ref bytes" => (k_dflt (refine' del_inst ?k1 ?k2 ?k3 ?k4 ?k5 ?k6 ?_; (case k1 => k_asm); (case k2 => k_asm); (case k3 => k_inst); (case k4 => k_is); (case k5 => k_is); (case k6 => k_is); k_whole))
  trivial
set_option maxHeartbeats 2000000 in
set_option pp.deepTerms false in
set_option pp.deepTerms.threshold 6 in
theorem con_done0 {w : World} {τ dx δ : Addr} {oδ : Obj} {H : Nat → Int} {T' U' : Nat → Tok} {size dep : Nat} {dflt root : B} {φ : Addr} {c₀ : Nat} {R : List B} {HG : List (Addr × Obj)} {D : List (B × B)} {val : Nat → B}
    (HH : HashG w φ c₀ R HG) (hD : DictB (bytesKind Challenge.rw_iu0035_01.row.prog w) oδ D) (hok : DbOk R D) (hRl : R.length + 40 ≤ 16777216) (hDl : D.length + 40 ≤ 16777216) (hdep : dep = 8 * size) (hsz1 : 1 ≤ size) (hsz2 : size ≤ 2) (hroot : TN D val dep 0 root)
    (key : B) (hkey : key.length = size) (hpath : natOf key < 2 ^ dep) (tk tw : Tok) (value : B) (hv : value.length ≤ 1000) (hv2 : dflt.length ≤ 1000) (tv td : Tok)
    (hc1 : @LE.le Nat _ c₀ τ) (hc2 : @LE.le Nat _ c₀ dx) (hc3 : @LE.le Nat _ c₀ δ) (hne1 : δ ≠ τ) (hne2 : δ ≠ dx) (hne3 : dx ≠ τ) :
    Con w 350 550 200 [.ref τ, .int 0 tw, .bytes key.toArray tk, .bytes value.toArray tv, .bytes dflt.toArray td] ((τ, instObj 147 dx) :: (dx, dictOf (treeEs H T' U' size dep dflt φ δ root) 6) :: (δ, oδ) :: HG)
      (fun v nw => (X11 fun (r : Addr) (tx : Tok) (b : Addr) (vs : List Value) (xs : List B) (R' : List B) (D' : List (B × B)) (oδ' : Obj) (HG' : List (Addr × Obj)) (U'' : Nat → Tok) (root' : B) => A20 (v = .ref r) (nw = (r, tupOf [.bytes value.toArray tx, .ref b]) :: (b, tupOf vs) :: (τ, instObj 147 dx) :: (dx, dictOf (treeEs H T' U'' size dep dflt φ δ root') 6) :: (δ, oδ') :: HG') (BL vs xs) (xs.length = dep) ((∀ j y, xs[j]? = some y → TN D' (setV val (natOf key) value) (dep - 1 - j) (natOf key / 2 ^ (dep - 1 - j)) y)) (@LT.lt Nat _ τ b) (@LT.lt Nat _ dx b) (@LT.lt Nat _ δ b) (@LT.lt Nat _ b r) (HashG w φ c₀ R' HG') (R <+: R') (R'.length ≤ R.length + 17) (DictB (bytesKind Challenge.rw_iu0035_01.row.prog w) oδ' D') (DbOk R' D') (Sub D D') (D'.length ≤ D.length + 17) (TN D' (setV val (natOf key) value) dep 0 root') (@LT.lt Nat _ τ r) (@LT.lt Nat _ dx r) (@LT.lt Nat _ δ r))) := by
  unfold Con
  k_fill
  intro p loose mean mg mb dp un gd cn cs a ccd cl outer A₀ base h₀ L m s Rr Bl F X N T hk hd hu hret
  k_extra "MyEnter"
  k_extra "MySteps"
  rename HashG _ _ _ _ _ => HH2
  rename List (Addr × Obj) => G2
  rename List Value => vs2
  rename Nat → Tok => U2
  rename DictB _ _ _ => hD2
  rename DbOk _ _ => hok2
  rename Sub _ _ => hsub2
  rename R <+: _ => hp2
  rename BL _ _ => hbl
  rename List.length _ = dep => hxl
  rename (∀ (j : Nat) (y : B), _ → _) => hxs
  rename TN _ (setV _ _ _) dep 0 _ => hroot2
  rename List.length _ ≤ List.length R + 17 => hl2
  rename List.length _ ≤ List.length D + 17 => hDl2
  rename News _ _ _ ((_, _) :: _) => hN
  rename (∀ p ∈ ((_, _) :: _), _ → _) => hO
  refine' hret _ _ _ ((_, tupOf [.bytes value.toArray _, .ref ?bbd0]) :: (?bbd0, tupOf vs2) :: (τ, instObj 147 dx) :: (dx, dictOf (treeEs H T' U2 size dep dflt φ δ _) 6) :: (δ, _) :: G2) ?zad0 (newsSub hN ?zsd0) (by assumption) (fun p hp => hO p (?zsd0 p hp)) ?zcd0
  case zad0 => assumption
  case zsd0 => k_extra "MySub"
  case zcd0 => exact ⟨_, _, _, _, _, _, _, _, _, U2, _, rfl, rfl, hbl, hxl, hxs, by k_extra "MyOm", by k_extra "MyOm", by k_extra "MyOm", by k_extra "MyOm", HH2, hp2, hl2, hD2, hok2, hsub2, hDl2, hroot2, by k_extra "MyOm", by k_extra "MyOm", by k_extra "MyOm"⟩
set_option maxHeartbeats 2000000 in
set_option pp.deepTerms false in
set_option pp.deepTerms.threshold 6 in
theorem con_done1 {w : World} {τ dx δ : Addr} {oδ : Obj} {H : Nat → Int} {T' U' : Nat → Tok} {size dep : Nat} {dflt root : B} {φ : Addr} {c₀ : Nat} {R : List B} {HG : List (Addr × Obj)} {D : List (B × B)} {val : Nat → B}
    (HH : HashG w φ c₀ R HG) (hD : DictB (bytesKind Challenge.rw_iu0035_01.row.prog w) oδ D) (hok : DbOk R D) (hRl : R.length + 40 ≤ 16777216) (hDl : D.length + 40 ≤ 16777216) (hdep : dep = 8 * size) (hsz1 : 1 ≤ size) (hsz2 : size ≤ 2) (hroot : TN D val dep 0 root)
    (key : B) (hkey : key.length = size) (hpath : natOf key < 2 ^ dep) (tk tw : Tok) (value : B) (hv : value.length ≤ 1000) (hv2 : dflt.length ≤ 1000) (tv td : Tok)
    (hc1 : @LE.le Nat _ c₀ τ) (hc2 : @LE.le Nat _ c₀ dx) (hc3 : @LE.le Nat _ c₀ δ) (hne1 : δ ≠ τ) (hne2 : δ ≠ dx) (hne3 : dx ≠ τ) :
    Con w 350 550 200 [.ref τ, .int 1 tw, .bytes key.toArray tk, .bytes value.toArray tv, .bytes dflt.toArray td] ((τ, instObj 147 dx) :: (dx, dictOf (treeEs H T' U' size dep dflt φ δ root) 6) :: (δ, oδ) :: HG)
      (fun v nw => (X8 fun (r : Addr) (tx : Tok) (R' : List B) (D' : List (B × B)) (oδ' : Obj) (HG' : List (Addr × Obj)) (U'' : Nat → Tok) (root' : B) => A13 (v = .ref r) (nw = (r, tupOf [.bytes value.toArray tx, .none]) :: (τ, instObj 147 dx) :: (dx, dictOf (treeEs H T' U'' size dep dflt φ δ root') 6) :: (δ, oδ') :: HG') (HashG w φ c₀ R' HG') (R <+: R') (R'.length ≤ R.length + 17) (DictB (bytesKind Challenge.rw_iu0035_01.row.prog w) oδ' D') (DbOk R' D') (Sub D D') (D'.length ≤ D.length + 17) (TN D' (setV val (natOf key) value) dep 0 root') (@LT.lt Nat _ τ r) (@LT.lt Nat _ dx r) (@LT.lt Nat _ δ r))) := by
  unfold Con
  k_fill
  intro p loose mean mg mb dp un gd cn cs a ccd cl outer A₀ base h₀ L m s Rr Bl F X N T hk hd hu hret
  k_extra "MyEnter"
  k_extra "MySteps"
  rename HashG _ _ _ _ _ => HH2
  rename List (Addr × Obj) => G2
  rename List Value => vs2
  rename Nat → Tok => U2
  rename DictB _ _ _ => hD2
  rename DbOk _ _ => hok2
  rename Sub _ _ => hsub2
  rename R <+: _ => hp2
  rename BL _ _ => hbl
  rename List.length _ = dep => hxl
  rename (∀ (j : Nat) (y : B), _ → _) => hxs
  rename TN _ (setV _ _ _) dep 0 _ => hroot2
  rename List.length _ ≤ List.length R + 17 => hl2
  rename List.length _ ≤ List.length D + 17 => hDl2
  rename News _ _ _ ((_, _) :: _) => hN
  rename (∀ p ∈ ((_, _) :: _), _ → _) => hO
  refine' hret _ _ _ ((_, tupOf [.bytes value.toArray _, .none]) :: (τ, instObj 147 dx) :: (dx, dictOf (treeEs H T' U2 size dep dflt φ δ _) 6) :: (δ, _) :: G2) ?zad1 (newsSub hN ?zsd1) (by assumption) (fun p hp => hO p (?zsd1 p hp)) ?zcd1
  case zad1 => assumption
  case zsd1 => k_extra "MySub"
  case zcd1 => exact ⟨_, _, _, _, _, _, U2, _, rfl, rfl, HH2, hp2, hl2, hD2, hok2, hsub2, hDl2, hroot2, by k_extra "MyOm", by k_extra "MyOm", by k_extra "MyOm"⟩
set_option maxHeartbeats 2000000 in
set_option pp.deepTerms false in
set_option pp.deepTerms.threshold 6 in
theorem con_done2 {w : World} {τ dx δ : Addr} {oδ : Obj} {H : Nat → Int} {T' U' : Nat → Tok} {size dep : Nat} {dflt root : B} {φ : Addr} {c₀ : Nat} {R : List B} {HG : List (Addr × Obj)} {D : List (B × B)} {val : Nat → B}
    (HH : HashG w φ c₀ R HG) (hD : DictB (bytesKind Challenge.rw_iu0035_01.row.prog w) oδ D) (hok : DbOk R D) (hRl : R.length + 40 ≤ 16777216) (hDl : D.length + 40 ≤ 16777216) (hdep : dep = 8 * size) (hsz1 : 1 ≤ size) (hsz2 : size ≤ 2) (hroot : TN D val dep 0 root)
    (key : B) (hkey : key.length = size) (hpath : natOf key < 2 ^ dep) (tk tw : Tok) (value : B) (hv : value.length ≤ 1000) (hv2 : dflt.length ≤ 1000) (tv td : Tok)
    (hc1 : @LE.le Nat _ c₀ τ) (hc2 : @LE.le Nat _ c₀ dx) (hc3 : @LE.le Nat _ c₀ δ) (hne1 : δ ≠ τ) (hne2 : δ ≠ dx) (hne3 : dx ≠ τ) :
    Con w 350 550 200 [.ref τ, .int 2 tw, .bytes key.toArray tk, .bytes value.toArray tv, .bytes dflt.toArray td] ((τ, instObj 147 dx) :: (dx, dictOf (treeEs H T' U' size dep dflt φ δ root) 6) :: (δ, oδ) :: HG)
      (fun v nw => (X11 fun (r : Addr) (tx : Tok) (b : Addr) (vs : List Value) (xs : List B) (R' : List B) (D' : List (B × B)) (oδ' : Obj) (HG' : List (Addr × Obj)) (U'' : Nat → Tok) (root' : B) => A20 (v = .ref r) (nw = (r, tupOf [.bytes dflt.toArray tx, .ref b]) :: (b, tupOf vs) :: (τ, instObj 147 dx) :: (dx, dictOf (treeEs H T' U'' size dep dflt φ δ root') 6) :: (δ, oδ') :: HG') (BL vs xs) (xs.length = dep) ((∀ j y, xs[j]? = some y → TN D' (setV val (natOf key) dflt) (dep - 1 - j) (natOf key / 2 ^ (dep - 1 - j)) y)) (@LT.lt Nat _ τ b) (@LT.lt Nat _ dx b) (@LT.lt Nat _ δ b) (@LT.lt Nat _ b r) (HashG w φ c₀ R' HG') (R <+: R') (R'.length ≤ R.length + 17) (DictB (bytesKind Challenge.rw_iu0035_01.row.prog w) oδ' D') (DbOk R' D') (Sub D D') (D'.length ≤ D.length + 17) (TN D' (setV val (natOf key) dflt) dep 0 root') (@LT.lt Nat _ τ r) (@LT.lt Nat _ dx r) (@LT.lt Nat _ δ r))) := by
  unfold Con
  k_fill
  intro p loose mean mg mb dp un gd cn cs a ccd cl outer A₀ base h₀ L m s Rr Bl F X N T hk hd hu hret
  k_extra "MyEnter"
  k_extra "MySteps"
  rename HashG _ _ _ _ _ => HH2
  rename List (Addr × Obj) => G2
  rename List Value => vs2
  rename Nat → Tok => U2
  rename DictB _ _ _ => hD2
  rename DbOk _ _ => hok2
  rename Sub _ _ => hsub2
  rename R <+: _ => hp2
  rename BL _ _ => hbl
  rename List.length _ = dep => hxl
  rename (∀ (j : Nat) (y : B), _ → _) => hxs
  rename TN _ (setV _ _ _) dep 0 _ => hroot2
  rename List.length _ ≤ List.length R + 17 => hl2
  rename List.length _ ≤ List.length D + 17 => hDl2
  rename News _ _ _ ((_, _) :: _) => hN
  rename (∀ p ∈ ((_, _) :: _), _ → _) => hO
  refine' hret _ _ _ ((_, tupOf [.bytes dflt.toArray _, .ref ?bbd2]) :: (?bbd2, tupOf vs2) :: (τ, instObj 147 dx) :: (dx, dictOf (treeEs H T' U2 size dep dflt φ δ _) 6) :: (δ, _) :: G2) ?zad2 (newsSub hN ?zsd2) (by assumption) (fun p hp => hO p (?zsd2 p hp)) ?zcd2
  case zad2 => assumption
  case zsd2 => k_extra "MySub"
  case zcd2 => exact ⟨_, _, _, _, _, _, _, _, _, U2, _, rfl, rfl, hbl, hxl, hxs, by k_extra "MyOm", by k_extra "MyOm", by k_extra "MyOm", by k_extra "MyOm", HH2, hp2, hl2, hD2, hok2, hsub2, hDl2, hroot2, by k_extra "MyOm", by k_extra "MyOm", by k_extra "MyOm"⟩
set_option maxHeartbeats 2000000 in
set_option pp.deepTerms false in
set_option pp.deepTerms.threshold 6 in
theorem con_done3 {w : World} {τ dx δ : Addr} {oδ : Obj} {H : Nat → Int} {T' U' : Nat → Tok} {size dep : Nat} {dflt root : B} {φ : Addr} {c₀ : Nat} {R : List B} {HG : List (Addr × Obj)} {D : List (B × B)} {val : Nat → B}
    (HH : HashG w φ c₀ R HG) (hD : DictB (bytesKind Challenge.rw_iu0035_01.row.prog w) oδ D) (hok : DbOk R D) (hRl : R.length + 40 ≤ 16777216) (hDl : D.length + 40 ≤ 16777216) (hdep : dep = 8 * size) (hsz1 : 1 ≤ size) (hsz2 : size ≤ 2) (hroot : TN D val dep 0 root)
    (key : B) (hkey : key.length = size) (hpath : natOf key < 2 ^ dep) (tk tw : Tok) (value : B) (hv : value.length ≤ 1000) (hv2 : dflt.length ≤ 1000) (tv td : Tok)
    (hc1 : @LE.le Nat _ c₀ τ) (hc2 : @LE.le Nat _ c₀ dx) (hc3 : @LE.le Nat _ c₀ δ) (hne1 : δ ≠ τ) (hne2 : δ ≠ dx) (hne3 : dx ≠ τ) :
    Con w 350 550 200 [.ref τ, .int 3 tw, .bytes key.toArray tk, .bytes value.toArray tv, .bytes dflt.toArray td] ((τ, instObj 147 dx) :: (dx, dictOf (treeEs H T' U' size dep dflt φ δ root) 6) :: (δ, oδ) :: HG)
      (fun v nw => (X8 fun (r : Addr) (tx : Tok) (R' : List B) (D' : List (B × B)) (oδ' : Obj) (HG' : List (Addr × Obj)) (U'' : Nat → Tok) (root' : B) => A13 (v = .ref r) (nw = (r, tupOf [.bytes dflt.toArray tx, .none]) :: (τ, instObj 147 dx) :: (dx, dictOf (treeEs H T' U'' size dep dflt φ δ root') 6) :: (δ, oδ') :: HG') (HashG w φ c₀ R' HG') (R <+: R') (R'.length ≤ R.length + 17) (DictB (bytesKind Challenge.rw_iu0035_01.row.prog w) oδ' D') (DbOk R' D') (Sub D D') (D'.length ≤ D.length + 17) (TN D' (setV val (natOf key) dflt) dep 0 root') (@LT.lt Nat _ τ r) (@LT.lt Nat _ dx r) (@LT.lt Nat _ δ r))) := by
  unfold Con
  k_fill
  intro p loose mean mg mb dp un gd cn cs a ccd cl outer A₀ base h₀ L m s Rr Bl F X N T hk hd hu hret
  k_extra "MyEnter"
  k_extra "MySteps"
  rename HashG _ _ _ _ _ => HH2
  rename List (Addr × Obj) => G2
  rename List Value => vs2
  rename Nat → Tok => U2
  rename DictB _ _ _ => hD2
  rename DbOk _ _ => hok2
  rename Sub _ _ => hsub2
  rename R <+: _ => hp2
  rename BL _ _ => hbl
  rename List.length _ = dep => hxl
  rename (∀ (j : Nat) (y : B), _ → _) => hxs
  rename TN _ (setV _ _ _) dep 0 _ => hroot2
  rename List.length _ ≤ List.length R + 17 => hl2
  rename List.length _ ≤ List.length D + 17 => hDl2
  rename News _ _ _ ((_, _) :: _) => hN
  rename (∀ p ∈ ((_, _) :: _), _ → _) => hO
  refine' hret _ _ _ ((_, tupOf [.bytes dflt.toArray _, .none]) :: (τ, instObj 147 dx) :: (dx, dictOf (treeEs H T' U2 size dep dflt φ δ _) 6) :: (δ, _) :: G2) ?zad3 (newsSub hN ?zsd3) (by assumption) (fun p hp => hO p (?zsd3 p hp)) ?zcd3
  case zad3 => assumption
  case zsd3 => k_extra "MySub"
  case zcd3 => exact ⟨_, _, _, _, _, _, U2, _, rfl, rfl, HH2, hp2, hl2, hD2, hok2, hsub2, hDl2, hroot2, by k_extra "MyOm", by k_extra "MyOm", by k_extra "MyOm"⟩
theorem words11 : True := by
  k_with "call builtin:len" => ((with_reducible show wpAny _ _ (call (Value.builtin "len") [Value.ref _]) _ _ _); k_dflt (refine' len_t ?myN ?mym ?myz ?_; (case myN => k_asm); (case mym => k_mem); (case myz => k_extra "MyOm")); intro _ _)
  trivial
set_option maxHeartbeats 2000000 in
set_option pp.deepTerms false in
set_option pp.deepTerms.threshold 6 in
theorem con_root {w : World} {b : Addr} {bs : List Value} {ys : List B} {size dep : Nat} {φ : Addr} {c₀ : Nat} {R : List B} {HG : List (Addr × Obj)} {val : Nat → B}
    (HH : HashG w φ c₀ R HG) (hRl : R.length + 40 ≤ 16777216) (hdep : dep = 8 * size) (hsz1 : 1 ≤ size) (hsz2 : size ≤ 2)
    (key : B) (hkey : key.length = size) (hpath : natOf key < 2 ^ dep) (tk : Tok) (value : B) (hv : value.length ≤ 1000) (tv : Tok) (hval : value = val (natOf key)) (hbl : BL bs ys) (hyl : ys.length = dep)
    (hys : ∀ j y, ys[j]? = some y → NR R val (dep - 1 - j) (sib (natOf key / 2 ^ (dep - 1 - j))) y) (hc1 : @LE.le Nat _ c₀ b) :
    Con w 370 570 48 [.bytes key.toArray tk, .bytes value.toArray tv, .ref b, .ref φ] ((b, tupOf bs) :: HG)
      (fun v nw => (X4 fun (R' : List B) (HG' : List (Addr × Obj)) (x : B) (t : Tok) => A6 (v = .bytes x.toArray t) (nw = (b, tupOf bs) :: HG') (HashG w φ c₀ R' HG') (R <+: R') (R'.length ≤ R.length + 17) (NR R' val dep 0 x))) := by
  unfold Con
  k_fill
  intro p loose mean mg mb dp un gd cn cs a ccd cl outer A₀ base h₀ L m s Rr Bl F X N T hk hd hu hret
  have hbl0 := hbl.length
  k_extra "MyEnter"
  k_extra "MySteps"
  rename_i G1 R1 x0 u0 HH1 hp1 hn1 hr1 hx0 z1 I' z2 z3 F1 N1 l1
  refine Hold.un ?_
  refine' loop_revT (fun i m nw => (X5 fun (Ri : List B) (Gi : List (Addr × Obj)) (x : B) (t2 t : Tok) => A9 (nw = (b, tupOf bs) :: Gi) (HashG w φ c₀ Ri Gi) (R <+: Ri) (Ri.length ≤ R.length + i + 1) (NR Ri val i (natOf key / 2 ^ i) x) (m (Str.ofString "path") = some (.int (natOf key : Int) t2)) (m (Str.ofString "node_hash") = some (.bytes x.toArray t)) (m (Str.ofString "hash_of") = some (.ref φ)) (∃ u, m (Str.ofString "target_bit") = some (.int ((2 ^ i : Nat) : Int) u))))
      rfl (by k_extra "MyOm") F1 (newsSub N1 (small := (I', Rv.rtObj b ((bs.length : Int) - 1)) :: (b, tupOf bs) :: G1) ?zsubr) ?hl ?hne ?ini ?turn ?done
  case zsubr => k_extra "MySub"
  case hl => rintro i m nw ⟨Ri, Gi, x, t2, t, rfl, -⟩; exact .head _
  case hne => k_extra "MyAll"
  case ini => exact ⟨R1, G1, x0, _, _, rfl, HH1, hp1, by k_extra "MyOm", (by show Reg R1 (val (natOf key / 2 ^ 0)) x0; rw [Nat.pow_zero, Nat.div_one, ← hval]; exact hr1), rfl, rfl, rfl, ⟨_, rfl⟩⟩
  case turn =>
    rintro i v m₁ nw h tk0 o hi ⟨Ri, Gi, x, t2, t, rfl, HHi, hpre, hRi, hx, e1, e2, e3, u, e4⟩ hI F2 N2
    obtain ⟨hlt, -⟩ := List.getElem?_eq_some_iff.mp hi
    obtain ⟨y, ty, hy, rfl⟩ := hbl.reverse.at hi
    rw [List.length_reverse] at hlt
    rw [List.getElem?_reverse (by k_extra "MyOm")] at hy
    have hsib0 := hys _ _ hy
    rw [hyl] at hsib0
    rw [show dep - 1 - (dep - 1 - i) = i by k_extra "MyOm"] at hsib0
    have hsib := hsib0.mono hpre
    have hs32 := hsib.length
    have hx32' := hx.length
    have F3 := frKnow (frKnow (frKnow (frKnow F2 (n := Str.ofString "path") (by k_extra "MyKnow")) (n := Str.ofString "node_hash") (by k_extra "MyKnow")) (n := Str.ofString "hash_of") (by k_extra "MyKnow")) (n := Str.ofString "target_bit") (by k_extra "MyKnow")
    clear F2
    have hIs := hI
    simp only [List.forall_mem_cons] at hIs
    obtain ⟨g1, -⟩ := hIs
    have hbit : natOf key / 2 ^ i % 2 = 0 ∨ natOf key / 2 ^ i % 2 = 1 := Nat.mod_two_eq_zero_or_one _
    have hpos : 0 < 2 ^ i := Nat.pow_pos (by decide)
    rcases hbit with hb | hb
    · k_extra "MySteps"
      rename HashG _ _ _ _ _ => HH2
      rename List (Addr × Obj) => G2
      rename Reg _ _ _ => hreg
      rename Ri <+: _ => hp2
      rename List.length _ = 32 => hx32
      rename List.length _ ≤ List.length Ri + 1 => hn2
      refine TurnE.sub ((b, tupOf bs) :: G2) (by assumption) (by assumption) (by k_extra "MySub") (by k_extra "MyAll")
        ⟨_, G2, _, _, _, rfl, HH2, hpre.trans hp2, by k_extra "MyOm", ⟨_, _, by rw [halfDiv, show 2 * (natOf key / 2 ^ i / 2) = natOf key / 2 ^ i by k_extra "MyOm"]; exact hx.mono hp2, by rw [halfDiv, show 2 * (natOf key / 2 ^ i / 2) + 1 = sib (natOf key / 2 ^ i) by unfold sib; rw [if_pos hb]; k_extra "MyOm"]; exact hsib.mono hp2, hreg⟩, rfl, rfl, rfl, ⟨_, rfl⟩⟩
    · k_extra "MySteps"
      rename HashG _ _ _ _ _ => HH2
      rename List (Addr × Obj) => G2
      rename Reg _ _ _ => hreg
      rename Ri <+: _ => hp2
      rename List.length _ = 32 => hx32
      rename List.length _ ≤ List.length Ri + 1 => hn2
      refine TurnE.sub ((b, tupOf bs) :: G2) (by assumption) (by assumption) (by k_extra "MySub") (by k_extra "MyAll")
        ⟨_, G2, _, _, _, rfl, HH2, hpre.trans hp2, by k_extra "MyOm", ⟨_, _, by rw [halfDiv, show 2 * (natOf key / 2 ^ i / 2) = sib (natOf key / 2 ^ i) by unfold sib; rw [if_neg (by k_extra "MyOm")]; k_extra "MyOm"]; exact hsib.mono hp2, by rw [halfDiv, show 2 * (natOf key / 2 ^ i / 2) + 1 = natOf key / 2 ^ i by k_extra "MyOm"]; exact hx.mono hp2, hreg⟩, rfl, rfl, rfl, ⟨_, rfl⟩⟩
  case done =>
    rintro m₁ nw h tk0 ⟨Ri, Gi, x, t2, t, rfl, HHi, hpre, hRi, hx, e1, e2, e3, u, e4⟩ F2 N2
    have hn0 : bs.length = dep := by k_extra "MyOm"
    rw [hn0, Nat.div_eq_of_lt hpath] at hx
    have F3 := frKnow F2 (n := Str.ofString "node_hash") (by k_extra "MyKnow")
    clear F2
    k_extra "MySteps"
    rename News _ _ _ ((b, _) :: _) => hN
    rename (∀ p ∈ ((b, _) :: _), _ → _) => hO
    refine' hret _ _ _ ((b, tupOf bs) :: Gi) ?zarr (newsSub hN ?zsrr) (by assumption) (fun p hp => hO p (?zsrr p hp)) ?zcrr
    case zarr => assumption
    case zsrr => k_extra "MySub"
    case zcrr => exact ⟨Ri, Gi, x, _, rfl, rfl, HHi, hpre, by k_extra "MyOm", hx⟩
theorem words12 : True := by
  k_with "binaryOp Mult bytes int" => first | (refine mul2_b (by assumption) ?_; intro _ _) | (refine mul1_b (by assumption) (by assumption) ?_; intro _ _ _ hy40')
  trivial
theorem pick40 (n : Nat) : 0 ≤ ([(0 : Int), 1, 40].getD ((n : Int).fmod 4).toNat 0) ∧ ([(0 : Int), 1, 40].getD ((n : Int).fmod 4).toNat 0) ≤ 40 := by
  have h : ((n : Int).fmod 4).toNat < 4 := by rw [Int.fmod_eq_emod_of_nonneg _ (by decide)]; k_extra "MyOm"
  generalize ((n : Int).fmod 4).toNat = k at h
  have : k = 0 ∨ k = 1 ∨ k = 2 ∨ k = 3 := lt4 h
  rcases this with rfl | rfl | rfl | rfl <;> decide
set_option maxHeartbeats 2000000 in
set_option pp.deepTerms false in
set_option pp.deepTerms.threshold 6 in
theorem con_value {w : World} {φ : Addr} {c₀ : Nat} {R : List B} {HG : List (Addr × Obj)} (HH : HashG w φ c₀ R HG) (hRl : R.length + 40 ≤ 16777216) (n : Nat) (tn : Tok) (dflt : B) (td : Tok) :
    Con w 370 570 193 [.int (n : Int) tn, .bytes dflt.toArray td, .ref φ] HG
      (fun v nw => (X3 fun (R' : List B) (x : B) (t : Tok) => A5 (v = .bytes x.toArray t) (HashG w φ c₀ R' nw) (R <+: R') (R'.length ≤ R.length + 1) (x.length ≤ 1000))) := by
  unfold Con
  k_fill
  intro p loose mean mg mb dp un gd cn cs a ccd cl outer A₀ base h₀ L m s Rr Bl F X N T hk hd hu hret
  obtain ⟨pk1, pk2⟩ := pick40 n
  k_extra "MyEnter"
  k_extra "MySteps"
  · rename News _ _ _ _ => hN
    rename (∀ p ∈ _, _ → _) => hO
    refine' hret _ _ _ HG ?zav1 (newsSub hN ?zsv1) (by assumption) (fun p hp => hO p (?zsv1 p hp)) ?zcv1
    case zav1 => assumption
    case zsv1 => exact fun p hp => hp
    case zcv1 => exact ⟨R, [], _, rfl, HH, List.prefix_refl _, by k_extra "MyOm", by simp⟩
  · rename HashG _ _ _ _ _ => HH2
    rename List (Addr × Obj) => G2
    rename R <+: _ => hp2
    rename List.length _ = 32 => hx32
    rename List.length _ ≤ List.length R + 1 => hn2
    rename News _ _ _ _ => hN
    rename (∀ p ∈ _, _ → _) => hO
    refine' hret _ _ _ G2 ?zav2 (newsSub hN ?zsv2) (by assumption) (fun p hp => hO p (?zsv2 p hp)) ?zcv2
    case zav2 => assumption
    case zsv2 => exact fun p hp => hp
    case zcv2 => exact ⟨_, _, _, rfl, HH2, hp2, hn2, by rw [List.length_append]; k_extra "MyOm"⟩
  · rename List.length _ ≤ 40 => hy40
    rename News _ _ _ (_ :: _) => hN
    rename (∀ p ∈ _ :: _, _ → _) => hO
    refine' hret _ _ _ HG ?zav3 (newsSub hN ?zsv3) (by assumption) (fun p hp => hO p (?zsv3 p hp)) ?zcv3
    case zav3 => assumption
    case zsv3 => exact fun p hp => List.mem_cons_of_mem _ (List.mem_cons_of_mem _ hp)
    case zcv3 => exact ⟨R, _, _, rfl, HH, List.prefix_refl _, by k_extra "MyOm", by k_extra "MyOm"⟩
theorem words13 : True := by
  k_with "subscriptTail" => ((with_reducible show wpAny _ _ (subscriptTail _ _ (Value.ref _) (Value.int (Nat.cast _) _)) _ _ _); k_dflt (refine' item_V ?myN ?mym ?myk ?myx ?_; (case myN => k_asm); (case mym => k_mem); (case myx => assumption); (case myk => k_extra "MyOm")))
  k_with "getMethod ref" => ((with_reducible show wpAny _ _ (getMethod (Value.ref _) (Str.ofString "get") _) _ _ _); k_dflt (refine' dictB_method (knd := intKind _ _) ?myN ?mym ?myd ?_; (case myN => k_asm); (case mym => k_mem); (case myd => assumption)))
  k_with "call builtin:dict.get" => (k_dflt (refine' dictB_get2 ?myN ?mym ?myd ?mylo (ikey _ _ _ _) ?_; (case myN => k_asm); (case mym => k_mem); (case myd => assumption); (case mylo => assumption)); intro _)
  trivial
set_option maxHeartbeats 2000000 in
set_option pp.deepTerms false in
set_option pp.deepTerms.threshold 6 in
theorem con_node {w : World} {R : List B} {val : Nat → B} {dep : Nat} {kn : Addr} {KG : List (Addr × Obj)} (hK : Known w R val dep kn KG) (k i : Nat) (hkd : k ≤ dep) (hd16 : dep ≤ 16) (tk ti : Tok) :
    Con w 390 590 172 [.ref kn, .int (k : Int) tk, .int (i : Int) ti] KG (fun v nw => nw = KG ∧ (X2 fun x t => v = .bytes x.toArray t ∧ NR R val k i x)) := by
  obtain ⟨e, l, evs, es, ds, DG, Ls, ce, cl, rfl, hbl, hel, hdl, hds, hnr⟩ := hK
  unfold Con
  k_fill
  intro p loose mean mg mb dp un gd cn cs a ccd cl2 outer A₀ base h₀ L m s Rr Bl F X N T hk hd hu hret
  obtain ⟨d, hdk⟩ : ∃ d, ds[k]? = some d := ⟨_, List.getElem?_eq_getElem (by k_extra "MyOm")⟩
  obtain ⟨lo, o, hdo, hDo⟩ := hds k d hdk
  obtain ⟨x, hxk⟩ : ∃ x, es[k]? = some x := ⟨_, List.getElem?_eq_getElem (by k_extra "MyOm")⟩
  obtain ⟨tx, hvk⟩ := hbl.get hxk
  have hdv : (ds.map Value.ref)[k]? = some (.ref d) := by rw [List.getElem?_map, hdk]; rfl
  have hN := hnr k x hxk i
  have N2 := newsSub N (small := (d, o) :: (kn, tupOf [.ref e, .ref l]) :: (e, listOf evs.toArray ce) :: (l, listOf (ds.map Value.ref).toArray cl) :: DG) (fun p hp => (List.mem_cons.mp hp).elim (fun q => q ▸ (.tail _ (.tail _ (.tail _ hdo)))) id)
  have hdm : d ∈ (((kn, tupOf [.ref e, .ref l]) :: (e, listOf evs.toArray ce) :: (l, listOf (ds.map Value.ref).toArray cl) :: DG) : List (Addr × Obj)).map (·.1) := List.mem_map.mpr ⟨_, .tail _ (.tail _ (.tail _ hdo)), rfl⟩
  clear N
  k_extra "MyEnter"
  k_extra "MySteps"
  rename News _ _ _ _ => hN2
  rename Stay _ _ _ => kS
  rename (∀ p ∈ _ :: _, _ → _) => hO
  refine' hret _ _ _ ((kn, tupOf [.ref e, .ref l]) :: (e, listOf evs.toArray ce) :: (l, listOf (ds.map Value.ref).toArray cl) :: DG) ?zano (newsSub hN2 ?zsno) (Stay.dup kS hdm) (fun p hp hn => hO p (.tail _ hp) fun q => hn ((List.mem_cons.mp q).elim (fun z => z ▸ hdm) id)) ?zcno
  case zano => assumption
  case zsno => exact fun p hp => .tail _ hp
  case zcno => exact ⟨rfl, _, _, rfl, hN⟩
theorem words14 : True := by
  k_with "MyAll" => first | assumption | exact allLt_ne (by assumption) | exact List.forall_mem_nil _ | (refine' HashG.off ?myHa ?myHb; (case myHa => assumption); (case myHb => k_extra "MyOm")) | (refine List.forall_mem_cons.mpr ⟨by k_ne, ?_⟩; k_extra "MyAll")
  k_with "binaryOp Pow int int" => ((refine pow2_n (by k_extra "MyOm") ?_); intro _ _)
  k_with "binaryOp FloorDiv int int" => ((with_reducible show wpAny _ _ (binaryOp _ (Value.int (Nat.cast _) _) (Value.int (Nat.cast _) _)) _ _ _); (refine fdiv_n (by k_extra "MyOm") (by assumption) ?_); intro _ _)
  k_with "call ref" => (k_dflt (refine' Con.use (con_node ?my1 _ _ ?my2 ?my3 _ _) ?myB ?myF ?myX ?myN ?myT ?myk ?myd ?myu ?mys ?myct ?_; (case my1 => assumption); (case my2 => k_extra "MyOm"); (case my3 => k_extra "MyOm"); (case myB => k_asm); (case myF => k_asm); (case myX => k_asm); (case myN => k_asm); (case myT => k_asm); (case mys => k_extra "MySub"); (case myk => first | exact rfl | assumption); (case myd => k_extra "MyLe"); (case myu => k_extra "MyLe"); (case myct => k_extra "MyCut")); intro v' h' tk' nw' F' N' po' ap'; obtain ⟨e2', x', t', e1', hnr'⟩ := po'; subst e1'; have e3' := Eq.symm e2'; clear e2'; subst e3'; simp only [List.append_nil, List.cons_append, List.nil_append] at N'; clear ap'; (try dsimp only); (try k_sweep))
  trivial
set_option maxHeartbeats 2000000 in
set_option pp.deepTerms false in
set_option pp.deepTerms.threshold 6 in
theorem con_along {w : World} {R : List B} {val : Nat → B} {size dep : Nat} {kn : Addr} {KG : List (Addr × Obj)} (hK : Known w R val dep kn KG) (hdep : dep = 8 * size) (hsz1 : 1 ≤ size) (hsz2 : size ≤ 2) (key : B) (hkey : key.length = size) (tk : Tok) :
    Con w 380 580 186 [.ref kn, .bytes key.toArray tk] KG (fun v nw => (X3 fun (r : Addr) (vs : List Value) (xs : List B) => A5 (v = .ref r) (nw = (r, tupOf vs) :: KG) (BL vs xs) (xs.length = dep) ((∀ j y, xs[j]? = some y → NR R val (dep - 1 - j) (natOf key / 2 ^ (dep - 1 - j)) y)))) := by
  unfold Con
  k_fill
  intro p loose mean mg mb dp un gd cn cs a ccd cl outer A₀ base h₀ L m s Rr Bl F X N T hk hd hu hret
  k_extra "MyEnter"
  k_extra "MySteps"
  rename IsRange _ _ _ _ _ _ _ _ => hR
  rename Fr _ _ _ _ => F1
  rename News _ _ _ ((_, W.listOf _ _) :: _) => N1
  rename_i a1 a2 a3 ℓ' a5 l1 a7 a8 a9 a10 a11 a12 a13 a14 a15 a16 hst
  obtain ⟨l1a, l1b⟩ := l1
  refine Hold.un ?_
  refine' loop_range (n := dep) (fun i m nw => (X4 fun (vs : List Value) (c : Nat) (xs : List B) (t2 : Tok) => A7 (nw = (ℓ', listOf vs.toArray c) :: KG) (BL vs xs) (xs.length = i) ((∀ j y, xs[j]? = some y → NR R val (i - 1 - j) (natOf key / 2 ^ (i - 1 - j)) y)) (m (Str.ofString "known") = some (.ref kn)) (m (Str.ofString "at") = some (.int (natOf key : Int) t2)) (m (Str.ofString "rows") = some (.ref ℓ'))))
      rfl hR ?sm ?sz F1 (newsSub N1 (small := (ℓ', listOf (List.toArray []) 0) :: KG) ?zsub) ?ini ?turn ?done
  case sm => exact small_one (by k_extra "MyOm") (by k_extra "MyOm") (by k_extra "MyOm") (by k_extra "MyOm")
  case sz => rw [rangeSize_one]; split <;> k_extra "MyOm"
  case zsub => k_extra "MySub"
  case ini => exact ⟨[], 0, [], _, rfl, rfl, rfl, (fun j y hj => by simp at hj), rfl, rfl, rfl⟩
  case turn =>
    rintro i t0 m₁ nw h tk0 I o hi ⟨vs, c, xs, t2, rfl, hbl, hxl, hxs, e1, e2, e3⟩ hnew hI F2 N2
    rw [show (0 : Int) + (i : Int) * 1 = (i : Int) by k_extra "MyOm"] at F2
    have hvl : vs.length = i := by rw [hbl.length]; exact hxl
    have hpos : 0 < 2 ^ i := Nat.pow_pos (by decide)
    have hp16 : 2 ^ i ≤ 2 ^ 16 := Nat.pow_le_pow_right (by decide) (by k_extra "MyOm")
    have lI := hnew
    k_lt lI
    obtain ⟨lIa, lIb⟩ := lI
    have F3 := frKnow (frKnow (frKnow F2 (n := Str.ofString "known") (by k_extra "MyKnow")) (n := Str.ofString "at") (by k_extra "MyKnow")) (n := Str.ofString "rows") (by k_extra "MyKnow")
    clear F2
    k_extra "MySteps"
    rename NR _ _ _ _ _ => hx
    refine TurnE.sub ((ℓ', listOf (_ :: vs).toArray (c + 1)) :: KG) (by assumption) (by assumption) (by k_extra "MySub") (by k_extra "MyAll") ⟨_ :: vs, c + 1, _ :: xs, _, rfl, hbl.cons (bv_bytes _ _), by simp [hxl], ?_, rfl, rfl, rfl⟩
    intro j y hj
    cases j with
    | zero => simp only [List.getElem?_cons_zero, Option.some.injEq] at hj; subst hj; exact hx
    | succ j => rw [List.getElem?_cons_succ] at hj; have := hxs j y hj; rw [show i + 1 - 1 - (j + 1) = i - 1 - j by k_extra "MyOm"]; exact this
  case done =>
    rintro m₁ nw h tk0 ⟨vs, c, xs, t2, rfl, hbl, hxl, hxs, e1, e2, e3⟩ F2 N2
    have hvl : vs.length = dep := by rw [hbl.length]; exact hxl
    have F3 := frKnow F2 (n := Str.ofString "rows") (by k_extra "MyKnow")
    clear F2
    k_extra "MySteps"
    rename News _ _ _ ((_, tupOf _) :: _) => hN
    rename (∀ p ∈ ((_, tupOf _) :: _), _ → _) => hO
    refine' hret _ _ _ ((_, tupOf vs) :: KG) ?zaal (newsSub hN ?zsal) (by assumption) (fun p hp => hO p (?zsal p hp)) ?zcal
    case zaal => assumption
    case zsal => k_extra "MySub"
    case zcal => exact ⟨_, vs, xs, rfl, rfl, hbl, hxl, hxs⟩
theorem words15 : True := by
  k_with "binaryOp Mod int int" => ((with_reducible show wpAny _ _ (binaryOp _ (Value.int (Nat.cast _) _) (Value.int 2 _)) _ _ _); (refine mod2_n ?_); intro _ _)
  k_with "binaryOp Add int int" => ((with_reducible show wpAny _ _ (binaryOp _ (Value.int (Nat.cast _) _) (Value.int 1 _)) _ _ _); (refine add1_n ?_); intro _ _)
  k_with "binaryOp Sub int int" => ((with_reducible show wpAny _ _ (binaryOp _ (Value.int (Nat.cast _) _) (Value.int 1 _)) _ _ _); (refine sub1_n (by first | assumption | k_extra "MyOm") ?_); intro _ _)
  trivial
set_option maxHeartbeats 2000000 in
set_option pp.deepTerms false in
set_option pp.deepTerms.threshold 6 in
theorem con_beside {w : World} {R : List B} {val : Nat → B} {size dep : Nat} {kn : Addr} {KG : List (Addr × Obj)} (hK : Known w R val dep kn KG) (hdep : dep = 8 * size) (hsz1 : 1 ≤ size) (hsz2 : size ≤ 2) (key : B) (hkey : key.length = size) (tk : Tok) :
    Con w 380 580 179 [.ref kn, .bytes key.toArray tk] KG (fun v nw => (X3 fun (r : Addr) (vs : List Value) (xs : List B) => A6 (v = .ref r) (nw = (r, tupOf vs) :: KG) (BL vs xs) (xs.length = dep) ((∀ j y, xs[j]? = some y → NR R val (dep - 1 - j) (sib (natOf key / 2 ^ (dep - 1 - j))) y)) ((∀ p ∈ KG, @LT.lt Nat _ p.1 r)))) := by
  unfold Con
  k_fill
  intro p loose mean mg mb dp un gd cn cs a ccd cl outer A₀ base h₀ L m s Rr Bl F X N T hk hd hu hret
  k_extra "MyEnter"
  k_extra "MySteps"
  rename IsRange _ _ _ _ _ _ _ _ => hR
  rename Fr _ _ _ _ => F1
  rename News _ _ _ ((_, W.listOf _ _) :: _) => N1
  rename_i a1 a2 a3 ℓ' a5 l1 a7 a8 a9 a10 a11 a12 a13 a14 a15 a16 hst
  obtain ⟨l1a, l1b⟩ := l1
  refine Hold.un ?_
  refine' loop_range (n := dep) (fun i m nw => (X4 fun (vs : List Value) (c : Nat) (xs : List B) (t2 : Tok) => A7 (nw = (ℓ', listOf vs.toArray c) :: KG) (BL vs xs) (xs.length = i) ((∀ j y, xs[j]? = some y → NR R val (i - 1 - j) (sib (natOf key / 2 ^ (i - 1 - j))) y)) (m (Str.ofString "known") = some (.ref kn)) (m (Str.ofString "at") = some (.int (natOf key : Int) t2)) (m (Str.ofString "rows") = some (.ref ℓ'))))
      rfl hR ?sm ?sz F1 (newsSub N1 (small := (ℓ', listOf (List.toArray []) 0) :: KG) ?zsub) ?ini ?turn ?done
  case sm => exact small_one (by k_extra "MyOm") (by k_extra "MyOm") (by k_extra "MyOm") (by k_extra "MyOm")
  case sz => rw [rangeSize_one]; split <;> k_extra "MyOm"
  case zsub => k_extra "MySub"
  case ini => exact ⟨[], 0, [], _, rfl, rfl, rfl, (fun j y hj => by simp at hj), rfl, rfl, rfl⟩
  case turn =>
    rintro i t0 m₁ nw h tk0 I o hi ⟨vs, c, xs, t2, rfl, hbl, hxl, hxs, e1, e2, e3⟩ hnew hI F2 N2
    rw [show (0 : Int) + (i : Int) * 1 = (i : Int) by k_extra "MyOm"] at F2
    have hvl : vs.length = i := by rw [hbl.length]; exact hxl
    have hpos : 0 < 2 ^ i := Nat.pow_pos (by decide)
    have hp16 : 2 ^ i ≤ 2 ^ 16 := Nat.pow_le_pow_right (by decide) (by k_extra "MyOm")
    have lI := hnew
    k_lt lI
    obtain ⟨lIa, lIb⟩ := lI
    have F3 := frKnow (frKnow (frKnow F2 (n := Str.ofString "known") (by k_extra "MyKnow")) (n := Str.ofString "at") (by k_extra "MyKnow")) (n := Str.ofString "rows") (by k_extra "MyKnow")
    clear F2
    have hbit : natOf key / 2 ^ i % 2 = 0 ∨ natOf key / 2 ^ i % 2 = 1 := Nat.mod_two_eq_zero_or_one _
    rcases hbit with hb | hb
    · have hsb : natOf key / 2 ^ i + 1 = sib (natOf key / 2 ^ i) := by unfold sib; rw [if_pos hb]
      k_extra "MySteps"
      rename NR _ _ _ _ _ => hx
      refine TurnE.sub ((ℓ', listOf (_ :: vs).toArray (c + 1)) :: KG) (by assumption) (by assumption) (by k_extra "MySub") (by k_extra "MyAll") ⟨_ :: vs, c + 1, _ :: xs, _, rfl, hbl.cons (bv_bytes _ _), by simp [hxl], ?_, rfl, rfl, rfl⟩
      intro j y hj
      cases j with
      | zero => simp only [List.getElem?_cons_zero, Option.some.injEq] at hj; subst hj; rw [hsb] at hx; exact hx
      | succ j => rw [List.getElem?_cons_succ] at hj; have := hxs j y hj; rw [show i + 1 - 1 - (j + 1) = i - 1 - j by k_extra "MyOm"]; exact this
    · have hsb : natOf key / 2 ^ i - 1 = sib (natOf key / 2 ^ i) := by unfold sib; rw [if_neg (by k_extra "MyOm")]
      have h1p : 1 ≤ natOf key / 2 ^ i := Nat.pos_of_ne_zero (fun z => by rw [z] at hb; cases hb)
      k_extra "MySteps"
      rename NR _ _ _ _ _ => hx
      refine TurnE.sub ((ℓ', listOf (_ :: vs).toArray (c + 1)) :: KG) (by assumption) (by assumption) (by k_extra "MySub") (by k_extra "MyAll") ⟨_ :: vs, c + 1, _ :: xs, _, rfl, hbl.cons (bv_bytes _ _), by simp [hxl], ?_, rfl, rfl, rfl⟩
      intro j y hj
      cases j with
      | zero => simp only [List.getElem?_cons_zero, Option.some.injEq] at hj; subst hj; rw [hsb] at hx; exact hx
      | succ j => rw [List.getElem?_cons_succ] at hj; have := hxs j y hj; rw [show i + 1 - 1 - (j + 1) = i - 1 - j by k_extra "MyOm"]; exact this
  case done =>
    rintro m₁ nw h tk0 ⟨vs, c, xs, t2, rfl, hbl, hxl, hxs, e1, e2, e3⟩ F2 N2
    have hvl : vs.length = dep := by rw [hbl.length]; exact hxl
    have F3 := frKnow F2 (n := Str.ofString "rows") (by k_extra "MyKnow")
    clear F2
    k_extra "MySteps"
    rename News _ _ _ ((_, tupOf _) :: _) => hN
    rename (∀ p ∈ ((_, tupOf _) :: _), _ → _) => hO
    rename _ ∧ AllLt _ KG => lz
    refine' hret _ _ _ ((_, tupOf vs) :: KG) ?zabe (newsSub hN ?zsbe) (by assumption) (fun p hp => hO p (?zsbe p hp)) ?zcbe
    case zabe => assumption
    case zsbe => k_extra "MySub"
    case zcbe => exact ⟨_, vs, xs, rfl, rfl, hbl, hxl, hxs, fun p hp => allLt_lt lz.2 p hp⟩
theorem words16 : True := by
  -- groups at the ledger's end: DG ++ HG
  k_with "MyTail" => first | with_reducible exact subId _ | with_reducible exact subL _ _ | with_reducible exact subR _ _ | (with_reducible refine subC ?_; k_extra "MyTail") | (with_reducible refine subApp ?_ ?_ <;> k_extra "MyTail")
  k_with "MyMem2" => first | k_extra "MyMem" | k_memK
  k_with "MySub" => first | exact List.forall_mem_nil _ | (with_reducible refine' consSub ?msA ?msB; (case msA => k_extra "MyMem2"); (case msB => k_extra "MySub")) | k_extra "MyTail"
  k_with "MyAll" => first | assumption | exact allLt_ne (by assumption) | exact List.forall_mem_nil _ | (refine' HashG.off ?myHa ?myHb; (case myHa => assumption); (case myHb => k_extra "MyOm")) | (refine List.forall_mem_cons.mpr ⟨by k_ne, ?_⟩; k_extra "MyAll") | (refine allApp ?_ ?_ <;> k_extra "MyAll")
  k_with "MyCut" => first | exact Cut.nil | (refine' Cut.dropIf ?cutA ?cutB; (case cutA => k_extra "MyMem"); (case cutB => k_extra "MyCut")) | (refine' Cut.keep ?cutC ?cutD; (case cutC => first | k_extra "MyAll" | fail "MyAll"); (case cutD => k_extra "MyCut")) | (refine' HashG.cutApp ?myHa ?myHb; (case myHa => assumption); (case myHb => assumption)) | (refine' HashG.cut ?myHa ?myHb; (case myHa => assumption); (case myHb => k_extra "MyAllLe")) | exact Cut.lose
  k_with "binaryOp FloorDiv int int" => ((with_reducible show wpAny _ _ (binaryOp _ (Value.int (Nat.cast _) _) (Value.int 2 _)) _ _ _); (refine fdiv2_n ?_); intro _ _)
  k_with "binaryOp Sub int int" => ((with_reducible show wpAny _ _ (binaryOp _ (Value.int (Nat.cast _) _) (Value.int (Nat.cast _) _)) _ _ _); (refine sub_n (by k_extra "MyOm") ?_); intro _ _)
  k_with "setItem ref int" => (k_dflt (refine' dictB_set (knd := intKind _ _) ?myF ?myN ?myU ?myd (ikey _ _ _ _) ?myz ?_; (case myF => k_asm); (case myN => k_asm); (case myU => k_updF); (case myd => assumption); (case myz => k_extra "MyOm"); k_whole); intro h' o' F' N' hd'; (try dsimp only at N'))
  k_with "compareOp NotIn int ref" => (k_dflt (refine' dictB_notIn (knd := intKind _ _) ?myN ?myp ?myd ?mylo (ikey _ _ _ _) ?_; (case myN => k_asm); (case myp => k_mem); (case myd => assumption); (case mylo => assumption); k_whole))
  k_with "compareOp NotIn int ref" => (k_dflt (refine' dictB_notInB (knd := intKind _ _) ?myN ?myp ?myd ?mylo (ikey _ _ _ _) ?myb ?_; (case myN => k_asm); (case myp => k_mem); (case myd => assumption); (case mylo => assumption); (case myb => first | exact isSome_f (by assumption) | exact isSome_t (by assumption)); k_whole))
  k_with "subscriptTail Name Name ref int" => ((with_reducible show wpAny _ _ (subscriptTail _ _ (Value.ref _) (Value.int (Nat.cast _) _)) _ _ _); k_dflt (refine' item_V ?myN ?mym ?myk ?myx ?_; (case myN => k_asm); (case mym => k_mem); (case myx => assumption); (case myk => k_extra "MyOm")))
  trivial
set_option maxHeartbeats 2000000 in
set_option pp.deepTerms false in
set_option pp.deepTerms.threshold 6 in
theorem con_levels {w : World} {η φ : Addr} {oh : Obj} {hh : List (B × B)} {size dep : Nat} {dflt : B} {c₀ : Nat} {R : List B} {HG : List (Addr × Obj)}
    (HH : HashG w φ c₀ R HG) (hD : DictB (bytesKind Challenge.rw_iu0035_01.row.prog w) oh hh) (hηm : (η == sysModules) = false) (hRl : R.length + 5000 ≤ 16777216) (hhl : hh.length ≤ 20) (hdep : dep = 8 * size) (hsz1 : 1 ≤ size) (hsz2 : size ≤ 2) (hv : dflt.length ≤ 1000)
    (hks : ∀ k v, (k, v) ∈ hh → k.length = size ∧ v.length ≤ 1000) (td tz : Tok) (hc1 : @LE.le Nat _ c₀ η) :
    Con w 370 570 165 [.ref η, .int (dep : Int) tz, .bytes dflt.toArray td, .ref φ] ((η, oh) :: HG) (fun v nw => (X4 fun (R' : List B) (HG' : List (Addr × Obj)) (kn : Addr) (KG : List (Addr × Obj)) => A7 (v = .ref kn) (nw = (η, oh) :: (KG ++ HG')) (Known w R' (valOf hh dflt) dep kn KG) (HashG w φ c₀ R' HG') (R <+: R') (R'.length ≤ R.length + 400) ((∀ p ∈ KG, @LT.lt Nat _ η p.1)))) := by
  unfold Con
  k_fill
  intro p loose mean mg mb dp un gd cn cs a ccd cl outer A₀ base h₀ L m s Rr Bl F X N T hk hd hu hret
  k_extra "MyEnter"
  k_extra "MySteps"
  rename_i tk0 h3 tk1 G1 R1 x0 u0 HH1 hp1 hn1 hr1 hx0 ε h2 l1 h1 F0 N0 h0 tk2 t1 u1 v1 hR F1 N1 hst
  refine Hold.un ?_
  refine' loop_range (n := dep) (fun i m nw => (X5 fun (evs : List Value) (c : Nat) (es : List B) (Ri : List B) (Gi : List (Addr × Obj)) => A13 (nw = (ε, listOf evs.toArray c) :: (η, oh) :: Gi) (BL evs es) (es.length = i + 1) ((∀ k x, es[k]? = some x → ∀ a, NR Ri (fun _ => dflt) k a x)) ((∀ k x y, es[k]? = some x → es[k + 1]? = some y → Reg Ri (x ++ x) y)) (HashG w φ c₀ Ri Gi) (R <+: Ri) (Ri.length ≤ R.length + i + 1) (m (Str.ofString "held") = some (.ref η)) (m (Str.ofString "depth") = some (.int (dep : Int) tz)) (m (Str.ofString "default") = some (.bytes dflt.toArray td)) (m (Str.ofString "hash_of") = some (.ref φ)) (m (Str.ofString "empty") = some (.ref ε))))
      rfl hR ?smA ?szA F1 N1 ?iniA ?turnA ?doneA
  case smA => exact small_one (by k_extra "MyOm") (by k_extra "MyOm") (by k_extra "MyOm") (by k_extra "MyOm")
  case szA => rw [rangeSize_one]; split <;> k_extra "MyOm"
  case iniA =>
    refine ⟨[.bytes x0.toArray u0], 0, [x0], R1, G1, rfl, BL.one _ _, rfl, ?_, ?_, HH1, hp1, by k_extra "MyOm", rfl, rfl, rfl, rfl, rfl⟩
    · intro k x hx a
      cases k with
      | zero => simp at hx; subst hx; exact hr1
      | succ k => simp at hx
    · intro k x y _ hy; simp at hy
  case turnA =>
    rintro i t0 m₁ nw h tk0 I o hi ⟨evs, c, es, Ri, Gi, rfl, hbl, hel, hen, her, HHi, hpre, hRi, e1, e2, e3, e4, e5⟩ hnew hI F2 N2
    rw [show (0 : Int) + (i : Int) * 1 = (i : Int) by k_extra "MyOm"] at F2
    have lI := hnew
    k_lt lI
    obtain ⟨x, hxk⟩ : ∃ x, es[i]? = some x := ⟨_, List.getElem?_eq_getElem (by k_extra "MyOm")⟩
    obtain ⟨tx, hvk⟩ := hbl.get hxk
    have hx32 := (hen i x hxk 0).length
    have hvl : evs.length = i + 1 := by rw [hbl.length]; exact hel
    have F3 := frKnow (frKnow (frKnow (frKnow (frKnow F2 (n := Str.ofString "held") (by k_extra "MyKnow")) (n := Str.ofString "depth") (by k_extra "MyKnow")) (n := Str.ofString "default") (by k_extra "MyKnow")) (n := Str.ofString "hash_of") (by k_extra "MyKnow")) (n := Str.ofString "empty") (by k_extra "MyKnow")
    clear F2
    k_extra "MySteps"
    rename_i z1 z2 z3 z4 z5 R2 x2 u2 HH2 hp2 hn2 hr2 hx2 z6 F5 N5
    refine TurnE.sub ((ε, listOf (evs ++ [_]).toArray (c + 1)) :: (η, oh) :: _) F5 N5 (by k_extra "MySub") (by k_extra "MyAll") ⟨evs ++ [_], c + 1, es ++ [x2], R2, _, rfl, hbl.append (BL.one _ _), by simp [hel], ?_, ?_, HH2, hpre.trans hp2, by k_extra "MyOm", rfl, rfl, rfl, rfl, rfl⟩
    · refine snocAll (fun k y hy a => (hen k y hy a).mono hp2) (fun a => ?_)
      rw [hel]
      exact ⟨x, x, (hen i x hxk _).mono hp2, (hen i x hxk _).mono hp2, hr2⟩
    · intro k y z hy hz
      by_cases hk1 : k + 1 < es.length
      · rw [List.getElem?_append_left (by k_extra "MyOm")] at hy
        rw [List.getElem?_append_left hk1] at hz
        exact (her k y z hy hz).mono hp2
      · have hk2 : k < es.length := by
          have := (List.getElem?_eq_some_iff.mp hz).1
          simp at this; k_extra "MyOm"
        have hki : k = i := by k_extra "MyOm"
        subst hki
        rw [List.getElem?_append_left hk2, hxk] at hy
        cases hy
        rw [List.getElem?_append_right (by k_extra "MyOm"), show k + 1 - es.length = 0 by k_extra "MyOm"] at hz
        cases hz
        exact hr2
  case doneA =>
    rintro m₁ nw h tk0 ⟨evs, c, es, Ra, Ga, rfl, hbl, hel, hen, her, HHa, hpa, hRa, e1, e2, e3, e4, e5⟩ F2 N2
    have F3 := frKnow (frKnow (frKnow (frKnow (frKnow F2 (n := Str.ofString "held") (by k_extra "MyKnow")) (n := Str.ofString "depth") (by k_extra "MyKnow")) (n := Str.ofString "default") (by k_extra "MyKnow")) (n := Str.ofString "hash_of") (by k_extra "MyKnow")) (n := Str.ofString "empty") (by k_extra "MyKnow")
    clear F2
    obtain ⟨e0, he0⟩ : ∃ e0, es[0]? = some e0 := ⟨_, List.getElem?_eq_getElem (by k_extra "MyOm")⟩
    have hre0 : Reg Ra dflt e0 := hen 0 e0 he0 0
    have hksz : ∀ q ∈ hh, q.1.length = size := fun q hq => (hks q.1 q.2 hq).1
    k_extra "MySteps"
    rename_i ζ0 y1 oz y3 y4 loz hbz hiz l2 y2 F4 N4
    obtain ⟨l2a, l2b, l2c⟩ := l2
    refine Hold.un ?_
    refine' loop_keys (knd := bytesKind Challenge.rw_iu0035_01.row.prog w) (fun i m nw => (X4 fun (o2 : Obj) (ls : List (Int × B)) (Ri : List B) (Gi : List (Addr × Obj)) => A12 (nw = (ζ0, o2) :: (ε, listOf evs.toArray c) :: (η, oh) :: Gi) (DictB (intKind Challenge.rw_iu0035_01.row.prog w) o2 ls) (ls.length ≤ i) (Lev0 Ri hh dflt i ls) (HashG w φ c₀ Ri Gi) (Ra <+: Ri) (Ri.length ≤ Ra.length + i) (m (Str.ofString "held") = some (.ref η)) (m (Str.ofString "depth") = some (.int (dep : Int) tz)) (m (Str.ofString "hash_of") = some (.ref φ)) (m (Str.ofString "empty") = some (.ref ε)) (m (Str.ofString "level") = some (.ref ζ0))))
        rfl hηm hD F4 N4 ?memB ?iniB ?turnB ?doneB
    case memB => rintro i m nw ⟨o2, ls, Ri, Gi, rfl, _⟩; k_extra "MyMem"
    case iniB => exact ⟨oz, [], Ra, Ga, rfl, hiz, Nat.le_refl _, Lev0.start _ _ _, HHa, List.prefix_refl _, Nat.le_refl _, rfl, rfl, rfl, rfl, rfl⟩
    case turnB =>
      rintro i k v m₁ nw h tk0 I oI hik hkv ⟨o2, ls, Ri, Gi, rfl, hi2, hll, hlev, HHi, hpi, hRi, d1, d2, d3, d4, d5⟩ hnew hI F5 N5
      obtain ⟨tk', rfl⟩ := bkey_inv hkv
      obtain ⟨v, hmem, hlk, hih⟩ := key_at hD.nodup hik
      have hkl : k.length = size := (hks k v hmem).1
      have hvl : v.length ≤ 1000 := (hks k v hmem).2
      have lI := hnew
      k_lt lI
      obtain ⟨lIa, lIb, lIc, lId⟩ := lI
      have F6 := frKnow (frKnow (frKnow (frKnow (frKnow F5 (n := Str.ofString "held") (by k_extra "MyKnow")) (n := Str.ofString "depth") (by k_extra "MyKnow")) (n := Str.ofString "hash_of") (by k_extra "MyKnow")) (n := Str.ofString "empty") (by k_extra "MyKnow")) (n := Str.ofString "level") (by k_extra "MyKnow")
      clear F5
      k_extra "MySteps"
      rename_i z1 z2 z3 z4 R2 x2 u2 HH2 hp2 hn2 hr2 hx2 z6 z7 z8 z9 lx z10 z11 z12 o3 F7 N7 hd3
      refine TurnE.sub ((ζ0, o3) :: (ε, listOf evs.toArray c) :: (η, oh) :: _) F7 N7 (by k_extra "MySub") (by k_extra "MyAll") ⟨o3, _, R2, _, rfl, hd3, Nat.le_trans (put_length_le _ _ _) (by k_extra "MyOm"), hlev.step hp2 hik hlk hksz hkl hr2, HH2, hpi.trans hp2, by k_extra "MyOm", rfl, rfl, rfl, rfl, rfl⟩
    case doneB =>
      rintro m₁ nw h tk0 ⟨o2, ls0, Rb, Gb, rfl, hi2, hll, hlev, HHb, hpb, hRb, d1, d2, d3, d4, d5⟩ F5 N5
      have F6 := frKnow (frKnow (frKnow (frKnow F5 (n := Str.ofString "depth") (by k_extra "MyKnow")) (n := Str.ofString "hash_of") (by k_extra "MyKnow")) (n := Str.ofString "empty") (by k_extra "MyKnow")) (n := Str.ofString "level") (by k_extra "MyKnow")
      clear F5
      k_extra "MySteps"
      rename_i ℓ0 y5 y6 y7 l3 y8 y9 y10 h4 tk4 t4 u4 v4 hR2 F7 N7 hst2
      obtain ⟨l3a, l3b, l3c, l3d⟩ := l3
      refine Hold.un ?_
      refine' loop_range (n := dep) (fun k m nw => (X7 fun (ds : List Addr) (cl : Nat) (DG : List (Addr × Obj)) (Ls : Nat → List (Int × B)) (Rk : List B) (Gk : List (Addr × Obj)) (dc : Addr) => A17 (nw = (ℓ0, listOf (ds.map Value.ref).toArray cl) :: (ε, listOf evs.toArray c) :: (η, oh) :: (DG ++ Gk)) (ds.length = k + 1) (ds[k]? = some dc) ((∀ j d, ds[j]? = some d → (d == sysModules) = false ∧ ∃ o, (d, o) ∈ DG ∧ DictB (intKind Challenge.rw_iu0035_01.row.prog w) o (Ls j))) ((∀ j x, j ≤ k → es[j]? = some x → ∀ i : Nat, NR Rk (valOf hh dflt) j i ((lk (Ls j) (i : Int)).getD x))) ((∀ a ∈ (Ls k).map (·.1), ∃ n : Nat, a = (n : Int))) ((Ls k).length ≤ hh.length) ((∀ p ∈ DG, @LT.lt Nat _ η p.1)) ((∀ p ∈ DG, p.1 ≠ ℓ0)) ((∀ p ∈ DG, p.1 ≠ ε)) (HashG w φ c₀ Rk Gk) (Rb <+: Rk) (Rk.length ≤ Rb.length + 20 * k) (m (Str.ofString "hash_of") = some (.ref φ)) (m (Str.ofString "empty") = some (.ref ε)) (m (Str.ofString "level") = some (.ref dc)) (m (Str.ofString "levels") = some (.ref ℓ0))))
        rfl hR2 ?smC ?szC F7 (newsSub N7 (small := (ℓ0, listOf ([ζ0].map Value.ref).toArray 0) :: (ε, listOf evs.toArray c) :: (η, oh) :: ([(ζ0, o2)] ++ Gb)) ?subC) ?iniC ?turnC ?doneC
      case smC => exact small_one (by k_extra "MyOm") (by k_extra "MyOm") (by k_extra "MyOm") (by k_extra "MyOm")
      case szC => rw [rangeSize_one]; split <;> k_extra "MyOm"
      case subC => exact (show ∀ p ∈ (ℓ0, listOf [Value.ref ζ0].toArray 0) :: (ε, listOf evs.toArray c) :: (η, oh) :: (ζ0, o2) :: Gb, p ∈ _ by k_extra "MySb")
      case iniC =>
        refine ⟨[ζ0], 0, [(ζ0, o2)], fun _ => ls0, Rb, Gb, ζ0, rfl, rfl, rfl, ?_, ?_, hlev.nat, hll, ?_, ?_, ?_, HHb, List.prefix_refl _, Nat.le_refl _, rfl, rfl, rfl, rfl⟩
        · intro j d hj
          cases j with
          | zero => simp at hj; subst hj; exact ⟨loz, o2, .head _, hi2⟩
          | succ j => simp at hj
        · intro j x hj hx i
          have : j = 0 := by k_extra "MyOm"
          subst this
          rw [he0] at hx; cases hx
          exact Lev0.done hlev (hre0.mono hpb) i
        · intro p hp; rw [List.mem_singleton.mp hp]; exact l2b
        · intro p hp; rw [List.mem_singleton.mp hp]; exact Nat.ne_of_lt l3a
        · intro p hp; rw [List.mem_singleton.mp hp]; exact Nat.ne_of_gt l2a
      case turnC =>
        rintro k t0 m₁ nw h tk0 I o hk ⟨ds, cl, DG, Ls, Rk, Gk, dc, rfl, hdl, hdc, hds, hnr, hnat, hLl, hDη, hDℓ, hDε, HHk, hpk, hRk, d6, d7, d8, d9⟩ hnew hI F8 N8
        rw [show (0 : Int) + (k : Int) * 1 = (k : Int) by k_extra "MyOm"] at F8
        have lI := hnew
        k_lt lI
        obtain ⟨lIa, lIb, lIc, lId, lIe⟩ := lI
        obtain ⟨xb, hek⟩ : ∃ x, es[k]? = some x := ⟨_, List.getElem?_eq_getElem (by k_extra "MyOm")⟩
        obtain ⟨xb', hxb'⟩ : ∃ x, es[k + 1]? = some x := ⟨_, List.getElem?_eq_getElem (by k_extra "MyOm")⟩
        obtain ⟨te, hve⟩ := hbl.get hek
        obtain ⟨lodc, odc, hmdc, hDdc⟩ := hds k dc hdc
        have hdcη : @LT.lt Nat _ η dc := hDη _ hmdc
        have hdcℓ : dc ≠ ℓ0 := hDℓ _ hmdc
        have hdcε : dc ≠ ε := hDε _ hmdc
        have hdsl : (ds.map Value.ref).length = k + 1 := by rw [List.length_map]; exact hdl
        have hlv : ∀ n : Nat, ((lk (Ls k) (n : Int)).getD xb).length = 32 := fun n => (hnr k xb (Nat.le_refl _) hek n).length
        have hDc : ∀ p ∈ DG, @LE.le Nat _ c₀ p.1 := fun p hp => Nat.le_trans hc1 (Nat.le_of_lt (hDη p hp))
        have hID : ∀ p ∈ DG, p.1 ≠ I := fun p hp => hI p (by simp [hp])
        have F9 := frKnow (frKnow (frKnow (frKnow F8 (n := Str.ofString "hash_of") (by k_extra "MyKnow")) (n := Str.ofString "empty") (by k_extra "MyKnow")) (n := Str.ofString "level") (by k_extra "MyKnow")) (n := Str.ofString "levels") (by k_extra "MyKnow")
        clear F8
        k_extra "MySteps"
        rename_i α0 y11 oa y12 y13 loa hba hia l4 y14 F10 N10
        obtain ⟨l4a, l4b, l4c, l4d, l4e⟩ := l4
        have hDα : ∀ p ∈ DG, p.1 ≠ α0 := fun p hp => Nat.ne_of_lt (allLt_left l4e p hp)
        have hdcα : @LT.lt Nat _ dc α0 := allLt_left l4e _ hmdc
        refine Hold.un ?_
        refine' loop_keys (knd := intKind Challenge.rw_iu0035_01.row.prog w) (fun i m nw => (X4 fun (o2 : Obj) (as : List (Int × B)) (Ri : List B) (Gi : List (Addr × Obj)) => A13 (nw = (dc, odc) :: (α0, o2) :: (I, o) :: (ℓ0, listOf (ds.map Value.ref).toArray cl) :: (ε, listOf evs.toArray c) :: (η, oh) :: (DG ++ Gi)) (DictB (intKind Challenge.rw_iu0035_01.row.prog w) o2 as) (as.length ≤ i) (LevU Ri (Ls k) xb i as) (HashG w φ c₀ Ri Gi) (Rk <+: Ri) (Ri.length ≤ Rk.length + i) (m (Str.ofString "hash_of") = some (.ref φ)) (m (Str.ofString "empty") = some (.ref ε)) (m (Str.ofString "level") = some (.ref dc)) (m (Str.ofString "levels") = some (.ref ℓ0)) (m (Str.ofString "above") = some (.ref α0)) (m (Str.ofString "k") = some (.int (k : Int) t0))))
          rfl lodc hDdc F10 (newsAdd N10 (by simp [hmdc]) : News _ _ _ ((dc, odc) :: _)) ?memD ?iniD ?turnD ?doneD
        case memD => rintro i m nw ⟨o2, as, Ri, Gi, rfl, _⟩; k_extra "MyMem"
        case iniD => exact ⟨oa, [], Rk, Gk, rfl, hia, Nat.le_refl _, LevU.start _ _ _, HHk, List.prefix_refl _, Nat.le_refl _, rfl, rfl, rfl, rfl, rfl, rfl⟩
        case turnD =>
          rintro i key v m₁ nw h tk0 I2 oI2 hik hkv ⟨o2, as, Ri, Gi, rfl, hia2, hal, hlu, HHi, hpi, hRi, b1, b2, b3, b4, b5, b6⟩ hnew2 hI2 F11 N11
          obtain ⟨tk', rfl⟩ := ikey_inv hkv
          obtain ⟨n, rfl⟩ := hnat key (List.mem_of_getElem? hik)
          obtain ⟨_, _, _, hil⟩ := key_at hDdc.nodup hik
          have lI2 := hnew2
          k_lt lI2
          obtain ⟨lJa, lJb, lJc, lJd, lJe, lJf, lJg⟩ := lI2
          have hID2 : ∀ p ∈ DG, p.1 ≠ I2 := fun p hp => hI2 p (by simp [hp])
          have hlow := hlv (n - n % 2)
          have hup := hlv (n - n % 2 + 1)
          have F12 := frKnow (frKnow (frKnow (frKnow (frKnow (frKnow F11 (n := Str.ofString "hash_of") (by k_extra "MyKnow")) (n := Str.ofString "empty") (by k_extra "MyKnow")) (n := Str.ofString "level") (by k_extra "MyKnow")) (n := Str.ofString "levels") (by k_extra "MyKnow")) (n := Str.ofString "above") (by k_extra "MyKnow")) (n := Str.ofString "k") (by k_extra "MyKnow")
          clear F11
          have hpar : n % 2 = 0 ∨ n % 2 = 1 := Nat.mod_two_eq_zero_or_one _
          rcases hpar with hpar | hpar
          · k_extra "MySteps"
            rename_i R2 x2 u2 HH2 hp2 hn2 hr2 hx2 q1 q2 q3 o3 F13 N13 hd3
            refine TurnE.sub ((dc, odc) :: (α0, o3) :: (I, o) :: (ℓ0, listOf (ds.map Value.ref).toArray cl) :: (ε, listOf evs.toArray c) :: (η, oh) :: (DG ++ _)) F13 N13 (by k_extra "MySub") (by k_extra "MyAll") ⟨o3, _, R2, _, rfl, hd3, Nat.le_trans (put_length_le _ _ _) (by k_extra "MyOm"), hlu.step hp2 hik hr2, HH2, hpi.trans hp2, by k_extra "MyOm", rfl, rfl, rfl, rfl, rfl, rfl⟩
          · cases hlk : lk (Ls k) ((n - n % 2 : Nat) : Int) with
            | none =>
              k_extra "MySteps"
              rename_i R2 x2 u2 HH2 hp2 hn2 hr2 hx2 q1 q2 q3 o3 F13 N13 hd3
              refine TurnE.sub ((dc, odc) :: (α0, o3) :: (I, o) :: (ℓ0, listOf (ds.map Value.ref).toArray cl) :: (ε, listOf evs.toArray c) :: (η, oh) :: (DG ++ _)) F13 N13 (by k_extra "MySub") (by k_extra "MyAll") ⟨o3, _, R2, _, rfl, hd3, Nat.le_trans (put_length_le _ _ _) (by k_extra "MyOm"), hlu.step hp2 hik hr2, HH2, hpi.trans hp2, by k_extra "MyOm", rfl, rfl, rfl, rfl, rfl, rfl⟩
            | some xl =>
              k_extra "MySteps"
              rename_i q1 q2 q3 q4 q5 F13 N13
              refine TurnE.sub ((dc, odc) :: (α0, o2) :: (I, o) :: (ℓ0, listOf (ds.map Value.ref).toArray cl) :: (ε, listOf evs.toArray c) :: (η, oh) :: (DG ++ Gi)) F13 N13 (by k_extra "MySub") (by k_extra "MyAll") ⟨o2, as, Ri, Gi, rfl, hia2, by k_extra "MyOm", hlu.skip hik hpar (isSome_t hlk), HHi, hpi, by k_extra "MyOm", rfl, rfl, rfl, rfl, rfl, rfl⟩
        case doneD =>
          rintro m₁ nw h tk0 ⟨o2, as, Ri, Gi, rfl, hia2, hal, hlu, HHi, hpi, hRi, b1, b2, b3, b4, b5, b6⟩ F11 N11
          have F12 := frKnow (frKnow (frKnow (frKnow (frKnow F11 (n := Str.ofString "hash_of") (by k_extra "MyKnow")) (n := Str.ofString "empty") (by k_extra "MyKnow")) (n := Str.ofString "level") (by k_extra "MyKnow")) (n := Str.ofString "levels") (by k_extra "MyKnow")) (n := Str.ofString "above") (by k_extra "MyKnow")
          clear F11
          k_extra "MySteps"
          rename_i q1 q2 F13 N13
          have hma : (ds ++ [α0]).map Value.ref = ds.map Value.ref ++ [Value.ref α0] := by simp
          have hE : Reg Ri (xb ++ xb) xb' := (her k xb xb' hek hxb').mono (hpb.trans (hpk.trans hpi))
          refine TurnE.sub ((ℓ0, listOf (ds.map Value.ref ++ [Value.ref α0]).toArray (cl + 1)) :: (ε, listOf evs.toArray c) :: (η, oh) :: (((α0, o2) :: DG) ++ Gi)) F13 N13 ?subE ?allE
            ⟨ds ++ [α0], cl + 1, (α0, o2) :: DG, fun j => if j = k + 1 then as else Ls j, Ri, Gi, α0, by rw [hma], by simp [hdl], by rw [List.getElem?_append_right (by k_extra "MyOm"), hdl]; simp, ?dsE, ?nrE, ?natE, ?lenE, ?ηE, ?ℓE, ?εE, HHi, hpk.trans hpi, by k_extra "MyOm", rfl, rfl, rfl, rfl⟩
          case subE => k_extra "MySb"
          case allE => k_extra "MyAll"
          case dsE =>
            intro j d hj
            by_cases cj : j < ds.length
            · rw [List.getElem?_append_left cj] at hj
              obtain ⟨lo', o', hm', hd'⟩ := hds j d hj
              refine ⟨lo', o', .tail _ hm', ?_⟩
              show DictB _ _ (if j = k + 1 then as else Ls j); rw [if_neg (by k_extra "MyOm")]; exact hd'
            · have cj2 := (List.getElem?_eq_some_iff.mp hj).1
              simp at cj2
              have : j = k + 1 := by k_extra "MyOm"
              subst this
              rw [List.getElem?_append_right (by k_extra "MyOm"), hdl, Nat.sub_self] at hj
              cases hj
              refine ⟨loa, o2, .head _, ?_⟩
              show DictB _ _ (if k + 1 = k + 1 then as else Ls (k + 1)); rw [if_pos rfl]; exact hia2
          case nrE =>
            intro j x hj hx i
            by_cases cj : j = k + 1
            · subst cj
              show NR _ _ _ _ ((lk (if k + 1 = k + 1 then as else Ls (k + 1)) (i : Int)).getD x)
              rw [if_pos rfl]
              rw [hxb'] at hx; cases hx
              exact LevU.done hlu (fun n => (hnr k xb (Nat.le_refl _) hek n).mono hpi) hE i
            · show NR _ _ _ _ ((lk (if j = k + 1 then as else Ls j) (i : Int)).getD x)
              rw [if_neg cj]
              exact (hnr j x (by k_extra "MyOm") hx i).mono hpi
          case natE => show ∀ a ∈ (if k + 1 = k + 1 then as else Ls (k + 1)).map (·.1), _; rw [if_pos rfl]; exact hlu.nat
          case lenE => show (if k + 1 = k + 1 then as else Ls (k + 1)).length ≤ _; rw [if_pos rfl]; k_extra "MyOm"
          case ηE => intro p hp; rcases List.mem_cons.mp hp with rfl | hp; exact l4d; exact hDη p hp
          case ℓE => intro p hp; rcases List.mem_cons.mp hp with rfl | hp; exact Nat.ne_of_gt l4b; exact hDℓ p hp
          case εE => intro p hp; rcases List.mem_cons.mp hp with rfl | hp; exact Nat.ne_of_gt l4c; exact hDε p hp
      case doneC =>
        rintro m₁ nw h tk0 ⟨ds, cl, DG, Ls, Rk, Gk, dc, rfl, hdl, hdc, hds, hnr, hnat, hLl, hDη, hDℓ, hDε, HHk, hpk, hRk, d6, d7, d8, d9⟩ F8 N8
        have F9 := frKnow (frKnow F8 (n := Str.ofString "empty") (by k_extra "MyKnow")) (n := Str.ofString "levels") (by k_extra "MyKnow")
        clear F8
        k_extra "MySteps"
        rename_i kn0 y15 y16 y17 l5 y18 y19 y20 y21
        obtain ⟨l5a, l5b, l5c, l5d⟩ := l5
        rename News h₀ L _ _ => hN
        rename (∀ p ∈ ((_, tupOf _) :: _), _ → _) => hO
        refine' hret _ _ _ ((η, oh) :: (((kn0, tupOf [.ref ε, .ref ℓ0]) :: (ε, listOf evs.toArray c) :: (ℓ0, listOf (ds.map Value.ref).toArray cl) :: DG) ++ Gk)) ?zalv (newsSub hN ?zslv) (by assumption) (fun p hp => hO p (?zslv p hp)) ?zclv
        case zalv => assumption
        case zslv => k_extra "MySb"
        case zclv =>
          refine ⟨Rk, Gk, kn0, _, rfl, rfl, ⟨ε, ℓ0, evs, es, ds, DG, Ls, c, cl, rfl, hbl, hel, hdl, hds, fun k x hx i => hnr k x ?_ hx i⟩, HHk, hpa.trans (hpb.trans hpk), by k_extra "MyOm", ?_⟩
          · have := (List.getElem?_eq_some_iff.mp hx).1; k_extra "MyOm"
          · intro p hp
            simp only [List.mem_cons] at hp
            rcases hp with rfl | rfl | rfl | hp
            · exact l5c
            · exact l1.1
            · exact l3c
            · exact hDη p hp
theorem words17 : True := by
  k_with "call builtin:isinstance" => (k_dflt (refine' isi_bad ?myb ?myN ?mym ?_; (case myb => assumption); (case myN => k_asm); (case mym => k_mem); k_whole))
  k_with "subscriptTail" => ((with_reducible show wpAny _ _ (subscriptTail _ (Expr.Slice _ none none _) (Value.bytes (List.toArray _) _) (Value.ref _)) _ _ _); (with_reducible rename Fr _ _ _ _ => F'); (with_reducible rename News _ _ _ _ => N'); (refine slice_any (s := ⟨_, _, _, _, _⟩) F' N' (by constructor) (by constructor) (by k_extra "MyOm") (cut_hi _ 1) ?_); intro _ _ _ F' N')
  k_with "joinParts" => ((first | (with_reducible show wpAny _ _ (joinParts _ []) _ _ _) | (with_reducible show wpAny _ _ (joinParts _ (evalEach [] _)) _ _ _; show wpAny _ _ (joinParts _ []) _ _ _)); (with_reducible refine' joinParts_end ?jza ?_; (case jza => first | kt_le | decide +kernel)); intro _)
  k_with "formatField int" => ((with_reducible show wpAny _ _ (formatField (Value.int 32 _) _) _ _ _); (with_unfolding_all refine' field_lit ?jya ?jyb ?_; (case jya => decide); (case jyb => decide +kernel)); intro _ _ _ _)
  trivial
set_option maxHeartbeats 2000000 in
set_option pp.deepTerms false in
set_option pp.deepTerms.threshold 6 in
theorem con_unfit0 {w : World} {τ dx δ β : Addr} {oδ oβ : Obj} {H : Nat → Int} {T' U' : Nat → Tok} {size dep n : Nat} {dflt root : B} {φ : Addr} {c₀ : Nat} {R : List B} {HG : List (Addr × Obj)} {bad : Value}
    (HH : HashG w φ c₀ R HG) (hRl : R.length + 40 ≤ 16777216) (hdep : dep = 8 * size) (hsz1 : 1 ≤ size) (hsz2 : size ≤ 2) (hr : root.length = 32) (key : B) (hkey : key.length = size) (hbad : BadV β oβ bad) (tk tw : Tok)
    (hc1 : @LE.le Nat _ c₀ τ) (hc2 : @LE.le Nat _ c₀ dx) (hc3 : @LE.le Nat _ c₀ δ) (hc4 : @LE.le Nat _ c₀ β) :
    ConT w 360 560 221 [.ref τ, .int 0 tw, .bytes key.toArray tk, bad, .ref φ] ((τ, instObj 147 dx) :: (dx, dictOf (treeEs H T' U' size dep dflt φ δ root) n) :: (δ, oδ) :: (β, oβ) :: HG)
      (fun v nw => (X2 fun (R' : List B) (HG' : List (Addr × Obj)) => A5 (v = .bool true) (nw = (τ, instObj 147 dx) :: (dx, dictOf (treeEs H T' U' size dep dflt φ δ root) n) :: (δ, oδ) :: (β, oβ) :: HG') (HashG w φ c₀ R' HG') (R <+: R') (R'.length ≤ R.length + 17))) := by
  unfold ConT
  k_fill
  intro p loose mean mg mb dp un gd cn cs a ccd outer A₀ base h₀ L m s Rr Bl F X N T XB TB kdD hk hd hu hret
  have hq1 : (key ++ [49]).length = size + 1 := by rw [List.length_append, hkey]; rfl
  have hq2 : ([49] : B).length = 1 := rfl
  k_extra "MyEnterT"
  k_extra "MySteps"
  rename_i kh kT kF kN kB kX kP kD kS kO
  refine' hret _ _ _ ((τ, instObj 147 dx) :: (dx, dictOf (treeEs H T' U' size dep dflt φ δ root) n) :: (δ, oδ) :: (β, oβ) :: HG) _ kT kF (newsSub kN ?zsu0) kB kX kP kD kS (fun p hp => kO p (?zsu0 p hp)) ?zcu0
  case zsu0 => k_extra "MySub"
  case zcu0 => exact ⟨R, HG, rfl, rfl, HH, List.prefix_refl _, by k_extra "MyOm"⟩
set_option maxHeartbeats 2000000 in
set_option pp.deepTerms false in
set_option pp.deepTerms.threshold 6 in
theorem con_unfit1 {w : World} {τ dx δ β : Addr} {oδ oβ : Obj} {H : Nat → Int} {T' U' : Nat → Tok} {size dep n : Nat} {dflt root : B} {φ : Addr} {c₀ : Nat} {R : List B} {HG : List (Addr × Obj)} {bad : Value}
    (HH : HashG w φ c₀ R HG) (hRl : R.length + 40 ≤ 16777216) (hdep : dep = 8 * size) (hsz1 : 1 ≤ size) (hsz2 : size ≤ 2) (hr : root.length = 32) (key : B) (hkey : key.length = size) (hbad : BadV β oβ bad) (tk tw : Tok)
    (hc1 : @LE.le Nat _ c₀ τ) (hc2 : @LE.le Nat _ c₀ dx) (hc3 : @LE.le Nat _ c₀ δ) (hc4 : @LE.le Nat _ c₀ β) :
    ConT w 360 560 221 [.ref τ, .int 1 tw, .bytes key.toArray tk, bad, .ref φ] ((τ, instObj 147 dx) :: (dx, dictOf (treeEs H T' U' size dep dflt φ δ root) n) :: (δ, oδ) :: (β, oβ) :: HG)
      (fun v nw => (X2 fun (R' : List B) (HG' : List (Addr × Obj)) => A5 (v = .bool true) (nw = (τ, instObj 147 dx) :: (dx, dictOf (treeEs H T' U' size dep dflt φ δ root) n) :: (δ, oδ) :: (β, oβ) :: HG') (HashG w φ c₀ R' HG') (R <+: R') (R'.length ≤ R.length + 17))) := by
  unfold ConT
  k_fill
  intro p loose mean mg mb dp un gd cn cs a ccd outer A₀ base h₀ L m s Rr Bl F X N T XB TB kdD hk hd hu hret
  have hq1 : (key.drop 1).length = size - 1 := by rw [List.length_drop, hkey]
  k_extra "MyEnterT"
  k_extra "MySteps"
  rename_i kh kT kF kN kB kX kP kD kS kO
  refine' hret _ _ _ ((τ, instObj 147 dx) :: (dx, dictOf (treeEs H T' U' size dep dflt φ δ root) n) :: (δ, oδ) :: (β, oβ) :: HG) _ kT kF (newsSub kN ?zsu1) kB kX kP kD kS (fun p hp => kO p (?zsu1 p hp)) ?zcu1
  case zsu1 => k_extra "MySub"
  case zcu1 => exact ⟨R, HG, rfl, rfl, HH, List.prefix_refl _, by k_extra "MyOm"⟩
set_option maxHeartbeats 2000000 in
set_option pp.deepTerms false in
set_option pp.deepTerms.threshold 6 in
theorem con_unfit2 {w : World} {τ dx δ β : Addr} {oδ oβ : Obj} {H : Nat → Int} {T' U' : Nat → Tok} {size dep n : Nat} {dflt root : B} {φ : Addr} {c₀ : Nat} {R : List B} {HG : List (Addr × Obj)} {bad : Value}
    (HH : HashG w φ c₀ R HG) (hRl : R.length + 40 ≤ 16777216) (hdep : dep = 8 * size) (hsz1 : 1 ≤ size) (hsz2 : size ≤ 2) (hr : root.length = 32) (key : B) (hkey : key.length = size) (hbad : BadV β oβ bad) (tk tw : Tok)
    (hc1 : @LE.le Nat _ c₀ τ) (hc2 : @LE.le Nat _ c₀ dx) (hc3 : @LE.le Nat _ c₀ δ) (hc4 : @LE.le Nat _ c₀ β) :
    ConT w 360 560 221 [.ref τ, .int 2 tw, .bytes key.toArray tk, bad, .ref φ] ((τ, instObj 147 dx) :: (dx, dictOf (treeEs H T' U' size dep dflt φ δ root) n) :: (δ, oδ) :: (β, oβ) :: HG)
      (fun v nw => (X2 fun (R' : List B) (HG' : List (Addr × Obj)) => A5 (v = .bool true) (nw = (τ, instObj 147 dx) :: (dx, dictOf (treeEs H T' U' size dep dflt φ δ root) n) :: (δ, oδ) :: (β, oβ) :: HG') (HashG w φ c₀ R' HG') (R <+: R') (R'.length ≤ R.length + 17))) := by
  unfold ConT
  k_fill
  intro p loose mean mg mb dp un gd cn cs a ccd outer A₀ base h₀ L m s Rr Bl F X N T XB TB kdD hk hd hu hret
  k_extra "MyEnterT"
  k_extra "MySteps"
  rename_i kh kT kF kN kB kX kP kD kS kO
  refine' hret _ _ _ ((τ, instObj 147 dx) :: (dx, dictOf (treeEs H T' U' size dep dflt φ δ root) n) :: (δ, oδ) :: (β, oβ) :: HG) _ kT kF (newsSub kN ?zsu2) kB kX kP kD kS (fun p hp => kO p (?zsu2 p hp)) ?zcu2
  case zsu2 => k_extra "MySub"
  case zcu2 => exact ⟨R, HG, rfl, rfl, HH, List.prefix_refl _, by k_extra "MyOm"⟩
set_option maxHeartbeats 2000000 in
set_option pp.deepTerms false in
set_option pp.deepTerms.threshold 6 in
theorem con_unfit3 {w : World} {τ dx δ β : Addr} {oδ oβ : Obj} {H : Nat → Int} {T' U' : Nat → Tok} {size dep n : Nat} {dflt root : B} {φ : Addr} {c₀ : Nat} {R : List B} {HG : List (Addr × Obj)} {bad : Value}
    (HH : HashG w φ c₀ R HG) (hRl : R.length + 40 ≤ 16777216) (hdep : dep = 8 * size) (hsz1 : 1 ≤ size) (hsz2 : size ≤ 2) (hr : root.length = 32) (key : B) (hkey : key.length = size) (hbad : BadV β oβ bad) (tk tw : Tok)
    (hc1 : @LE.le Nat _ c₀ τ) (hc2 : @LE.le Nat _ c₀ dx) (hc3 : @LE.le Nat _ c₀ δ) (hc4 : @LE.le Nat _ c₀ β) :
    ConT w 360 560 221 [.ref τ, .int 3 tw, .bytes key.toArray tk, bad, .ref φ] ((τ, instObj 147 dx) :: (dx, dictOf (treeEs H T' U' size dep dflt φ δ root) n) :: (δ, oδ) :: (β, oβ) :: HG)
      (fun v nw => (X2 fun (R' : List B) (HG' : List (Addr × Obj)) => A5 (v = .bool true) (nw = (τ, instObj 147 dx) :: (dx, dictOf (treeEs H T' U' size dep dflt φ δ root) n) :: (δ, oδ) :: (β, oβ) :: HG') (HashG w φ c₀ R' HG') (R <+: R') (R'.length ≤ R.length + 17))) := by
  unfold ConT
  k_fill
  intro p loose mean mg mb dp un gd cn cs a ccd outer A₀ base h₀ L m s Rr Bl F X N T XB TB kdD hk hd hu hret
  k_extra "MyEnterT"
  k_extra "MySteps"
  rename_i kh kT kF kN kB kX kP kD kS kO
  refine' hret _ _ _ ((τ, instObj 147 dx) :: (dx, dictOf (treeEs H T' U' size dep dflt φ δ root) n) :: (δ, oδ) :: (β, oβ) :: HG) _ kT kF (newsSub kN ?zsu3) kB kX kP kD kS (fun p hp => kO p (?zsu3 p hp)) ?zcu3
  case zsu3 => k_extra "MySub"
  case zcu3 => exact ⟨R, HG, rfl, rfl, HH, List.prefix_refl _, by k_extra "MyOm"⟩
set_option maxHeartbeats 2000000 in
set_option pp.deepTerms false in
set_option pp.deepTerms.threshold 6 in
theorem con_unfit4 {w : World} {τ dx δ β : Addr} {oδ oβ : Obj} {H : Nat → Int} {T' U' : Nat → Tok} {size dep n : Nat} {dflt root : B} {φ : Addr} {c₀ : Nat} {R : List B} {HG : List (Addr × Obj)} {bad : Value}
    (HH : HashG w φ c₀ R HG) (hRl : R.length + 40 ≤ 16777216) (hdep : dep = 8 * size) (hsz1 : 1 ≤ size) (hsz2 : size ≤ 2) (hr : root.length = 32) (key : B) (hkey : key.length = size) (hbad : BadV β oβ bad) (tk tw : Tok)
    (hc1 : @LE.le Nat _ c₀ τ) (hc2 : @LE.le Nat _ c₀ dx) (hc3 : @LE.le Nat _ c₀ δ) (hc4 : @LE.le Nat _ c₀ β) :
    ConT w 360 560 221 [.ref τ, .int 4 tw, .bytes key.toArray tk, bad, .ref φ] ((τ, instObj 147 dx) :: (dx, dictOf (treeEs H T' U' size dep dflt φ δ root) n) :: (δ, oδ) :: (β, oβ) :: HG)
      (fun v nw => (X2 fun (R' : List B) (HG' : List (Addr × Obj)) => A5 (v = .bool true) (nw = (τ, instObj 147 dx) :: (dx, dictOf (treeEs H T' U' size dep dflt φ δ root) n) :: (δ, oδ) :: (β, oβ) :: HG') (HashG w φ c₀ R' HG') (R <+: R') (R'.length ≤ R.length + 17))) := by
  unfold ConT
  k_fill
  intro p loose mean mg mb dp un gd cn cs a ccd outer A₀ base h₀ L m s Rr Bl F X N T XB TB kdD hk hd hu hret
  have hq1 : (key ++ key).length = size + size := by rw [List.length_append, hkey]
  k_extra "MyEnterT"
  k_extra "MySteps"
  rename_i kh kT kF kN kB kX kP kD kS kO
  refine' hret _ _ _ ((τ, instObj 147 dx) :: (dx, dictOf (treeEs H T' U' size dep dflt φ δ root) n) :: (δ, oδ) :: (β, oβ) :: HG) _ kT kF (newsSub kN ?zsu4) kB kX kP kD kS (fun p hp => kO p (?zsu4 p hp)) ?zcu4
  case zsu4 => k_extra "MySub"
  case zcu4 => exact ⟨R, HG, rfl, rfl, HH, List.prefix_refl _, by k_extra "MyOm"⟩
set_option maxHeartbeats 2000000 in
set_option pp.deepTerms false in
set_option pp.deepTerms.threshold 6 in
theorem con_unfit5 {w : World} {τ dx δ β : Addr} {oδ oβ : Obj} {H : Nat → Int} {T' U' : Nat → Tok} {size dep n : Nat} {dflt root : B} {φ : Addr} {c₀ : Nat} {R : List B} {HG : List (Addr × Obj)} {bad : Value}
    (HH : HashG w φ c₀ R HG) (hRl : R.length + 40 ≤ 16777216) (hdep : dep = 8 * size) (hsz1 : 1 ≤ size) (hsz2 : size ≤ 2) (hr : root.length = 32) (key : B) (hkey : key.length = size) (hbad : BadV β oβ bad) (tk tw : Tok)
    (hc1 : @LE.le Nat _ c₀ τ) (hc2 : @LE.le Nat _ c₀ dx) (hc3 : @LE.le Nat _ c₀ δ) (hc4 : @LE.le Nat _ c₀ β) :
    ConT w 360 560 221 [.ref τ, .int 5 tw, .bytes key.toArray tk, bad, .ref φ] ((τ, instObj 147 dx) :: (dx, dictOf (treeEs H T' U' size dep dflt φ δ root) n) :: (δ, oδ) :: (β, oβ) :: HG)
      (fun v nw => (X2 fun (R' : List B) (HG' : List (Addr × Obj)) => A5 (v = .bool true) (nw = (τ, instObj 147 dx) :: (dx, dictOf (treeEs H T' U' size dep dflt φ δ root) n) :: (δ, oδ) :: (β, oβ) :: HG') (HashG w φ c₀ R' HG') (R <+: R') (R'.length ≤ R.length + 17))) := by
  unfold ConT
  k_fill
  intro p loose mean mg mb dp un gd cn cs a ccd outer A₀ base h₀ L m s Rr Bl F X N T XB TB kdD hk hd hu hret
  k_extra "MyEnterT"
  k_extra "MySteps"
  rename_i kh kT kF kN kB kX kP kD kS kO
  refine' hret _ _ _ ((τ, instObj 147 dx) :: (dx, dictOf (treeEs H T' U' size dep dflt φ δ root) n) :: (δ, oδ) :: (β, oβ) :: HG) _ kT kF (newsSub kN ?zsu5) kB kX kP kD kS (fun p hp => kO p (?zsu5 p hp)) ?zcu5
  case zsu5 => k_extra "MySub"
  case zcu5 => exact ⟨R, HG, rfl, rfl, HH, List.prefix_refl _, by k_extra "MyOm"⟩
set_option maxHeartbeats 2000000 in
set_option pp.deepTerms false in
set_option pp.deepTerms.threshold 6 in
theorem con_unfit6 {w : World} {τ dx δ β : Addr} {oδ oβ : Obj} {H : Nat → Int} {T' U' : Nat → Tok} {size dep n : Nat} {dflt root : B} {φ : Addr} {c₀ : Nat} {R : List B} {HG : List (Addr × Obj)} {bad : Value}
    (HH : HashG w φ c₀ R HG) (hRl : R.length + 40 ≤ 16777216) (hdep : dep = 8 * size) (hsz1 : 1 ≤ size) (hsz2 : size ≤ 2) (hr : root.length = 32) (key : B) (hkey : key.length = size) (hbad : BadV β oβ bad) (tk tw : Tok)
    (hc1 : @LE.le Nat _ c₀ τ) (hc2 : @LE.le Nat _ c₀ dx) (hc3 : @LE.le Nat _ c₀ δ) (hc4 : @LE.le Nat _ c₀ β) :
    ConT w 360 560 221 [.ref τ, .int 6 tw, .bytes key.toArray tk, bad, .ref φ] ((τ, instObj 147 dx) :: (dx, dictOf (treeEs H T' U' size dep dflt φ δ root) n) :: (δ, oδ) :: (β, oβ) :: HG)
      (fun v nw => (X2 fun (R' : List B) (HG' : List (Addr × Obj)) => A5 (v = .bool true) (nw = (τ, instObj 147 dx) :: (dx, dictOf (treeEs H T' U' size dep dflt φ δ root) n) :: (δ, oδ) :: (β, oβ) :: HG') (HashG w φ c₀ R' HG') (R <+: R') (R'.length ≤ R.length + 17))) := by
  unfold ConT
  k_fill
  intro p loose mean mg mb dp un gd cn cs a ccd outer A₀ base h₀ L m s Rr Bl F X N T XB TB kdD hk hd hu hret
  k_extra "MyEnterT"
  k_extra "MySteps"
  dsimp only [InitBack]
  k_extra "MySteps"
  rename_i kh kT kF kN kB kX kP kD kS kO
  refine' hret _ _ _ ((τ, instObj 147 dx) :: (dx, dictOf (treeEs H T' U' size dep dflt φ δ root) n) :: (δ, oδ) :: (β, oβ) :: HG) _ kT kF (newsSub kN ?zsu6) kB kX kP kD kS (fun p hp => kO p (?zsu6 p hp)) ?zcu6
  case zsu6 => k_extra "MySub"
  case zcu6 => exact ⟨R, HG, rfl, rfl, HH, List.prefix_refl _, by k_extra "MyOm"⟩
set_option maxHeartbeats 2000000 in
set_option pp.deepTerms false in
set_option pp.deepTerms.threshold 6 in
theorem con_unfit7 {w : World} {τ dx δ β : Addr} {oδ oβ : Obj} {H : Nat → Int} {T' U' : Nat → Tok} {size dep n : Nat} {dflt root : B} {φ : Addr} {c₀ : Nat} {R : List B} {HG : List (Addr × Obj)} {bad : Value}
    (HH : HashG w φ c₀ R HG) (hRl : R.length + 40 ≤ 16777216) (hdep : dep = 8 * size) (hsz1 : 1 ≤ size) (hsz2 : size ≤ 2) (hr : root.length = 32) (key : B) (hkey : key.length = size) (hbad : BadV β oβ bad) (tk tw : Tok)
    (hc1 : @LE.le Nat _ c₀ τ) (hc2 : @LE.le Nat _ c₀ dx) (hc3 : @LE.le Nat _ c₀ δ) (hc4 : @LE.le Nat _ c₀ β) :
    ConT w 360 560 221 [.ref τ, .int 7 tw, .bytes key.toArray tk, bad, .ref φ] ((τ, instObj 147 dx) :: (dx, dictOf (treeEs H T' U' size dep dflt φ δ root) n) :: (δ, oδ) :: (β, oβ) :: HG)
      (fun v nw => (X2 fun (R' : List B) (HG' : List (Addr × Obj)) => A5 (v = .bool true) (nw = (τ, instObj 147 dx) :: (dx, dictOf (treeEs H T' U' size dep dflt φ δ root) n) :: (δ, oδ) :: (β, oβ) :: HG') (HashG w φ c₀ R' HG') (R <+: R') (R'.length ≤ R.length + 17))) := by
  unfold ConT
  k_fill
  intro p loose mean mg mb dp un gd cn cs a ccd outer A₀ base h₀ L m s Rr Bl F X N T XB TB kdD hk hd hu hret
  k_extra "MyEnterT"
  k_extra "MySteps"
  dsimp only [InitBack]
  k_extra "MySteps"
  rename_i kh kT kF kN kB kX kP kD kS kO
  refine' hret _ _ _ ((τ, instObj 147 dx) :: (dx, dictOf (treeEs H T' U' size dep dflt φ δ root) n) :: (δ, oδ) :: (β, oβ) :: HG) _ kT kF (newsSub kN ?zsu7) kB kX kP kD kS (fun p hp => kO p (?zsu7 p hp)) ?zcu7
  case zsu7 => k_extra "MySub"
  case zcu7 => exact ⟨R, HG, rfl, rfl, HH, List.prefix_refl _, by k_extra "MyOm"⟩
set_option maxHeartbeats 2000000 in
set_option pp.deepTerms false in
set_option pp.deepTerms.threshold 6 in
theorem con_unfit8 {w : World} {τ dx δ β : Addr} {oδ oβ : Obj} {H : Nat → Int} {T' U' : Nat → Tok} {size dep n : Nat} {dflt root : B} {φ : Addr} {c₀ : Nat} {R : List B} {HG : List (Addr × Obj)} {bad : Value}
    (HH : HashG w φ c₀ R HG) (hRl : R.length + 40 ≤ 16777216) (hdep : dep = 8 * size) (hsz1 : 1 ≤ size) (hsz2 : size ≤ 2) (hr : root.length = 32) (key : B) (hkey : key.length = size) (hbad : BadV β oβ bad) (tk tw : Tok)
    (hc1 : @LE.le Nat _ c₀ τ) (hc2 : @LE.le Nat _ c₀ dx) (hc3 : @LE.le Nat _ c₀ δ) (hc4 : @LE.le Nat _ c₀ β) :
    ConT w 360 560 221 [.ref τ, .int 8 tw, .bytes key.toArray tk, bad, .ref φ] ((τ, instObj 147 dx) :: (dx, dictOf (treeEs H T' U' size dep dflt φ δ root) n) :: (δ, oδ) :: (β, oβ) :: HG)
      (fun v nw => (X2 fun (R' : List B) (HG' : List (Addr × Obj)) => A5 (v = .bool true) (nw = (τ, instObj 147 dx) :: (dx, dictOf (treeEs H T' U' size dep dflt φ δ root) n) :: (δ, oδ) :: (β, oβ) :: HG') (HashG w φ c₀ R' HG') (R <+: R') (R'.length ≤ R.length + 17))) := by
  unfold ConT
  k_fill
  intro p loose mean mg mb dp un gd cn cs a ccd outer A₀ base h₀ L m s Rr Bl F X N T XB TB kdD hk hd hu hret
  subst hkey
  have hq0 : ([] : B).length ≤ 1000 := Nat.zero_le _
  have hq1 : (root.drop 1).length = 31 := by rw [List.length_drop, hr]
  k_extra "MyEnterT"
  k_extra "MySteps"
  rename_i kh kT kF kN kB kX kP kD kS kO
  rename HashG _ _ _ _ _ => HH2
  rename R <+: _ => hp2
  rename List.length _ ≤ List.length R + 17 => hn2
  rename List (Addr × Obj) => n2
  revert n2
  rename List (Addr × Obj) => G2
  intro n2 N2 G3
  refine' hret _ _ _ ((τ, instObj 147 dx) :: (dx, dictOf (treeEs H T' U' (List.length key) dep dflt φ δ root) n) :: (δ, oδ) :: (β, oβ) :: G2) _ kT kF (newsSub kN ?zsu8) kB kX kP kD kS (fun p hp => kO p (?zsu8 p hp)) ?zcu8
  case zcu8 => exact ⟨_, _, rfl, rfl, HH2, hp2, hn2⟩
  case zsu8 => k_extra "MySub"
theorem con_unfit {w : World} {τ dx δ β : Addr} {oδ oβ : Obj} {H : Nat → Int} {T' U' : Nat → Tok} {size dep n : Nat} {dflt root : B} {φ : Addr} {c₀ : Nat} {R : List B} {HG : List (Addr × Obj)} {bad : Value}
    (HH : HashG w φ c₀ R HG) (hRl : R.length + 40 ≤ 16777216) (hdep : dep = 8 * size) (hsz1 : 1 ≤ size) (hsz2 : size ≤ 2) (hr : root.length = 32) (key : B) (hkey : key.length = size) (hbad : BadV β oβ bad) (k : Nat) (hk : k < 9) (tk tw : Tok)
    (hc1 : @LE.le Nat _ c₀ τ) (hc2 : @LE.le Nat _ c₀ dx) (hc3 : @LE.le Nat _ c₀ δ) (hc4 : @LE.le Nat _ c₀ β) :
    ConT w 360 560 221 [.ref τ, .int (k : Int) tw, .bytes key.toArray tk, bad, .ref φ] ((τ, instObj 147 dx) :: (dx, dictOf (treeEs H T' U' size dep dflt φ δ root) n) :: (δ, oδ) :: (β, oβ) :: HG)
      (fun v nw => (X2 fun (R' : List B) (HG' : List (Addr × Obj)) => A5 (v = .bool true) (nw = (τ, instObj 147 dx) :: (dx, dictOf (treeEs H T' U' size dep dflt φ δ root) n) :: (δ, oδ) :: (β, oβ) :: HG') (HashG w φ c₀ R' HG') (R <+: R') (R'.length ≤ R.length + 17))) :=
  match k, hk with
  | 0, _ => con_unfit0 HH hRl hdep hsz1 hsz2 hr key hkey hbad tk tw hc1 hc2 hc3 hc4
  | 1, _ => con_unfit1 HH hRl hdep hsz1 hsz2 hr key hkey hbad tk tw hc1 hc2 hc3 hc4
  | 2, _ => con_unfit2 HH hRl hdep hsz1 hsz2 hr key hkey hbad tk tw hc1 hc2 hc3 hc4
  | 3, _ => con_unfit3 HH hRl hdep hsz1 hsz2 hr key hkey hbad tk tw hc1 hc2 hc3 hc4
  | 4, _ => con_unfit4 HH hRl hdep hsz1 hsz2 hr key hkey hbad tk tw hc1 hc2 hc3 hc4
  | 5, _ => con_unfit5 HH hRl hdep hsz1 hsz2 hr key hkey hbad tk tw hc1 hc2 hc3 hc4
  | 6, _ => con_unfit6 HH hRl hdep hsz1 hsz2 hr key hkey hbad tk tw hc1 hc2 hc3 hc4
  | 7, _ => con_unfit7 HH hRl hdep hsz1 hsz2 hr key hkey hbad tk tw hc1 hc2 hc3 hc4
  | 8, _ => con_unfit8 HH hRl hdep hsz1 hsz2 hr key hkey hbad tk tw hc1 hc2 hc3 hc4
theorem words18 : True := by
  -- _law_tells: a loop whose ground changes; calls laid aside for the hand
  k_with "exec For Name Name cons nil" => (with_unfolding_all refine' For_G ?_ (fun _ => rfl)); k_whole
  k_with "pyIter ref" => ((with_reducible show wpAny _ _ (pyIter (Value.ref _)) (fun it s₂ => LoopG _ _ _ _ _ _ _ _ _ it s₂) _ _); refine Hold.mk ?_)
  k_with "getMethod ref" => ((with_reducible show wpAny _ _ (getMethod (Value.ref _) (Str.ofString "get") _) _ _ _); k_dflt (refine' dictB_method (knd := bytesKind _ _) ?myN ?mym ?myd ?_; (case myN => k_asm); (case mym => k_mem); (case myd => assumption)))
  k_with "call builtin:dict.get" => (k_dflt (refine' dictB_get3 ?myN ?mym ?myd ?mylo (bkey _ _ _ _) ?myz ?_; (case myN => k_asm); (case mym => k_mem); (case myd => assumption); (case mylo => assumption); (case myz => assumption)); intro _)
  k_with "call ref" => ((with_reducible show wpAny _ _ (call (Value.ref 207) _) _ _ _); refine Hold.mk ?_)
  k_with "call ref" => ((with_reducible show wpAny _ _ (call (Value.ref 144) _) _ _ _); refine Hold.mk ?_)
  k_with "call ref" => ((with_reducible show wpAny _ _ (call (Value.ref 109) _) _ _ _); refine Hold.mk ?_)
  k_with "call ref" => ((with_reducible show wpAny _ _ (call (Value.ref 179) _) _ _ _); refine Hold.mk ?_)
  k_with "call ref" => ((with_reducible show wpAny _ _ (call (Value.ref 48) _) _ _ _); refine Hold.mk ?_)
  k_with "MyTail" => first | with_reducible exact subId _ | with_reducible exact subL _ _ | with_reducible exact subR _ _ | (with_reducible refine subC ?_; k_extra "MyTail") | (with_reducible refine subApp ?_ ?_ <;> k_extra "MyTail") | (with_reducible refine subMid ?_; k_extra "MyTail")
  k_with "MyOff" => first | exact offNil | (refine offCons (by k_extra "MyAll") ?_; k_extra "MyOff")
  k_with "MyCut" => first | exact Cut.nil | (refine' Cut.dropIf ?cutA ?cutB; (case cutA => k_extra "MyMem"); (case cutB => k_extra "MyCut")) | (refine' Cut.keep ?cutC ?cutD; (case cutC => first | k_extra "MyAll" | fail "MyAll"); (case cutD => k_extra "MyCut")) | (refine' HashG.cutK ?myHa ?myHb; (case myHa => assumption); (case myHb => assumption)) | (refine' HashG.cutB ?myHa ?myHc ?myHb; (case myHa => assumption); (case myHc => k_extra "MyAll"); (case myHb => assumption)) | (refine' Cut.off ?myHo; (case myHo => k_extra "MyOff"))
  k_with "MyGot" => ((case my1 => assumption); (case my2 => assumption); (case my3 => assumption); (case my4 => assumption); (case my5 => assumption); (case my6 => assumption); (case my7 => assumption); k_extra "MyUseT")
  k_with "compareOp NotEq bytes bytes" => first | (with_reducible refine ne_bF rfl ?_) | (with_reducible refine ne_bF (by assumption) ?_) | (with_reducible refine ne_bT (by assumption) ?_)
  k_with "compareOp NotEq ref ref" => refine Hold.mk ?_
  k_with "MyRoom" => (have hcL' := cLine_is; (try dsimp only [ktrTop, Around.deeper, Around.under, Around.in1, Around.mark]); k_extra "MyOm")
  k_with "MyUseC" => ((case myB => k_asm); (case myF => k_asm); (case myX => k_asm); (case myN => k_asm); (case myT => k_asm); (case myk => first | exact rfl | assumption); (case myd => k_extra "MyLe"); (case myu => k_extra "MyLe"); (case mys => k_extra "MySub"); (case myct => k_extra "MyCut"))
  k_with "ite" => first | (with_reducible refine ite_pos rfl ?_) | (with_reducible refine ite_neg Bool.false_ne_true ?_)
  k_with "compareOp Eq bytes bytes" => (with_reducible refine eq_bT rfl ?_)
  k_with "subscriptTail Name Constant ref int" => ((with_reducible show wpAny _ _ (subscriptTail _ _ (Value.ref _) (Value.int 0 _)) _ _ _); k_dflt (refine' item_V0 ?myN ?mym ?myx ?_; (case myN => k_asm); (case mym => k_mem); (case myx => assumption)))
  trivial
set_option maxHeartbeats 800000 in
set_option pp.deepTerms false in
set_option pp.deepTerms.threshold 6 in
theorem con_tells {w : World} {τ dx δ η κ : Addr} {oδ oh : Obj} {H : Nat → Int} {T' U' : Nat → Tok} {size dep c : Nat} {dflt root : B} {φ kn : Addr} {c₀ : Nat} {R : List B} {HG KG : List (Addr × Obj)} {D hh : List (B × B)} {kvs : List Value} {keys : List B}
    (HH : HashG w φ c₀ R HG) (hRl : R.length + 500 ≤ 16777216) (hdep : dep = 8 * size) (hsz1 : 1 ≤ size) (hsz2 : size ≤ 2) (hv : dflt.length ≤ 1000)
    (hD : DictB (bytesKind Challenge.rw_iu0035_01.row.prog w) oδ D) (hok : DbOk R D) (hroot : TN D (valOf hh dflt) dep 0 root)
    (hoh : DictB (bytesKind Challenge.rw_iu0035_01.row.prog w) oh hh) (hηm : (η == sysModules) = false) (hks : ∀ q ∈ hh, q.1.length = size) (hvs : ∀ k, (valOf hh dflt k).length ≤ 1000)
    (hkl : BL kvs keys) (hk0 : 1 ≤ keys.length) (hk4 : keys.length ≤ 4) (hkz : ∀ k ∈ keys, k.length = size)
    (hK : Known w R (valOf hh dflt) dep kn KG) (td : Tok)
    (hc1 : @LE.le Nat _ c₀ τ) (hc2 : @LE.le Nat _ c₀ dx) (hc3 : @LE.le Nat _ c₀ δ) (hc4 : @LE.le Nat _ c₀ η) (hc5 : @LE.le Nat _ c₀ κ) (hcK : ∀ p ∈ KG, @LE.le Nat _ c₀ p.1)
    (n1 : τ ≠ dx) (n2 : τ ≠ δ) (n3 : τ ≠ η) (n4 : τ ≠ κ) (n5 : dx ≠ δ) (n6 : dx ≠ η) (n7 : dx ≠ κ) (n8 : δ ≠ η) (n9 : δ ≠ κ) (n10 : η ≠ κ)
    (k1 : ∀ p ∈ KG, p.1 ≠ τ) (k2 : ∀ p ∈ KG, p.1 ≠ dx) (k3 : ∀ p ∈ KG, p.1 ≠ δ) (k4 : ∀ p ∈ KG, p.1 ≠ η) (k5 : ∀ p ∈ KG, p.1 ≠ κ) :
    ConT w 360 560 214 [.ref τ, .ref η, .ref κ, .bytes dflt.toArray td, .ref kn, .ref φ] ((τ, instObj 147 dx) :: (dx, dictOf (treeEs H T' U' size dep dflt φ δ root) 6) :: (δ, oδ) :: (η, oh) :: (κ, listOf kvs.toArray c) :: (KG ++ HG))
      (fun v nw => (X2 fun (R' : List B) (HG' : List (Addr × Obj)) => A5 (v = .bool true) (nw = (τ, instObj 147 dx) :: (dx, dictOf (treeEs H T' U' size dep dflt φ δ root) 6) :: (δ, oδ) :: (η, oh) :: (κ, listOf kvs.toArray c) :: (KG ++ HG')) (HashG w φ c₀ R' HG') (R <+: R') (R'.length ≤ R.length + 80))) := by
  unfold ConT
  k_fill
  intro p loose mean mg mb dp un gd cn cs a ccd outer A₀ base h₀ L m s Rr Bl F X N T XB TB kdD hk hd hu hret
  k_extra "MyEnterT"
  k_extra "MySteps"
  rename_i g0 L0 h1 FG0 F0 N0 B0 X0 T0 D0 l1
  refine Hold.un ?_
  refine' loop_G (fun i g m nw => (X2 fun (Ri : List B) (Gi : List (Addr × Obj)) => A15 (nw = (τ, instObj 147 dx) :: (dx, dictOf (treeEs H T' U' size dep dflt φ δ root) 6) :: (δ, oδ) :: (η, oh) :: (κ, listOf kvs.toArray c) :: (KG ++ Gi)) (HashG w φ c₀ Ri Gi) (R <+: Ri) (Ri.length ≤ R.length + 17 * i) (KtsTurn ((envOf cn cs L a ccd :: outer).filterMap (·.frame)) g0 g) (Below (ktrTop dp un gd cn cs L a ccd [] outer) base (envOf cn cs L a ccd :: outer) g) ((Mine.hd.heap_39 w.params).In g) (Top p loose mean mg mb g) (KtsDicts ((envOf cn cs L a ccd :: outer).filterMap (·.frame)) g) (m (Str.ofString "tree") = some (.ref τ)) (m (Str.ofString "held") = some (.ref η)) (m (Str.ofString "keys") = some (.ref κ)) (m (Str.ofString "default") = some (.bytes dflt.toArray td)) (m (Str.ofString "known") = some (.ref kn)) (m (Str.ofString "hash_of") = some (.ref φ))))
    rfl rfl rfl F0 N0 ?memT ?iniT ?turnT ?doneT
  case memT => rintro i g m nw ⟨Ri, Gi, rfl, _⟩; k_extra "MyMem"
  case iniT => exact ⟨R, HG, rfl, HH, List.prefix_refl _, Nat.le_refl _, KtsTurn.refl, B0, X0, T0, D0, rfl, rfl, rfl, rfl, rfl, rfl⟩
  case turnT =>
    rintro i v g m₁ nw h tk0 I oI hik ⟨Ri, Gi, rfl, HHi, hpi, hRi, tT, tB, tX, tP, tD, e1, e2, e3, e4, e5, e6⟩ hnew hI F2 N2
    obtain ⟨key, tk', hkx, rfl⟩ := hkl.at (by simpa using hik)
    have hil : i < keys.length := (List.getElem?_eq_some_iff.mp hkx).1
    have hkey : key.length = size := hkz key (List.mem_of_getElem? hkx)
    have hpath := key_lt hkey hdep
    have hdue : (lk hh key).getD dflt = valOf hh dflt (natOf key) := valOf_key hks hkey
    have lI := hnew
    k_lt lI
    obtain ⟨lIa, lIb, lIc, lId, lIe, lIf⟩ := lI
    have kI : ∀ p ∈ KG, p.1 ≠ I := fun p hp => hI p (by simp [hp])
    have F3 := frKnow (frKnow (frKnow (frKnow (frKnow (frKnow F2 (n := Str.ofString "tree") (by k_extra "MyKnow")) (n := Str.ofString "held") (by k_extra "MyKnow")) (n := Str.ofString "keys") (by k_extra "MyKnow")) (n := Str.ofString "default") (by k_extra "MyKnow")) (n := Str.ofString "known") (by k_extra "MyKnow")) (n := Str.ofString "hash_of") (by k_extra "MyKnow")
    clear F2 F0 B0 X0 D0 FG0
    by_cases hvv : valOf hh dflt (natOf key) = []
    · k_extra "MySteps"
      refine Hold.un ?_
      refine' ConT.useR (con_got0 hD hdep hsz1 hsz2 hroot key hkey hpath _ _) ?myB ?myF ?myX ?myN ?myT ?myXB ?myTB ?myD ?myk ?myd ?myu ?mys ?myct ?_; k_extra "MyUseT"
      intro v4 h4 tk4 nw4 g4 tT4 F4 N4 B4 X4 P4 D4 po ap
      obtain ⟨rfl, p4, _⟩ := po
      simp only [List.cons_append, List.nil_append] at N4
      obtain rfl := p4 hvv
      k_extra "MySteps"
      refine Hold.un ?_
      refine' ConT.useR (con_contains hD hdep hsz1 hsz2 hroot key hkey hpath _) ?myB ?myF ?myX ?myN ?myT ?myXB ?myTB ?myD ?myk ?myd ?myu ?mys ?myct ?_; k_extra "MyUseT"
      intro v5 h5 tk5 nw5 g5 tT5 F5 N5 B5 X5 P5 D5 po ap
      obtain ⟨rfl, rfl⟩ := po
      simp only [List.cons_append, List.nil_append] at N5
      rw [decide_eq_false (not_not_intro hvv)]
      k_extra "MySteps"
      refine Hold.un ?_
      refine' Con.useR (con_beside hK hdep hsz1 hsz2 key hkey _) ?myB ?myF ?myX ?myN ?myT ?myk ?myd ?myu ?mys ?myct ?_; k_extra "MyUseC"
      intro v6 h6 tk6 nw6 F6 N6 po ap
      obtain ⟨r, bs, ys, rfl, rfl, hbs, hys, hyn, hrK⟩ := po
      have hrn := ap (r, tupOf bs) (.head _) (fun hm => by obtain ⟨p, hp, e⟩ := List.mem_map.mp hm; exact absurd e (Nat.ne_of_lt (hrK p hp)))
      simp only [List.forall_mem_cons] at hrn
      obtain ⟨r1, r2, r3, r6, r4, r5, -⟩ := hrn
      have hcr : @LE.le Nat _ c₀ r := hK.low hcK hrK
      have hrK' : ∀ p ∈ KG, p.1 ≠ r := fun p hp => Nat.ne_of_lt (hrK p hp)
      have N7 := newsSub N6 (small := (r, tupOf bs) :: (I, oI) :: (τ, instObj 147 dx) :: (dx, dictOf (treeEs H T' U' size dep dflt φ δ root) 6) :: (δ, oδ) :: (η, oh) :: (κ, listOf kvs.toArray c) :: (KG ++ Gi)) (by k_extra "MySb")
      clear N6 ap
      k_extra "MySteps"
      refine Hold.un ?_
      refine' ConT.useR (con_got2 hD hdep hsz1 hsz2 hroot key hkey hpath _ _) ?myB ?myF ?myX ?myN ?myT ?myXB ?myTB ?myD ?myk ?myd ?myu ?mys ?myct ?_; k_extra "MyUseT"
      intro v8 h8 tk8 nw8 g8 tT8 F8 N8 B8 X8 P8 D8 po ap
      obtain ⟨p8, _⟩ := po
      obtain ⟨rfl, rfl⟩ := p8 hvv
      simp only [List.cons_append, List.nil_append] at N8
      k_extra "MySteps"
      have hroot2 : NR Ri (valOf hh dflt) dep 0 root := (hroot.toNR hok).mono hpi
      have N9 := newsSub N8 (small := (r, tupOf bs) :: (I, oI) :: (τ, instObj 147 dx) :: (dx, dictOf (treeEs H T' U' size dep dflt φ δ root) 6) :: (δ, oδ) :: (η, oh) :: (κ, listOf kvs.toArray c) :: (KG ++ Gi)) (by k_extra "MySb")
      clear N8
      refine Hold.un ?_
      refine' Con.use (con_root HHi (by k_extra "MyOm") hdep hsz1 hsz2 key hkey hpath _ (valOf hh dflt (natOf key)) (hvs _) _ rfl hbs hys (fun j y hj => (hyn j y hj).mono hpi) hcr) ?myB ?myF ?myX ?myN ?myT ?myk ?myd ?myu ?mys ?myct ?_; k_extra "MyUseC"
      intro v10 h10 tk10 nw10 F10 N10 po ap
      obtain ⟨R2, G2, x2, t2, rfl, rfl, HH2, hp2, hn2, hx2⟩ := po
      have e10 : root = x2 := (hroot2.mono hp2).fn HH2.nodup hx2
      subst e10
      simp only [List.cons_append] at N10
      k_extra "MySteps"
      rename Fr g8 L0 _ _ => F11
      rename News g8 L0 _ _ => N11
      refine TurnG.sub ((τ, instObj 147 dx) :: (dx, dictOf (treeEs H T' U' size dep dflt φ δ root) 6) :: (δ, oδ) :: (η, oh) :: (κ, listOf kvs.toArray c) :: (KG ++ G2)) F11 N11 (by k_extra "MySub") (by k_extra "MyAll") ⟨R2, G2, rfl, HH2, hpi.trans hp2, by k_extra "MyOm", tT.trans (tT4.trans (tT5.trans tT8)), B8, X8, P8, D8, rfl, rfl, rfl, rfl, rfl, rfl⟩
    · k_extra "MySteps"
      refine Hold.un ?_
      refine' ConT.useR (con_got0 hD hdep hsz1 hsz2 hroot key hkey hpath _ _) ?myB ?myF ?myX ?myN ?myT ?myXB ?myTB ?myD ?myk ?myd ?myu ?mys ?myct ?_; k_extra "MyUseT"
      intro v4 h4 tk4 nw4 g4 tT4 F4 N4 B4 X4 P4 D4 po ap
      obtain ⟨rfl, _, p4⟩ := po
      simp only [List.cons_append, List.nil_append] at N4
      obtain ⟨t4, rfl⟩ := p4 hvv
      k_extra "MySteps"
      refine Hold.un ?_
      refine' ConT.useR (con_contains hD hdep hsz1 hsz2 hroot key hkey hpath _) ?myB ?myF ?myX ?myN ?myT ?myXB ?myTB ?myD ?myk ?myd ?myu ?mys ?myct ?_; k_extra "MyUseT"
      intro v5 h5 tk5 nw5 g5 tT5 F5 N5 B5 X5 P5 D5 po ap
      obtain ⟨rfl, rfl⟩ := po
      simp only [List.cons_append, List.nil_append] at N5
      rw [decide_eq_true hvv]
      k_extra "MySteps"
      refine Hold.un ?_
      refine' Con.useR (con_beside hK hdep hsz1 hsz2 key hkey _) ?myB ?myF ?myX ?myN ?myT ?myk ?myd ?myu ?mys ?myct ?_; k_extra "MyUseC"
      intro v6 h6 tk6 nw6 F6 N6 po ap
      obtain ⟨r, bs, ys, rfl, rfl, hbs, hys, hyn, hrK⟩ := po
      have hrn := ap (r, tupOf bs) (.head _) (fun hm => by obtain ⟨p, hp, e⟩ := List.mem_map.mp hm; exact absurd e (Nat.ne_of_lt (hrK p hp)))
      simp only [List.forall_mem_cons] at hrn
      obtain ⟨r1, r2, r3, r6, r4, r5, -⟩ := hrn
      have hcr : @LE.le Nat _ c₀ r := hK.low hcK hrK
      have hrK' : ∀ p ∈ KG, p.1 ≠ r := fun p hp => Nat.ne_of_lt (hrK p hp)
      have N7 := newsSub N6 (small := (r, tupOf bs) :: (I, oI) :: (τ, instObj 147 dx) :: (dx, dictOf (treeEs H T' U' size dep dflt φ δ root) 6) :: (δ, oδ) :: (η, oh) :: (κ, listOf kvs.toArray c) :: (KG ++ Gi)) (by k_extra "MySb")
      clear N6 ap
      k_extra "MySteps"
      refine Hold.un ?_
      refine' ConT.useR (con_got2 hD hdep hsz1 hsz2 hroot key hkey hpath _ _) ?myB ?myF ?myX ?myN ?myT ?myXB ?myTB ?myD ?myk ?myd ?myu ?mys ?myct ?_; k_extra "MyUseT"
      intro v8 h8 tk8 nw8 g8 tT8 F8 N8 B8 X8 P8 D8 po ap
      obtain ⟨_, p8⟩ := po
      obtain ⟨b2, vs2, xs2, rfl, rfl, hb1, hb2, hb3, w1, w2, w3⟩ := p8 hvv
      simp only [List.cons_append, List.nil_append] at N8
      obtain rfl : xs2 = ys := rowsEq HHi.nodup hb2 hys (fun j y hj => ((hb3 j y hj).toNR hok).mono hpi) (fun j y hj => (hyn j y hj).mono hpi)
      k_extra "MySteps"
      refine Hold.un ?_
      refine ne_tup N8 (a := b2) (b := r) (vs := vs2) (us := bs) (xs := xs2) (.head _) (by simp) hb1 hbs (by k_extra "MyRoom") ?_
      k_extra "MySteps"
      have hroot2 : NR Ri (valOf hh dflt) dep 0 root := (hroot.toNR hok).mono hpi
      have N9 := newsSub N8 (small := (r, tupOf bs) :: (I, oI) :: (τ, instObj 147 dx) :: (dx, dictOf (treeEs H T' U' size dep dflt φ δ root) 6) :: (δ, oδ) :: (η, oh) :: (κ, listOf kvs.toArray c) :: (KG ++ Gi)) (by k_extra "MySb")
      clear N8
      refine Hold.un ?_
      refine' Con.use (con_root HHi (by k_extra "MyOm") hdep hsz1 hsz2 key hkey hpath _ (valOf hh dflt (natOf key)) (hvs _) _ rfl hbs hys (fun j y hj => (hyn j y hj).mono hpi) hcr) ?myB ?myF ?myX ?myN ?myT ?myk ?myd ?myu ?mys ?myct ?_; k_extra "MyUseC"
      intro v10 h10 tk10 nw10 F10 N10 po ap
      obtain ⟨R2, G2, x2, t2, rfl, rfl, HH2, hp2, hn2, hx2⟩ := po
      have e10 : root = x2 := (hroot2.mono hp2).fn HH2.nodup hx2
      subst e10
      simp only [List.cons_append] at N10
      k_extra "MySteps"
      rename Fr g8 L0 _ _ => F11
      rename News g8 L0 _ _ => N11
      refine TurnG.sub ((τ, instObj 147 dx) :: (dx, dictOf (treeEs H T' U' size dep dflt φ δ root) 6) :: (δ, oδ) :: (η, oh) :: (κ, listOf kvs.toArray c) :: (KG ++ G2)) F11 N11 (by k_extra "MySub") (by k_extra "MyAll") ⟨R2, G2, rfl, HH2, hpi.trans hp2, by k_extra "MyOm", tT.trans (tT4.trans (tT5.trans tT8)), B8, X8, P8, D8, rfl, rfl, rfl, rfl, rfl, rfl⟩
  case doneT =>
    rintro g m₁ nw h tk0 ⟨Ri, Gi, rfl, HHi, hpi, hRi, tT, tB, tX, tP, tD, e1, e2, e3, e4, e5, e6⟩ F2 N2
    obtain ⟨key, hkx⟩ : ∃ k, keys[0]? = some k := ⟨_, List.getElem?_eq_getElem (by k_extra "MyOm")⟩
    obtain ⟨tk', hv0⟩ := hkl.get hkx
    have hkvl : kvs.toArray.size = keys.length := by rw [List.size_toArray, hkl.length]
    have hkey : key.length = size := hkz key (List.mem_of_getElem? hkx)
    have hpath := key_lt hkey hdep
    have hdue : (lk hh key).getD dflt = valOf hh dflt (natOf key) := valOf_key hks hkey
    have F3 := frKnow (frKnow (frKnow (frKnow F2 (n := Str.ofString "tree") (by k_extra "MyKnow")) (n := Str.ofString "held") (by k_extra "MyKnow")) (n := Str.ofString "keys") (by k_extra "MyKnow")) (n := Str.ofString "default") (by k_extra "MyKnow")
    clear F2 F0 B0 X0 D0 FG0
    by_cases hvv : valOf hh dflt (natOf key) = []
    · k_extra "MySteps"
      refine Hold.un ?_
      refine' ConT.useR (con_got1 hD hdep hsz1 hsz2 hroot key hkey hpath _ _) ?myB ?myF ?myX ?myN ?myT ?myXB ?myTB ?myD ?myk ?myd ?myu ?mys ?myct ?_; k_extra "MyUseT"
      intro v4 h4 tk4 nw4 g4 tT4 F4 N4 B4 X4 P4 D4 po ap
      obtain ⟨rfl, p4, _⟩ := po
      simp only [List.cons_append, List.nil_append] at N4
      obtain rfl := p4 hvv
      k_extra "MySteps"
      refine Hold.un ?_
      refine' ConT.useR (con_exists hD hdep hsz1 hsz2 hroot key hkey hpath _) ?myB ?myF ?myX ?myN ?myT ?myXB ?myTB ?myD ?myk ?myd ?myu ?mys ?myct ?_; k_extra "MyUseT"
      intro v5 h5 tk5 nw5 g5 tT5 F5 N5 B5 X5 P5 D5 po ap
      obtain ⟨rfl, rfl⟩ := po
      simp only [List.cons_append, List.nil_append] at N5
      rw [decide_eq_false (not_not_intro hvv)]
      k_extra "MySteps"
      rename Fr g5 L0 _ _ => F9
      rename News g5 L0 _ _ => N9
      refine leaveT_ F9 N9 (tT.trans (tT4.trans tT5)) ?_
      intro kh kT kF kN kB kX kP kD kS kO
      refine' hret _ _ _ ((τ, instObj 147 dx) :: (dx, dictOf (treeEs H T' U' size dep dflt φ δ root) 6) :: (δ, oδ) :: (η, oh) :: (κ, listOf kvs.toArray c) :: (KG ++ Gi)) _ kT kF (newsSub kN ?zst0) kB kX kP kD kS (fun p hp => kO p (?zst0 p hp)) ?zct0
      case zst0 => k_extra "MySub"
      case zct0 => exact ⟨Ri, Gi, rfl, rfl, HHi, hpi, by k_extra "MyOm"⟩
    · k_extra "MySteps"
      refine Hold.un ?_
      refine' ConT.useR (con_got1 hD hdep hsz1 hsz2 hroot key hkey hpath _ _) ?myB ?myF ?myX ?myN ?myT ?myXB ?myTB ?myD ?myk ?myd ?myu ?mys ?myct ?_; k_extra "MyUseT"
      intro v4 h4 tk4 nw4 g4 tT4 F4 N4 B4 X4 P4 D4 po ap
      obtain ⟨rfl, _, p4⟩ := po
      simp only [List.cons_append, List.nil_append] at N4
      obtain ⟨t4, rfl⟩ := p4 hvv
      k_extra "MySteps"
      refine Hold.un ?_
      refine' ConT.useR (con_exists hD hdep hsz1 hsz2 hroot key hkey hpath _) ?myB ?myF ?myX ?myN ?myT ?myXB ?myTB ?myD ?myk ?myd ?myu ?mys ?myct ?_; k_extra "MyUseT"
      intro v5 h5 tk5 nw5 g5 tT5 F5 N5 B5 X5 P5 D5 po ap
      obtain ⟨rfl, rfl⟩ := po
      simp only [List.cons_append, List.nil_append] at N5
      rw [decide_eq_true hvv]
      k_extra "MySteps"
      rename Fr g5 L0 _ _ => F9
      rename News g5 L0 _ _ => N9
      refine leaveT_ F9 N9 (tT.trans (tT4.trans tT5)) ?_
      intro kh kT kF kN kB kX kP kD kS kO
      refine' hret _ _ _ ((τ, instObj 147 dx) :: (dx, dictOf (treeEs H T' U' size dep dflt φ δ root) 6) :: (δ, oδ) :: (η, oh) :: (κ, listOf kvs.toArray c) :: (KG ++ Gi)) _ kT kF (newsSub kN ?zst1) kB kX kP kD kS (fun p hp => kO p (?zst1 p hp)) ?zct1
      case zst1 => k_extra "MySub"
      case zct1 => exact ⟨Ri, Gi, rfl, rfl, HHi, hpi, by k_extra "MyOm"⟩
theorem wordsOff : True := by
  k_with_none
  trivial
theorem words1again : True := by
  -- ## lines of our own
  -- one ledger in another
  k_with "MyIn" => first | with_reducible exact List.mem_cons_self | (with_reducible refine List.mem_cons_of_mem _ ?_; k_extra "MyIn") | (with_reducible refine List.mem_append_left _ ?_; k_extra "MyIn") | (with_reducible refine List.mem_append_right _ ?_; k_extra "MyIn") | assumption
  k_with "MySg" => first | with_reducible exact fun _ hp => hp | (with_reducible refine subInC ?_; k_extra "MySg") | (with_reducible refine subInL ?_; k_extra "MySg") | (with_reducible refine subInR ?_; k_extra "MySg") | assumption
  k_with "MySb" => first | with_reducible exact List.forall_mem_nil _ | (with_reducible refine' subIn1 ?msA ?msB; (case msA => k_extra "MyIn"); (case msB => k_extra "MySb")) | (with_reducible refine subInA ?_ ?_ <;> k_extra "MySb") | k_extra "MySg"
  -- order of addresses without omega's long terms
  k_with "MyLq" => first | with_reducible exact bndn (by assumption) rfl | with_reducible exact bndnc (by assumption) rfl | with_reducible exact bnd0 (by assumption) rfl | with_reducible exact bnde (by assumption) rfl | with_reducible exact bndz (by assumption) | with_reducible exact bnde2 (by assumption) (by assumption) rfl | with_reducible exact bnd1 (by assumption) (by assumption) rfl | with_reducible exact bnd1z (by assumption) (by assumption) rfl | with_reducible exact bndr (by assumption) (by assumption) rfl | with_reducible exact bndt (by assumption) (by assumption) | with_reducible exact bnd2 (by assumption) (by assumption) (by assumption) rfl
  k_with "MyCj" => first | with_reducible exact hcj.1 | with_reducible exact hcj.2 | (replace hcj := hcj.2; k_extra "MyCj")
  k_with "MyConj" => first | with_reducible assumption | ((with_reducible rename And _ _ => hcj); first | k_extra "MyCj" | (clear hcj; k_extra "MyConj"))
  k_with "MyLeT" => ((with_reducible rename @LE.le Nat _ _ _ => hle'); first | (with_reducible refine Nat.le_of_lt (Nat.lt_of_le_of_lt hle' ?_); k_extra "MyConj") | (clear hle'; k_extra "MyLeT"))
  k_with "MyOm" => first | with_reducible assumption | with_reducible exact dbl1 (by assumption) | with_reducible exact dbl1s (by assumption) | with_reducible exact dbl0 (by assumption) | with_reducible exact dbl0s (by assumption) | with_reducible exact Nat.le_refl _ | ((with_reducible show @LE.le Nat _ _ (@OfNat.ofNat Nat _ _)); first | ((with_reducible show @LE.le Nat _ (@OfNat.ofNat Nat _ _) _); decide) | k_extra "MyLq" | omega) | (with_reducible refine Nat.ne_of_lt ?_; k_extra "MyConj") | (with_reducible refine Nat.ne_of_gt ?_; k_extra "MyConj") | ((with_reducible show @LT.lt Nat _ _ _); k_extra "MyConj") | ((with_reducible show @LE.le Nat _ _ _); first | k_extra "MyLq" | (with_reducible refine Nat.le_of_lt ?_; k_extra "MyConj") | k_extra "MyLeT") | omega
  k_with "MyKRoom" => first | ((try simp only [depth_under_make, depth_under_kw, depth_in1, depth_deeper, depth_caller]); decide) | ((try simp only [depth_under_make, depth_under_kw, depth_in1, depth_deeper, depth_caller, ktrTop, recursionLimit] at *); k_extra "MyOm")
  k_with "MyKNe" => first | ((try dsimp only); assumption) | ((try dsimp only); exact Ne.symm (by assumption)) | (refine neN ?_; (try dsimp only); k_extra "MyOm")
  k_with "MyKAll" => (refine' HashG.off ?myHa ?myHb; (case myHa => assumption); (case myHb => k_extra "MyOm"))
  k_with "execs cons" => ((with_reducible refine execs_gen ?_); intro kkQ hkkQ)
  k_with "MySteps" => repeat' (first | (k_unfold; (try dsimp only)) | ((with_reducible refine GenK.go (by assumption) _ _ ?_); (try clear hkkQ kkQ); (try dsimp only)) | walk1 | (dsimp only; walk1))
  k_with "MyEnter" => (k_dflt (refine' code_defS ?k1 ?k2 ?k3 ?k4 ?k5 ?kA ?kF ?kK ?k6 ?k7 ?k8 ?k9 ?kB ?_ ?c2 ?c3 ?c4 ?c5; (case kA => exact rfl); (case kF => exact rfl); (case kK => assumption); (case k1 => k_asm); (case k2 => k_asm); (case k3 => k_asm); (case k4 => k_asm); (case k5 => k_asm); (case k6 => k_is); (case k7 => k_is); (case k8 => k_room); (case k9 => first | exact BindsTo.of_eq rfl | exact binds_K (by k_in) rfl (by k_is) rfl rfl rfl | fail "no rule for these arguments"); (case c5 => decide); (case kB => exact locs rfl); (case c2 => exact rfl); (case c3 => exact rfl); (case c4 => exact rfl); k_whole; intro g' L' h' FG' F' N' B' X' T'; (try dsimp only); (try k_fold)))
  k_with "MyNest" => (k_dflt (refine' code_nestS ?k1 ?k2 ?k3 ?k4 ?k5 ?kA ?kF ?kK ?k6 ?k7 ?k8 ?k9 ?kB ?_ ?c2 ?c3 ?c4 ?c5; (case kA => exact rfl); (case kF => exact rfl); (case kK => assumption); (case k1 => k_asm); (case k2 => k_asm); (case k3 => k_asm); (case k4 => k_asm); (case k5 => k_asm); (case k6 => k_mem); (case k7 => exact codeRec_news (by k_asm) (by k_mem) (by assumption) (by assumption)); (case k8 => k_room); (case k9 => exact BindsTo.of_eq rfl); (case c5 => decide); (case kB => exact locs rfl); (case c2 => exact rfl); (case c3 => exact rfl); (case c4 => exact rfl); k_whole; intro g' L' h' FG' F' N' B' X' T'; (try dsimp only); (try k_fold)))
  k_with "LeaveS" => (k_dflt (refine' leaveS_ ?myk1 ?myk2 ?_; (case myk1 => k_asm); (case myk2 => k_asm)); intro kF' kN' kS' kO')
  k_with "eval Name" => (kc_free; k_dflt (refine' nameX_F ?myN ?myc ?mym ?myd ?_ ?mya ?myb; (case mya => rfl); (case myb => rfl); (case myN => k_asm); (case myc => rfl); (case mym => k_mem); (case myd => k_asm); k_whole))
  k_with "compareOp NotIn bytes ref" => (k_dflt (refine' dictB_notInB ?myN ?myp ?myd ?mylo (bkey _ _ _ _) ?myb ?_; (case myN => k_asm); (case myp => k_mem); (case myd => k_asm); (case mylo => k_asm); (case myb => first | exact isSome_f (by k_asm) | exact isSome_t (by k_asm)); k_whole))
  k_with "call builtin:len" => ((with_reducible show wpAny _ _ (call (Value.builtin "len") [Value.ref _]) _ _ _); k_dflt (refine' dictB_len (knd := bytesKind _ _) ?myN ?myp ?myd ?mylo ?myz ?_; (case myN => k_asm); (case myp => k_mem); (case myd => k_asm); (case mylo => k_asm); (case myz => (try simp only [regOf_length]); k_extra "MyOm"); k_whole); intro _ _)
  k_with "subscriptTail" => ((with_reducible show wpAny _ _ (subscriptTail _ _ (Value.ref _) (Value.bytes _ _)) _ _ _); k_dflt (refine' dictB_item ?myN ?myp ?myd (bkey _ _ _ _) ?myl ?_; (case myN => k_asm); (case myp => k_mem); (case myd => k_asm); (case myl => first | k_asm | exact lk_put_self _ _ _); k_whole); intro _)
  k_with "setItem ref bytes" => (k_dflt (refine' dictB_set ?myF ?myN ?myU ?myd (bkey _ _ _ _) ?myz ?_; (case myF => k_asm); (case myN => k_asm); (case myU => k_updF); (case myd => k_asm); (case myz => (try simp only [regOf_length]); k_extra "MyOm"); k_whole); intro h' o' F' N' hd'; (try dsimp only at N'))
  k_with "exec For Name Call cons nil" => ((rename Fr _ _ _ _ => lF'); (with_unfolding_all refine' For_invVF lF' ?myk1 ?myk2 ?_; (case myk1 => exact rfl); (case myk2 => exact rfl); k_whole))
  k_with "exec For Name Name cons nil" => ((rename Fr _ _ _ _ => lF'); (with_unfolding_all refine' For_invVF lF' ?myk1 ?myk2 ?_; (case myk1 => exact rfl); (case myk2 => exact rfl); k_whole))
  k_with "pyIter ref" => ((with_reducible show wpAny _ _ (pyIter (Value.ref _)) (fun it s₂ => LoopAtV _ _ _ _ _ _ _ _ _ it s₂) _ _); refine Hold.mk ?_)
  k_with "exec If" => (with_reducible refine wpAny_If ?_)
  trivial
theorem wordshagain : True := by
  k_with "call builtin:int.to_bytes" => ((with_unfolding_all refine to_bytes_any (k := 32) (by decide) (by k_extra "MyOm") (Int.lt_of_le_of_lt (b := 16777217) (by simp only [regOf_length] at *; k_extra "MyOm") (by decide)) ?_); intro _ _)
  trivial
theorem words2again : True := by
  k_with "MyLe" => first | k_extra "MyLq" | ((try dsimp only [ktrTop, Around.deeper, Around.under, Around.in1, Around.mark]); first | k_extra "MyLq" | omega) | ((try simp only [depth_under_make, depth_under_kw, depth_in1, depth_deeper, depth_caller, units_in1, units_deeper, Around.mark_units, units_caller, ktrTop] at *); omega)
  k_with "call builtin:len" => ((with_reducible show wpAny _ _ (call (Value.builtin "len") [Value.bytes (List.toArray _) _]) _ _ _); (refine len_b (by k_extra "MyOm") ?_); intro _ _)
  k_with "binaryOp Add bytes bytes" => ((with_reducible show wpAny _ _ (binaryOp Operator.Add (Value.bytes (List.toArray _) _) (Value.bytes (List.toArray _) _)) _ _ _); (refine add_b (by k_extra "MyOm") ?_); intro _ _)
  k_with "compareOp Eq bytes bytes" => ((with_reducible show wpAny _ _ (compareOp CmpOp.Eq (Value.bytes (List.toArray _) _) (Value.bytes (List.toArray _) _)) _ _ _); (refine eq_b ?_))
  k_with "compareOp NotEq bytes bytes" => ((with_reducible show wpAny _ _ (compareOp CmpOp.NotEq (Value.bytes (List.toArray _) _) (Value.bytes (List.toArray _) _)) _ _ _); (refine ne_b ?_))
  k_with "call ref" => ((with_reducible show wpAny _ _ (call (Value.ref _) [Value.bytes (List.toArray _) _, Value.str _ _]) _ _ _); k_dflt (refine from_b (by k_asm) (by k_mem) (by k_extra "MyOm") ?_); intro _ _)
  k_with "MyBool" => (simp only [bne_iff_ne, beq_iff_eq, decide_eq_true_eq, decide_eq_false_iff_not, Bool.not_eq_true', Bool.not_eq_true, Bool.not_eq_false', Bool.and_eq_true, Bool.or_eq_true, ne_eq, bne_eq_false_iff_eq, beq_eq_false_iff_ne, Bool.not_true, Bool.not_false, Bool.false_eq_true, not_false_eq_true, not_true_eq_false] at *)
  k_with "ite" => (first | (refine ite_neg (by simp only [Bool.false_eq_true, not_false_eq_true, Bool.not_true, Bool.not_false, bne_self_eq_false, beq_self_eq_true, decide_true, decide_false]; done) ?_) | (refine ite_pos (by simp only [Bool.false_eq_true, not_false_eq_true, Bool.not_true, Bool.not_false, bne_self_eq_false, beq_self_eq_true, decide_true, decide_false]; done) ?_) | (refine ite_neg (by simp only [bne_iff_ne, beq_iff_eq, decide_eq_true_eq, ne_eq, Decidable.not_not]; k_extra "MyOm") ?_) | (refine ite_pos (by simp only [bne_iff_ne, beq_iff_eq, decide_eq_true_eq, ne_eq]; k_extra "MyOm") ?_))
  trivial
theorem words3again : True := by
  -- contracts that hold nothing
  k_with "MyUse0" => ((case myB => k_asm); (case myF => k_asm); (case myX => k_asm); (case myN => k_asm); (case myT => k_asm); (case myk => first | exact rfl | assumption); (case myd => k_extra "MyLe"); (case myu => k_extra "MyLe"); (case mys => exact fun _ hq => nomatch hq); (case myct => exact Cut.tail (fun _ _ _ hq => nomatch hq)))
  k_with "call ref" => (k_dflt (refine' Con.use (con_vb _ _) ?myB ?myF ?myX ?myN ?myT ?myk ?myd ?myu ?mys ?myct ?_; k_extra "MyUse0"); intro v' h' tk' nw' F' N' po' ap'; obtain ⟨e1', e2'⟩ := po'; subst e1'; subst e2'; simp only [List.append_nil] at N'; clear ap'; (try dsimp only); (try k_sweep))
  k_with "call ref" => (k_dflt (refine' Con.use (con_vl _ _ _ _ ?myz ?mye) ?myB ?myF ?myX ?myN ?myT ?myk ?myd ?myu ?mys ?myct ?_; (case myz => k_extra "MyOm"); (case mye => k_extra "MyOm"); k_extra "MyUse0"); intro v' h' tk' nw' F' N' po' ap'; obtain ⟨e1', e2'⟩ := po'; subst e1'; subst e2'; simp only [List.append_nil] at N'; clear ap'; (try dsimp only); (try k_sweep))
  k_with "binaryOp BitAnd int int" => (first | (refine and_bit0 (by assumption) ?_) | (refine and_bit1 (by assumption) ?_)); intro _ _
  k_with "subscriptTail" => ((with_reducible show wpAny _ _ (subscriptTail _ (Expr.Slice none _ none _) (Value.bytes (List.toArray _) _) (Value.ref _)) _ _ _); (with_reducible rename Fr _ _ _ _ => F'); (with_reducible rename News _ _ _ _ => N'); (refine slice_any (s := ⟨_, _, _, _, _⟩) F' N' (by constructor) (by constructor) (by (try simp only [List.length_append]); k_extra "MyOm") ((cut_lo _ 32).trans (take_app (by assumption))) ?_); intro _ _ _ F' N')
  k_with "subscriptTail" => ((with_reducible show wpAny _ _ (subscriptTail _ (Expr.Slice _ none none _) (Value.bytes (List.toArray _) _) (Value.ref _)) _ _ _); (with_reducible rename Fr _ _ _ _ => F'); (with_reducible rename News _ _ _ _ => N'); (refine slice_any (s := ⟨_, _, _, _, _⟩) F' N' (by constructor) (by constructor) (by (try simp only [List.length_append]); k_extra "MyOm") ((cut_hi _ 32).trans (drop_app (by assumption))) ?_); intro _ _ _ F' N')
  k_with "call builtin:list.append" => (k_dflt (refine' append_L ?myF ?myN ?myU ?myz ?_; (case myF => k_asm); (case myN => k_asm); (case myU => k_upd); (case myz => k_extra "MyOm")); intro h' F' N'; (try k_sweep))
  k_with "call builtin:list.insert" => (k_dflt (refine' insert_L ?myF ?myN ?myU ?myz ?_; (case myF => k_asm); (case myN => k_asm); (case myU => k_upd); (case myz => k_extra "MyOm")); intro h' F' N'; (try k_sweep))
  k_with "call type:tuple" => (k_dflt (refine' tuple_L ?myF ?myN ?mym ?myz ?_; (case myF => k_asm); (case myN => k_asm); (case mym => k_mem); (case myz => k_extra "MyOm")); intro T' h' F' N' l1'; (try k_lt l1'); (try k_sweep))
  k_with "MyKnow" => first | assumption | (refine (if_neg (by decide)).trans ?_; k_extra "MyKnow")
  k_with "MySub" => first | exact List.forall_mem_nil _ | (refine List.forall_mem_cons.mpr ⟨by k_memK, ?_⟩; k_extra "MySub") | (intro p' hp'; k_ownIn)
  trivial
theorem words4again : True := by
  k_with "MyAll" => first | exact List.forall_mem_nil _ | (refine' HashG.off ?myHa ?myHb; (case myHa => assumption); (case myHb => k_extra "MyOm")) | (refine List.forall_mem_cons.mpr ⟨by k_ne, ?_⟩; k_extra "MyAll")
  k_with "MyAllLe" => first | exact List.forall_mem_nil _ | (refine List.forall_mem_cons.mpr ⟨by (try dsimp only); k_extra "MyOm", ?_⟩; k_extra "MyAllLe")
  k_with "MyMem" => first | (with_reducible exact List.mem_cons_self) | (with_reducible refine List.mem_cons_of_mem _ ?_; k_extra "MyMem")
  k_with "MyCut" => first | exact Cut.nil | (refine' Cut.dropIf ?cutA ?cutB; (case cutA => k_extra "MyMem"); (case cutB => k_extra "MyCut")) | (refine' Cut.keep ?cutC ?cutD; (case cutC => first | k_extra "MyAll" | fail "MyAll"); (case cutD => k_extra "MyCut")) | (refine' HashG.cut ?myHa ?myHb; (case myHa => assumption); (case myHb => k_extra "MyAllLe")) | exact Cut.lose
  k_with "FnAt" => (exact HashG.fn (by assumption) (by assumption) (by k_extra "MySub"))
  k_with "callWith ref" => (k_dflt (refine' callWith_F ?myfn ?_; (case myfn => (refine' HashG.fn ?myh ?myn ?mys; (case myh => assumption); (case myn => assumption); (case mys => k_extra "MySub"))); k_whole))
  k_with "call ref" => (k_dflt (refine' Con.use (con_hash ?myH ?myl _ _) ?myB ?myF ?myX ?myN ?myT ?myk ?myd ?myu ?mys ?myct ?_; (case myH => assumption); (case myl => k_extra "MyOm"); (case myB => k_asm); (case myF => k_asm); (case myX => k_asm); (case myN => k_asm); (case myT => k_asm); (case myk => first | exact rfl | assumption); (case myd => k_extra "MyLe"); (case myu => k_extra "MyLe"); (case mys => k_extra "MySub"); (case myct => k_extra "MyCut")); intro v' h' tk' nw' F' N' po' ap'; obtain ⟨R', x', u', e1', H', hp', hn', hr'⟩ := po'; subst e1'; simp only [List.append_nil, List.cons_append, List.nil_append] at N'; clear ap'; have hx32' := Reg.length hr'; (try dsimp only); (try k_sweep))
  k_with "inplaceOp LShift int int" => ((refine shl_bit (by k_extra "MyOm") ?_); intro _ _)
  k_with "call type:reversed" => (k_dflt (refine' rev_list ?myF ?myN ?mym ?_; (case myF => k_asm); (case myN => k_asm); (case mym => k_mem)); intro I' h' F' N' l1'; (try k_lt l1'); (try k_sweep))
  k_with "call type:reversed" => (k_dflt (refine' rev_tup ?myF ?myN ?mym ?myz ?_; (case myF => k_asm); (case myN => k_asm); (case mym => k_mem); (case myz => k_extra "MyOm")); intro I' h' tk' F' N' l1'; (try k_lt l1'); (try k_sweep))
  k_with "call type:tuple" => (k_dflt (refine' Rl.tuple_rev ?myh ?myF ?myN ?mym ?myn ?myz ?_; (case myh => exact rfl); (case myF => k_asm); (case myN => k_asm); (case mym => k_mem); (case myn => k_extra "MyAll"); (case myz => k_extra "MyOm")); intro T' h' tk' F' N' l1'; (try k_lt l1'); (try k_sweep))
  k_with "call ref" => (k_dflt (refine' Con.useR (con_get ?my1 ?my2 ?my3 ?my4 ?my5 _ ?my6 ?my7 _) ?myB ?myF ?myX ?myN ?myT ?myk ?myd ?myu ?mys ?myct ?_; (case my1 => assumption); (case my5 => assumption); (case my2 => k_extra "MyOm"); (case my3 => k_extra "MyOm"); (case my4 => k_extra "MyOm"); (case my6 => k_extra "MyOm"); (case my7 => assumption); (case myB => k_asm); (case myF => k_asm); (case myX => k_asm); (case myN => k_asm); (case myT => k_asm); (case myk => first | exact rfl | assumption); (case myd => k_extra "MyLe"); (case myu => k_extra "MyLe"); (case mys => k_extra "MySub"); (case myct => k_extra "MyCut")); intro v' h' tk' nw' F' N' po' ap'; obtain ⟨b', r', vs', xs', t', e1', e2', hb1', hb2', hb3', q1', q2', q3', q4'⟩ := po'; have hbl' := BL.length hb1'; subst e1'; subst e2'; simp only [List.append_nil, List.cons_append, List.nil_append] at N'; clear ap'; (try dsimp only))
  -- members of ledgers, the cheap way
  k_with "MyTail" => first | with_reducible exact subId _ | with_reducible exact subL _ _ | with_reducible exact subR _ _ | (with_reducible refine subC ?_; k_extra "MyTail") | (with_reducible refine subApp ?_ ?_ <;> k_extra "MyTail")
  k_with "MyMem2" => first | k_extra "MyMem" | k_memK
  k_with "MySub" => first | exact List.forall_mem_nil _ | (with_reducible refine' consSub ?msA ?msB; (case msA => k_extra "MyMem2"); (case msB => k_extra "MySub")) | k_extra "MyTail" | (intro p' hp'; k_ownIn)
  trivial
theorem words5again : True := by
  k_with "eval Dict nil nil" => (k_dflt (refine' new_dict ?k1 ?k2 (TopRead.nolimit (by k_asm)) ?_; (case k1 => k_asm); (case k2 => k_asm); k_whole); intro d' h' o' F' N' l1' lo' hb' hi'; (try k_lt l1'); (try k_sweep))
  k_with "MyKAll" => k_extra "MyAll"
  trivial
theorem words6again : True := by
  k_with "MyLe2" => (simp only [weight_call, cUnits_call]; k_extra "MyLe")
  k_with "MyInit" => ((case myH => assumption); (case myB => k_asm); (case myF => k_asm); (case myX => k_asm); (case myN => k_asm); (case myT => k_asm); (case myk => first | exact rfl | assumption); (case mys => k_extra "MySub"); (case my1 => k_extra "MyOm"); (case my2 => assumption); (case my3 => assumption); (case my4 => assumption); (case my5 => k_extra "MyOm"); (case my6 => k_extra "MyOm"); (case my7 => k_extra "MyOm"); (case my8 => k_ne); (case myct => k_extra "MyCut"); (case myd => k_extra "MyLe2"); (case myu => k_extra "MyLe2"))
  k_with "call ref" => (k_dflt (refine' call_cls ?k1 ?k2 ?k3 ?k4 ?k5 ?k6 ?_; (case k1 => k_asm); (case k2 => k_asm); (case k3 => k_asm); (case k4 => k_is); (case k5 => k_is); (case k6 => k_is); k_whole; intro x' d' h' F' N' l1' l2'; (try k_lt l1'); (try k_lt2 l2'); (try k_sweep); (try dsimp only); refine' ConA.useI (con_initk ?myH ?my1 ?my2 ?my3 ?my4 ?my5 _ _ ?my6 ?my7 ?my8) ?myB ?myF ?myX ?myN ?myT ?myk ?myd ?myu ?mys ?myct ?_; k_extra "MyInit"); intro v' h' tk' nw' F' N' po' ap'; obtain ⟨δ', oδ', D', R', HG', H', T', U', root', e1', e2', H'', hp', hn', hd', hok', hDl', hroot', q1', q2'⟩ := po'; subst e1'; subst e2'; simp only [List.append_nil, List.cons_append, List.nil_append] at N'; clear ap'; (try dsimp only [InitBack]); (try k_sweep))
  trivial
theorem words7again : True := by
  k_with "ite" => (first | (refine ite_neg (by simp only [bne_iff_ne, beq_iff_eq, decide_eq_true_eq, ne_eq, Decidable.not_not, Bool.not_eq_true', decide_eq_false_iff_not]; assumption) ?_) | (refine ite_pos (by simp only [bne_iff_ne, beq_iff_eq, decide_eq_true_eq, ne_eq, Bool.not_eq_true', decide_eq_false_iff_not]; assumption) ?_))
  trivial
theorem words8again : True := by
  k_with "MyEnterT" => (k_dflt (refine' code_defT ?k1 ?k2 ?k3 ?k4 ?k5 ?XB ?TB ?D ?kA ?k6 ?k7 ?k8 ?k9 ?kB ?_ ?kK ?c2 ?c3 ?c4 ?c5; (case kA => exact rfl); (case kK => assumption); (case k1 => k_asm); (case k2 => k_asm); (case k3 => k_asm); (case k4 => k_asm); (case k5 => k_asm); (case XB => assumption); (case TB => assumption); (case D => assumption); (case k6 => k_is); (case k7 => k_is); (case k8 => k_room); (case k9 => first | exact BindsTo.of_eq rfl | exact binds_K (by k_in) rfl (by k_is) rfl rfl rfl | fail "no rule for these arguments"); (case c5 => decide); (case kB => exact locs rfl); (case c2 => exact rfl); (case c3 => exact rfl); (case c4 => exact rfl); k_whole; intro g' L' h' FG' F' N' B' X' T' D' l1'; (try dsimp only); (try k_lt l1'); (try k_fold)))
  k_with "LeaveT" => (k_dflt (refine' leaveT_ ?myk1 ?myk2 ?myk3 ?_; (case myk1 => k_asm); (case myk2 => k_asm); (case myk3 => first | assumption | exact KtsTurn.refl)); intro kh' kT' kF' kN' kB' kX' kP' kD' kS' kO')
  trivial
theorem words9again : True := by
  k_with "MyUseT" => ((case myB => k_asm); (case myF => k_asm); (case myX => k_asm); (case myN => k_asm); (case myT => k_asm); (case myXB => assumption); (case myTB => assumption); (case myD => assumption); (case myk => first | exact rfl | assumption); (case myd => k_extra "MyLe"); (case myu => k_extra "MyLe"); (case mys => k_extra "MySub"); (case myct => k_extra "MyCut"))
  trivial
theorem words10again : True := by
  k_with "call ref" => (k_dflt (refine' Con.use (con_set ?my1 ?my2 ?my3 ?my4 ?my5 ?my6 ?my7 ?my8 ?my9 _ ?my10 ?my11 _ _ ?my12 _ ?my13 ?my14 ?my15 ?my16 ?my17 ?my18) ?myB ?myF ?myX ?myN ?myT ?myk ?myd ?myu ?mys ?myct ?_; (case my1 => assumption); (case my9 => assumption); (case my2 => assumption); (case my3 => assumption); (case myB => k_asm); (case myF => k_asm); (case myX => k_asm); (case myN => k_asm); (case myT => k_asm); (case mys => k_extra "MySub"); (case my4 => k_extra "MyOm"); (case my5 => k_extra "MyOm"); (case my6 => assumption); (case my7 => assumption); (case my8 => assumption); (case my10 => assumption); (case my11 => assumption); (case my12 => k_extra "MyOm"); (case my13 => k_extra "MyOm"); (case my14 => k_extra "MyOm"); (case my15 => k_extra "MyOm"); (case my16 => k_ne); (case my17 => k_ne); (case my18 => k_ne); (case myk => first | exact rfl | assumption); (case myd => k_extra "MyLe"); (case myu => k_extra "MyLe"); (case myct => k_extra "MyCut")); intro v' h' tk' nw' F' N' po' ap'; obtain ⟨r', vs', xs', R', D', oδ', HG', U'', root', e1', e2', hb1', hb2', hb3', HH', hp', hl', hD', hok', hsub', hDl', hroot', q1', q2', q3'⟩ := po'; subst e1'; subst e2'; simp only [List.append_nil, List.cons_append, List.nil_append] at N'; clear ap'; (try dsimp only); (try k_sweep))
  k_with "delItem ref bytes" => (k_dflt (refine' del_inst ?k1 ?k2 ?k3 ?k4 ?k5 ?k6 ?_; (case k1 => k_asm); (case k2 => k_asm); (case k3 => k_inst); (case k4 => k_is); (case k5 => k_is); (case k6 => k_is); k_whole))
  trivial
theorem words11again : True := by
  k_with "call builtin:len" => ((with_reducible show wpAny _ _ (call (Value.builtin "len") [Value.ref _]) _ _ _); k_dflt (refine' len_t ?myN ?mym ?myz ?_; (case myN => k_asm); (case mym => k_mem); (case myz => k_extra "MyOm")); intro _ _)
  trivial
theorem words12again : True := by
  k_with "binaryOp Mult bytes int" => first | (refine mul2_b (by assumption) ?_; intro _ _) | (refine mul1_b (by assumption) (by assumption) ?_; intro _ _ _ hy40')
  trivial
theorem words13again : True := by
  k_with "subscriptTail" => ((with_reducible show wpAny _ _ (subscriptTail _ _ (Value.ref _) (Value.int (Nat.cast _) _)) _ _ _); k_dflt (refine' item_V ?myN ?mym ?myk ?myx ?_; (case myN => k_asm); (case mym => k_mem); (case myx => assumption); (case myk => k_extra "MyOm")))
  k_with "getMethod ref" => ((with_reducible show wpAny _ _ (getMethod (Value.ref _) (Str.ofString "get") _) _ _ _); k_dflt (refine' dictB_method (knd := intKind _ _) ?myN ?mym ?myd ?_; (case myN => k_asm); (case mym => k_mem); (case myd => assumption)))
  k_with "call builtin:dict.get" => (k_dflt (refine' dictB_get2 ?myN ?mym ?myd ?mylo (ikey _ _ _ _) ?_; (case myN => k_asm); (case mym => k_mem); (case myd => assumption); (case mylo => assumption)); intro _)
  trivial
theorem words14again : True := by
  k_with "MyAll" => first | assumption | exact allLt_ne (by assumption) | exact List.forall_mem_nil _ | (refine' HashG.off ?myHa ?myHb; (case myHa => assumption); (case myHb => k_extra "MyOm")) | (refine List.forall_mem_cons.mpr ⟨by k_ne, ?_⟩; k_extra "MyAll")
  k_with "binaryOp Pow int int" => ((refine pow2_n (by k_extra "MyOm") ?_); intro _ _)
  k_with "binaryOp FloorDiv int int" => ((with_reducible show wpAny _ _ (binaryOp _ (Value.int (Nat.cast _) _) (Value.int (Nat.cast _) _)) _ _ _); (refine fdiv_n (by k_extra "MyOm") (by assumption) ?_); intro _ _)
  k_with "call ref" => (k_dflt (refine' Con.use (con_node ?my1 _ _ ?my2 ?my3 _ _) ?myB ?myF ?myX ?myN ?myT ?myk ?myd ?myu ?mys ?myct ?_; (case my1 => assumption); (case my2 => k_extra "MyOm"); (case my3 => k_extra "MyOm"); (case myB => k_asm); (case myF => k_asm); (case myX => k_asm); (case myN => k_asm); (case myT => k_asm); (case mys => k_extra "MySub"); (case myk => first | exact rfl | assumption); (case myd => k_extra "MyLe"); (case myu => k_extra "MyLe"); (case myct => k_extra "MyCut")); intro v' h' tk' nw' F' N' po' ap'; obtain ⟨e2', x', t', e1', hnr'⟩ := po'; subst e1'; have e3' := Eq.symm e2'; clear e2'; subst e3'; simp only [List.append_nil, List.cons_append, List.nil_append] at N'; clear ap'; (try dsimp only); (try k_sweep))
  trivial
theorem words15again : True := by
  k_with "binaryOp Mod int int" => ((with_reducible show wpAny _ _ (binaryOp _ (Value.int (Nat.cast _) _) (Value.int 2 _)) _ _ _); (refine mod2_n ?_); intro _ _)
  k_with "binaryOp Add int int" => ((with_reducible show wpAny _ _ (binaryOp _ (Value.int (Nat.cast _) _) (Value.int 1 _)) _ _ _); (refine add1_n ?_); intro _ _)
  k_with "binaryOp Sub int int" => ((with_reducible show wpAny _ _ (binaryOp _ (Value.int (Nat.cast _) _) (Value.int 1 _)) _ _ _); (refine sub1_n (by first | assumption | k_extra "MyOm") ?_); intro _ _)
  trivial
theorem words16again : True := by
  -- groups at the ledger's end: DG ++ HG
  k_with "MyTail" => first | with_reducible exact subId _ | with_reducible exact subL _ _ | with_reducible exact subR _ _ | (with_reducible refine subC ?_; k_extra "MyTail") | (with_reducible refine subApp ?_ ?_ <;> k_extra "MyTail")
  k_with "MyMem2" => first | k_extra "MyMem" | k_memK
  k_with "MySub" => first | exact List.forall_mem_nil _ | (with_reducible refine' consSub ?msA ?msB; (case msA => k_extra "MyMem2"); (case msB => k_extra "MySub")) | k_extra "MyTail"
  k_with "MyAll" => first | assumption | exact allLt_ne (by assumption) | exact List.forall_mem_nil _ | (refine' HashG.off ?myHa ?myHb; (case myHa => assumption); (case myHb => k_extra "MyOm")) | (refine List.forall_mem_cons.mpr ⟨by k_ne, ?_⟩; k_extra "MyAll") | (refine allApp ?_ ?_ <;> k_extra "MyAll")
  k_with "MyCut" => first | exact Cut.nil | (refine' Cut.dropIf ?cutA ?cutB; (case cutA => k_extra "MyMem"); (case cutB => k_extra "MyCut")) | (refine' Cut.keep ?cutC ?cutD; (case cutC => first | k_extra "MyAll" | fail "MyAll"); (case cutD => k_extra "MyCut")) | (refine' HashG.cutApp ?myHa ?myHb; (case myHa => assumption); (case myHb => assumption)) | (refine' HashG.cut ?myHa ?myHb; (case myHa => assumption); (case myHb => k_extra "MyAllLe")) | exact Cut.lose
  k_with "binaryOp FloorDiv int int" => ((with_reducible show wpAny _ _ (binaryOp _ (Value.int (Nat.cast _) _) (Value.int 2 _)) _ _ _); (refine fdiv2_n ?_); intro _ _)
  k_with "binaryOp Sub int int" => ((with_reducible show wpAny _ _ (binaryOp _ (Value.int (Nat.cast _) _) (Value.int (Nat.cast _) _)) _ _ _); (refine sub_n (by k_extra "MyOm") ?_); intro _ _)
  k_with "setItem ref int" => (k_dflt (refine' dictB_set (knd := intKind _ _) ?myF ?myN ?myU ?myd (ikey _ _ _ _) ?myz ?_; (case myF => k_asm); (case myN => k_asm); (case myU => k_updF); (case myd => assumption); (case myz => k_extra "MyOm"); k_whole); intro h' o' F' N' hd'; (try dsimp only at N'))
  k_with "compareOp NotIn int ref" => (k_dflt (refine' dictB_notIn (knd := intKind _ _) ?myN ?myp ?myd ?mylo (ikey _ _ _ _) ?_; (case myN => k_asm); (case myp => k_mem); (case myd => assumption); (case mylo => assumption); k_whole))
  k_with "compareOp NotIn int ref" => (k_dflt (refine' dictB_notInB (knd := intKind _ _) ?myN ?myp ?myd ?mylo (ikey _ _ _ _) ?myb ?_; (case myN => k_asm); (case myp => k_mem); (case myd => assumption); (case mylo => assumption); (case myb => first | exact isSome_f (by assumption) | exact isSome_t (by assumption)); k_whole))
  k_with "subscriptTail Name Name ref int" => ((with_reducible show wpAny _ _ (subscriptTail _ _ (Value.ref _) (Value.int (Nat.cast _) _)) _ _ _); k_dflt (refine' item_V ?myN ?mym ?myk ?myx ?_; (case myN => k_asm); (case mym => k_mem); (case myx => assumption); (case myk => k_extra "MyOm")))
  trivial
theorem words17again : True := by
  k_with "call builtin:isinstance" => (k_dflt (refine' isi_bad ?myb ?myN ?mym ?_; (case myb => assumption); (case myN => k_asm); (case mym => k_mem); k_whole))
  k_with "subscriptTail" => ((with_reducible show wpAny _ _ (subscriptTail _ (Expr.Slice _ none none _) (Value.bytes (List.toArray _) _) (Value.ref _)) _ _ _); (with_reducible rename Fr _ _ _ _ => F'); (with_reducible rename News _ _ _ _ => N'); (refine slice_any (s := ⟨_, _, _, _, _⟩) F' N' (by constructor) (by constructor) (by k_extra "MyOm") (cut_hi _ 1) ?_); intro _ _ _ F' N')
  k_with "joinParts" => ((first | (with_reducible show wpAny _ _ (joinParts _ []) _ _ _) | (with_reducible show wpAny _ _ (joinParts _ (evalEach [] _)) _ _ _; show wpAny _ _ (joinParts _ []) _ _ _)); (with_reducible refine' joinParts_end ?jza ?_; (case jza => first | kt_le | decide +kernel)); intro _)
  k_with "formatField int" => ((with_reducible show wpAny _ _ (formatField (Value.int 32 _) _) _ _ _); (with_unfolding_all refine' field_lit ?jya ?jyb ?_; (case jya => decide); (case jyb => decide +kernel)); intro _ _ _ _)
  trivial
/-! ## _law_done, whichever way -/
theorem con_done {w : World} {τ dx δ : Addr} {oδ : Obj} {H : Nat → Int} {T' U' : Nat → Tok} {size dep : Nat} {dflt root : B} {φ : Addr} {c₀ : Nat} {R : List B} {HG : List (Addr × Obj)} {D : List (B × B)} {val : Nat → B}
    (HH : HashG w φ c₀ R HG) (hD : DictB (bytesKind Challenge.rw_iu0035_01.row.prog w) oδ D) (hok : DbOk R D) (hRl : R.length + 40 ≤ 16777216) (hDl : D.length + 40 ≤ 16777216) (hdep : dep = 8 * size) (hsz1 : 1 ≤ size) (hsz2 : size ≤ 2) (hroot : TN D val dep 0 root)
    (key : B) (hkey : key.length = size) (hpath : natOf key < 2 ^ dep) (tk tw : Tok) (value : B) (hv : value.length ≤ 1000) (hv2 : dflt.length ≤ 1000) (tv td : Tok)
    (hc1 : @LE.le Nat _ c₀ τ) (hc2 : @LE.le Nat _ c₀ dx) (hc3 : @LE.le Nat _ c₀ δ) (hne1 : δ ≠ τ) (hne2 : δ ≠ dx) (hne3 : dx ≠ τ) (wd : Nat) (hwd : wd < 4) :
    Con w 350 550 200 [.ref τ, .int (wd : Int) tw, .bytes key.toArray tk, .bytes value.toArray tv, .bytes dflt.toArray td] ((τ, instObj 147 dx) :: (dx, dictOf (treeEs H T' U' size dep dflt φ δ root) 6) :: (δ, oδ) :: HG)
      (fun v nw => (X11 fun (r : Addr) (tx : Tok) (x : B) (told : Value) (BG : List (Addr × Obj)) (R' : List B) (D' : List (B × B)) (oδ' : Obj) (HG' : List (Addr × Obj)) (U'' : Nat → Tok) (root' : B) => A15 (v = .ref r) (nw = (r, tupOf [.bytes x.toArray tx, told]) :: (BG ++ (τ, instObj 147 dx) :: (dx, dictOf (treeEs H T' U'' size dep dflt φ δ root') 6) :: (δ, oδ') :: HG')) (x.length ≤ 1000) (((told = .none ∧ BG = []) ∨ (X3 fun (b : Addr) (vs : List Value) (xs : List B) => A9 (told = .ref b) (BG = [(b, tupOf vs)]) (BL vs xs) (xs.length = dep) ((∀ j y, xs[j]? = some y → TN D' (setV val (natOf key) x) (dep - 1 - j) (natOf key / 2 ^ (dep - 1 - j)) y)) (@LT.lt Nat _ τ b) (@LT.lt Nat _ dx b) (@LT.lt Nat _ δ b) (@LT.lt Nat _ b r)))) (HashG w φ c₀ R' HG') (R <+: R') (R'.length ≤ R.length + 17) (DictB (bytesKind Challenge.rw_iu0035_01.row.prog w) oδ' D') (DbOk R' D') (Sub D D') (D'.length ≤ D.length + 17) (TN D' (setV val (natOf key) x) dep 0 root') (@LT.lt Nat _ τ r) (@LT.lt Nat _ dx r) (@LT.lt Nat _ δ r))) := by
  rcases lt4 hwd with rfl | rfl | rfl | rfl
  · exact (con_done0 HH hD hok hRl hDl hdep hsz1 hsz2 hroot key hkey hpath tk tw value hv hv2 tv td hc1 hc2 hc3 hne1 hne2 hne3).mono (by
      rintro v nw ⟨r, tx, b, vs, xs, R', D', oδ', HG', U'', root', e1, e2, p1, p2, p3, p4, p5, p6, p7, q1, q2, q3, q4, q5, q6, q7, q8, q9, q10, q11⟩
      exact ⟨r, tx, value, .ref b, [(b, tupOf vs)], R', D', oδ', HG', U'', root', e1, e2, hv, .inr ⟨b, vs, xs, rfl, rfl, p1, p2, p3, p4, p5, p6, p7⟩, q1, q2, q3, q4, q5, q6, q7, q8, q9, q10, q11⟩)
  · exact (con_done1 HH hD hok hRl hDl hdep hsz1 hsz2 hroot key hkey hpath tk tw value hv hv2 tv td hc1 hc2 hc3 hne1 hne2 hne3).mono (by
      rintro v nw ⟨r, tx, R', D', oδ', HG', U'', root', e1, e2, q1, q2, q3, q4, q5, q6, q7, q8, q9, q10, q11⟩
      exact ⟨r, tx, value, .none, [], R', D', oδ', HG', U'', root', e1, e2, hv, .inl ⟨rfl, rfl⟩, q1, q2, q3, q4, q5, q6, q7, q8, q9, q10, q11⟩)
  · exact (con_done2 HH hD hok hRl hDl hdep hsz1 hsz2 hroot key hkey hpath tk tw value hv hv2 tv td hc1 hc2 hc3 hne1 hne2 hne3).mono (by
      rintro v nw ⟨r, tx, b, vs, xs, R', D', oδ', HG', U'', root', e1, e2, p1, p2, p3, p4, p5, p6, p7, q1, q2, q3, q4, q5, q6, q7, q8, q9, q10, q11⟩
      exact ⟨r, tx, dflt, .ref b, [(b, tupOf vs)], R', D', oδ', HG', U'', root', e1, e2, hv2, .inr ⟨b, vs, xs, rfl, rfl, p1, p2, p3, p4, p5, p6, p7⟩, q1, q2, q3, q4, q5, q6, q7, q8, q9, q10, q11⟩)
  · exact (con_done3 HH hD hok hRl hDl hdep hsz1 hsz2 hroot key hkey hpath tk tw value hv hv2 tv td hc1 hc2 hc3 hne1 hne2 hne3).mono (by
      rintro v nw ⟨r, tx, R', D', oδ', HG', U'', root', e1, e2, q1, q2, q3, q4, q5, q6, q7, q8, q9, q10, q11⟩
      exact ⟨r, tx, dflt, .none, [], R', D', oδ', HG', U'', root', e1, e2, hv2, .inl ⟨rfl, rfl⟩, q1, q2, q3, q4, q5, q6, q7, q8, q9, q10, q11⟩)

/-! ## the law's trees -/
def Foc (w : World) (D : List (B × B)) (dflt : B) (size dep : Nat) (φ δ : Addr) (n : Nat) (τ dx η : Addr) (FG : List (Addr × Obj)) : Prop :=
  (X6 fun (H : Nat → Int) (T' U' : Nat → Tok) (root : B) (oh : Obj) (hh : List (B × B)) => A6 (FG = [(τ, instObj 147 dx), (dx, dictOf (treeEs H T' U' size dep dflt φ δ root) 6), (η, oh)]) (TN D (valOf hh dflt) dep 0 root) (DictB (bytesKind Challenge.rw_iu0035_01.row.prog w) oh hh) ((η == sysModules) = false) ((∀ k v, (k, v) ∈ hh → k.length = size ∧ v.length ≤ 1000)) (hh.length ≤ n))
theorem Foc.mono {w : World} {D D' : List (B × B)} {dflt : B} {size dep : Nat} {φ δ : Addr} {n n' : Nat} {τ dx η : Addr} {FG : List (Addr × Obj)} (h : Foc w D dflt size dep φ δ n τ dx η FG) (hs : Sub D D') (hn : n ≤ n') : Foc w D' dflt size dep φ δ n' τ dx η FG := by
  obtain ⟨H, T', U', root, oh, hh, e, h1, h2, h3, h4, h5⟩ := h
  exact ⟨H, T', U', root, oh, hh, e, h1.mono hs, h2, h3, h4, Nat.le_trans h5 hn⟩
theorem Foc.addrs {w : World} {D : List (B × B)} {dflt : B} {size dep : Nat} {φ δ : Addr} {n : Nat} {τ dx η : Addr} {FG : List (Addr × Obj)} (h : Foc w D dflt size dep φ δ n τ dx η FG) : ∀ p ∈ FG, p.1 = τ ∨ p.1 = dx ∨ p.1 = η := by
  obtain ⟨H, T', U', root, oh, hh, rfl, _⟩ := h
  intro p hp
  simp only [List.mem_cons, List.not_mem_nil, or_false] at hp
  rcases hp with rfl | rfl | rfl <;> simp
/-- one tree or two -/
def Trees (w : World) (D : List (B × B)) (dflt : B) (size dep : Nat) (φ δ : Addr) (n : Nat) (Kl Hl Tl τ0 d0 η0 : Addr) (nt : Nat) (trs hls : List Value) (OG : List (Addr × Obj)) : Prop :=
  (nt = 1 ∧ trs = [.ref τ0] ∧ hls = [.ref η0] ∧ Foc w D dflt size dep φ δ n τ0 d0 η0 OG) ∨
  (nt = 2 ∧ (X5 fun (τ1 d1 η1 : Addr) (A0 A1 : List (Addr × Obj)) => A17 (trs = [.ref τ0, .ref τ1]) (hls = [.ref η0, .ref η1]) (Foc w D dflt size dep φ δ n τ0 d0 η0 A0) (Foc w D dflt size dep φ δ n τ1 d1 η1 A1) (OG = A0 ++ A1) (@LT.lt Nat _ δ d1) (@LT.lt Nat _ d1 τ1) (@LT.lt Nat _ τ1 η1) (@LT.lt Nat _ Kl η1) (Tl ≠ d1) (η0 ≠ d1) (Hl ≠ d1) (Kl ≠ d1) (Tl ≠ τ1) (η0 ≠ τ1) (Hl ≠ τ1) (Kl ≠ τ1)))
/-- the state between two turns of the law's first loop -/
def LawS (w : World) (dflt : B) (size dep : Nat) (φ δ Kl Hl Tl τ0 d0 η0 sc : Addr) (c₀ mo : Nat) (o153 : Obj) (tz td tm tf : Tok) (ff i rb : Nat) (m : Str → Option Value) (nw : List (Addr × Obj)) : Prop :=
  (X13 fun (kvs : List Value) (ck : Nat) (keys : List B) (trs hls : List Value) (ct ch nt : Nat) (OG : List (Addr × Obj)) (oδ : Obj) (D : List (B × B)) (R : List B) (G : List (Addr × Obj)) => A20 (nw = (Kl, listOf kvs.toArray ck) :: (Hl, listOf hls.toArray ch) :: (Tl, listOf trs.toArray ct) :: (153, o153) :: (δ, oδ) :: (OG ++ G)) (BL kvs keys) ((∀ k ∈ keys, k.length = size)) (1 ≤ keys.length) (keys.length ≤ 1 + i) (Trees w D dflt size dep φ δ i Kl Hl Tl τ0 d0 η0 nt trs hls OG) (DictB (bytesKind Challenge.rw_iu0035_01.row.prog w) oδ D) (DbOk R D) (D.length ≤ 17 + 17 * i) (HashG w φ c₀ R G) (R.length ≤ rb) (m (Str.ofString "hash_of") = some (.ref φ)) (m (Str.ofString "size") = some (.int (size : Int) tz)) (m (Str.ofString "default") = some (.bytes dflt.toArray td)) (m (Str.ofString "moment") = some (.int (mo : Int) tm)) (m (Str.ofString "trees") = some (.ref Tl)) (m (Str.ofString "helds") = some (.ref Hl)) (m (Str.ofString "keys") = some (.ref Kl)) (m (Str.ofString "script") = some (.ref sc)) (m (Str.ofString "first") = some (.int (ff : Int) tf)))
theorem notinCons {q : Addr × Obj} {l : List (Addr × Obj)} {x : Addr} (h : q.1 ≠ x) (h' : ∀ p ∈ l, p.1 ≠ x) : x ∉ (q :: l).map (·.1) := fun hm => by
  obtain ⟨p, hp, e⟩ := List.mem_map.mp hm
  rcases List.mem_cons.mp hp with rfl | hp
  · exact h e
  · exact h' p hp e
/-- the state between two parts of a turn -/
def MidP (S : (Str → Option Value) → List (Addr × Obj) → Prop) (h₀ : Heap) (L I : Addr) (oI : Obj) (s : Shared) (kv : Value) (s' : Shared) : Prop :=
  (X4 fun (h' : Heap) (tk : Nat) (m' : Str → Option Value) (nw' : List (Addr × Obj)) => A6 (s' = { s with heap := h', toks := tk }) (Fr h₀ L h' m') (News h₀ L h' ((I, oI) :: nw')) ((∀ p ∈ nw', p.1 ≠ I)) (m' (Str.ofString "k") = some kv) (S m' nw'))
structure OnNext (P : Shared → Prop) (f : Flow) (s' : Shared) : Prop where
  next : f = .next
  ok : P s'
theorem Cut.appLose {small a b : List (Addr × Obj)} (h : ∀ q ∈ small, ∀ p ∈ a, p.1 ≠ q.1) : Cut small (a ++ b) a := by
  have : Cut small (a ++ b) (a ++ []) := Cut.app (.tail fun p hp q hq e => h q hq p hp e.symm) .lose
  rwa [List.append_nil] at this
theorem HashG.offAll {w : World} {φ : Addr} {c₀ : Nat} {R : List B} {HG a : List (Addr × Obj)} (H : HashG w φ c₀ R HG) (h : ∀ p ∈ a, @LE.le Nat _ c₀ p.1) : ∀ q ∈ HG, ∀ p ∈ a, p.1 ≠ q.1 := fun q hq p hp e => H.off (h p hp) q hq e.symm
/-! ## the law's text -/
def lawStmt : Stmt := Challenge.pw_iu0035_01.main.body.getD 20 (.Pass default)
def lawScope : Scope := match lawStmt with | .FunctionDef _ _ _ _ _ _ sc _ _ _ => sc | _ => default
def lawBody : List Stmt := match lawStmt with | .FunctionDef _ _ b _ _ _ _ _ _ _ => b | _ => []
def loopBody (k : Nat) : List Stmt := match lawBody.getD k (.Pass default) with | .For _ _ b _ _ => b | _ => []
abbrev lawEnv (L a : Addr) (ccd : Value) : Env := envOf (Str.ofString "law") lawScope L a ccd
section
variable {M : Model} {A : Around} {E : Value → Shared → Prop} {s : Shared} {env : Env} {st : Stmt} {rest : List Stmt} {Q : Flow → Shared → Prop}
theorem execs_two {P : Shared → Prop} (h1 : wpAny M A (exec st env) (OnNext P) E s) (h2 : ∀ s', P s' → wpAny M A (execs rest env) Q E s') : wpAny M A (execs (st :: rest) env) Q E s :=
  wpAny_execs_cons (wpAny_mono h1 (fun f s' ⟨e, hp⟩ => by subst e; exact h2 s' hp) fun _ _ x => x)
end
section
variable {prog : Program} {w : World} {A : Around} {E : Value → Shared → Prop} {s : Shared} {h₀ : Heap} {L sc : Addr} {m : Str → Option Value} {ws : List Value} {ns : List Int} {k : Nat} {u : Tok}
theorem item_S {value slice : PySem.Expr} {Q : Value → Shared → Prop} (F : Fr h₀ L s.heap m) (hsc : h₀.IsList sc ws.toArray) (hin : IntsAre ws ns) (hk : k < ns.length) (hz : ns.length ≤ 100) (h : ∀ x t, Q (.int x t) s)
    (hs : subscripted slice false (.ref sc) (.int (k : Int) u) = operate [.ref sc, .int (k : Int) u] (getItem (.ref sc) (.int (k : Int) u)) := by with_unfolding_all rfl) (hg : ∀ r, letTemporaryGo value (.ref sc) r = pure () := by intro _; with_unfolding_all rfl) :
    wpAny (model prog w) A (subscriptTail value slice (.ref sc) (.int (k : Int) u)) Q E s := by
  obtain ⟨t, ht⟩ := hin.get k ns[k] (List.getElem?_eq_getElem hk)
  exact item_listL (hsc.at fun o e => F.keep _ o e) (by omega) (by omega) (by rw [Int.toNat_natCast]; exact ht) (h _ _) hs hg
end
section
variable {M : Model} {A : Around} {E : Value → Shared → Prop} {s : Shared} {env : Env} {st : Stmt} {K : Flow → Shared → Prop} {h₀ : Heap} {L : Addr} {m : Str → Option Value}
/-- both ways through a statement come out alike -/
theorem if_merge (F : Fr h₀ L s.heap m) (P : List (Addr × Obj) → Prop) (h1 : wpAny M A (exec st env) (OnNext fun s' => (X3 fun (h' : Heap) (tk : Nat) (nw : List (Addr × Obj)) => A4 (s' = { s with heap := h', toks := tk }) (Fr h₀ L h' m) (News h₀ L h' nw) (P nw))) E s)
    (h2 : ∀ h' tk nw, Fr h₀ L h' m → News h₀ L h' nw → P nw → K .next { s with heap := h', toks := tk }) : wpAny M A (exec st env) K E s :=
  wpAny_mono h1 (fun f s' ⟨e, h', tk, nw, e2, F', N', p⟩ => by subst e; subst e2; exact h2 h' tk nw F' N' p) fun _ _ x => x
end
section
variable {prog : Program} {w : World} {A : Around} {E : Value → Shared → Prop} {s : Shared} {t u : Tok} {a b : Nat}
theorem mod_q {Q : Value → Shared → Prop} (hb : 0 < b) (h : ∀ (q : Nat) t' k', q < b → Q (.int (q : Int) t') { s with toks := k' }) : wpAny (model prog w) A (binaryOp .Mod (.int (a : Int) t) (.int (b : Int) u)) Q E s :=
  mod_n hb fun t' k' => h _ t' k' (Nat.mod_lt _ hb)
end
/-- the tree that is told to change, and the other one -/
theorem Trees.focus {w : World} {D : List (B × B)} {dflt : B} {size dep : Nat} {φ δ : Addr} {n : Nat} {Kl Hl Tl τ0 d0 η0 : Addr} {nt c₀ which : Nat} {trs hls : List Value} {OG : List (Addr × Obj)}
    (hT : Trees w D dflt size dep φ δ n Kl Hl Tl τ0 d0 η0 nt trs hls OG) (hq : which < nt)
    (o1 : @LT.lt Nat _ 153 c₀) (o2 : @LE.le Nat _ c₀ d0) (o3 : @LT.lt Nat _ d0 τ0) (o4 : @LT.lt Nat _ τ0 δ) (o5 : @LT.lt Nat _ δ Tl) (o6 : @LT.lt Nat _ Tl η0) (o7 : @LT.lt Nat _ η0 Hl) (o8 : @LT.lt Nat _ Hl Kl) :
    (X5 fun (τ dx η : Addr) (FG OG2 : List (Addr × Obj)) => A11 (trs[which]? = some (.ref τ)) (hls[which]? = some (.ref η)) (Foc w D dflt size dep φ δ n τ dx η FG) ((∀ p ∈ FG, p ∈ OG)) ((∀ p ∈ OG2, p ∈ OG)) ((@LE.le Nat _ c₀ τ ∧ @LE.le Nat _ c₀ dx ∧ @LE.le Nat _ c₀ η)) ((∀ p ∈ OG2, @LE.le Nat _ c₀ p.1)) ((∀ x ∈ [δ, Kl, Hl, Tl], x ≠ τ ∧ x ≠ dx ∧ x ≠ η ∧ ∀ p ∈ OG2, p.1 ≠ x)) ((τ ≠ dx ∧ τ ≠ η ∧ dx ≠ η)) ((∀ p ∈ OG2, p.1 ≠ τ ∧ p.1 ≠ dx ∧ p.1 ≠ η)) ((∀ D' FG', Sub D D' → Foc w D' dflt size dep φ δ (n + 1) τ dx η FG' → ∃ OG', (∀ p ∈ OG', p ∈ FG' ++ OG2) ∧ Trees w D' dflt size dep φ δ (n + 1) Kl Hl Tl τ0 d0 η0 nt trs hls OG'))) := by
  have e02 : @LT.lt Nat _ d0 δ := Nat.lt_trans o3 o4
  have e03 : @LT.lt Nat _ d0 Tl := Nat.lt_trans e02 o5
  have e04 : @LT.lt Nat _ d0 η0 := Nat.lt_trans e03 o6
  have e05 : @LT.lt Nat _ d0 Hl := Nat.lt_trans e04 o7
  have e06 : @LT.lt Nat _ d0 Kl := Nat.lt_trans e05 o8
  have e13 : @LT.lt Nat _ τ0 Tl := Nat.lt_trans o4 o5
  have e14 : @LT.lt Nat _ τ0 η0 := Nat.lt_trans e13 o6
  have e15 : @LT.lt Nat _ τ0 Hl := Nat.lt_trans e14 o7
  have e16 : @LT.lt Nat _ τ0 Kl := Nat.lt_trans e15 o8
  have e24 : @LT.lt Nat _ δ η0 := Nat.lt_trans o5 o6
  have e25 : @LT.lt Nat _ δ Hl := Nat.lt_trans e24 o7
  have e26 : @LT.lt Nat _ δ Kl := Nat.lt_trans e25 o8
  have e35 : @LT.lt Nat _ Tl Hl := Nat.lt_trans o6 o7
  have e36 : @LT.lt Nat _ Tl Kl := Nat.lt_trans e35 o8
  have e46 : @LT.lt Nat _ η0 Kl := Nat.lt_trans o7 o8
  have f1 : @LE.le Nat _ c₀ τ0 := Nat.le_of_lt (Nat.lt_of_le_of_lt o2 o3)
  have f2 : @LE.le Nat _ c₀ η0 := Nat.le_of_lt (Nat.lt_of_le_of_lt o2 e04)
  rcases hT with ⟨rfl, rfl, rfl, hF0⟩ | ⟨rfl, τ1, d1, η1, A0, A1, rfl, rfl, hF0, hF1, rfl, q1, q2, q3, q4, q5, q6, q7, q8, q9, q10, q11, q12⟩
  · obtain rfl : which = 0 := by k_extra "MyOm"
    refine ⟨τ0, d0, η0, OG, [], rfl, rfl, hF0, fun p hp => hp, fun p hp => (nomatch hp), ⟨by k_extra "MyOm", by k_extra "MyOm", by k_extra "MyOm"⟩, fun p hp => (nomatch hp), ?_, ⟨neN (by k_extra "MyOm"), neN (by k_extra "MyOm"), neN (by k_extra "MyOm")⟩, fun p hp => (nomatch hp), fun D' FG' hs hF => ⟨FG', fun p hp => List.mem_append_left _ hp, .inl ⟨rfl, rfl, rfl, hF⟩⟩⟩
    intro x hx
    simp only [List.mem_cons, List.not_mem_nil, or_false] at hx
    rcases hx with rfl | rfl | rfl | rfl <;> exact ⟨neN (by k_extra "MyOm"), neN (by k_extra "MyOm"), neN (by k_extra "MyOm"), fun p hp => (nomatch hp)⟩
  · have g1 : @LT.lt Nat _ δ τ1 := Nat.lt_trans q1 q2
    have g2 : @LT.lt Nat _ δ η1 := Nat.lt_trans g1 q3
    have g3 : @LT.lt Nat _ d1 η1 := Nat.lt_trans q2 q3
    have g4 : @LT.lt Nat _ d0 d1 := Nat.lt_trans e02 q1
    have g5 : @LT.lt Nat _ τ0 d1 := Nat.lt_trans o4 q1
    have g6 : @LT.lt Nat _ d0 τ1 := Nat.lt_trans g4 q2
    have g7 : @LT.lt Nat _ τ0 τ1 := Nat.lt_trans g5 q2
    have g8 : @LT.lt Nat _ d0 η1 := Nat.lt_trans g6 q3
    have g9 : @LT.lt Nat _ τ0 η1 := Nat.lt_trans g7 q3
    have g10 : @LT.lt Nat _ η0 η1 := Nat.lt_trans e46 q4
    have g11 : @LT.lt Nat _ Tl η1 := Nat.lt_trans e36 q4
    have g12 : @LT.lt Nat _ Hl η1 := Nat.lt_trans o8 q4
    have g13 : @LE.le Nat _ c₀ d1 := Nat.le_of_lt (Nat.lt_of_le_of_lt o2 g4)
    have g14 : @LE.le Nat _ c₀ τ1 := Nat.le_of_lt (Nat.lt_of_le_of_lt o2 g6)
    have g15 : @LE.le Nat _ c₀ η1 := Nat.le_of_lt (Nat.lt_of_le_of_lt o2 g8)
    have a0 := hF0.addrs
    have a1 := hF1.addrs
    have hw : which = 0 ∨ which = 1 := by k_extra "MyOm"
    rcases hw with rfl | rfl
    · refine ⟨τ0, d0, η0, A0, A1, rfl, rfl, hF0, fun p hp => List.mem_append_left _ hp, fun p hp => List.mem_append_right _ hp, ⟨by k_extra "MyOm", by k_extra "MyOm", by k_extra "MyOm"⟩, ?_, ?_, ⟨neN (by k_extra "MyOm"), neN (by k_extra "MyOm"), neN (by k_extra "MyOm")⟩, ?_, fun D' FG' hs hF => ⟨FG' ++ A1, fun p hp => hp, .inr ⟨rfl, τ1, d1, η1, FG', A1, rfl, rfl, hF, hF1.mono hs (Nat.le_succ n), rfl, q1, q2, q3, q4, q5, q6, q7, q8, q9, q10, q11, q12⟩⟩⟩
      · intro p hp; rcases a1 p hp with e | e | e <;> rw [e] <;> k_extra "MyOm"
      · intro x hx
        simp only [List.mem_cons, List.not_mem_nil, or_false] at hx
        rcases hx with rfl | rfl | rfl | rfl <;> refine ⟨neN (by k_extra "MyOm"), neN (by k_extra "MyOm"), neN (by k_extra "MyOm"), fun p hp => ?_⟩ <;> rcases a1 p hp with e | e | e <;> rw [e] <;> first | exact neN (by k_extra "MyOm") | exact Ne.symm (by assumption)
      · intro p hp; rcases a1 p hp with e | e | e <;> rw [e] <;> refine ⟨?_, ?_, ?_⟩ <;> first | exact neN (by k_extra "MyOm") | exact Ne.symm (by assumption)
    · refine ⟨τ1, d1, η1, A1, A0, rfl, rfl, hF1, fun p hp => List.mem_append_right _ hp, fun p hp => List.mem_append_left _ hp, ⟨by k_extra "MyOm", by k_extra "MyOm", by k_extra "MyOm"⟩, ?_, ?_, ⟨neN (by k_extra "MyOm"), neN (by k_extra "MyOm"), neN (by k_extra "MyOm")⟩, ?_, fun D' FG' hs hF => ⟨A0 ++ FG', fun p hp => (List.mem_append.mp hp).elim (List.mem_append_right _) (List.mem_append_left _), .inr ⟨rfl, τ1, d1, η1, A0, FG', rfl, rfl, hF0.mono hs (Nat.le_succ n), hF, rfl, q1, q2, q3, q4, q5, q6, q7, q8, q9, q10, q11, q12⟩⟩⟩
      · intro p hp; rcases a0 p hp with e | e | e <;> rw [e] <;> k_extra "MyOm"
      · intro x hx
        simp only [List.mem_cons, List.not_mem_nil, or_false] at hx
        rcases hx with rfl | rfl | rfl | rfl <;> refine ⟨?_, ?_, ?_, fun p hp => ?_⟩ <;> first | exact neN (by k_extra "MyOm") | assumption | (rcases a0 p hp with e | e | e <;> rw [e] <;> exact neN (by k_extra "MyOm"))
      · intro p hp; rcases a0 p hp with e | e | e <;> rw [e] <;> refine ⟨?_, ?_, ?_⟩ <;> first | exact neN (by k_extra "MyOm") | assumption
section
variable {prog : Program} {w : World} {A : Around} {E : Value → Shared → Prop} {s : Shared} {t u : Tok} {size dep : Nat}
theorem mul8 {Q : Value → Shared → Prop} (hd : dep = 8 * size) (hz : size ≤ 100) (h : ∀ t' k', Q (.int (dep : Int) t') { s with toks := k' }) : wpAny (model prog w) A (binaryOp .Mult (.int (size : Int) t) (.int 8 u)) Q E s := by
  refine mul_n (a := size) (b := 8) (by omega) (by decide) fun t' k' => ?_
  rw [show size * 8 = dep by omega]; exact h _ _
end

/-- the numbers 1, 3, 5 .. below a bound -/
theorem range2 (len : Nat) : ∃ n : Nat, Builtin.Range.rangeSize 1 (if (13 : Int) < (len : Int) then 13 else (len : Int)) 2 = (n : Int) ∧ ∀ i, i < n → 1 + i * 2 < len ∧ i < 6 := by
  refine ⟨(Builtin.Range.rangeSize 1 (if (13 : Int) < (len : Int) then 13 else (len : Int)) 2).toNat, ?_, ?_⟩
  · unfold Builtin.Range.rangeSize
    simp only [show (2 : Int) > 0 by decide, if_true]
    split <;> split <;> omega
  · unfold Builtin.Range.rangeSize
    simp only [show (2 : Int) > 0 by decide, if_true]
    intro i hi
    split at hi <;> split at hi <;> omega
theorem small2 (len : Nat) : Builtin.Range.small 1 (if (13 : Int) < (len : Int) then 13 else (len : Int)) 2 = true := by
  obtain ⟨n, hn, hb⟩ := range2 len
  have : n ≤ 6 := by
    cases n with
    | zero => omega
    | succ n => have := (hb n (by omega)).2; omega
  unfold Builtin.Range.small
  rw [hn]
  simp only [Builtin.Range.rangeFitsLong, Bool.and_eq_true, Bool.or_eq_true, decide_eq_true_eq, beq_iff_eq, show (2 : Int) > 0 by decide, if_true]
  split <;> omega

theorem HashG.start3 {w : World} {h₀ h : Heap} {L : Addr} {X : Obj} {φ κ ρ γ : Addr} {oc o oγ : Obj} {vs : Array Value} {t : Tok} {qual : Str} {doc pm ctv : Value}
    (N : News h₀ L h ((φ, fnMade (Str.ofString "hash_of") qual hashParams hashBody hashScope [(Str.ofString "register", γ)] doc pm κ ctv) :: (κ, oc) :: (ρ, o) :: (γ, oγ) :: (153, X) :: []))
    (h1 : oc.data = .fields vs) (h2 : vs[1]? = some (.str qual t)) (h3 : oγ.data = .cell (some (.ref ρ))) (hD : DictB (bytesKind Challenge.rw_iu0035_01.row.prog w) o []) (lo : (ρ == sysModules) = false)
    (l1 : @LT.lt Nat _ ρ κ) (l2 : @LT.lt Nat _ γ ρ) (l3 : @LT.lt Nat _ κ φ) (l4 : @LT.lt Nat _ 153 γ) :
    (X3 fun R HG o153 => A5 (HashG w φ (φ + 1) R HG) (R.length = 0) (HG = [(φ, fnMade (Str.ofString "hash_of") qual hashParams hashBody hashScope [(Str.ofString "register", γ)] doc pm κ ctv), (κ, oc), (ρ, o), (γ, oγ)]) (o153 = X) (News h₀ L h (HG ++ [(153, o153)]))) := by
  obtain ⟨R, HG, a, b, c, d⟩ := HashG.start N h1 h2 h3 hD lo l1 l2 l3 l4
  exact ⟨R, HG, X, a, b, c, rfl, d⟩
/-- the state of the law's later loops: the number of trees is fixed -/
def LawN (w : World) (dflt : B) (size dep : Nat) (φ δ Kl Hl Tl τ0 d0 η0 : Addr) (c₀ : Nat) (o153 : Obj) (tz td tf : Tok) (ff i nt rb : Nat) (m : Str → Option Value) (nw : List (Addr × Obj)) : Prop :=
  (X12 fun (kvs : List Value) (ck : Nat) (keys : List B) (trs hls : List Value) (ct ch : Nat) (OG : List (Addr × Obj)) (oδ : Obj) (D : List (B × B)) (R : List B) (G : List (Addr × Obj)) => A18 (nw = (Kl, listOf kvs.toArray ck) :: (Hl, listOf hls.toArray ch) :: (Tl, listOf trs.toArray ct) :: (153, o153) :: (δ, oδ) :: (OG ++ G)) (BL kvs keys) ((∀ k ∈ keys, k.length = size)) (1 ≤ keys.length) (keys.length ≤ 1 + i) (Trees w D dflt size dep φ δ i Kl Hl Tl τ0 d0 η0 nt trs hls OG) (DictB (bytesKind Challenge.rw_iu0035_01.row.prog w) oδ D) (DbOk R D) (D.length ≤ 17 + 17 * i) (HashG w φ c₀ R G) (R.length ≤ rb) (m (Str.ofString "hash_of") = some (.ref φ)) (m (Str.ofString "size") = some (.int (size : Int) tz)) (m (Str.ofString "default") = some (.bytes dflt.toArray td)) (m (Str.ofString "trees") = some (.ref Tl)) (m (Str.ofString "helds") = some (.ref Hl)) (m (Str.ofString "keys") = some (.ref Kl)) (m (Str.ofString "first") = some (.int (ff : Int) tf)))
/-- a list's beginning, of one place at least, of four at most -/
structure GotPre (h₀ : Heap) (L : Addr) (m : Str → Option Value) (news : List (Addr × Obj)) (vs : List Value) (s : Shared) (v : Value) (s' : Shared) : Prop where
  got : (X4 fun (k : Nat) (D : Addr) (h' : Heap) (tk : Nat) => A7 (v = .ref D) (s' = { s with heap := h', toks := tk }) (Fr h₀ L h' m) (News h₀ L h' ((D, listOf (vs.take k).toArray 0) :: news)) ((∀ p ∈ news, @LT.lt Nat _ p.1 D)) (1 ≤ k) (k ≤ 4))
theorem mono_pre {M : Model} {A : Around} {E : Value → Shared → Prop} {s : Shared} {e : Sem Value} {h₀ : Heap} {L : Addr} {m : Str → Option Value} {news : List (Addr × Obj)} {vs : List Value} {Q : Value → Shared → Prop} (_F : Fr h₀ L s.heap m) (_N : News h₀ L s.heap news) (h1 : wpAny M A e (GotPre h₀ L m news vs s) E s)
    (h2 : ∀ (k : Nat) (D : Addr) (h' : Heap) (tk : Nat), Fr h₀ L h' m → News h₀ L h' ((D, listOf (vs.take k).toArray 0) :: news) → (∀ p ∈ news, @LT.lt Nat _ p.1 D) → 1 ≤ k → k ≤ 4 → Q (.ref D) { s with heap := h', toks := tk }) : wpAny M A e Q E s :=
  wpAny_mono h1 (fun v s' ⟨⟨k, D, h', tk, e1, e2, F, N, l, k1, k4⟩⟩ => by subst e1; subst e2; exact h2 k D h' tk F N l k1 k4) fun _ _ x => x
theorem offApp {a b r : List (Addr × Obj)} (h1 : ∀ q ∈ a, ∀ p ∈ r, p.1 ≠ q.1) (h2 : ∀ q ∈ b, ∀ p ∈ r, p.1 ≠ q.1) : ∀ q ∈ a ++ b, ∀ p ∈ r, p.1 ≠ q.1 := fun q hq => (List.mem_append.mp hq).elim (h1 q) (h2 q)
section
variable {prog : Program} {w : World} {A : Around} {E : Value → Shared → Prop} {s : Shared} {h₀ : Heap} {L l β : Addr} {news : List (Addr × Obj)} {c : Nat} {u : Tok} {k : Nat} {oβ : Obj} {n0 : Int} {u0 u1 : Tok} {x1 : Str}
theorem item_bad {value slice : PySem.Expr} {Q : Value → Shared → Prop} (N : News h₀ L s.heap news) (hm : (l, listOf [.int n0 u0, .str x1 u1, .none, .ref β].toArray c) ∈ news) (hβ : (β, oβ) ∈ news) (hcl : oβ.cls = .type "list") (hk : k < 4)
    (h : ∀ bad, BadV β oβ bad → Q bad s)
    (hs : subscripted slice false (.ref l) (.int (k : Int) u) = operate [.ref l, .int (k : Int) u] (getItem (.ref l) (.int (k : Int) u)) := by with_unfolding_all rfl) :
    wpAny (model prog w) A (subscriptTail value slice (.ref l) (.int (k : Int) u)) Q E s := by
  have go : ∀ v, BadV β oβ v → [.int n0 u0, .str x1 u1, .none, .ref β][k]? = some v → wpAny (model prog w) A (subscriptTail value slice (.ref l) (.int (k : Int) u)) Q E s := fun v hv hx =>
    kba_turn (value' := .Name (PySem.Str.ofString "_") ⟨0, 0, 0, 0⟩) (fun _ => rfl) (item_V N hm (by omega) hx (h v hv) hs (fun _ => rfl))
  have : k = 0 ∨ k = 1 ∨ k = 2 ∨ k = 3 := lt4 hk
  rcases this with rfl | rfl | rfl | rfl
  · exact go _ ⟨hcl, .inl ⟨_, _, rfl⟩⟩ rfl
  · exact go _ ⟨hcl, .inr (.inl ⟨_, _, rfl⟩)⟩ rfl
  · exact go _ ⟨hcl, .inr (.inr (.inl rfl))⟩ rfl
  · exact go _ ⟨hcl, .inr (.inr (.inr rfl))⟩ rfl
end
/-- the state of the law's last loop -/
def LawU (w : World) (dflt : B) (size dep : Nat) (φ δ Kl Tl τ dx : Addr) (c₀ : Nat) (o153 oδ : Obj) (H : Nat → Int) (T' U' : Nat → Tok) (root : B) (kvs trs : List Value) (ck ct : Nat) (tf tb : Tok) (ff rb : Nat) (m : Str → Option Value) (nw : List (Addr × Obj)) : Prop :=
  (X2 fun (R : List B) (G : List (Addr × Obj)) => A8 (nw = (Kl, listOf kvs.toArray ck) :: (Tl, listOf trs.toArray ct) :: (153, o153) :: (τ, instObj 147 dx) :: (dx, dictOf (treeEs H T' U' size dep dflt φ δ root) 6) :: (δ, oδ) :: G) (HashG w φ c₀ R G) (R.length ≤ rb) (m (Str.ofString "hash_of") = some (.ref φ)) (m (Str.ofString "trees") = some (.ref Tl)) (m (Str.ofString "keys") = some (.ref Kl)) (m (Str.ofString "first") = some (.int (ff : Int) tf)) (m (Str.ofString "before") = some (.bytes root.toArray tb)))
theorem words19 : True := by
  -- the law's own frame
  k_with "eval IfExp" => ((with_reducible rename HoldOn 1 => hon'); refine Hold.mk ?_)
  k_with "subscriptTail List BinOp ref int" => ((with_reducible rename HoldOn 1 => hon'); refine Hold.mk ?_)
  k_with "binaryOp Mod int int" => ((with_reducible show wpAny _ _ (binaryOp _ (Value.int (Nat.cast _) _) (Value.int (OfNat.ofNat _) _)) _ _ _); (refine mod_lit (by decide) ?_); intro _ _)
  k_with "binaryOp FloorDiv int int" => ((with_reducible show wpAny _ _ (binaryOp _ (Value.int (Nat.cast _) _) (Value.int (OfNat.ofNat _) _)) _ _ _); (refine fdiv_lit (by decide) (by decide) ?_); intro _ _)
  k_with "binaryOp Mult bytes int" => first | ((refine mulz_lit (by decide) ?_); intro _ _ _ _) | ((refine mulz_b (by k_extra "MyOm") ?_); intro _ _ _ _)
  k_with "call ref" => ((with_reducible show wpAny _ _ (call (Value.ref 147) _) _ _ _); refine Hold.mk ?_)
  k_with "call ref" => (k_dflt (refine' call_cls ?k1 ?k2 ?k3 ?k4 ?k5 ?k6 ?_; (case k1 => k_asm); (case k2 => k_asm); (case k3 => k_asm); (case k4 => k_is); (case k5 => k_is); (case k6 => k_is); k_whole; intro x' d' h' F' N' l1' l2'; (try k_lt l1'); (try k_lt2 l2'); (try k_sweep); (try dsimp only); refine' ConA.useI (Con.toA (con_init ?myH ?my1 ?my2 ?my3 ?my4 ?my5 _ _ ?my6 ?my7 ?my8)) ?myB ?myF ?myX ?myN ?myT ?myk ?myd ?myu ?mys ?myct ?_; k_extra "MyInit"); intro v' h' tk' nw' F' N' po' ap'; obtain ⟨δ', oδ', D', R', HG', H', T', U', root', e1', e2', H'', hp', hn', hd', hok', hDl', hroot', q1', q2'⟩ := po'; subst e1'; subst e2'; simp only [List.append_nil, List.cons_append, List.nil_append] at N'; clear ap'; (try dsimp only [InitBack]); (try k_sweep))
  k_with "MyAll" => first | assumption | exact HashG.off153 (by assumption) | exact allLt_ne (by assumption) | exact List.forall_mem_nil _ | (refine' HashG.off ?myHa ?myHb; (case myHa => assumption); (case myHb => k_extra "MyOm")) | (with_reducible refine' consNe ?mna ?mnb; (case mna => k_ne); (case mnb => k_extra "MyAll")) | (refine allApp ?_ ?_ <;> k_extra "MyAll")
  k_with "MyIsB" => first | exact IsB.mk _ _ (by decide) | exact IsB.mk _ _ (by k_extra "MyOm")
  k_with "subscriptTail" => ((with_reducible show wpAny _ _ (subscriptTail _ _ (Value.ref _) (Value.int _ _)) _ _ _); refine Hold.mk ?_)
  k_with "subscriptTail" => ((with_reducible show wpAny _ _ (subscriptTail _ _ (Value.ref _) (Value.int (Nat.cast _) _)) _ _ _); k_dflt (refine' item_pick4 ?myN ?mym ?myk ?my0 ?my1 ?my2 ?my3 ?_; (case myN => k_asm); (case mym => k_mem); (case myk => k_extra "MyOm"); (case my0 => k_extra "MyIsB"); (case my1 => k_extra "MyIsB"); (case my2 => k_extra "MyIsB"); (case my3 => k_extra "MyIsB")); intro _ _ _)
  trivial
theorem words20 : True := by
  -- the turn of the law's first loop
  k_with "MyTail" => first | with_reducible exact subId _ | with_reducible exact subL _ _ | with_reducible exact subR _ _ | (with_reducible refine subC ?_; k_extra "MyTail") | (with_reducible refine subApp ?_ ?_ <;> k_extra "MyTail") | (with_reducible refine subMid ?_; k_extra "MyTail")
  k_with "MyOff" => first | exact offNil | (with_reducible refine' offCons ?moa ?mob; (case moa => k_extra "MyAll"); (case mob => k_extra "MyOff")) | (refine' HashG.offAll ?moa ?mob; (case moa => assumption); (case mob => assumption))
  k_with "MyCut" => first | exact Cut.nil | (refine' Cut.dropIf ?cutA ?cutB; (case cutA => k_extra "MyMem"); (case cutB => k_extra "MyCut")) | (refine' Cut.keep ?cutC ?cutD; (case cutC => k_extra "MyAll"); (case cutD => k_extra "MyCut")) | (refine' HashG.cutApp ?myHa ?myHb; (case myHa => assumption); (case myHb => assumption)) | (refine' Cut.appLose ?myHo; (case myHo => k_extra "MyOff")) | (refine' HashG.cut ?myHa ?myHb; (case myHa => assumption); (case myHb => k_extra "MyAllLe")) | exact Cut.lose
  k_with "subscriptTail Name Constant ref int" => ((with_reducible show wpAny _ _ (subscriptTail _ _ (Value.ref _) (Value.int 0 _)) _ _ _); k_dflt (refine' item_V0 ?myN ?mym ?myx ?_; (case myN => k_asm); (case mym => k_mem); (case myx => exact rfl)))
  k_with "subscriptTail Name Name ref int" => first | ((with_reducible show wpAny _ _ (subscriptTail _ _ (Value.ref _) (Value.int (Nat.cast _) _)) _ _ _); k_dflt (refine' item_V ?myN ?mym ?myk ?myx ?_; (case myN => k_asm); (case mym => k_mem); (case myx => assumption); (case myk => k_extra "MyOm"))) | ((with_reducible show wpAny _ _ (subscriptTail _ _ (Value.ref _) (Value.int (Nat.cast _) _)) _ _ _); k_dflt (refine' item_S ?myF ?my1 ?my2 ?my3 ?my4 ?_; (case myF => k_asm); (case my1 => assumption); (case my2 => assumption); (case my3 => k_extra "MyOm"); (case my4 => k_extra "MyOm")); intro _ _) | ((with_reducible rename HoldOn 2 => hon'); refine Hold.mk ?_)
  k_with "call builtin:len" => ((with_reducible show wpAny _ _ (call (Value.builtin "len") [Value.ref _]) _ _ _); k_dflt (refine' len_l ?myN ?mym ?myl ?myz ?_; (case myN => k_asm); (case mym => k_mem); (case myl => first | assumption | exact rfl); (case myz => first | decide | k_extra "MyOm")); intro _ _)
  k_with "call builtin:abs" => ((refine abs_n ?_); intro _ _ _)
  k_with "call type:dict" => (k_dflt (refine' dictB_copy (knd := bytesKind _ _) ?myF ?myN (TopRead.nolimit (by k_asm)) ?mym ?myd ?mylo ?myz ?_; (case myF => k_asm); (case myN => k_asm); (case mym => k_mem); (case myd => assumption); (case mylo => assumption); (case myz => k_extra "MyOm")); intro d' h' o' F' N' l1' lo' hd'; (try k_lt l1'); (try k_sweep))
  k_with "compareOp NotIn bytes ref" => (k_dflt (refine' notIn_b ?myN ?mym ?myd ?_; (case myN => k_asm); (case mym => k_mem); (case myd => assumption)); intro b'; (cases b'))
  k_with "call builtin:int.to_bytes" => ((refine to_bytes_n (by k_extra "MyOm") (by assumption) ?_); intro _ _ _ _)
  k_with "binaryOp Pow int int" => ((refine pow256 (by k_extra "MyOm") ?_); intro _ _)
  k_with "MyFrom" => ((case my1 => assumption); (case my2 => k_extra "MyOm"); (case my3 => assumption); (case my4 => assumption); (case my5 => assumption); (case my6 => k_extra "MyOm"); (case my7 => assumption); (case my8 => k_extra "MyOm"); k_extra "MyUseC")
  k_with "MyUseC" => ((case myB => k_asm); (case myF => k_asm); (case myX => k_asm); (case myN => k_asm); (case myT => k_asm); (case myk => first | exact rfl | assumption); (case myd => k_extra "MyLe"); (case myu => k_extra "MyLe"); (case mys => k_extra "MySub"); (case myct => k_extra "MyCut"))
  k_with "call ref" => ((with_reducible show wpAny _ _ (call (Value.ref 193) _) _ _ _); k_dflt (refine' Con.use (con_value ?my1 ?my2 _ _ _ _) ?myB ?myF ?myX ?myN ?myT ?myk ?myd ?myu ?mys ?myct ?_; (case my1 => assumption); (case my2 => k_extra "MyOm"); k_extra "MyUseC"); intro v' h' tk' nw' F' N' po' ap'; obtain ⟨R', x', t', e1', HH', hp', hn', hx'⟩ := po'; subst e1'; simp only [List.cons_append, List.nil_append, List.append_assoc] at N'; clear ap'; (try dsimp only))
  k_with "call ref" => ((with_reducible rename HoldOn 3 => hon'); refine Hold.mk ?_)
  k_with "call builtin:list.append" => (k_dflt (refine' append_L ?myF ?myN ?myU ?myz ?_; (case myF => k_asm); (case myN => k_asm); (case myU => k_upd); (case myz => first | k_extra "MyOm" | ((try simp only [List.length_cons, List.length_nil]); k_extra "MyOm"))); intro h' F' N'; (try simp only [List.cons_append, List.nil_append] at N'); (try k_sweep))
  k_with "subscriptTail Name BinOp ref int" => ((with_reducible show wpAny _ _ (subscriptTail _ _ (Value.ref _) (Value.int (Nat.cast _) _)) _ _ _); k_dflt (refine' item_S ?myF ?my1 ?my2 ?my3 ?my4 ?_; (case myF => k_asm); (case my1 => assumption); (case my2 => assumption); (case my3 => k_extra "MyOm"); (case my4 => k_extra "MyOm")); intro _ _)
  k_with "MyIsNs" => first | exact List.forall_mem_nil _ | (refine List.forall_mem_cons.mpr ⟨by first | exact IsN.lit _ _ | exact IsN.nat _ _, ?_⟩; k_extra "MyIsNs")
  k_with "subscriptTail" => ((with_reducible show wpAny _ _ (subscriptTail _ _ (Value.ref _) (Value.int (Nat.cast _) _)) _ _ _); k_dflt (refine' item_pickN ?myN ?mym ?myz ?myk ?myh ?_; (case myN => k_asm); (case mym => k_mem); (case myz => (simp only [List.length_cons, List.length_nil]; decide)); (case myk => (simp only [List.length_cons, List.length_nil]; k_extra "MyOm")); (case myh => k_extra "MyIsNs")); intro _ _)
  k_with "binaryOp Mod int int" => ((with_reducible show wpAny _ _ (binaryOp _ (Value.int (Nat.cast _) _) (Value.int (Nat.cast _) _)) _ _ _); (refine mod_q (by first | assumption | exact Nat.pow_pos (by decide)) ?_); intro _ _ _ _)
  k_with "exec If" => ((with_reducible rename HoldOn 4 => hon'); refine Hold.mk ?_)
  k_with "call ref" => ((with_reducible show wpAny _ _ (call (Value.ref 200) _) _ _ _); refine Hold.mk ?_)
  k_with "call ref" => ((with_reducible show wpAny _ _ (call (Value.ref 165) _) _ _ _); refine Hold.mk ?_)
  k_with "call ref" => ((with_reducible show wpAny _ _ (call (Value.ref 186) _) _ _ _); refine Hold.mk ?_)
  k_with "compareOp NotEq ref ref" => refine Hold.mk ?_
  k_with "binaryOp Mult int int" => ((refine mul8 (by assumption) (by k_extra "MyOm") ?_); intro _ _)
  k_with "ite" => first | (with_reducible refine ite_pos rfl ?_) | (with_reducible refine ite_neg Bool.false_ne_true ?_)
  k_with "MyRoom" => (have hcL' := cLine_is; (try dsimp only [ktrTop, Around.deeper, Around.under, Around.in1, Around.mark]); k_extra "MyOm")
  trivial
set_option maxHeartbeats 6000000 in
set_option pp.deepTerms false in
set_option pp.deepTerms.threshold 8 in
theorem law_turn {w : World} {dflt : B} {size dep : Nat} {φ δ Kl Hl Tl τ0 d0 η0 sc : Addr} {c₀ mo : Nat} {o153 : Obj} {tz td tm tf t0 : Tok} {ff i rb : Nat} {m : Str → Option Value} {nw : List (Addr × Obj)} {ws : List Value} {ns : List Int}
    {p : Program} {loose : List Str} {mean : ExcName → Option Value} {mg mb : Str → Option Value} {dp un : Nat} {gd : Option (List Code)} {L a : Addr} {ccd : Value} {A₀ : Around} {h₀ h : Heap} {s : Shared} {I : Addr} {oI : Obj} {Q : Flow → Shared → Prop} {E : Value → Shared → Prop}
    (hdp : dp ≤ 340) (hun : un ≤ 540) (Bl : Below A₀ h₀ [] h₀) (X : (hd.heap_39 w.params).In h₀) (T : Top p loose mean mg mb h₀) (hsc : h₀.IsList sc ws.toArray) (hin : IntsAre ws ns) (hi : 1 + i * 2 < ns.length) (hi6 : i < 6) (hns : ns.length ≤ 63)
    (F : Fr h₀ L s.heap (fun y => if y = Str.ofString "k" then some (.int ((1 + i * 2 : Nat) : Int) t0) else m y)) (N : News h₀ L s.heap ((I, oI) :: nw)) (hI : ∀ p ∈ nw, p.1 ≠ I)
    (S : LawS w dflt size dep φ δ Kl Hl Tl τ0 d0 η0 sc c₀ mo o153 tz td tm tf ff i rb m nw) (hrb : rb ≤ 5000) (hdl : dflt.length ≤ 1000) (hdep : dep = 8 * size) (hsz1 : 1 ≤ size) (hsz2 : size ≤ 2)
    (o1 : @LT.lt Nat _ 153 c₀) (o2 : @LE.le Nat _ c₀ d0) (o3 : @LT.lt Nat _ d0 τ0) (o4 : @LT.lt Nat _ τ0 δ) (o5 : @LT.lt Nat _ δ Tl) (o6 : @LT.lt Nat _ Tl η0) (o7 : @LT.lt Nat _ η0 Hl) (o8 : @LT.lt Nat _ Hl Kl) (o9 : @LT.lt Nat _ Kl I) :
    wpAny (model Challenge.rw_iu0035_01.row.prog w) (ktrTop dp un gd (Str.ofString "law") lawScope L a ccd [] []) (execs (loopBody 8) (lawEnv L a ccd))
      (TurnP h₀ L I (LawS w dflt size dep φ δ Kl Hl Tl τ0 d0 η0 sc c₀ mo o153 tz td tm tf ff (i + 1) (rb + 500)) oI s Q) E s := by
  revert X
  k_fill
  intro X
  obtain ⟨kvs, ck, keys, trs, hls, ct, ch, nt, OG, oδ, D, R, G, rfl, hkl, hkz, hk1, hk2, hT, hD, hok, hDl, HG, hRb, e1, e2, e3, e4, e5, e6, e7, e8, e9⟩ := S
  have F3 := frKnow (frKnow (frKnow (frKnow (frKnow (frKnow (frKnow (frKnow (frKnow F (n := Str.ofString "hash_of") (by k_extra "MyKnow")) (n := Str.ofString "size") (by k_extra "MyKnow")) (n := Str.ofString "default") (by k_extra "MyKnow")) (n := Str.ofString "moment") (by k_extra "MyKnow")) (n := Str.ofString "trees") (by k_extra "MyKnow")) (n := Str.ofString "helds") (by k_extra "MyKnow")) (n := Str.ofString "keys") (by k_extra "MyKnow")) (n := Str.ofString "script") (by k_extra "MyKnow")) (n := Str.ofString "first") (by k_extra "MyKnow")
  clear F
  have eS : lawScope = lawScope := rfl
  have eB : loopBody 8 = loopBody 8 := rfl
  conv at eS => rhs; whnf
  conv at eB => rhs; whnf
  dsimp only at eS eB
  unfold lawEnv
  rw [eS, eB]
  have cδ : @LE.le Nat _ c₀ δ := Nat.le_of_lt (Nat.lt_of_le_of_lt o2 (Nat.lt_trans o3 o4))
  have cT : @LE.le Nat _ c₀ Tl := Nat.le_of_lt (Nat.lt_of_le_of_lt cδ o5)
  have cH : @LE.le Nat _ c₀ Hl := Nat.le_of_lt (Nat.lt_of_le_of_lt cT (Nat.lt_trans o6 o7))
  have cK : @LE.le Nat _ c₀ Kl := Nat.le_of_lt (Nat.lt_of_le_of_lt cH o8)
  have cI : @LE.le Nat _ c₀ I := Nat.le_of_lt (Nat.lt_of_le_of_lt cK o9)
  have eHI : @LT.lt Nat _ Hl I := Nat.lt_trans o8 o9
  have eTI : @LT.lt Nat _ Tl I := Nat.lt_trans (Nat.lt_trans o6 o7) eHI
  have eTK : @LT.lt Nat _ Tl Kl := Nat.lt_trans (Nat.lt_trans o6 o7) o8
  have nKI : @LT.lt Nat _ Kl I := o9
  have nHI : @LT.lt Nat _ Hl I := eHI
  have nTI : @LT.lt Nat _ Tl I := eTI
  have nδI : @LT.lt Nat _ δ I := Nat.lt_trans o5 eTI
  have n1I : @LT.lt Nat _ 153 I := Nat.lt_of_lt_of_le o1 cI
  have nHK : @LT.lt Nat _ Hl Kl := o8
  have nTK : @LT.lt Nat _ Tl Kl := eTK
  have nTH : @LT.lt Nat _ Tl Hl := Nat.lt_trans o6 o7
  have nδT : @LT.lt Nat _ δ Tl := o5
  have nδK : @LT.lt Nat _ δ Kl := Nat.lt_trans o5 eTK
  have nδH : @LT.lt Nat _ δ Hl := Nat.lt_trans o5 (Nat.lt_trans o6 o7)
  have n1K : @LT.lt Nat _ 153 Kl := Nat.lt_of_lt_of_le o1 cK
  have n1H : @LT.lt Nat _ 153 Hl := Nat.lt_of_lt_of_le o1 cH
  have n1T : @LT.lt Nat _ 153 Tl := Nat.lt_of_lt_of_le o1 cT
  have n1δ : @LT.lt Nat _ 153 δ := Nat.lt_of_lt_of_le o1 cδ
  refine execs_two (P := MidP (LawS w dflt size dep φ δ Kl Hl Tl τ0 d0 η0 sc c₀ mo o153 tz td tm tf ff i (rb + 17)) h₀ L I oI s (.int ((1 + i * 2 : Nat) : Int) t0)) ?ifpart ?rest
  case ifpart =>
    have fin : ∀ tk : Nat, OnNext (MidP (LawS w dflt size dep φ δ Kl Hl Tl τ0 d0 η0 sc c₀ mo o153 tz td tm tf ff i (rb + 17)) h₀ L I oI s (.int ((1 + i * 2 : Nat) : Int) t0)) Flow.next { s with toks := tk } := fun tk =>
      ⟨rfl, s.heap, tk, _, _, rfl, F3, N, hI, rfl, ⟨kvs, ck, keys, _, _, ct, ch, _, _, oδ, D, R, G, rfl, hkl, hkz, hk1, hk2, hT, hD, hok, hDl, HG, by k_extra "MyOm", rfl, rfl, rfl, rfl, rfl, rfl, rfl, rfl, rfl⟩⟩
    rcases hT with ⟨rfl, rfl, rfl, hF0⟩ | ⟨rfl, τ1, d1, η1, A0, A1, rfl, rfl, hF0, hF1, rfl, q1, q2, q3, q4, q5, q6, q7, q8, q9, q10, q11, q12⟩
    · by_cases hm : (1 + i * 2) / 2 = mo
      · obtain ⟨H0, T0, U0, root0, oh0, hh0, rfl, hr0, hoh0, lo0, hks0, hhl0⟩ := hF0
        have hr32 := hr0.length
        simp only [List.cons_append, List.nil_append] at N
        have hon3 : HoldOn 3 := ⟨rfl⟩
        k_extra "MySteps"
        rename HoldOn 3 => hon3
        clear hon3
        refine Hold.un ?_
        refine' call_meth ?cmN ?cmq (ConA.useI (Con.toA (con_from ?my1 ?my2 ?my3 ?my4 ?my5 ?my6 ?my7 _ _ _ ?my8)) ?myB ?myF ?myX ?myN ?myT ?myk ?myd ?myu ?mys ?myct ?_)
        case cmN => k_asm
        case cmq => k_mem
        k_extra "MyFrom"
        intro v1 h1 tk1 nw1 F1 N1 po ap
        obtain ⟨τ1, d1, R1, G1, H1, T1, U1, rfl, rfl, HG1, hp1, hn1, q1, q2⟩ := po
        have f1 := ap (τ1, instObj 147 d1) (.head _) (notinCons (neN (by (try dsimp only); k_extra "MyOm")) (HG.off (by k_extra "MyOm")))
        have f2 := ap (d1, dictOf (treeEs H1 T1 U1 size dep dflt φ δ root0) 6) (.tail _ (.head _)) (notinCons (neN (by (try dsimp only); k_extra "MyOm")) (HG.off (by k_extra "MyOm")))
        simp only [List.forall_mem_cons] at f1 f2
        obtain ⟨f1a, f1b, f1c, f1d, f1e, f1f, f1g, f1h, f1i, f1j, -⟩ := f1
        obtain ⟨f2a, f2b, f2c, f2d, f2e, f2f, f2g, f2h, f2i, f2j, -⟩ := f2
        clear ap
        simp only [List.append_nil, List.cons_append, List.nil_append] at N1
        k_extra "MySteps"
        rename_i hA tkA η1 hB ohn lon hdn l1n hC FC NC
        refine ⟨rfl, hC, _, _, (Kl, listOf kvs.toArray ck) :: (Hl, listOf [.ref η0, .ref η1].toArray (ch + 1)) :: (Tl, listOf [.ref τ0, .ref τ1].toArray (ct + 1)) :: (153, o153) :: (δ, oδ) ::
          (([(τ0, instObj 147 d0), (d0, dictOf (treeEs H0 T0 U0 size dep dflt φ δ root0) 6), (η0, oh0)] ++ [(τ1, instObj 147 d1), (d1, dictOf (treeEs H1 T1 U1 size dep dflt φ δ root0) 6), (η1, ohn)]) ++ G1),
          rfl, FC, newsSub NC ?subI, ?allI, rfl, ⟨kvs, ck, keys, _, _, ct + 1, ch + 1, 2, _, oδ, D, R1, G1, rfl, hkl, hkz, hk1, hk2,
            .inr ⟨rfl, τ1, d1, η1, _, _, rfl, rfl, ⟨H0, T0, U0, root0, oh0, hh0, rfl, hr0, hoh0, lo0, hks0, hhl0⟩, ⟨H1, T1, U1, root0, ohn, hh0, rfl, hr0, hdn, lon, hks0, hhl0⟩, rfl, q1, q2, by k_extra "MyOm", by k_extra "MyOm", by assumption, by assumption, by assumption, by assumption, by assumption, by assumption, by assumption, by assumption⟩, hD, hok.mono hp1, hDl, HG1, by k_extra "MyOm", rfl, rfl, rfl, rfl, rfl, rfl, rfl, rfl, rfl⟩⟩
        case subI => simp only [List.cons_append, List.nil_append]; k_extra "MySub"
        case allI => simp only [List.cons_append, List.nil_append]; k_extra "MyAll"
      · k_extra "MySteps"
        exact fin _
    · have h21 : ¬ ((2 : Nat) : Int) = 1 := by decide
      have h22 : ¬ (2 : Int) = 1 := by decide
      k_extra "MySteps"
      all_goals exact fin _
  case rest =>
    clear F3 N hI hT hD hok HG
    rintro s' ⟨h', tk', m', nw', rfl, F', N', hI, ek, kvs, ck, keys, trs, hls, ct, ch, nt, OG, oδ, D, R, G, rfl, hkl, hkz, hk1, hk2, hT, hD, hok, hDl, HG, hRb, e1, e2, e3, e4, e5, e6, e7, e8, e9⟩
    have hlen : ws.length = ns.length := hin.length
    have F3 := frKnow (frKnow (frKnow (frKnow (frKnow (frKnow (frKnow (frKnow (frKnow (frKnow F' (n := Str.ofString "hash_of") (by k_extra "MyKnow")) (n := Str.ofString "size") (by k_extra "MyKnow")) (n := Str.ofString "default") (by k_extra "MyKnow")) (n := Str.ofString "moment") (by k_extra "MyKnow")) (n := Str.ofString "trees") (by k_extra "MyKnow")) (n := Str.ofString "helds") (by k_extra "MyKnow")) (n := Str.ofString "keys") (by k_extra "MyKnow")) (n := Str.ofString "script") (by k_extra "MyKnow")) (n := Str.ofString "k") (by k_extra "MyKnow")) (n := Str.ofString "first") (by k_extra "MyKnow")
    clear F'
    have htl : trs.length = nt := by rcases hT with ⟨rfl, rfl, _⟩ | ⟨rfl, _, _, _, _, _, rfl, _⟩ <;> rfl
    have hn0 : 0 < nt := by rcases hT with ⟨rfl, _⟩ | ⟨rfl, _⟩ <;> k_extra "MyOm"
    have hn2 : nt ≤ 2 := by rcases hT with ⟨rfl, _⟩ | ⟨rfl, _⟩ <;> k_extra "MyOm"
    have hkvl : kvs.length = keys.length := hkl.length
    have hOK : ∀ p ∈ OG, p.1 ≠ Kl := by
      rcases hT with ⟨_, _, _, hF0⟩ | ⟨_, τ1, d1, η1, A0, A1, _, _, hF0, hF1, rfl, q1, q2, q3, q4, q5, q6, q7, q8, q9, q10, q11, q12⟩
      · intro p hp
        rcases hF0.addrs p hp with e | e | e <;> rw [e] <;> exact neN (by k_extra "MyOm")
      · intro p hp
        rcases List.mem_append.mp hp with hp | hp
        · rcases hF0.addrs p hp with e | e | e <;> rw [e] <;> exact neN (by k_extra "MyOm")
        · rcases hF1.addrs p hp with e | e | e <;> rw [e]
          · exact Ne.symm q12
          · exact Ne.symm q8
          · exact neN (by k_extra "MyOm")
    have hon : HoldOn 1 := ⟨rfl⟩
    have hon2 : HoldOn 2 := ⟨rfl⟩
    k_extra "MySteps"
    refine Hold.un (mono_nat (P := fun _ => True) ?num ?rst)
    case num =>
      rename HoldOn 1 => hon
      clear hon
      k_extra "MySteps"
      all_goals first | exact GotNat.lit trivial | exact GotNat.nat trivial
    case rst =>
      intro number tn kn _
      rename HoldOn 1 => hon
      have hp256 : 1 ≤ 256 ^ size := Nat.pow_pos (by decide)
      dsimp only
      k_extra "MySteps"
      refine Hold.un (mono_nat (P := fun z => z < 256 ^ size) ?plc ?rst)
      case plc =>
        rename HoldOn 1 => hon
        clear hon
        k_extra "MySteps"
        all_goals exact GotNat.nat (by k_extra "MyOm")
      case rst =>
        intro kz tkz kkz hkz2
        rename HoldOn 1 => hon
        have hon4 : HoldOn 4 := ⟨rfl⟩
        dsimp only
        k_extra "MySteps"
        rename HoldOn 4 => hon4
        clear hon4
        rename List.length _ = size => hky
        rename Fr h₀ L _ _ => Fc
        rename News h₀ L _ _ => Nc
        rename_i key tky kky hHk
        refine Hold.un (if_merge Fc (fun nw => (X3 fun (kvs2 : List Value) (ck2 : Nat) (keys2 : List B) => A5 (nw = (I, oI) :: (Kl, listOf kvs2.toArray ck2) :: (Hl, listOf hls.toArray ch) :: (Tl, listOf trs.toArray ct) :: (153, o153) :: (δ, oδ) :: (OG ++ G)) (BL kvs2 keys2) ((∀ k ∈ keys2, k.length = size)) (1 ≤ keys2.length) (keys2.length ≤ 2 + i))) ?ky ?rst)
        case ky =>
          k_extra "MySteps"
          · exact ⟨rfl, _, _, _, rfl, Fc, newsSub Nc (by k_extra "MySub"), kvs, ck, keys, rfl, hkl, hkz, hk1, by k_extra "MyOm"⟩
          · rename Fr h₀ L _ _ => Fd
            rename News h₀ L _ _ => Nd
            refine ⟨rfl, _, _, _, rfl, Fd, newsSub Nd (by k_extra "MySub"), kvs ++ [_], ck + 1, keys ++ [key], rfl, hkl.append (BL.one key tky), ?_, by simp, by simp; k_extra "MyOm"⟩
            intro k hk
            rcases List.mem_append.mp hk with hk | hk
            · exact hkz k hk
            · rw [List.mem_singleton.mp hk]; exact hky
        case rst =>
          clear Fc Nc
          rintro h5 tk5 nw5 Fd Nd ⟨kvs2, ck2, keys2, rfl, hkl2, hkz2, hk12, hk22⟩
          dsimp only
          k_extra "MySteps"
          rename HoldOn 2 => hon2
          clear hon2
          rename _ < nt => hqn
          rename_i which tq kq hHq Fq Nq
          obtain ⟨τ, dx, η, FG, OG2, htx, hhx, hF, hFG, hOG2, ⟨c1, c2, c3⟩, cO, hx4, ⟨nn1, nn2, nn3⟩, hO3, hback⟩ := hT.focus hqn o1 o2 o3 o4 o5 o6 o7 o8
          obtain ⟨⟨x1, x2, x3, x4⟩, ⟨x5, x6, x7, x8⟩, ⟨x9, x10, x11, x12⟩, ⟨x13, x14, x15, x16⟩⟩ : (δ ≠ τ ∧ δ ≠ dx ∧ δ ≠ η ∧ ∀ p ∈ OG2, p.1 ≠ δ) ∧ (Kl ≠ τ ∧ Kl ≠ dx ∧ Kl ≠ η ∧ ∀ p ∈ OG2, p.1 ≠ Kl) ∧ (Hl ≠ τ ∧ Hl ≠ dx ∧ Hl ≠ η ∧ ∀ p ∈ OG2, p.1 ≠ Hl) ∧ (Tl ≠ τ ∧ Tl ≠ dx ∧ Tl ≠ η ∧ ∀ p ∈ OG2, p.1 ≠ Tl) :=
            ⟨hx4 _ (by simp), hx4 _ (by simp), hx4 _ (by simp), hx4 _ (by simp)⟩
          have hO1 : ∀ p ∈ OG2, p.1 ≠ τ := fun p hp => (hO3 p hp).1
          have hO2 : ∀ p ∈ OG2, p.1 ≠ dx := fun p hp => (hO3 p hp).2.1
          have hO4 : ∀ p ∈ OG2, p.1 ≠ η := fun p hp => (hO3 p hp).2.2
          have hinI : ∀ p ∈ OG, p.1 ≠ I := fun p hp => hI p (by k_extra "MyIn")
          have hOI : ∀ p ∈ OG2, p.1 ≠ I := fun p hp => hinI p (hOG2 p hp)
          have hO153 : ∀ p ∈ OG2, p.1 ≠ 153 := fun p hp => Nat.ne_of_gt (Nat.lt_of_lt_of_le o1 (cO p hp))
          have hFI : ∀ p ∈ FG, p.1 ≠ I := fun p hp => hinI p (hFG p hp)
          obtain ⟨H, T', U', root, oh, hh, rfl, hr, hoh, loη, hks, hhl⟩ := hF
          simp only [List.forall_mem_cons] at hFI
          obtain ⟨i1, i2, i3, -⟩ := hFI
          have hr32 := hr.length
          have hpath : natOf key < 2 ^ dep := key_lt hky hdep
          have m1 : (τ, instObj 147 dx) ∈ OG := hFG _ (.head _)
          have m2 : (dx, dictOf (treeEs H T' U' size dep dflt φ δ root) 6) ∈ OG := hFG _ (.tail _ (.head _))
          have m3 : (η, oh) ∈ OG := hFG _ (.tail _ (.tail _ (.head _)))
          have d1 : @LT.lt Nat _ 153 τ := Nat.lt_of_lt_of_le o1 c1
          have d2 : @LT.lt Nat _ 153 dx := Nat.lt_of_lt_of_le o1 c2
          have d3 : @LT.lt Nat _ 153 η := Nat.lt_of_lt_of_le o1 c3
          have N2 := newsSub Nq (small := (I, oI) :: (Kl, listOf kvs2.toArray ck2) :: (Hl, listOf hls.toArray ch) :: (Tl, listOf trs.toArray ct) :: (153, o153) :: (τ, instObj 147 dx) :: (dx, dictOf (treeEs H T' U' size dep dflt φ δ root) 6) :: (η, oh) :: (δ, oδ) :: (OG2 ++ G)) (by k_extra "MySb")
          clear Nq
          refine Hold.un (item_V (c := ct) N2 (by simp) (by k_extra "MyOm") htx ?_)
          k_extra "MySteps"
          rename HashG _ _ _ _ _ => HGv
          rename R <+: _ => hpv
          rename List.length _ ≤ List.length R + 1 => hnv
          rename List.length _ ≤ 1000 => hxv
          refine Hold.un ?_
          refine' Con.use (con_done HGv hD (hok.mono hpv) (by k_extra "MyOm") (by k_extra "MyOm") hdep hsz1 hsz2 hr key hky hpath _ _ _ hxv hdl _ _ c1 c2 (by k_extra "MyOm") x1 x2 (Ne.symm nn1) _ (by k_extra "MyOm")) ?myB ?myF ?myX ?myN ?myT ?myk ?myd ?myu ?mys ?myct ?_; k_extra "MyUseC"
          intro v6 h6 tk6 nw6 F6 N6 po ap
          obtain ⟨r, tx, x, told, BG, R6, D6, oδ6, G6, U6, root6, rfl, rfl, hx6, htold, HG6, hp6, hn6, hD6, hok6, hsub6, hDl6, hr6, l6a, l6b, l6c⟩ := po
          have f6 := ap (r, _) (.head _) (notinCons (Nat.ne_of_lt l6a) (consNe (Nat.ne_of_lt l6b) (consNe (Nat.ne_of_lt l6c) (HGv.off (Nat.le_of_lt (Nat.lt_of_le_of_lt c1 l6a))))))
          simp only [List.forall_mem_cons] at f6
          obtain ⟨f6a, f6b, f6c, f6d, f6e, f6f, f6g, f6h, f6i, f6j⟩ := f6
          have hOr : ∀ p ∈ OG2, p.1 ≠ r := fun p hp => f6j p (List.mem_append_left _ hp)
          simp only [List.cons_append, List.nil_append] at N6
          have hhl6 : (put hh key x).length ≤ i + 1 := Nat.le_trans (put_length_le _ _ _) (by k_extra "MyOm")
          have hks6 : ∀ k v, (k, v) ∈ put hh key x → k.length = size ∧ v.length ≤ 1000 := fun k v hm => (put_cases hm).elim (hks k v) fun e => by
            injection e with e1 e2; subst e1; subst e2; exact ⟨hky, hx6⟩
          have hks0 : ∀ q ∈ hh, q.1.length = size := fun q hq => (hks q.1 q.2 hq).1
          have hval6 := valOf_put (dflt := dflt) (x := x) hks0 hky
          have hend : ∀ (hz : Heap) (tkz : Nat) (mz : Str → Option Value) (full : List (Addr × Obj)) (ohz : Obj) (Rz : List B) (Gz : List (Addr × Obj)), Fr h₀ L hz mz → News h₀ L hz full → (∀ p ∈ (I, oI) :: (Kl, listOf kvs2.toArray ck2) :: (Hl, listOf hls.toArray ch) :: (Tl, listOf trs.toArray ct) :: (153, o153) :: (τ, instObj 147 dx) :: (dx, dictOf (treeEs H T' U6 size dep dflt φ δ root6) 6) :: (η, ohz) :: (δ, oδ6) :: (OG2 ++ Gz), p ∈ full) →
              DictB (bytesKind Challenge.rw_iu0035_01.row.prog w) ohz (put hh key x) → HashG w φ c₀ Rz Gz → R6 <+: Rz → Rz.length ≤ R6.length + 400 → mz (Str.ofString "hash_of") = some (.ref φ) → mz (Str.ofString "size") = some (.int (size : Int) tz) → mz (Str.ofString "default") = some (.bytes dflt.toArray td) → mz (Str.ofString "moment") = some (.int (mo : Int) tm) → mz (Str.ofString "trees") = some (.ref Tl) → mz (Str.ofString "helds") = some (.ref Hl) → mz (Str.ofString "keys") = some (.ref Kl) → mz (Str.ofString "script") = some (.ref sc) → mz (Str.ofString "first") = some (.int (ff : Int) tf) →
              TurnE h₀ L I (LawS w dflt size dep φ δ Kl Hl Tl τ0 d0 η0 sc c₀ mo o153 tz td tm tf ff (i + 1) (rb + 500)) oI s { s with heap := hz, toks := tkz } := by
            intro hz tkz mz full ohz Rz Gz Fz Nz hsz hDz HGz hpz hnz m1 m2 m3 m4 m5 m6 m7 m8 m9
            obtain ⟨OG', hsub, hT'⟩ := hback D6 [(τ, instObj 147 dx), (dx, dictOf (treeEs H T' U6 size dep dflt φ δ root6) 6), (η, ohz)] hsub6 ⟨H, T', U6, root6, ohz, put hh key x, rfl, by rw [hval6]; exact hr6, hDz, loη, hks6, hhl6⟩
            refine TurnE.sub ((Kl, listOf kvs2.toArray ck2) :: (Hl, listOf hls.toArray ch) :: (Tl, listOf trs.toArray ct) :: (153, o153) :: (δ, oδ6) :: (OG' ++ Gz)) Fz Nz ?_ ?_ ⟨kvs2, ck2, keys2, trs, hls, ct, ch, nt, OG', oδ6, D6, Rz, Gz, rfl, hkl2, hkz2, hk12, by k_extra "MyOm", hT', hD6, hok6.mono hpz, by k_extra "MyOm", HGz, by k_extra "MyOm", m1, m2, m3, m4, m5, m6, m7, m8, m9⟩
            · have hs2 := subTr hsub (r := (I, oI) :: (Kl, listOf kvs2.toArray ck2) :: (Hl, listOf hls.toArray ch) :: (Tl, listOf trs.toArray ct) :: (153, o153) :: (τ, instObj 147 dx) :: (dx, dictOf (treeEs H T' U6 size dep dflt φ δ root6) 6) :: (η, ohz) :: (δ, oδ6) :: (OG2 ++ Gz)) (by k_extra "MySb")
              exact subTr (m := (I, oI) :: (Kl, listOf kvs2.toArray ck2) :: (Hl, listOf hls.toArray ch) :: (Tl, listOf trs.toArray ct) :: (153, o153) :: (τ, instObj 147 dx) :: (dx, dictOf (treeEs H T' U6 size dep dflt φ δ root6) 6) :: (η, ohz) :: (δ, oδ6) :: (OG2 ++ Gz)) (by k_extra "MySb") hsz
            · have hs3 : ∀ p ∈ OG', p.1 ≠ I := neSplit hsub (consNe i1 (consNe i2 (consNe i3 (List.forall_mem_nil _)))) hOI
              k_extra "MyAll"
          rcases htold with ⟨rfl, rfl⟩ | ⟨b, vs, xs, rfl, rfl, hb1, hb2, hb3, lb1, lb2, lb3, lb4⟩
          · have N7 := newsSub N6 (small := (I, oI) :: (Kl, listOf kvs2.toArray ck2) :: (Hl, listOf hls.toArray ch) :: (Tl, listOf trs.toArray ct) :: (153, o153) :: (τ, instObj 147 dx) :: (dx, dictOf (treeEs H T' U6 size dep dflt φ δ root6) 6) :: (η, oh) :: (δ, oδ6) :: (r, tupOf [.bytes x.toArray tx, .none]) :: (OG2 ++ G6)) (by k_extra "MySb")
            clear N6 ap
            k_extra "MySteps"
            rename Fr h₀ L _ _ => Fz
            rename News h₀ L _ _ => Nz
            rename DictB _ _ (put _ _ _) => hDz
            exact hend _ _ _ _ _ R6 G6 Fz Nz (by k_extra "MySub") hDz HG6 (List.prefix_refl _) (by k_extra "MyOm") rfl rfl rfl rfl rfl rfl rfl rfl rfl
          · have f7 := ap (b, tupOf vs) (.tail _ (.head _)) (notinCons (Nat.ne_of_lt lb1) (consNe (Nat.ne_of_lt lb2) (consNe (Nat.ne_of_lt lb3) (HGv.off (Nat.le_of_lt (Nat.lt_of_le_of_lt c1 lb1))))))
            simp only [List.forall_mem_cons] at f7
            obtain ⟨f7a, f7b, f7c, f7d, f7e, f7f, f7g, f7h, f7i, f7j⟩ := f7
            have hOb : ∀ p ∈ OG2, p.1 ≠ b := fun p hp => f7j p (List.mem_append_left _ hp)
            have N7 := newsSub N6 (small := (I, oI) :: (Kl, listOf kvs2.toArray ck2) :: (Hl, listOf hls.toArray ch) :: (Tl, listOf trs.toArray ct) :: (153, o153) :: (τ, instObj 147 dx) :: (dx, dictOf (treeEs H T' U6 size dep dflt φ δ root6) 6) :: (η, oh) :: (δ, oδ6) :: (r, tupOf [.bytes x.toArray tx, .ref b]) :: (b, tupOf vs) :: (OG2 ++ G6)) (by k_extra "MySb")
            clear N6 ap
            k_extra "MySteps"
            rename DictB _ _ (put _ _ _) => hDy
            rename Obj => ohy
            refine Hold.un ?_
            refine' Con.use (con_levels HG6 hDy loη (by k_extra "MyOm") (by k_extra "MyOm") hdep hsz1 hsz2 hdl hks6 _ _ c3) ?myB ?myF ?myX ?myN ?myT ?myk ?myd ?myu ?mys ?myct ?_; k_extra "MyUseC"
            intro v8 h8 tk8 nw8 F8 N8 po ap
            obtain ⟨R8, G8, kn, KG, rfl, rfl, hK8, HG8, hp8, hn8, hη8⟩ := po
            simp only [List.cons_append, List.nil_append] at N8
            have hKR : ∀ q ∈ KG, ∀ p ∈ (I, oI) :: (Kl, listOf kvs2.toArray ck2) :: (Hl, listOf hls.toArray ch) :: (Tl, listOf trs.toArray ct) :: (153, o153) :: (τ, instObj 147 dx) :: (dx, dictOf (treeEs H T' U6 size dep dflt φ δ root6) 6) :: (η, ohy) :: (δ, oδ6) :: (b, tupOf vs) :: (OG2 ++ G8), p.1 ≠ q.1 := fun q hq =>
              neSplit (m := (I, oI) :: (Kl, listOf kvs2.toArray ck2) :: (Hl, listOf hls.toArray ch) :: (Tl, listOf trs.toArray ct) :: (153, o153) :: (τ, instObj 147 dx) :: (dx, dictOf (treeEs H T' U6 size dep dflt φ δ root6) 6) :: (η, ohy) :: (δ, oδ6) :: (b, tupOf vs) :: OG2) (r := G8) (by k_extra "MySb") (fun p hp => ap q (.tail _ (List.mem_append_left _ hq)) (notinCons (Nat.ne_of_lt (hη8 q hq)) (HG6.off (Nat.le_of_lt (Nat.lt_of_le_of_lt c3 (hη8 q hq))))) p (by revert p; k_extra "MySb")) (HG8.off (Nat.le_of_lt (Nat.lt_of_le_of_lt c3 (hη8 q hq))))
            have N9 := newsSub N8 (small := KG ++ (I, oI) :: (Kl, listOf kvs2.toArray ck2) :: (Hl, listOf hls.toArray ch) :: (Tl, listOf trs.toArray ct) :: (153, o153) :: (τ, instObj 147 dx) :: (dx, dictOf (treeEs H T' U6 size dep dflt φ δ root6) 6) :: (η, ohy) :: (δ, oδ6) :: (b, tupOf vs) :: (OG2 ++ G8)) (by k_extra "MySb")
            clear N8 ap
            dsimp only
            k_extra "MySteps"
            refine Hold.un ?_
            refine' Con.use (con_along hK8 hdep hsz1 hsz2 key hky _) ?myB ?myF ?myX N9 ?myT ?myk ?myd ?myu (subL _ _) (Cut.app .lose (Cut.off hKR)) ?_
            case myB => k_asm
            case myF => k_asm
            case myX => k_asm
            case myT => k_asm
            case myk => exact rfl
            case myd => k_extra "MyLe"
            case myu => k_extra "MyLe"
            intro v10 h10 tk10 nw10 F10 N10 po ap
            obtain ⟨r2, vs2, xs2, rfl, rfl, hb21, hb22, hb23⟩ := po
            have exs : xs = xs2 := rowsEq HG8.nodup hb2 hb22 (fun j y hj => by
              have := ((hb3 j y hj).toNR hok6).mono hp8
              rw [← hval6] at this; exact this) hb23
            subst exs
            clear ap
            simp only [List.cons_append, List.nil_append] at N10
            k_extra "MySteps"
            refine Hold.un (ne_tup N10 (a := b) (b := r2) (vs := vs) (us := vs2) (xs := xs) (by simp) (by simp) hb1 hb21 (by k_extra "MyRoom") ?_)
            k_extra "MySteps"
            exact hend _ _ _ _ _ R8 G8 F10 N10 (by k_extra "MySub") hDy HG8 hp8 hn8 rfl rfl rfl rfl rfl rfl rfl rfl rfl
theorem words21 : True := by
  -- the turn of the law's second loop
  k_with "call ref" => ((with_reducible show wpAny _ _ (call (Value.ref 172) _) _ _ _); refine Hold.mk ?_)
  k_with "call ref" => ((with_reducible show wpAny _ _ (call (Value.ref 214) _) _ _ _); refine Hold.mk ?_)
  k_with "call ref" => ((with_reducible show wpAny _ _ (call (Value.ref 221) _) _ _ _); refine Hold.mk ?_)
  k_with "subscriptTail Name Slice ref ref" => ((with_reducible show wpAny _ _ (subscriptTail _ (Expr.Slice none _ none _) (Value.ref _) (Value.ref _)) _ _ _); (with_reducible rename Fr _ _ _ _ => F'); (with_reducible rename News _ _ _ _ => N'); (refine' slice_pre (s := ⟨_, _, _, _, _⟩) F' N' ?mym ?my1 ?my2 ?myz ?_; (case mym => k_mem); (case my1 => constructor); (case my2 => constructor); (case myz => k_extra "MyOm")); intro D' h' F' N' l1')
  trivial
set_option maxHeartbeats 2000000 in
set_option pp.deepTerms false in
set_option pp.deepTerms.threshold 8 in
theorem law_turn2 {w : World} {dflt : B} {size dep : Nat} {φ δ Kl Hl Tl τ0 d0 η0 : Addr} {c₀ : Nat} {o153 : Obj} {tz td tf t0 : Tok} {ff i nt rb j : Nat} {m : Str → Option Value} {nw : List (Addr × Obj)}
    {p : Program} {loose : List Str} {mean : ExcName → Option Value} {mg mb : Str → Option Value} {dp un : Nat} {gd : Option (List Code)} {L a : Addr} {ccd : Value} {A₀ : Around} {h₀ : Heap} {s : Shared} {I : Addr} {oI : Obj} {Q : Flow → Shared → Prop} {E : Value → Shared → Prop}
    (hdp : dp ≤ 340) (hun : un ≤ 540) (Bl : Below A₀ h₀ [] h₀) (X : (hd.heap_39 w.params).In h₀) (T : Top p loose mean mg mb h₀) (hi6 : i ≤ 10) (hj : j < nt)
    (F : Fr h₀ L s.heap (fun y => if y = Str.ofString "which" then some (.int (j : Int) t0) else m y)) (N : News h₀ L s.heap ((I, oI) :: nw)) (hI : ∀ p ∈ nw, p.1 ≠ I)
    (S : LawN w dflt size dep φ δ Kl Hl Tl τ0 d0 η0 c₀ o153 tz td tf ff i nt rb m nw) (hrb : rb ≤ 9000) (hdl : dflt.length ≤ 1000) (hdep : dep = 8 * size) (hsz1 : 1 ≤ size) (hsz2 : size ≤ 2)
    (o1 : @LT.lt Nat _ 153 c₀) (o2 : @LE.le Nat _ c₀ d0) (o3 : @LT.lt Nat _ d0 τ0) (o4 : @LT.lt Nat _ τ0 δ) (o5 : @LT.lt Nat _ δ Tl) (o6 : @LT.lt Nat _ Tl η0) (o7 : @LT.lt Nat _ η0 Hl) (o8 : @LT.lt Nat _ Hl Kl) (o9 : @LT.lt Nat _ Kl I) :
    wpAny (model Challenge.rw_iu0035_01.row.prog w) (ktrTop dp un gd (Str.ofString "law") lawScope L a ccd [] []) (execs (loopBody 9) (lawEnv L a ccd))
      (TurnP h₀ L I (LawN w dflt size dep φ δ Kl Hl Tl τ0 d0 η0 c₀ o153 tz td tf ff (i + 1) nt (rb + 600)) oI s Q) E s := by
  revert X
  k_fill
  intro X
  obtain ⟨kvs, ck, keys, trs, hls, ct, ch, OG, oδ, D, R, G, rfl, hkl, hkz, hk1_, hk2_, hT, hD, hok, hDl, HG, hRb, e1, e2, e3, e4, e5, e6, e7⟩ := S
  have F3 := frKnow (frKnow (frKnow (frKnow (frKnow (frKnow (frKnow F (n := Str.ofString "hash_of") (by k_extra "MyKnow")) (n := Str.ofString "size") (by k_extra "MyKnow")) (n := Str.ofString "default") (by k_extra "MyKnow")) (n := Str.ofString "trees") (by k_extra "MyKnow")) (n := Str.ofString "helds") (by k_extra "MyKnow")) (n := Str.ofString "keys") (by k_extra "MyKnow")) (n := Str.ofString "first") (by k_extra "MyKnow")
  clear F
  have eS : lawScope = lawScope := rfl
  have eB : loopBody 9 = loopBody 9 := rfl
  conv at eS => rhs; whnf
  conv at eB => rhs; whnf
  dsimp only at eS eB
  unfold lawEnv
  rw [eS, eB]
  have cδ : @LE.le Nat _ c₀ δ := Nat.le_of_lt (Nat.lt_of_le_of_lt o2 (Nat.lt_trans o3 o4))
  have cT : @LE.le Nat _ c₀ Tl := Nat.le_of_lt (Nat.lt_of_le_of_lt cδ o5)
  have cH : @LE.le Nat _ c₀ Hl := Nat.le_of_lt (Nat.lt_of_le_of_lt cT (Nat.lt_trans o6 o7))
  have cK : @LE.le Nat _ c₀ Kl := Nat.le_of_lt (Nat.lt_of_le_of_lt cH o8)
  have cI : @LE.le Nat _ c₀ I := Nat.le_of_lt (Nat.lt_of_le_of_lt cK o9)
  have eHI : @LT.lt Nat _ Hl I := Nat.lt_trans o8 o9
  have eTI : @LT.lt Nat _ Tl I := Nat.lt_trans (Nat.lt_trans o6 o7) eHI
  have nKI : @LT.lt Nat _ Kl I := o9
  have nHI : @LT.lt Nat _ Hl I := eHI
  have nTI : @LT.lt Nat _ Tl I := eTI
  have nδI : @LT.lt Nat _ δ I := Nat.lt_trans o5 eTI
  have n1I : @LT.lt Nat _ 153 I := Nat.lt_of_lt_of_le o1 cI
  have hn2 : nt ≤ 2 := by rcases hT with ⟨rfl, _⟩ | ⟨rfl, _⟩ <;> k_extra "MyOm"
  obtain ⟨τ, dx, η, FG, OG2, htx, hhx, hF, hFG, hOG2, ⟨c1, c2, c3⟩, cO, hx4, ⟨nn1, nn2, nn3⟩, hO3, hback⟩ := hT.focus hj o1 o2 o3 o4 o5 o6 o7 o8
  obtain ⟨⟨x1, x2, x3, x4⟩, ⟨x5, x6, x7, x8⟩, ⟨x9, x10, x11, x12⟩, ⟨x13, x14, x15, x16⟩⟩ : (δ ≠ τ ∧ δ ≠ dx ∧ δ ≠ η ∧ ∀ p ∈ OG2, p.1 ≠ δ) ∧ (Kl ≠ τ ∧ Kl ≠ dx ∧ Kl ≠ η ∧ ∀ p ∈ OG2, p.1 ≠ Kl) ∧ (Hl ≠ τ ∧ Hl ≠ dx ∧ Hl ≠ η ∧ ∀ p ∈ OG2, p.1 ≠ Hl) ∧ (Tl ≠ τ ∧ Tl ≠ dx ∧ Tl ≠ η ∧ ∀ p ∈ OG2, p.1 ≠ Tl) :=
    ⟨hx4 _ (by simp), hx4 _ (by simp), hx4 _ (by simp), hx4 _ (by simp)⟩
  have hO1 : ∀ p ∈ OG2, p.1 ≠ τ := fun p hp => (hO3 p hp).1
  have hO2 : ∀ p ∈ OG2, p.1 ≠ dx := fun p hp => (hO3 p hp).2.1
  have hO4 : ∀ p ∈ OG2, p.1 ≠ η := fun p hp => (hO3 p hp).2.2
  have hinI : ∀ p ∈ OG, p.1 ≠ I := fun p hp => hI p (by k_extra "MyIn")
  have hOI : ∀ p ∈ OG2, p.1 ≠ I := fun p hp => hinI p (hOG2 p hp)
  have hO153 : ∀ p ∈ OG2, p.1 ≠ 153 := fun p hp => Nat.ne_of_gt (Nat.lt_of_lt_of_le o1 (cO p hp))
  have hFI : ∀ p ∈ FG, p.1 ≠ I := fun p hp => hinI p (hFG p hp)
  obtain ⟨H, T', U', root, oh, hh, rfl, hr, hoh, loη, hks, hhl⟩ := hF
  simp only [List.forall_mem_cons] at hFI
  obtain ⟨i1, i2, i3, -⟩ := hFI
  have hr32 := hr.length
  have m1 : (τ, instObj 147 dx) ∈ OG := hFG _ (.head _)
  have m2 : (dx, dictOf (treeEs H T' U' size dep dflt φ δ root) 6) ∈ OG := hFG _ (.tail _ (.head _))
  have m3 : (η, oh) ∈ OG := hFG _ (.tail _ (.tail _ (.head _)))
  have N2 := newsSub N (small := (I, oI) :: (Kl, listOf kvs.toArray ck) :: (Hl, listOf hls.toArray ch) :: (Tl, listOf trs.toArray ct) :: (153, o153) :: (τ, instObj 147 dx) :: (dx, dictOf (treeEs H T' U' size dep dflt φ δ root) 6) :: (η, oh) :: (δ, oδ) :: (OG2 ++ G)) (by k_extra "MySb")
  clear N
  have hon : HoldOn 1 := ⟨rfl⟩
  have hkvl : kvs.length = keys.length := hkl.length
  k_extra "MySteps"
  refine Hold.un ?_
  refine' Con.use (con_levels HG hoh loη (by k_extra "MyOm") (by k_extra "MyOm") hdep hsz1 hsz2 hdl hks _ _ c3) ?myB ?myF ?myX ?myN ?myT ?myk ?myd ?myu ?mys ?myct ?_; k_extra "MyUseC"
  intro v8 h8 tk8 nw8 F8 N8 po ap
  obtain ⟨R8, G8, kn, KG, rfl, rfl, hK8, HG8, hp8, hn8, hη8⟩ := po
  simp only [List.cons_append, List.nil_append] at N8
  have hKR : ∀ q ∈ KG, ∀ p ∈ (I, oI) :: (Kl, listOf kvs.toArray ck) :: (Hl, listOf hls.toArray ch) :: (Tl, listOf trs.toArray ct) :: (153, o153) :: (τ, instObj 147 dx) :: (dx, dictOf (treeEs H T' U' size dep dflt φ δ root) 6) :: (η, oh) :: (δ, oδ) :: (OG2 ++ G8), p.1 ≠ q.1 := fun q hq =>
    neSplit (m := (I, oI) :: (Kl, listOf kvs.toArray ck) :: (Hl, listOf hls.toArray ch) :: (Tl, listOf trs.toArray ct) :: (153, o153) :: (τ, instObj 147 dx) :: (dx, dictOf (treeEs H T' U' size dep dflt φ δ root) 6) :: (η, oh) :: (δ, oδ) :: OG2) (r := G8) (by k_extra "MySb") (fun p hp => ap q (.tail _ (List.mem_append_left _ hq)) (notinCons (Nat.ne_of_lt (hη8 q hq)) (HG.off (Nat.le_of_lt (Nat.lt_of_le_of_lt c3 (hη8 q hq))))) p ((show ∀ p ∈ (I, oI) :: (Kl, listOf kvs.toArray ck) :: (Hl, listOf hls.toArray ch) :: (Tl, listOf trs.toArray ct) :: (153, o153) :: (τ, instObj 147 dx) :: (dx, dictOf (treeEs H T' U' size dep dflt φ δ root) 6) :: (η, oh) :: (δ, oδ) :: OG2, p ∈ (I, oI) :: (Kl, listOf kvs.toArray ck) :: (Hl, listOf hls.toArray ch) :: (Tl, listOf trs.toArray ct) :: (153, o153) :: (τ, instObj 147 dx) :: (dx, dictOf (treeEs H T' U' size dep dflt φ δ root) 6) :: (η, oh) :: (δ, oδ) :: (OG2 ++ G) by k_extra "MySb") p hp)) (HG8.off (Nat.le_of_lt (Nat.lt_of_le_of_lt c3 (hη8 q hq))))
  have N9 := newsSub N8 (small := KG ++ (I, oI) :: (Kl, listOf kvs.toArray ck) :: (Hl, listOf hls.toArray ch) :: (Tl, listOf trs.toArray ct) :: (153, o153) :: (τ, instObj 147 dx) :: (dx, dictOf (treeEs H T' U' size dep dflt φ δ root) 6) :: (η, oh) :: (δ, oδ) :: (OG2 ++ G8)) (by k_extra "MySb")
  clear N8 ap
  dsimp only
  k_extra "MySteps"
  rename News h₀ L _ _ => N9
  refine Hold.un ?_
  refine' Con.use (con_node hK8 dep 0 (Nat.le_refl _) (by k_extra "MyOm") _ _) ?myB ?myF ?myX N9 ?myT ?myk ?myd ?myu (subL _ _) (Cut.app .lose (Cut.off hKR)) ?_
  case myB => k_asm
  case myF => k_asm
  case myX => k_asm
  case myT => k_asm
  case myk => exact rfl
  case myd => k_extra "MyLe"
  case myu => k_extra "MyLe"
  intro v10 h10 tk10 nw10 F10 N10 po ap
  obtain ⟨e10, x10, t10, rfl, hx10⟩ := po
  have e10' := Eq.symm e10
  clear e10
  subst e10'
  obtain rfl : root = x10 := NR.fn HG8.nodup ((hr.toNR hok).mono hp8) hx10
  clear ap
  simp only [List.cons_append, List.nil_append] at N10
  have N11 := newsSub N10 (small := (I, oI) :: (Kl, listOf kvs.toArray ck) :: (Hl, listOf hls.toArray ch) :: (Tl, listOf trs.toArray ct) :: (153, o153) :: (τ, instObj 147 dx) :: (dx, dictOf (treeEs H T' U' size dep dflt φ δ root) 6) :: (η, oh) :: (δ, oδ) :: (OG2 ++ (KG ++ G8))) (by k_extra "MySb")
  clear N9 N10
  k_extra "MySteps"
  refine Hold.un (mono_pre (vs := kvs) F10 N11 ?sl ?rest)
  case sl =>
    rename HoldOn 1 => hon
    clear hon
    k_extra "MySteps"
    all_goals exact ⟨⟨_, _, _, _, rfl, rfl, by assumption, by assumption, by assumption, by decide, by decide⟩⟩
  case rest =>
    rename HoldOn 1 => hon
    clear hon F10 N11
    intro k κ h12 tk12 F12 N12 l12 hk1 hk4
    dsimp only
    have N13 := newsSub N12 (small := ((τ, instObj 147 dx) :: (dx, dictOf (treeEs H T' U' size dep dflt φ δ root) 6) :: (δ, oδ) :: (η, oh) :: (κ, listOf (kvs.take k).toArray 0) :: (KG ++ G8)) ++ ((I, oI) :: (Kl, listOf kvs.toArray ck) :: (Hl, listOf hls.toArray ch) :: (Tl, listOf trs.toArray ct) :: (153, o153) :: OG2)) (by k_extra "MySb")
    clear N12
    have l12a := l12
    simp only [List.forall_mem_cons] at l12a
    obtain ⟨l1, l2, l3, l4, l5, l6, l7, l8, l9, l10⟩ := l12a
    have lK : ∀ p ∈ KG, @LT.lt Nat _ p.1 κ := fun p hp => l10 p (by simp [hp])
    have lO : ∀ p ∈ OG2, @LT.lt Nat _ p.1 κ := fun p hp => l10 p (by simp [hp])
    have hcK : ∀ p ∈ KG, @LE.le Nat _ c₀ p.1 := fun p hp => Nat.le_of_lt (Nat.lt_of_le_of_lt c3 (hη8 p hp))
    clear l12
    k_extra "MySteps"
    have hoff : ∀ q ∈ (τ, instObj 147 dx) :: (dx, dictOf (treeEs H T' U' size dep dflt φ δ root) 6) :: (δ, oδ) :: (η, oh) :: (κ, listOf (kvs.take k).toArray 0) :: (KG ++ G8), ∀ p ∈ (I, oI) :: (Kl, listOf kvs.toArray ck) :: (Hl, listOf hls.toArray ch) :: (Tl, listOf trs.toArray ct) :: (153, o153) :: OG2, p.1 ≠ q.1 := by
      refine offCons ?_ (offCons ?_ (offCons ?_ (offCons ?_ (offCons ?_ (offApp ?_ ?_)))))
      · k_extra "MyAll"
      · k_extra "MyAll"
      · k_extra "MyAll"
      · k_extra "MyAll"
      · refine consNe (Nat.ne_of_lt l1) (consNe (Nat.ne_of_lt l2) (consNe (Nat.ne_of_lt l3) (consNe (Nat.ne_of_lt l4) (consNe (Nat.ne_of_lt l5) fun p hp => Nat.ne_of_lt (lO p hp)))))
      · exact fun q hq p hp => hKR q hq p ((show ∀ p ∈ (I, oI) :: (Kl, listOf kvs.toArray ck) :: (Hl, listOf hls.toArray ch) :: (Tl, listOf trs.toArray ct) :: (153, o153) :: OG2, p ∈ (I, oI) :: (Kl, listOf kvs.toArray ck) :: (Hl, listOf hls.toArray ch) :: (Tl, listOf trs.toArray ct) :: (153, o153) :: (τ, instObj 147 dx) :: (dx, dictOf (treeEs H T' U' size dep dflt φ δ root) 6) :: (η, oh) :: (δ, oδ) :: (OG2 ++ G8) by k_extra "MySb") p hp)
      · intro q hq
        refine consNe (Ne.symm (HG8.off (by assumption) q hq)) (consNe (Ne.symm (HG8.off (by assumption) q hq)) (consNe (Ne.symm (HG8.off (by assumption) q hq)) (consNe (Ne.symm (HG8.off (by assumption) q hq)) (consNe (Ne.symm (HG8.off153 q hq)) fun p hp => Ne.symm (HG8.off (cO p hp) q hq)))))
    refine Hold.un ?_
    refine' ConT.use0 (con_tells HG8 (by k_extra "MyOm") hdep hsz1 hsz2 hdl hD (hok.mono hp8) hr hoh loη (fun q hq => (hks q.1 q.2 hq).1) (valOf_le hdl fun q hq => (hks q.1 q.2 hq).2) (hkl.take k) (by rw [List.length_take]; k_extra "MyOm") (by rw [List.length_take]; k_extra "MyOm") (fun x hx => hkz x (List.mem_of_mem_take hx)) hK8 _
      c1 c2 (by k_extra "MyOm") c3 (by k_extra "MyOm") hcK nn1 (Ne.symm x1) nn2 (Nat.ne_of_lt l6) (Ne.symm x2) nn3 (Nat.ne_of_lt l7) x3 (Nat.ne_of_lt l9) (Nat.ne_of_lt l8) (fun p hp => Ne.symm (hKR p hp _ (.tail _ (.tail _ (.tail _ (.tail _ (.tail _ (.head _)))))))) (fun p hp => Ne.symm (hKR p hp _ (.tail _ (.tail _ (.tail _ (.tail _ (.tail _ (.tail _ (.head _))))))))) (fun p hp => Ne.symm (hKR p hp _ (.tail _ (.tail _ (.tail _ (.tail _ (.tail _ (.tail _ (.tail _ (.tail _ (.head _))))))))))) (fun p hp => Ne.symm (hKR p hp _ (.tail _ (.tail _ (.tail _ (.tail _ (.tail _ (.tail _ (.tail _ (.head _)))))))))) (fun p hp => Nat.ne_of_lt (lK p hp)))
      ?myB ?myF ?myX N13 ?myT ?myk ?myd ?myu (subL _ _) (Cut.app .lose (Cut.off hoff)) ?_
    case myB => k_asm
    case myF => k_asm
    case myX => k_asm
    case myT => k_asm
    case myk => exact rfl
    case myd => k_extra "MyLe"
    case myu => k_extra "MyLe"
    intro v14 h14 tk14 nw14 F14 N14 po ap
    obtain ⟨R14, G14, rfl, rfl, HG14, hp14, hn14⟩ := po
    clear ap
    simp only [List.cons_append, List.nil_append] at N14
    dsimp only
    k_extra "MySteps"
    obtain ⟨OG', hsub, hT'⟩ := hback D [(τ, instObj 147 dx), (dx, dictOf (treeEs H T' U' size dep dflt φ δ root) 6), (η, oh)] (Sub.refl D) ⟨H, T', U', root, oh, hh, rfl, hr, hoh, loη, hks, by k_extra "MyOm"⟩
    refine TurnE.sub ((Kl, listOf kvs.toArray ck) :: (Hl, listOf hls.toArray ch) :: (Tl, listOf trs.toArray ct) :: (153, o153) :: (δ, oδ) :: (OG' ++ G14)) F14 N14 ?_ ?_ ⟨kvs, ck, keys, trs, hls, ct, ch, OG', oδ, D, R14, G14, rfl, hkl, hkz, hk1_, by k_extra "MyOm", hT', hD, hok.mono (hp8.trans hp14), by k_extra "MyOm", HG14, by k_extra "MyOm", rfl, rfl, rfl, rfl, rfl, rfl, rfl⟩
    · have hs2 := subTr hsub (r := (I, oI) :: (Kl, listOf kvs.toArray ck) :: (Hl, listOf hls.toArray ch) :: (Tl, listOf trs.toArray ct) :: (153, o153) :: (OG2 ++ ((τ, instObj 147 dx) :: (dx, dictOf (treeEs H T' U' size dep dflt φ δ root) 6) :: (δ, oδ) :: (η, oh) :: (κ, listOf (kvs.take k).toArray 0) :: (KG ++ G14)))) (by k_extra "MySb")
      k_extra "MySb"
    · have hs3 : ∀ p ∈ OG', p.1 ≠ I := neSplit hsub (consNe i1 (consNe i2 (consNe i3 (List.forall_mem_nil _)))) hOI
      k_extra "MyAll"
theorem words22 : True := by
  k_with "subscriptTail Name Constant ref int" => ((with_reducible show wpAny _ _ (subscriptTail _ _ (Value.ref _) (Value.int 0 _)) _ _ _); k_dflt (refine' item_V0 ?myN ?mym ?myx ?_; (case myN => k_asm); (case mym => k_mem); (case myx => assumption)))
  trivial
set_option maxHeartbeats 2000000 in
set_option pp.deepTerms false in
set_option pp.deepTerms.threshold 8 in
theorem law_turn3 {w : World} {dflt root key : B} {size dep : Nat} {φ δ Kl Tl τ dx : Addr} {c₀ : Nat} {o153 oδ : Obj} {H : Nat → Int} {T' U' : Nat → Tok} {kvs trs : List Value} {ck ct : Nat} {tf tb t0 tky : Tok} {ff rb j : Nat} {m : Str → Option Value} {nw : List (Addr × Obj)}
    {p : Program} {loose : List Str} {mean : ExcName → Option Value} {mg mb : Str → Option Value} {dp un : Nat} {gd : Option (List Code)} {L a : Addr} {ccd : Value} {A₀ : Around} {h₀ : Heap} {s : Shared} {I : Addr} {oI : Obj} {Q : Flow → Shared → Prop} {E : Value → Shared → Prop}
    (hdp : dp ≤ 340) (hun : un ≤ 540) (Bl : Below A₀ h₀ [] h₀) (X : (hd.heap_39 w.params).In h₀) (T : Top p loose mean mg mb h₀) (hj : j < 9)
    (F : Fr h₀ L s.heap (fun y => if y = Str.ofString "which" then some (.int (j : Int) t0) else m y)) (N : News h₀ L s.heap ((I, oI) :: nw)) (hI : ∀ p ∈ nw, p.1 ≠ I)
    (S : LawU w dflt size dep φ δ Kl Tl τ dx c₀ o153 oδ H T' U' root kvs trs ck ct tf tb ff rb m nw) (hrb : rb ≤ 90000) (hdep : dep = 8 * size) (hsz1 : 1 ≤ size) (hsz2 : size ≤ 2) (hr : root.length = 32)
    (hk0 : kvs[0]? = some (.bytes key.toArray tky)) (hky : key.length = size) (ht0 : trs[0]? = some (.ref τ))
    (c1 : @LE.le Nat _ c₀ τ) (c2 : @LE.le Nat _ c₀ dx) (c3 : @LE.le Nat _ c₀ δ) (c4 : @LE.le Nat _ c₀ Kl) (c5 : @LE.le Nat _ c₀ Tl) (c6 : @LE.le Nat _ c₀ I) (c7 : @LT.lt Nat _ 153 c₀)
    (n1 : Kl ≠ τ) (n2 : Kl ≠ dx) (n3 : Kl ≠ δ) (n4 : Tl ≠ τ) (n5 : Tl ≠ dx) (n6 : Tl ≠ δ) :
    wpAny (model Challenge.rw_iu0035_01.row.prog w) (ktrTop dp un gd (Str.ofString "law") lawScope L a ccd [] []) (execs (loopBody 11) (lawEnv L a ccd))
      (TurnP h₀ L I (LawU w dflt size dep φ δ Kl Tl τ dx c₀ o153 oδ H T' U' root kvs trs ck ct tf tb ff (rb + 17)) oI s Q) E s := by
  revert X
  k_fill
  intro X
  obtain ⟨R, G, rfl, HG, hRb, e1, e2, e3, e4, e5⟩ := S
  have F3 := frKnow (frKnow (frKnow (frKnow (frKnow F (n := Str.ofString "hash_of") (by k_extra "MyKnow")) (n := Str.ofString "trees") (by k_extra "MyKnow")) (n := Str.ofString "keys") (by k_extra "MyKnow")) (n := Str.ofString "first") (by k_extra "MyKnow")) (n := Str.ofString "before") (by k_extra "MyKnow")
  clear F
  have eS : lawScope = lawScope := rfl
  have eB : loopBody 11 = loopBody 11 := rfl
  conv at eS => rhs; whnf
  conv at eB => rhs; whnf
  dsimp only at eS eB
  unfold lawEnv
  rw [eS, eB]
  simp only [List.forall_mem_cons] at hI
  obtain ⟨i1, i2, i3, i4, i5, i6, -⟩ := hI
  k_extra "MySteps"
  refine Hold.un ?_
  k_dflt (refine' item_bad ?myN ?mym ?my1 ?my2 ?myk ?_)
  case myN => k_asm
  case mym => k_mem
  case my1 => k_mem
  case my2 => exact rfl
  case myk => k_extra "MyOm"
  intro bad hbad
  rename News h₀ L _ _ => N4
  rename Fr h₀ L _ _ => F4
  rename_i β z1 lA γ z2 lB z3 z4
  obtain ⟨a1, a2, a3, a4, a5, a6, a7, a8⟩ := lA
  obtain ⟨b0, b1, b2, b3, b4, b5, b6, b7, b8⟩ := lB
  k_extra "MySteps"
  have N5 := newsSub N4 (small := ((τ, instObj 147 dx) :: (dx, dictOf (treeEs H T' U' size dep dflt φ δ root) 6) :: (δ, oδ) :: (β, _) :: G) ++ ((I, oI) :: (Kl, listOf kvs.toArray ck) :: (Tl, listOf trs.toArray ct) :: [(153, o153)])) (by
    intro p hp
    simp only [List.mem_cons, List.mem_append, List.not_mem_nil, or_false] at hp ⊢
    rcases hp with (q | q | q | q | q) | (q | q | q | q)
    · simp [q]
    · simp [q]
    · simp [q]
    · exact .inr (.inl q)
    · simp [q]
    · simp [q]
    · simp [q]
    · simp [q]
    · simp [q])
  clear N4
  have hoff : ∀ ob : Obj, ∀ q ∈ (τ, instObj 147 dx) :: (dx, dictOf (treeEs H T' U' size dep dflt φ δ root) 6) :: (δ, oδ) :: (β, ob) :: G, ∀ p ∈ (I, oI) :: (Kl, listOf kvs.toArray ck) :: (Tl, listOf trs.toArray ct) :: [(153, o153)], p.1 ≠ q.1 := by
    intro ob
    refine offCons ?_ (offCons ?_ (offCons ?_ (offCons ?_ ?_)))
    · k_extra "MyAll"
    · k_extra "MyAll"
    · k_extra "MyAll"
    · refine consNe (Nat.ne_of_lt a1) (consNe (Nat.ne_of_lt a2) (consNe (Nat.ne_of_lt a3) (consNe (Nat.ne_of_lt a4) fun p hp => nomatch hp)))
    · intro q hq
      refine consNe (Ne.symm (HG.off (by k_extra "MyOm") q hq)) (consNe (Ne.symm (HG.off (by k_extra "MyOm") q hq)) (consNe (Ne.symm (HG.off (by k_extra "MyOm") q hq)) (consNe (Ne.symm (HG.off153 q hq)) fun p hp => nomatch hp)))
  refine Hold.un ?_
  refine' ConT.use0 (con_unfit HG (by k_extra "MyOm") hdep hsz1 hsz2 hr key hky hbad j hj _ _ c1 c2 c3 (by k_extra "MyOm")) ?myB ?myF ?myX N5 ?myT ?myk ?myd ?myu (subL _ _) (Cut.app .lose (Cut.off (hoff _))) ?_
  case myB => k_asm
  case myF => k_asm
  case myX => k_asm
  case myT => k_asm
  case myk => exact rfl
  case myd => k_extra "MyLe"
  case myu => k_extra "MyLe"
  intro v14 h14 tk14 nw14 F14 N14 po ap
  obtain ⟨R14, G14, rfl, rfl, HG14, hp14, hn14⟩ := po
  clear ap
  simp only [List.cons_append, List.nil_append] at N14
  dsimp only
  k_extra "MySteps"
  refine TurnE.sub ((Kl, listOf kvs.toArray ck) :: (Tl, listOf trs.toArray ct) :: (153, o153) :: (τ, instObj 147 dx) :: (dx, dictOf (treeEs H T' U' size dep dflt φ δ root) 6) :: (δ, oδ) :: G14) F14 N14 ?_ ?_ ⟨R14, G14, rfl, HG14, by k_extra "MyOm", rfl, rfl, rfl, rfl, rfl⟩
  · intro p hp
    simp only [List.mem_cons] at hp ⊢
    rcases hp with q | q | q | q | q | q | q | q <;> simp [q]
  · k_extra "MyAll"
set_option maxHeartbeats 2400000 in
set_option pp.deepTerms false in
set_option pp.deepTerms.threshold 6 in
theorem law_all : Challenge.rw_iu0035_01.Holds := by
  w_on
  refine holds_law saidH fun said => ?_
  refine holds_open (q := lawView) (loose := lawLoose) (Xt := lawXt) (XP := XL lawView []) (Yf := lawHook.obs) (Ya := lawHook.val) (YP := lawHook.says) (N := 3080) leftH lawHook.of lawHook.keeps (fun s e => xl_of s (Bool.and_eq_true_iff.mp e).1) XL.keeps (by rfl) (by rfl) (by rfl) (fun s e => recFacts_of (Bool.and_eq_true_iff.mp e).2) (by rfl) (by first | assumption | decide +kernel) (by decide +kernel) ⟨rfl, rfl, rfl, rfl, rfl, by decide +kernel⟩ ?hw ?hc
  case hw => w_witness2
  clear said
  delta lawHook
  have hon : HoldOn 1 := ⟨rfl⟩
  k_go0
  all_goals try k_fold
  k_extra "MySteps"
  rename_i ns hs0 hl0 hL1 hr1' hl2' wA wB sc ws wC hLw raw w1w r0w hin hrw hc63 hcT hDf hh00 XK TK BK hsc l153 gH LH hh5 tkk1 BH XH TH l1c oc2 dd1 ρ1 hh4 oρ loρ hbρ hiρ l1a hh3 oγ dγ φ κ oc vs tq ct dc hh2 tkk dκ1 dκ2 l1b l2b hh1 FF1 NN1 Tc kX hA F0 N0
  clear FF1 NN1 BH XH TH
  obtain ⟨R0, HG0, o153, hG0, hR0, eG0, e153, N1⟩ := HashG.start3 N0 dκ1 dκ2 dγ hbρ loρ l1b.1 l1a.1 l2b (by k_extra "MyOm")
  subst eG0
  simp only [List.cons_append, List.nil_append] at N1
  clear N0
  refine Hold.un (mono_nat (P := fun _ => True) ?fst ?rst)
  case fst =>
    rename HoldOn 1 => hon
    clear hon
    k_extra "MySteps"
    all_goals first | exact GotNat.lit trivial | exact GotNat.nat trivial | exact GotNat.abs (fun _ => trivial)
  case rst =>
    intro f tf kf _
    rename HoldOn 1 => hon
    dsimp only
    k_extra "MySteps"
    refine Hold.un (mono_nat (P := fun z => 1 ≤ z ∧ z ≤ 2) ?fst ?rst)
    case fst =>
      rename HoldOn 1 => hon
      clear hon
      k_extra "MySteps"
      all_goals exact GotNat.lit (by decide)
    case rst =>
      intro size tz kz ⟨hsz1, hsz2⟩
      dsimp only
      obtain ⟨dep, hdep⟩ : ∃ dep, dep = 8 * size := ⟨_, rfl⟩
      rename HoldOn 1 => hon
      k_extra "MySteps"
      first
        | (rename_i z1 z2 z3 z4 z5 z6 z7 z8 z9 z10 z11 dflt td hdl z12 z13 z14 z15 tmo z16 z17 τ0 d0 z18 la lb z19 z20 δ oδ D1 R1 G1 H1 T1 U1 root1 HG1 hp1 hn1 hD1 hok1 hDl1 hr1 q1 q2 Tl z21 lc z22 z23 η0 z24 oh lo0 hoh z25 ld Hl z26 le z27 z28 key0 tk0 z29 hk0 Kl z30 lf z31 z32 z33 z34 z35 z36 h7 tk7 t7 u7 v7 hR F7 N7 hst; have chk1 : List.length dflt ≤ 1000 := hdl; have chk2 : List.length key0 = size := hk0; have chk3 : @LT.lt Nat _ d0 τ0 := lb; have chk4 : List Value := []; clear chk1 chk2 chk3 chk4)
        | (rename_i z2 z3 z4 z5 z6 z7 z8 z9 z10 z11 dflt td hdl z13 z14 z15 tmo z16 z17 τ0 d0 z18 la lb z19 z20 δ oδ D1 R1 G1 H1 T1 U1 root1 HG1 hp1 hn1 hD1 hok1 hDl1 hr1 q1 q2 Tl z21 lc z22 η0 z24 oh lo0 hoh z25 ld Hl z26 le z27 key0 tk0 z29 hk0 Kl z30 lf z31 z32 z33 z34 z35 z36 h7 tk7 t7 u7 v7 hR F7 N7 hst; have chk1 : List.length dflt ≤ 1000 := hdl; have chk2 : List.length key0 = size := hk0; have chk3 : @LT.lt Nat _ d0 τ0 := lb; have chk4 : List Value := []; clear chk1 chk2 chk3 chk4)
      rename World => w
      obtain ⟨n, hn, hnb⟩ := range2 ns.length
      refine Hold.un ?_
      refine' loop_range (n := n) (fun i m nw => LawS w dflt size dep φ δ Kl Hl Tl τ0 d0 η0 sc (φ + 1) (f / 4 % 7) o153 tz td tmo tf f i (17 + 500 * i) m nw)
        rfl hR (small2 _) hn F7 (newsSub N7 (small := (Kl, listOf [.bytes key0.toArray tk0].toArray 0) :: (Hl, listOf [.ref η0].toArray 0) :: (Tl, listOf [.ref τ0].toArray 0) :: (153, o153) :: (δ, oδ) :: ([(τ0, instObj 147 d0), (d0, dictOf (treeEs H1 T1 U1 size dep dflt φ δ root1) 6), (η0, oh)] ++ G1)) ?subA) ?iniA ?turnA ?doneA
      case subA =>
        simp only [List.cons_append, List.nil_append]
        refine consSub (.head _) ?_
        refine consSub (.tail _ (.head _)) ?_
        refine consSub (.tail _ (.tail _ (.tail _ (.head _)))) ?_
        refine consSub (.tail _ (.tail _ (.tail _ (.tail _ (.tail _ (.head _)))))) ?_
        refine consSub (.tail _ (.tail _ (.tail _ (.tail _ (.tail _ (.tail _ (.tail _ (.tail _ (.head _))))))))) ?_
        refine consSub (.tail _ (.tail _ (.tail _ (.tail _ (.tail _ (.tail _ (.head _))))))) ?_
        refine consSub (.tail _ (.tail _ (.tail _ (.tail _ (.tail _ (.tail _ (.tail _ (.head _)))))))) ?_
        refine consSub (.tail _ (.tail _ (.head _))) ?_
        exact fun p hp => .tail _ (.tail _ (.tail _ (.tail _ (.tail _ (.tail _ (.tail _ (.tail _ (.tail _ (hp)))))))))
      case iniA =>
        have hr2 : TN D1 (valOf [] dflt) dep 0 root1 := by
          have e : valOf [] dflt = fun _ => dflt := by funext i; simp [valOf]
          rw [e]; exact hr1
        refine ⟨[.bytes key0.toArray tk0], 0, [key0], [.ref τ0], [.ref η0], 0, 0, 1, _, oδ, D1, R1, G1, rfl, BL.one _ _, fun k hk => by rw [List.mem_singleton.mp hk]; exact hk0, Nat.le_refl _, Nat.le_refl _,
          .inl ⟨rfl, rfl, rfl, ⟨H1, T1, U1, root1, oh, [], rfl, hr2, hoh, lo0, fun k v hm => (nomatch hm), Nat.le_refl _⟩⟩, hD1, hok1, hDl1, HG1, by k_extra "MyOm", ?_, ?_, ?_, ?_, ?_, ?_, ?_, ?_, ?_⟩ <;> rfl
      case turnA =>
        intro i t m1 nw h tk I oI hi S hnew hI F8 N8
        obtain ⟨hb1, hb2⟩ := hnb i hi
        have hkI := hnew (Kl, _) (.head _)
        rw [show (1 : Int) + (i : Int) * 2 = ((1 + i * 2 : Nat) : Int) by k_extra "MyOm"] at F8
        rw [show 17 + 500 * (i + 1) = 17 + 500 * i + 500 by k_extra "MyOm"]
        refine law_turn (h := h) (rb := 17 + 500 * i) ?hdp ?hun BK kX Tc hsc hin hb1 hb2 (by k_extra "MyOm") F8 N8 hI S (by k_extra "MyOm") hdl hdep hsz1 hsz2 (by k_extra "MyOm") (by k_extra "MyOm") (by k_extra "MyOm") (by k_extra "MyOm") (by k_extra "MyOm") (by k_extra "MyOm") (by k_extra "MyOm") (by k_extra "MyOm") hkI
        case hdp => show _ ≤ 340; decide
        case hun => show _ ≤ 540; decide
      case doneA =>
        intro m2 nw2 h2 tk2 S2 F9 N9
        obtain ⟨kvs, ck, keys, trs, hls, ct, ch, nt, OG, oδ2, D2, R2, G2, rfl, hkl, hkz, hkA, hkB, hT2, hD2, hok2, hDl2, HG2, hRb2, e1, e2, e3, e4, e5, e6, e7, e8, e9⟩ := S2
        have htl : trs.length = nt := by rcases hT2 with ⟨rfl, rfl, _⟩ | ⟨rfl, _, _, _, _, _, rfl, _⟩ <;> rfl
        have hn0 : 0 < nt := by rcases hT2 with ⟨rfl, _⟩ | ⟨rfl, _⟩ <;> k_extra "MyOm"
        have hn2 : nt ≤ 2 := by rcases hT2 with ⟨rfl, _⟩ | ⟨rfl, _⟩ <;> k_extra "MyOm"
        have hn6 : n ≤ 6 := by
          cases n with
          | zero => k_extra "MyOm"
          | succ n => have := (hnb n (by k_extra "MyOm")).2; k_extra "MyOm"
        have F10 := frKnow (frKnow (frKnow (frKnow (frKnow (frKnow (frKnow F9 (n := Str.ofString "hash_of") (by k_extra "MyKnow")) (n := Str.ofString "size") (by k_extra "MyKnow")) (n := Str.ofString "default") (by k_extra "MyKnow")) (n := Str.ofString "trees") (by k_extra "MyKnow")) (n := Str.ofString "helds") (by k_extra "MyKnow")) (n := Str.ofString "keys") (by k_extra "MyKnow")) (n := Str.ofString "first") (by k_extra "MyKnow")
        clear F9 F7 N7 hR z35 z36 z32
        dsimp only
        k_extra "MySteps"
        rename IsRange _ _ _ _ _ _ _ _ => hR
        rename News _ _ _ _ => N12
        rename Fr (ghostOf _ _) _ _ _ => F12
        refine Hold.un ?_
        refine' loop_range (n := nt) (fun j m nw => LawN w dflt size dep φ δ Kl Hl Tl τ0 d0 η0 (φ + 1) o153 tz td tf f (n + j) nt (17 + 500 * n + 600 * j) m nw) rfl hR ?smB ?szB F12 N12 ?iniB ?turnB ?doneB
        case smB => exact small_one (by k_extra "MyOm") (by k_extra "MyOm") (by k_extra "MyOm") (by k_extra "MyOm")
        case szB => rw [rangeSize_one]; split <;> k_extra "MyOm"
        case iniB => exact ⟨kvs, ck, keys, trs, hls, ct, ch, OG, oδ2, D2, R2, G2, rfl, hkl, hkz, hkA, hkB, hT2, hD2, hok2, hDl2, HG2, hRb2, rfl, rfl, rfl, rfl, rfl, rfl, rfl⟩
        case turnB =>
          intro j t m1 nw h tk I oI hj S hnew hI F13 N13
          have hkI := hnew (Kl, _) (.head _)
          rw [show (0 : Int) + (j : Int) * 1 = (j : Int) by k_extra "MyOm"] at F13
          rw [show 17 + 500 * n + 600 * (j + 1) = (17 + 500 * n + 600 * j) + 600 by k_extra "MyOm"]
          refine law_turn2 (i := n + j) (rb := 17 + 500 * n + 600 * j) ?hdp ?hun BK kX Tc (by k_extra "MyOm") hj F13 N13 hI S (by k_extra "MyOm") hdl hdep hsz1 hsz2 (by k_extra "MyOm") (by k_extra "MyOm") (by k_extra "MyOm") (by k_extra "MyOm") (by k_extra "MyOm") (by k_extra "MyOm") (by k_extra "MyOm") (by k_extra "MyOm") hkI
          case hdp => show _ ≤ 340; decide
          case hun => show _ ≤ 540; decide
        case doneB =>
          clear F12 N12 hR HG2 hT2
          intro m3 nw3 h3 tk3 S3 F14 N14
          obtain ⟨kvs, ck, keys, trs, hls, ct, ch, OG, oδ3, D3, R3, G3, rfl, hkl, hkz, hkA, hkB, hT3, hD3, hok3, hDl3, HG3, hRb3, e1, e2, e3, e4, e5, e6, e7⟩ := S3
          obtain ⟨τ, dx, η, FG, OG2, htx, hhx, hF, hFG, hOG2, ⟨c1, c2, c3⟩, cO, hx4, -, -, -⟩ := hT3.focus hn0 (c₀ := φ + 1) (by k_extra "MyOm") (by k_extra "MyOm") (by k_extra "MyOm") (by k_extra "MyOm") (by k_extra "MyOm") (by k_extra "MyOm") (by k_extra "MyOm") (by k_extra "MyOm")
          obtain ⟨⟨x1, x2, -, -⟩, ⟨x5, x6, -, -⟩, -, ⟨x13, x14, -, -⟩⟩ : (δ ≠ τ ∧ δ ≠ dx ∧ δ ≠ η ∧ ∀ p ∈ OG2, p.1 ≠ δ) ∧ (Kl ≠ τ ∧ Kl ≠ dx ∧ Kl ≠ η ∧ ∀ p ∈ OG2, p.1 ≠ Kl) ∧ (Hl ≠ τ ∧ Hl ≠ dx ∧ Hl ≠ η ∧ ∀ p ∈ OG2, p.1 ≠ Hl) ∧ (Tl ≠ τ ∧ Tl ≠ dx ∧ Tl ≠ η ∧ ∀ p ∈ OG2, p.1 ≠ Tl) :=
            ⟨hx4 _ (by simp), hx4 _ (by simp), hx4 _ (by simp), hx4 _ (by simp)⟩
          obtain ⟨H, T', U', root, oh, hh, rfl, hr, -, -, -, -⟩ := hF
          have hr32 := hr.length
          obtain ⟨key, hkx⟩ : ∃ key, keys[0]? = some key := ⟨_, List.getElem?_eq_getElem (by k_extra "MyOm")⟩
          obtain ⟨tky, hk0v⟩ := hkl.get hkx
          have hky : key.length = size := hkz key (List.mem_of_getElem? hkx)
          have N15 := newsSub N14 (small := (Kl, listOf kvs.toArray ck) :: (Tl, listOf trs.toArray ct) :: (153, o153) :: (τ, instObj 147 dx) :: (dx, dictOf (treeEs H T' U' size dep dflt φ δ root) 6) :: (δ, oδ3) :: G3) (by
            intro p hp
            simp only [List.mem_cons, List.mem_append] at hp ⊢
            rcases hp with q | q | q | q | q | q | q
            · simp [q]
            · simp [q]
            · simp [q]
            · have := hFG p (by simp [q]); simp [this]
            · have := hFG p (by simp [q]); simp [this]
            · simp [q]
            · simp [q])
          have F15 := frKnow (frKnow (frKnow (frKnow F14 (n := Str.ofString "hash_of") (by k_extra "MyKnow")) (n := Str.ofString "trees") (by k_extra "MyKnow")) (n := Str.ofString "keys") (by k_extra "MyKnow")) (n := Str.ofString "first") (by k_extra "MyKnow")
          clear F14 N14
          dsimp only
          k_extra "MySteps"
          rename IsRange _ _ _ _ _ _ _ _ => hR
          rename News _ _ _ _ => N16
          rename Fr (ghostOf _ _) _ _ _ => F16
          refine Hold.un ?_
          refine' loop_range (n := 9) (fun j m nw => LawU w dflt size dep φ δ Kl Tl τ dx (φ + 1) o153 oδ3 H T' U' root kvs trs ck ct tf (U' 5) f (17 + 500 * n + 600 * nt + 17 * j) m nw) rfl hR rfl (by decide) F16 N16 ?iniC ?turnC ?doneC
          case iniC => exact ⟨R3, G3, rfl, HG3, hRb3, rfl, rfl, rfl, rfl, rfl⟩
          case turnC =>
            intro j t m1 nw h tk I oI hj S hnew hI F17 N17
            have hkI := hnew (Kl, _) (.head _)
            rw [show (0 : Int) + (j : Int) * 1 = (j : Int) by k_extra "MyOm"] at F17
            rw [show 17 + 500 * n + 600 * nt + 17 * (j + 1) = (17 + 500 * n + 600 * nt + 17 * j) + 17 by k_extra "MyOm"]
            refine law_turn3 (rb := 17 + 500 * n + 600 * nt + 17 * j) ?hdp ?hun BK kX Tc hj F17 N17 hI S (by k_extra "MyOm") hdep hsz1 hsz2 hr32 hk0v hky htx c1 c2 (by k_extra "MyOm") (by k_extra "MyOm") (by k_extra "MyOm") (Nat.le_of_lt (Nat.lt_of_le_of_lt (show @LE.le Nat _ (φ + 1) Kl by k_extra "MyOm") hkI)) (by k_extra "MyOm") x5 x6 (neN (by k_extra "MyOm")) x13 x14 (neN (by k_extra "MyOm"))
            case hdp => show _ ≤ 340; decide
            case hun => show _ ≤ 540; decide
          case doneC =>
            clear F15
            intro m4 nw4 h4 tk4 S4 F18 N18
            obtain ⟨R4, G4, rfl, HG4, hRb4, g1, g2, g3, g4, g5⟩ := S4
            have F19 := frKnow (frKnow F18 (n := Str.ofString "trees") (by k_extra "MyKnow")) (n := Str.ofString "before") (by k_extra "MyKnow")
            clear F18
            subst e153
            dsimp only
            k_extra "MySteps"
            rw [decide_eq_true (rfl : root = root)]
            k_end
            kc_close
end Mine

theorem PySem.Challenge.cw_iu0035_01_holds : PySem.Challenge.rw_iu0035_01.Holds := by
  exact Mine.law_all
