import PyProof.Rows.All
import Wide.All
import OpenK.AllK
import Wide.FinOn
import Lean
import PySem.Challenge.RW_ji0029_01
open PySem PySem.W PyProof.Rows PySem.Calls
set_option Elab.async false
namespace Mine
set_option maxRecDepth 100000
set_option maxHeartbeats 8000000
/-- a statement of the text by its place -/
noncomputable def nthS (l : List Stmt) (i : Nat) : Stmt := l.getD i (.Pass default)
noncomputable def fnB : Stmt → List Stmt
  | .FunctionDef _ _ b .. => b
  | _ => []
noncomputable def fnP : Stmt → Arguments
  | .FunctionDef _ a .. => a
  | _ => default
noncomputable def fnS : Stmt → Scope
  | .FunctionDef _ _ _ _ _ _ sc .. => sc
  | _ => default
noncomputable def clB : Stmt → List Stmt
  | .ClassDef _ _ _ b .. => b
  | _ => []
noncomputable def txt : List Stmt := PySem.Challenge.pw_ji0029_01.main.body
/-- the part of the heap that the walk knows: written out by a program of ours from the run's end -/
noncomputable def K1 : Params → Frag := fun P =>
(nat_lit 2, { cls := Value.none, data := Data.dict #[] }) ::
(nat_lit 3, { cls := Value.type "dict", data := Data.dict #[{ hash := PyData.keyHash P (Str.ofString "__name__"), key := Value.str (Str.ofString "__name__") 165, val := Value.str (Str.ofString "law_ji0029_01") 404 }, { hash := PyData.keyHash P (Str.ofString "__doc__"), key := Value.str (Str.ofString "__doc__") 166, val := Value.none }, { hash := PyData.keyHash P (Str.ofString "__package__"), key := Value.str (Str.ofString "__package__") 167, val := Value.none }, { hash := PyData.keyHash P (Str.ofString "__loader__"), key := Value.str (Str.ofString "__loader__") 168, val := Value.builtin "__main__.__loader__#opaque" }, { hash := PyData.keyHash P (Str.ofString "__spec__"), key := Value.str (Str.ofString "__spec__") 169, val := Value.none }, { hash := PyData.keyHash P (Str.ofString "__annotations__"), key := Value.str (Str.ofString "__annotations__") 170, val := Value.ref 6 }, { hash := PyData.keyHash P (Str.ofString "__builtins__"), key := Value.str (Str.ofString "__builtins__") 171, val := Value.ref 4 }, { hash := PyData.keyHash P (Str.ofString "__file__"), key := Value.str (Str.ofString "__file__") 173, val := Value.str (Str.ofString "/claim/cut.py") 172 }, { hash := PyData.keyHash P (Str.ofString "__cached__"), key := Value.str (Str.ofString "__cached__") 174, val := Value.none }, { hash := PyData.keyHash P (Str.ofString "_null_key"), key := Value.str (Str.ofString "_null_key") 189, val := Value.none }, { hash := PyData.keyHash P (Str.ofString "_LRUNode"), key := Value.str (Str.ofString "_LRUNode") 232, val := Value.ref 39 }, { hash := PyData.keyHash P (Str.ofString "LRUCache"), key := Value.str (Str.ofString "LRUCache") 403, val := Value.ref 175 }, { hash := PyData.keyHash P (Str.ofString "_law_keys"), key := Value.str (Str.ofString "_law_keys") 421, val := Value.ref 181 }, { hash := PyData.keyHash P (Str.ofString "_law_shrunk"), key := Value.str (Str.ofString "_law_shrunk") 432, val := Value.ref 188 }, { hash := PyData.keyHash P (Str.ofString "_law_limits"), key := Value.str (Str.ofString "_law_limits") 442, val := Value.ref 195 }, { hash := PyData.keyHash P (Str.ofString "_law_alike"), key := Value.str (Str.ofString "_law_alike") 448, val := Value.ref 200 }, { hash := PyData.keyHash P (Str.ofString "_law_looked"), key := Value.str (Str.ofString "_law_looked") 458, val := Value.ref 207 }, { hash := PyData.keyHash P (Str.ofString "law"), key := Value.str (Str.ofString "law") 464, val := Value.ref 212 }] 18 }) ::
(nat_lit 22, { cls := Value.type "tuple", data := Data.seq #[Value.none] }) ::
(nat_lit 23, { cls := Value.type "tuple", data := Data.seq #[] }) ::
(nat_lit 25, { cls := Value.type "tuple", data := Data.seq #[Value.str (Str.ofString "self") 205, Value.str (Str.ofString "key") 206, Value.str (Str.ofString "value") 207, Value.str (Str.ofString "cleanup") 208] }) ::
(nat_lit 26, { cls := Value.type "tuple", data := Data.seq #[] }) ::
(nat_lit 28, { cls := Value.type "code", data := Data.fields #[Value.str (Str.ofString "__init__") 202, Value.str (Str.ofString "_LRUNode.__init__") 203, Value.str (Str.ofString "/claim/cut.py") 204, Value.int 5 0, Value.int 4 0, Value.int 0 0, Value.int 0 0, Value.int 3 0, Value.ref 23, Value.bool true, Value.int 181 0, Value.ref 24, Value.none, Value.ref 25, Value.ref 26, Value.ref 27, Value.int 209 0, Value.int 5 0, Value.str (Str.ofString "/claim/cut.py") 210] }) ::
(nat_lit 29, { cls := Value.type "function", data := Data.func { name := Str.ofString "__init__", qualname := Str.ofString "_LRUNode.__init__", params := fnP (nthS (clB (nthS txt 2)) 0), body := FuncBody.stmts (fnB (nthS (clB (nthS txt 2)) 0)), scope := fnS (nthS (clB (nthS txt 2)) 0), globals := 3, closure := [], defaults := Value.ref 22, kwdefaults := Value.none, pyModule := Value.str (Str.ofString "dulwich.lru_cache") 187, code := Value.ref 28 } }) ::
(nat_lit 30, { cls := Value.type "tuple", data := Data.seq #[] }) ::
(nat_lit 32, { cls := Value.type "tuple", data := Data.seq #[Value.str (Str.ofString "self") 215] }) ::
(nat_lit 33, { cls := Value.type "tuple", data := Data.seq #[] }) ::
(nat_lit 35, { cls := Value.type "code", data := Data.fields #[Value.str (Str.ofString "run_cleanup") 212, Value.str (Str.ofString "_LRUNode.run_cleanup") 213, Value.str (Str.ofString "/claim/cut.py") 214, Value.int 13 0, Value.int 1 0, Value.int 0 0, Value.int 0 0, Value.int 3 0, Value.ref 30, Value.bool true, Value.int 181 0, Value.ref 31, Value.none, Value.ref 32, Value.ref 33, Value.ref 34, Value.int 216 0, Value.int 13 0, Value.str (Str.ofString "/claim/cut.py") 217] }) ::
(nat_lit 36, { cls := Value.type "function", data := Data.func { name := Str.ofString "run_cleanup", qualname := Str.ofString "_LRUNode.run_cleanup", params := fnP (nthS (clB (nthS txt 2)) 1), body := FuncBody.stmts (fnB (nthS (clB (nthS txt 2)) 1)), scope := fnS (nthS (clB (nthS txt 2)) 1), globals := 3, closure := [], defaults := Value.none, kwdefaults := Value.none, pyModule := Value.str (Str.ofString "dulwich.lru_cache") 187, code := Value.ref 35 } }) ::
(nat_lit 37, { cls := Value.type "tuple", data := Data.seq #[Value.str (Str.ofString "cleanup") 219, Value.str (Str.ofString "key") 220, Value.str (Str.ofString "next_key") 221, Value.str (Str.ofString "prev") 222, Value.str (Str.ofString "size") 223, Value.str (Str.ofString "value") 224] }) ::
(nat_lit 38, { cls := Value.type "dict", data := Data.dict #[{ hash := PyData.keyHash P (Str.ofString "__module__"), key := Value.str (Str.ofString "__module__") 197, val := Value.str (Str.ofString "dulwich.lru_cache") 187 }, { hash := PyData.keyHash P (Str.ofString "__firstlineno__"), key := Value.str (Str.ofString "__firstlineno__") 201, val := Value.int 3 200 }, { hash := PyData.keyHash P (Str.ofString "__init__"), key := Value.str (Str.ofString "__init__") 211, val := Value.ref 29 }, { hash := PyData.keyHash P (Str.ofString "run_cleanup"), key := Value.str (Str.ofString "run_cleanup") 218, val := Value.ref 36 }, { hash := PyData.keyHash P (Str.ofString "__static_attributes__"), key := Value.str (Str.ofString "__static_attributes__") 225, val := Value.ref 37 }, { hash := PyData.keyHash P (Str.ofString "__dict__"), key := Value.str (Str.ofString "__dict__") 227, val := Value.ref 40 }, { hash := PyData.keyHash P (Str.ofString "__weakref__"), key := Value.str (Str.ofString "__weakref__") 229, val := Value.ref 41 }, { hash := PyData.keyHash P (Str.ofString "__doc__"), key := Value.str (Str.ofString "__doc__") 230, val := Value.none }] 4 }) ::
(nat_lit 39, { cls := Value.type "type", data := Data.cls { name := Str.ofString "_LRUNode", bases := [Value.type "object"], mro := [Value.ref 39, Value.type "object"], ns := 38, qualname := Str.ofString "_LRUNode" }, slots := #[none, none, some (Value.str (Str.ofString "_LRUNode") 190), some (Value.str (Str.ofString "_LRUNode") 198), some (Value.builtin "object.__new__"), some (Value.bool true)] }) ::
(nat_lit 40, { cls := Value.type "getset_descriptor", data := Data.fields #[Value.str (Str.ofString "__dict__") 226, Value.ref 39, Value.builtin "function.__dict__", Value.builtin "function.__dict__#set"] }) ::
(nat_lit 41, { cls := Value.type "getset_descriptor", data := Data.fields #[Value.str (Str.ofString "__weakref__") 228, Value.ref 39, Value.builtin "ExceptionGroup.__weakref__", Value.none] }) ::
(nat_lit 51, { cls := Value.type "tuple", data := Data.seq #[Value.int 100 245, Value.none] }) ::
(nat_lit 52, { cls := Value.type "tuple", data := Data.seq #[] }) ::
(nat_lit 54, { cls := Value.type "tuple", data := Data.seq #[Value.str (Str.ofString "self") 249, Value.str (Str.ofString "max_cache") 250, Value.str (Str.ofString "after_cleanup_count") 251] }) ::
(nat_lit 55, { cls := Value.type "tuple", data := Data.seq #[] }) ::
(nat_lit 57, { cls := Value.type "code", data := Data.fields #[Value.str (Str.ofString "__init__") 246, Value.str (Str.ofString "LRUCache.__init__") 247, Value.str (Str.ofString "/claim/cut.py") 248, Value.int 20 0, Value.int 3 0, Value.int 0 0, Value.int 0 0, Value.int 3 0, Value.ref 52, Value.bool true, Value.int 181 0, Value.ref 53, Value.none, Value.ref 54, Value.ref 55, Value.ref 56, Value.int 252 0, Value.int 20 0, Value.str (Str.ofString "/claim/cut.py") 253] }) ::
(nat_lit 58, { cls := Value.type "function", data := Data.func { name := Str.ofString "__init__", qualname := Str.ofString "LRUCache.__init__", params := fnP (nthS (clB (nthS txt 3)) 0), body := FuncBody.stmts (fnB (nthS (clB (nthS txt 3)) 0)), scope := fnS (nthS (clB (nthS txt 3)) 0), globals := 3, closure := [], defaults := Value.ref 51, kwdefaults := Value.none, pyModule := Value.str (Str.ofString "dulwich.lru_cache") 187, code := Value.ref 57 } }) ::
(nat_lit 59, { cls := Value.type "tuple", data := Data.seq #[] }) ::
(nat_lit 61, { cls := Value.type "tuple", data := Data.seq #[Value.str (Str.ofString "self") 258, Value.str (Str.ofString "key") 259] }) ::
(nat_lit 62, { cls := Value.type "tuple", data := Data.seq #[] }) ::
(nat_lit 64, { cls := Value.type "code", data := Data.fields #[Value.str (Str.ofString "__contains__") 255, Value.str (Str.ofString "LRUCache.__contains__") 256, Value.str (Str.ofString "/claim/cut.py") 257, Value.int 26 0, Value.int 2 0, Value.int 0 0, Value.int 0 0, Value.int 3 0, Value.ref 59, Value.bool true, Value.int 181 0, Value.ref 60, Value.none, Value.ref 61, Value.ref 62, Value.ref 63, Value.int 260 0, Value.int 26 0, Value.str (Str.ofString "/claim/cut.py") 261] }) ::
(nat_lit 65, { cls := Value.type "function", data := Data.func { name := Str.ofString "__contains__", qualname := Str.ofString "LRUCache.__contains__", params := fnP (nthS (clB (nthS txt 3)) 1), body := FuncBody.stmts (fnB (nthS (clB (nthS txt 3)) 1)), scope := fnS (nthS (clB (nthS txt 3)) 1), globals := 3, closure := [], defaults := Value.none, kwdefaults := Value.none, pyModule := Value.str (Str.ofString "dulwich.lru_cache") 187, code := Value.ref 64 } }) ::
(nat_lit 66, { cls := Value.type "tuple", data := Data.seq #[] }) ::
(nat_lit 68, { cls := Value.type "tuple", data := Data.seq #[Value.str (Str.ofString "self") 266, Value.str (Str.ofString "key") 267, Value.str (Str.ofString "cache") 268, Value.str (Str.ofString "node") 269, Value.str (Str.ofString "mru") 270, Value.str (Str.ofString "node_prev") 271, Value.str (Str.ofString "next_key") 272, Value.str (Str.ofString "node_next") 273] }) ::
(nat_lit 69, { cls := Value.type "tuple", data := Data.seq #[] }) ::
(nat_lit 71, { cls := Value.type "code", data := Data.fields #[Value.str (Str.ofString "__getitem__") 263, Value.str (Str.ofString "LRUCache.__getitem__") 264, Value.str (Str.ofString "/claim/cut.py") 265, Value.int 29 0, Value.int 2 0, Value.int 0 0, Value.int 0 0, Value.int 3 0, Value.ref 66, Value.bool true, Value.int 181 0, Value.ref 67, Value.none, Value.ref 68, Value.ref 69, Value.ref 70, Value.int 274 0, Value.int 29 0, Value.str (Str.ofString "/claim/cut.py") 275] }) ::
(nat_lit 72, { cls := Value.type "function", data := Data.func { name := Str.ofString "__getitem__", qualname := Str.ofString "LRUCache.__getitem__", params := fnP (nthS (clB (nthS txt 3)) 2), body := FuncBody.stmts (fnB (nthS (clB (nthS txt 3)) 2)), scope := fnS (nthS (clB (nthS txt 3)) 2), globals := 3, closure := [], defaults := Value.none, kwdefaults := Value.none, pyModule := Value.str (Str.ofString "dulwich.lru_cache") 187, code := Value.ref 71 } }) ::
(nat_lit 73, { cls := Value.type "tuple", data := Data.seq #[] }) ::
(nat_lit 75, { cls := Value.type "tuple", data := Data.seq #[Value.str (Str.ofString "self") 280] }) ::
(nat_lit 76, { cls := Value.type "tuple", data := Data.seq #[] }) ::
(nat_lit 78, { cls := Value.type "code", data := Data.fields #[Value.str (Str.ofString "__len__") 277, Value.str (Str.ofString "LRUCache.__len__") 278, Value.str (Str.ofString "/claim/cut.py") 279, Value.int 51 0, Value.int 1 0, Value.int 0 0, Value.int 0 0, Value.int 3 0, Value.ref 73, Value.bool true, Value.int 181 0, Value.ref 74, Value.none, Value.ref 75, Value.ref 76, Value.ref 77, Value.int 281 0, Value.int 51 0, Value.str (Str.ofString "/claim/cut.py") 282] }) ::
(nat_lit 79, { cls := Value.type "function", data := Data.func { name := Str.ofString "__len__", qualname := Str.ofString "LRUCache.__len__", params := fnP (nthS (clB (nthS txt 3)) 3), body := FuncBody.stmts (fnB (nthS (clB (nthS txt 3)) 3)), scope := fnS (nthS (clB (nthS txt 3)) 3), globals := 3, closure := [], defaults := Value.none, kwdefaults := Value.none, pyModule := Value.str (Str.ofString "dulwich.lru_cache") 187, code := Value.ref 78 } }) ::
(nat_lit 80, { cls := Value.type "tuple", data := Data.seq #[Value.none] }) ::
(nat_lit 81, { cls := Value.type "tuple", data := Data.seq #[] }) ::
(nat_lit 83, { cls := Value.type "tuple", data := Data.seq #[Value.str (Str.ofString "self") 287, Value.str (Str.ofString "key") 288, Value.str (Str.ofString "value") 289, Value.str (Str.ofString "cleanup") 290, Value.str (Str.ofString "node") 291] }) ::
(nat_lit 84, { cls := Value.type "tuple", data := Data.seq #[] }) ::
(nat_lit 86, { cls := Value.type "code", data := Data.fields #[Value.str (Str.ofString "add") 284, Value.str (Str.ofString "LRUCache.add") 285, Value.str (Str.ofString "/claim/cut.py") 286, Value.int 54 0, Value.int 4 0, Value.int 0 0, Value.int 0 0, Value.int 3 0, Value.ref 81, Value.bool true, Value.int 181 0, Value.ref 82, Value.none, Value.ref 83, Value.ref 84, Value.ref 85, Value.int 292 0, Value.int 54 0, Value.str (Str.ofString "/claim/cut.py") 293] }) ::
(nat_lit 87, { cls := Value.type "function", data := Data.func { name := Str.ofString "add", qualname := Str.ofString "LRUCache.add", params := fnP (nthS (clB (nthS txt 3)) 4), body := FuncBody.stmts (fnB (nthS (clB (nthS txt 3)) 4)), scope := fnS (nthS (clB (nthS txt 3)) 4), globals := 3, closure := [], defaults := Value.ref 80, kwdefaults := Value.none, pyModule := Value.str (Str.ofString "dulwich.lru_cache") 187, code := Value.ref 86 } }) ::
(nat_lit 88, { cls := Value.type "tuple", data := Data.seq #[] }) ::
(nat_lit 90, { cls := Value.type "tuple", data := Data.seq #[Value.str (Str.ofString "self") 298] }) ::
(nat_lit 91, { cls := Value.type "tuple", data := Data.seq #[] }) ::
(nat_lit 93, { cls := Value.type "code", data := Data.fields #[Value.str (Str.ofString "cache_size") 295, Value.str (Str.ofString "LRUCache.cache_size") 296, Value.str (Str.ofString "/claim/cut.py") 297, Value.int 69 0, Value.int 1 0, Value.int 0 0, Value.int 0 0, Value.int 3 0, Value.ref 88, Value.bool true, Value.int 181 0, Value.ref 89, Value.none, Value.ref 90, Value.ref 91, Value.ref 92, Value.int 299 0, Value.int 69 0, Value.str (Str.ofString "/claim/cut.py") 300] }) ::
(nat_lit 94, { cls := Value.type "function", data := Data.func { name := Str.ofString "cache_size", qualname := Str.ofString "LRUCache.cache_size", params := fnP (nthS (clB (nthS txt 3)) 5), body := FuncBody.stmts (fnB (nthS (clB (nthS txt 3)) 5)), scope := fnS (nthS (clB (nthS txt 3)) 5), globals := 3, closure := [], defaults := Value.none, kwdefaults := Value.none, pyModule := Value.str (Str.ofString "dulwich.lru_cache") 187, code := Value.ref 93 } }) ::
(nat_lit 95, { cls := Value.type "tuple", data := Data.seq #[Value.none] }) ::
(nat_lit 96, { cls := Value.type "tuple", data := Data.seq #[] }) ::
(nat_lit 98, { cls := Value.type "tuple", data := Data.seq #[Value.str (Str.ofString "self") 305, Value.str (Str.ofString "key") 306, Value.str (Str.ofString "default") 307, Value.str (Str.ofString "node") 308] }) ::
(nat_lit 99, { cls := Value.type "tuple", data := Data.seq #[] }) ::
(nat_lit 101, { cls := Value.type "code", data := Data.fields #[Value.str (Str.ofString "get") 302, Value.str (Str.ofString "LRUCache.get") 303, Value.str (Str.ofString "/claim/cut.py") 304, Value.int 72 0, Value.int 3 0, Value.int 0 0, Value.int 0 0, Value.int 3 0, Value.ref 96, Value.bool true, Value.int 181 0, Value.ref 97, Value.none, Value.ref 98, Value.ref 99, Value.ref 100, Value.int 309 0, Value.int 72 0, Value.str (Str.ofString "/claim/cut.py") 310] }) ::
(nat_lit 102, { cls := Value.type "function", data := Data.func { name := Str.ofString "get", qualname := Str.ofString "LRUCache.get", params := fnP (nthS (clB (nthS txt 3)) 6), body := FuncBody.stmts (fnB (nthS (clB (nthS txt 3)) 6)), scope := fnS (nthS (clB (nthS txt 3)) 6), globals := 3, closure := [], defaults := Value.ref 95, kwdefaults := Value.none, pyModule := Value.str (Str.ofString "dulwich.lru_cache") 187, code := Value.ref 101 } }) ::
(nat_lit 103, { cls := Value.type "tuple", data := Data.seq #[] }) ::
(nat_lit 105, { cls := Value.type "tuple", data := Data.seq #[Value.str (Str.ofString "self") 315] }) ::
(nat_lit 106, { cls := Value.type "tuple", data := Data.seq #[] }) ::
(nat_lit 108, { cls := Value.type "code", data := Data.fields #[Value.str (Str.ofString "keys") 312, Value.str (Str.ofString "LRUCache.keys") 313, Value.str (Str.ofString "/claim/cut.py") 314, Value.int 79 0, Value.int 1 0, Value.int 0 0, Value.int 0 0, Value.int 3 0, Value.ref 103, Value.bool true, Value.int 181 0, Value.ref 104, Value.none, Value.ref 105, Value.ref 106, Value.ref 107, Value.int 316 0, Value.int 79 0, Value.str (Str.ofString "/claim/cut.py") 317] }) ::
(nat_lit 109, { cls := Value.type "function", data := Data.func { name := Str.ofString "keys", qualname := Str.ofString "LRUCache.keys", params := fnP (nthS (clB (nthS txt 3)) 7), body := FuncBody.stmts (fnB (nthS (clB (nthS txt 3)) 7)), scope := fnS (nthS (clB (nthS txt 3)) 7), globals := 3, closure := [], defaults := Value.none, kwdefaults := Value.none, pyModule := Value.str (Str.ofString "dulwich.lru_cache") 187, code := Value.ref 108 } }) ::
(nat_lit 110, { cls := Value.type "tuple", data := Data.seq #[] }) ::
(nat_lit 113, { cls := Value.type "code", data := Data.fields #[Value.str (Str.ofString "items") 319, Value.str (Str.ofString "LRUCache.items") 320, Value.str (Str.ofString "/claim/cut.py") 321, Value.int 82 0, Value.int 1 0, Value.int 0 0, Value.int 0 0, Value.int 3 0, Value.ref 110, Value.bool true, Value.int 181 0, Value.ref 111, Value.none, Value.none, Value.none, Value.ref 112, Value.int 322 0, Value.int 82 0, Value.str (Str.ofString "/claim/cut.py") 323] }) ::
(nat_lit 114, { cls := Value.type "function", data := Data.func { name := Str.ofString "items", qualname := Str.ofString "LRUCache.items", params := fnP (nthS (clB (nthS txt 3)) 8), body := FuncBody.stmts (fnB (nthS (clB (nthS txt 3)) 8)), scope := fnS (nthS (clB (nthS txt 3)) 8), globals := 3, closure := [], defaults := Value.none, kwdefaults := Value.none, pyModule := Value.str (Str.ofString "dulwich.lru_cache") 187, code := Value.ref 113 } }) ::
(nat_lit 115, { cls := Value.type "tuple", data := Data.seq #[] }) ::
(nat_lit 117, { cls := Value.type "tuple", data := Data.seq #[Value.str (Str.ofString "self") 328] }) ::
(nat_lit 118, { cls := Value.type "tuple", data := Data.seq #[] }) ::
(nat_lit 120, { cls := Value.type "code", data := Data.fields #[Value.str (Str.ofString "cleanup") 325, Value.str (Str.ofString "LRUCache.cleanup") 326, Value.str (Str.ofString "/claim/cut.py") 327, Value.int 85 0, Value.int 1 0, Value.int 0 0, Value.int 0 0, Value.int 3 0, Value.ref 115, Value.bool true, Value.int 181 0, Value.ref 116, Value.none, Value.ref 117, Value.ref 118, Value.ref 119, Value.int 329 0, Value.int 85 0, Value.str (Str.ofString "/claim/cut.py") 330] }) ::
(nat_lit 121, { cls := Value.type "function", data := Data.func { name := Str.ofString "cleanup", qualname := Str.ofString "LRUCache.cleanup", params := fnP (nthS (clB (nthS txt 3)) 9), body := FuncBody.stmts (fnB (nthS (clB (nthS txt 3)) 9)), scope := fnS (nthS (clB (nthS txt 3)) 9), globals := 3, closure := [], defaults := Value.none, kwdefaults := Value.none, pyModule := Value.str (Str.ofString "dulwich.lru_cache") 187, code := Value.ref 120 } }) ::
(nat_lit 122, { cls := Value.type "tuple", data := Data.seq #[] }) ::
(nat_lit 124, { cls := Value.type "tuple", data := Data.seq #[Value.str (Str.ofString "self") 335, Value.str (Str.ofString "key") 336, Value.str (Str.ofString "value") 337] }) ::
(nat_lit 125, { cls := Value.type "tuple", data := Data.seq #[] }) ::
(nat_lit 127, { cls := Value.type "code", data := Data.fields #[Value.str (Str.ofString "__setitem__") 332, Value.str (Str.ofString "LRUCache.__setitem__") 333, Value.str (Str.ofString "/claim/cut.py") 334, Value.int 89 0, Value.int 3 0, Value.int 0 0, Value.int 0 0, Value.int 3 0, Value.ref 122, Value.bool true, Value.int 181 0, Value.ref 123, Value.none, Value.ref 124, Value.ref 125, Value.ref 126, Value.int 338 0, Value.int 89 0, Value.str (Str.ofString "/claim/cut.py") 339] }) ::
(nat_lit 128, { cls := Value.type "function", data := Data.func { name := Str.ofString "__setitem__", qualname := Str.ofString "LRUCache.__setitem__", params := fnP (nthS (clB (nthS txt 3)) 10), body := FuncBody.stmts (fnB (nthS (clB (nthS txt 3)) 10)), scope := fnS (nthS (clB (nthS txt 3)) 10), globals := 3, closure := [], defaults := Value.none, kwdefaults := Value.none, pyModule := Value.str (Str.ofString "dulwich.lru_cache") 187, code := Value.ref 127 } }) ::
(nat_lit 129, { cls := Value.type "tuple", data := Data.seq #[] }) ::
(nat_lit 131, { cls := Value.type "tuple", data := Data.seq #[Value.str (Str.ofString "self") 344, Value.str (Str.ofString "node") 345, Value.str (Str.ofString "node_next") 346] }) ::
(nat_lit 132, { cls := Value.type "tuple", data := Data.seq #[] }) ::
(nat_lit 134, { cls := Value.type "code", data := Data.fields #[Value.str (Str.ofString "_record_access") 341, Value.str (Str.ofString "LRUCache._record_access") 342, Value.str (Str.ofString "/claim/cut.py") 343, Value.int 92 0, Value.int 2 0, Value.int 0 0, Value.int 0 0, Value.int 3 0, Value.ref 129, Value.bool true, Value.int 181 0, Value.ref 130, Value.none, Value.ref 131, Value.ref 132, Value.ref 133, Value.int 347 0, Value.int 92 0, Value.str (Str.ofString "/claim/cut.py") 348] }) ::
(nat_lit 135, { cls := Value.type "function", data := Data.func { name := Str.ofString "_record_access", qualname := Str.ofString "LRUCache._record_access", params := fnP (nthS (clB (nthS txt 3)) 11), body := FuncBody.stmts (fnB (nthS (clB (nthS txt 3)) 11)), scope := fnS (nthS (clB (nthS txt 3)) 11), globals := 3, closure := [], defaults := Value.none, kwdefaults := Value.none, pyModule := Value.str (Str.ofString "dulwich.lru_cache") 187, code := Value.ref 134 } }) ::
(nat_lit 136, { cls := Value.type "tuple", data := Data.seq #[] }) ::
(nat_lit 138, { cls := Value.type "tuple", data := Data.seq #[Value.str (Str.ofString "self") 353, Value.str (Str.ofString "node") 354, Value.str (Str.ofString "node_next") 355] }) ::
(nat_lit 139, { cls := Value.type "tuple", data := Data.seq #[] }) ::
(nat_lit 141, { cls := Value.type "code", data := Data.fields #[Value.str (Str.ofString "_remove_node") 350, Value.str (Str.ofString "LRUCache._remove_node") 351, Value.str (Str.ofString "/claim/cut.py") 352, Value.int 111 0, Value.int 2 0, Value.int 0 0, Value.int 0 0, Value.int 3 0, Value.ref 136, Value.bool true, Value.int 181 0, Value.ref 137, Value.none, Value.ref 138, Value.ref 139, Value.ref 140, Value.int 356 0, Value.int 111 0, Value.str (Str.ofString "/claim/cut.py") 357] }) ::
(nat_lit 142, { cls := Value.type "function", data := Data.func { name := Str.ofString "_remove_node", qualname := Str.ofString "LRUCache._remove_node", params := fnP (nthS (clB (nthS txt 3)) 12), body := FuncBody.stmts (fnB (nthS (clB (nthS txt 3)) 12)), scope := fnS (nthS (clB (nthS txt 3)) 12), globals := 3, closure := [], defaults := Value.none, kwdefaults := Value.none, pyModule := Value.str (Str.ofString "dulwich.lru_cache") 187, code := Value.ref 141 } }) ::
(nat_lit 143, { cls := Value.type "tuple", data := Data.seq #[] }) ::
(nat_lit 145, { cls := Value.type "tuple", data := Data.seq #[Value.str (Str.ofString "self") 362] }) ::
(nat_lit 146, { cls := Value.type "tuple", data := Data.seq #[] }) ::
(nat_lit 148, { cls := Value.type "code", data := Data.fields #[Value.str (Str.ofString "_remove_lru") 359, Value.str (Str.ofString "LRUCache._remove_lru") 360, Value.str (Str.ofString "/claim/cut.py") 361, Value.int 126 0, Value.int 1 0, Value.int 0 0, Value.int 0 0, Value.int 3 0, Value.ref 143, Value.bool true, Value.int 181 0, Value.ref 144, Value.none, Value.ref 145, Value.ref 146, Value.ref 147, Value.int 363 0, Value.int 126 0, Value.str (Str.ofString "/claim/cut.py") 364] }) ::
(nat_lit 149, { cls := Value.type "function", data := Data.func { name := Str.ofString "_remove_lru", qualname := Str.ofString "LRUCache._remove_lru", params := fnP (nthS (clB (nthS txt 3)) 13), body := FuncBody.stmts (fnB (nthS (clB (nthS txt 3)) 13)), scope := fnS (nthS (clB (nthS txt 3)) 13), globals := 3, closure := [], defaults := Value.none, kwdefaults := Value.none, pyModule := Value.str (Str.ofString "dulwich.lru_cache") 187, code := Value.ref 148 } }) ::
(nat_lit 150, { cls := Value.type "tuple", data := Data.seq #[] }) ::
(nat_lit 152, { cls := Value.type "tuple", data := Data.seq #[Value.str (Str.ofString "self") 369] }) ::
(nat_lit 153, { cls := Value.type "tuple", data := Data.seq #[] }) ::
(nat_lit 155, { cls := Value.type "code", data := Data.fields #[Value.str (Str.ofString "clear") 366, Value.str (Str.ofString "LRUCache.clear") 367, Value.str (Str.ofString "/claim/cut.py") 368, Value.int 130 0, Value.int 1 0, Value.int 0 0, Value.int 0 0, Value.int 3 0, Value.ref 150, Value.bool true, Value.int 181 0, Value.ref 151, Value.none, Value.ref 152, Value.ref 153, Value.ref 154, Value.int 370 0, Value.int 130 0, Value.str (Str.ofString "/claim/cut.py") 371] }) ::
(nat_lit 156, { cls := Value.type "function", data := Data.func { name := Str.ofString "clear", qualname := Str.ofString "LRUCache.clear", params := fnP (nthS (clB (nthS txt 3)) 14), body := FuncBody.stmts (fnB (nthS (clB (nthS txt 3)) 14)), scope := fnS (nthS (clB (nthS txt 3)) 14), globals := 3, closure := [], defaults := Value.none, kwdefaults := Value.none, pyModule := Value.str (Str.ofString "dulwich.lru_cache") 187, code := Value.ref 155 } }) ::
(nat_lit 157, { cls := Value.type "tuple", data := Data.seq #[Value.none] }) ::
(nat_lit 158, { cls := Value.type "tuple", data := Data.seq #[] }) ::
(nat_lit 160, { cls := Value.type "tuple", data := Data.seq #[Value.str (Str.ofString "self") 376, Value.str (Str.ofString "max_cache") 377, Value.str (Str.ofString "after_cleanup_count") 378] }) ::
(nat_lit 161, { cls := Value.type "tuple", data := Data.seq #[] }) ::
(nat_lit 163, { cls := Value.type "code", data := Data.fields #[Value.str (Str.ofString "resize") 373, Value.str (Str.ofString "LRUCache.resize") 374, Value.str (Str.ofString "/claim/cut.py") 375, Value.int 134 0, Value.int 3 0, Value.int 0 0, Value.int 0 0, Value.int 3 0, Value.ref 158, Value.bool true, Value.int 181 0, Value.ref 159, Value.none, Value.ref 160, Value.ref 161, Value.ref 162, Value.int 379 0, Value.int 134 0, Value.str (Str.ofString "/claim/cut.py") 380] }) ::
(nat_lit 164, { cls := Value.type "function", data := Data.func { name := Str.ofString "resize", qualname := Str.ofString "LRUCache.resize", params := fnP (nthS (clB (nthS txt 3)) 15), body := FuncBody.stmts (fnB (nthS (clB (nthS txt 3)) 15)), scope := fnS (nthS (clB (nthS txt 3)) 15), globals := 3, closure := [], defaults := Value.ref 157, kwdefaults := Value.none, pyModule := Value.str (Str.ofString "dulwich.lru_cache") 187, code := Value.ref 163 } }) ::
(nat_lit 165, { cls := Value.type "tuple", data := Data.seq #[Value.none] }) ::
(nat_lit 166, { cls := Value.type "tuple", data := Data.seq #[] }) ::
(nat_lit 168, { cls := Value.type "tuple", data := Data.seq #[Value.str (Str.ofString "self") 385, Value.str (Str.ofString "max_cache") 386, Value.str (Str.ofString "after_cleanup_count") 387] }) ::
(nat_lit 169, { cls := Value.type "tuple", data := Data.seq #[] }) ::
(nat_lit 171, { cls := Value.type "code", data := Data.fields #[Value.str (Str.ofString "_update_max_cache") 382, Value.str (Str.ofString "LRUCache._update_max_cache") 383, Value.str (Str.ofString "/claim/cut.py") 384, Value.int 137 0, Value.int 3 0, Value.int 0 0, Value.int 0 0, Value.int 3 0, Value.ref 166, Value.bool true, Value.int 181 0, Value.ref 167, Value.none, Value.ref 168, Value.ref 169, Value.ref 170, Value.int 388 0, Value.int 137 0, Value.str (Str.ofString "/claim/cut.py") 389] }) ::
(nat_lit 172, { cls := Value.type "function", data := Data.func { name := Str.ofString "_update_max_cache", qualname := Str.ofString "LRUCache._update_max_cache", params := fnP (nthS (clB (nthS txt 3)) 16), body := FuncBody.stmts (fnB (nthS (clB (nthS txt 3)) 16)), scope := fnS (nthS (clB (nthS txt 3)) 16), globals := 3, closure := [], defaults := Value.ref 165, kwdefaults := Value.none, pyModule := Value.str (Str.ofString "dulwich.lru_cache") 187, code := Value.ref 171 } }) ::
(nat_lit 173, { cls := Value.type "tuple", data := Data.seq #[Value.str (Str.ofString "_after_cleanup_count") 391, Value.str (Str.ofString "_cache") 392, Value.str (Str.ofString "_least_recently_used") 393, Value.str (Str.ofString "_max_cache") 394, Value.str (Str.ofString "_most_recently_used") 395] }) ::
(nat_lit 174, { cls := Value.type "dict", data := Data.dict #[{ hash := PyData.keyHash P (Str.ofString "__module__"), key := Value.str (Str.ofString "__module__") 240, val := Value.str (Str.ofString "dulwich.lru_cache") 187 }, { hash := PyData.keyHash P (Str.ofString "__firstlineno__"), key := Value.str (Str.ofString "__firstlineno__") 244, val := Value.int 18 243 }, { hash := PyData.keyHash P (Str.ofString "__init__"), key := Value.str (Str.ofString "__init__") 254, val := Value.ref 58 }, { hash := PyData.keyHash P (Str.ofString "__contains__"), key := Value.str (Str.ofString "__contains__") 262, val := Value.ref 65 }, { hash := PyData.keyHash P (Str.ofString "__getitem__"), key := Value.str (Str.ofString "__getitem__") 276, val := Value.ref 72 }, { hash := PyData.keyHash P (Str.ofString "__len__"), key := Value.str (Str.ofString "__len__") 283, val := Value.ref 79 }, { hash := PyData.keyHash P (Str.ofString "add"), key := Value.str (Str.ofString "add") 294, val := Value.ref 87 }, { hash := PyData.keyHash P (Str.ofString "cache_size"), key := Value.str (Str.ofString "cache_size") 301, val := Value.ref 94 }, { hash := PyData.keyHash P (Str.ofString "get"), key := Value.str (Str.ofString "get") 311, val := Value.ref 102 }, { hash := PyData.keyHash P (Str.ofString "keys"), key := Value.str (Str.ofString "keys") 318, val := Value.ref 109 }, { hash := PyData.keyHash P (Str.ofString "items"), key := Value.str (Str.ofString "items") 324, val := Value.ref 114 }, { hash := PyData.keyHash P (Str.ofString "cleanup"), key := Value.str (Str.ofString "cleanup") 331, val := Value.ref 121 }, { hash := PyData.keyHash P (Str.ofString "__setitem__"), key := Value.str (Str.ofString "__setitem__") 340, val := Value.ref 128 }, { hash := PyData.keyHash P (Str.ofString "_record_access"), key := Value.str (Str.ofString "_record_access") 349, val := Value.ref 135 }, { hash := PyData.keyHash P (Str.ofString "_remove_node"), key := Value.str (Str.ofString "_remove_node") 358, val := Value.ref 142 }, { hash := PyData.keyHash P (Str.ofString "_remove_lru"), key := Value.str (Str.ofString "_remove_lru") 365, val := Value.ref 149 }, { hash := PyData.keyHash P (Str.ofString "clear"), key := Value.str (Str.ofString "clear") 372, val := Value.ref 156 }, { hash := PyData.keyHash P (Str.ofString "resize"), key := Value.str (Str.ofString "resize") 381, val := Value.ref 164 }, { hash := PyData.keyHash P (Str.ofString "_update_max_cache"), key := Value.str (Str.ofString "_update_max_cache") 390, val := Value.ref 172 }, { hash := PyData.keyHash P (Str.ofString "__static_attributes__"), key := Value.str (Str.ofString "__static_attributes__") 396, val := Value.ref 173 }, { hash := PyData.keyHash P (Str.ofString "__dict__"), key := Value.str (Str.ofString "__dict__") 398, val := Value.ref 176 }, { hash := PyData.keyHash P (Str.ofString "__weakref__"), key := Value.str (Str.ofString "__weakref__") 400, val := Value.ref 177 }, { hash := PyData.keyHash P (Str.ofString "__doc__"), key := Value.str (Str.ofString "__doc__") 401, val := Value.none }] 4 }) ::
(nat_lit 175, { cls := Value.type "type", data := Data.cls { name := Str.ofString "LRUCache", bases := [Value.type "object"], mro := [Value.ref 175, Value.type "object"], ns := 174, qualname := Str.ofString "LRUCache" }, slots := #[none, none, some (Value.str (Str.ofString "LRUCache") 233), some (Value.str (Str.ofString "LRUCache") 241), some (Value.builtin "object.__new__"), some (Value.bool true)] }) ::
(nat_lit 176, { cls := Value.type "getset_descriptor", data := Data.fields #[Value.str (Str.ofString "__dict__") 397, Value.ref 175, Value.builtin "function.__dict__", Value.builtin "function.__dict__#set"] }) ::
(nat_lit 177, { cls := Value.type "getset_descriptor", data := Data.fields #[Value.str (Str.ofString "__weakref__") 399, Value.ref 175, Value.builtin "ExceptionGroup.__weakref__", Value.none] }) ::
(nat_lit 180, { cls := Value.type "tuple", data := Data.seq #[Value.int 0 419, Value.int 1 420] }) ::
(nat_lit 181, { cls := Value.type "list", data := Data.seq #[Value.int 0 406, Value.int 1 407, Value.int (-1) 409, Value.int 7 410, Value.int 1000000000000000000000000000000 411, Value.int (-5) 413, Value.str (Str.ofString "") 414, Value.str (Str.ofString "a") 415, Value.str (Str.ofString "ab") 416, Value.bytes #[] 417, Value.bytes #[97] 418, Value.ref 180] }) ::
(nat_lit 182, { cls := Value.type "tuple", data := Data.seq #[] }) ::
(nat_lit 184, { cls := Value.type "tuple", data := Data.seq #[Value.str (Str.ofString "rows") 425, Value.str (Str.ofString "keep") 426, Value.str (Str.ofString "due") 427, Value.str (Str.ofString "gone") 428, Value.str (Str.ofString "row") 429] }) ::
(nat_lit 185, { cls := Value.type "tuple", data := Data.seq #[] }) ::
(nat_lit 187, { cls := Value.type "code", data := Data.fields #[Value.str (Str.ofString "_law_shrunk") 422, Value.str (Str.ofString "_law_shrunk") 423, Value.str (Str.ofString "/claim/cut.py") 424, Value.int 146 0, Value.int 3 0, Value.int 0 0, Value.int 0 0, Value.int 3 0, Value.ref 182, Value.bool true, Value.int 181 0, Value.ref 183, Value.none, Value.ref 184, Value.ref 185, Value.ref 186, Value.int 430 0, Value.int 146 0, Value.str (Str.ofString "/claim/cut.py") 431] }) ::
(nat_lit 188, { cls := Value.type "function", data := Data.func { name := Str.ofString "_law_shrunk", qualname := Str.ofString "_law_shrunk", params := fnP (nthS txt 6), body := FuncBody.stmts (fnB (nthS txt 6)), scope := fnS (nthS txt 6), globals := 3, closure := [], defaults := Value.none, kwdefaults := Value.none, pyModule := Value.str (Str.ofString "law_ji0029_01") 404, code := Value.ref 187 } }) ::
(nat_lit 189, { cls := Value.type "tuple", data := Data.seq #[] }) ::
(nat_lit 191, { cls := Value.type "tuple", data := Data.seq #[Value.str (Str.ofString "number") 436, Value.str (Str.ofString "top") 437, Value.str (Str.ofString "rest") 438, Value.str (Str.ofString "after") 439] }) ::
(nat_lit 192, { cls := Value.type "tuple", data := Data.seq #[] }) ::
(nat_lit 194, { cls := Value.type "code", data := Data.fields #[Value.str (Str.ofString "_law_limits") 433, Value.str (Str.ofString "_law_limits") 434, Value.str (Str.ofString "/claim/cut.py") 435, Value.int 152 0, Value.int 1 0, Value.int 0 0, Value.int 0 0, Value.int 3 0, Value.ref 189, Value.bool true, Value.int 181 0, Value.ref 190, Value.none, Value.ref 191, Value.ref 192, Value.ref 193, Value.int 440 0, Value.int 152 0, Value.str (Str.ofString "/claim/cut.py") 441] }) ::
(nat_lit 195, { cls := Value.type "function", data := Data.func { name := Str.ofString "_law_limits", qualname := Str.ofString "_law_limits", params := fnP (nthS txt 7), body := FuncBody.stmts (fnB (nthS txt 7)), scope := fnS (nthS txt 7), globals := 3, closure := [], defaults := Value.none, kwdefaults := Value.none, pyModule := Value.str (Str.ofString "law_ji0029_01") 404, code := Value.ref 194 } }) ::
(nat_lit 196, { cls := Value.type "tuple", data := Data.seq #[] }) ::
(nat_lit 199, { cls := Value.type "code", data := Data.fields #[Value.str (Str.ofString "_law_alike") 443, Value.str (Str.ofString "_law_alike") 444, Value.str (Str.ofString "/claim/cut.py") 445, Value.int 159 0, Value.int 4 0, Value.int 0 0, Value.int 0 0, Value.int 3 0, Value.ref 196, Value.bool true, Value.int 181 0, Value.ref 197, Value.none, Value.none, Value.none, Value.ref 198, Value.int 446 0, Value.int 159 0, Value.str (Str.ofString "/claim/cut.py") 447] }) ::
(nat_lit 200, { cls := Value.type "function", data := Data.func { name := Str.ofString "_law_alike", qualname := Str.ofString "_law_alike", params := fnP (nthS txt 8), body := FuncBody.stmts (fnB (nthS txt 8)), scope := fnS (nthS txt 8), globals := 3, closure := [], defaults := Value.none, kwdefaults := Value.none, pyModule := Value.str (Str.ofString "law_ji0029_01") 404, code := Value.ref 199 } }) ::
(nat_lit 201, { cls := Value.type "tuple", data := Data.seq #[] }) ::
(nat_lit 203, { cls := Value.type "tuple", data := Data.seq #[Value.str (Str.ofString "cache") 452, Value.str (Str.ofString "key") 453, Value.str (Str.ofString "kind") 454, Value.str (Str.ofString "number") 455] }) ::
(nat_lit 204, { cls := Value.type "tuple", data := Data.seq #[] }) ::
(nat_lit 206, { cls := Value.type "code", data := Data.fields #[Value.str (Str.ofString "_law_looked") 449, Value.str (Str.ofString "_law_looked") 450, Value.str (Str.ofString "/claim/cut.py") 451, Value.int 170 0, Value.int 4 0, Value.int 0 0, Value.int 0 0, Value.int 3 0, Value.ref 201, Value.bool true, Value.int 181 0, Value.ref 202, Value.none, Value.ref 203, Value.ref 204, Value.ref 205, Value.int 456 0, Value.int 170 0, Value.str (Str.ofString "/claim/cut.py") 457] }) ::
(nat_lit 207, { cls := Value.type "function", data := Data.func { name := Str.ofString "_law_looked", qualname := Str.ofString "_law_looked", params := fnP (nthS txt 9), body := FuncBody.stmts (fnB (nthS txt 9)), scope := fnS (nthS txt 9), globals := 3, closure := [], defaults := Value.none, kwdefaults := Value.none, pyModule := Value.str (Str.ofString "law_ji0029_01") 404, code := Value.ref 206 } }) ::
(nat_lit 208, { cls := Value.type "tuple", data := Data.seq #[] }) ::
(nat_lit 211, { cls := Value.type "code", data := Data.fields #[Value.str (Str.ofString "law") 459, Value.str (Str.ofString "law") 460, Value.str (Str.ofString "/claim/cut.py") 461, Value.int 179 0, Value.int 1 0, Value.int 0 0, Value.int 0 0, Value.int 3 0, Value.ref 208, Value.bool true, Value.int 181 0, Value.ref 209, Value.none, Value.none, Value.none, Value.ref 210, Value.int 462 0, Value.int 179 0, Value.str (Str.ofString "/claim/cut.py") 463] }) ::
(nat_lit 212, { cls := Value.type "function", data := Data.func { name := Str.ofString "law", qualname := Str.ofString "law", params := fnP (nthS txt 10), body := FuncBody.stmts (fnB (nthS txt 10)), scope := fnS (nthS txt 10), globals := 3, closure := [], defaults := Value.none, kwdefaults := Value.none, pyModule := Value.str (Str.ofString "law_ji0029_01") 404, code := Value.ref 211 } }) :: []
noncomputable def vwP : Program := { PySem.Challenge.pw_ji0029_01 with main := { PySem.Challenge.pw_ji0029_01.main with body := [nthS txt 1, nthS txt 2, nthS txt 3, nthS txt 5, nthS txt 6, nthS txt 7, nthS txt 8, nthS txt 9, nthS txt 10] } }
theorem left_boot {p q : Program} {loose : List Str} {Xt : Shared → Bool} {α : Type} {Yf : Shared → α} {Ya : World → α} {N : Nat} {g0 : Bool}
    (boot : ∀ w : World, (fencedOpening treeTable p w N).map (fun s => (s.heap, s.gens, s.drawn, s.toks)) = some (boot_heap w.params, Array.mk [], boot_drawn, boot_toks))
    (rest : ∀ (w : World) (os : OsState), (topFrom treeTable p w N ⟨boot_heap w.params, Array.mk [], boot_drawn, boot_toks, os⟩).map (fun s => (openSeen q loose (importedModules p.main.body) Xt g0 s, Yf s)) = some (openGood q loose, Ya w)) : LeftO p q loose Xt Yf Ya N g0 := fun w => by
  obtain ⟨⟨h, gs, d, k, os⟩, e, e'⟩ := Option.map_eq_some_iff.mp (boot w)
  obtain ⟨rfl, rfl, rfl, rfl⟩ : h = boot_heap w.params ∧ gs = Array.mk [] ∧ d = boot_drawn ∧ k = boot_toks := by simpa using e'
  unfold openEnds
  rw [e]
  exact rest w os
theorem boot1 : ∀ w : World, (fencedOpening treeTable PySem.Challenge.rw_ji0029_01.row.prog w 2570).map (fun s => (s.heap, s.gens, s.drawn, s.toks)) = some (boot_heap w.params, Array.mk [], boot_drawn, boot_toks) :=
  boot_open (by rfl) (by decide) (fun s => by rfl)
noncomputable def hook1 := kmHook K1 (2 :: 3 :: 22 :: 23 :: 25 :: 26 :: 28 :: 29 :: 30 :: 32 :: 33 :: 35 :: 36 :: 37 :: 38 :: 39 :: 40 :: 41 :: 51 :: 52 :: 54 :: 55 :: 57 :: 58 :: 59 :: 61 :: 62 :: 64 :: 65 :: 66 :: 68 :: 69 :: 71 :: 72 :: 73 :: 75 :: 76 :: 78 :: 79 :: 80 :: 81 :: 83 :: 84 :: 86 :: 87 :: 88 :: 90 :: 91 :: 93 :: 94 :: 95 :: 96 :: 98 :: 99 :: 101 :: 102 :: 103 :: 105 :: 106 :: 108 :: 109 :: 110 :: 113 :: 114 :: 115 :: 117 :: 118 :: 120 :: 121 :: 122 :: 124 :: 125 :: 127 :: 128 :: 129 :: 131 :: 132 :: 134 :: 135 :: 136 :: 138 :: 139 :: 141 :: 142 :: 143 :: 145 :: 146 :: 148 :: 149 :: 150 :: 152 :: 153 :: 155 :: 156 :: 157 :: 158 :: 160 :: 161 :: 163 :: 164 :: 165 :: 166 :: 168 :: 169 :: 171 :: 172 :: 173 :: 174 :: 175 :: 176 :: 177 :: 180 :: 181 :: 182 :: 184 :: 185 :: 187 :: 188 :: 189 :: 191 :: 192 :: 194 :: 195 :: 196 :: 199 :: 200 :: 201 :: 203 :: 204 :: 206 :: 207 :: 208 :: 211 :: 212 :: []) (fun _ => by kernel_rfl) [209]
theorem rest1 : ∀ (w : World) (os : OsState), (topFrom treeTable PySem.Challenge.rw_ji0029_01.row.prog w 2570 ⟨boot_heap w.params, Array.mk [], boot_drawn, boot_toks, os⟩).map (fun s => (openSeen vwP [Str.ofString "_law_keys"] (importedModules PySem.Challenge.rw_ji0029_01.row.prog.main.body) (fun s => xlAt vwP ([] : List (Str × WData)) s && recOk (RowW.records PySem.Challenge.rw_ji0029_01.row.toRowW) s) true s, hook1.obs s)) = some (openGood vwP [Str.ofString "_law_keys"], hook1.val w) := by
  intro w os
  unfold topFrom
  rw [PySem.W.Fast.te14082659384304107361, PySem.W.Fast.te14364793385576792824, PySem.W.Fast.te4187177175401517315, PySem.W.Fast.te5923862056798008813, PySem.W.Fast.te8920871248978507458]
  kernel_rfl
set_option maxHeartbeats 1000000
/-- the state with another heap and count of tokens -/
noncomputable def up (s : Shared) (h : Heap) (tk : Nat) : Shared := { s with heap := h, toks := tk }

structure NF where
  prev : Value
  next : Value
  key : Value
  val : Value
  cln : Value

noncomputable def nodeEs (P : Params) (t : Nat → Tok) (f : NF) : List DictEntry :=
  [⟨PyData.keyHash P "prev", .str "prev" (t 0), f.prev⟩, ⟨PyData.keyHash P "next_key", .str "next_key" (t 1), f.next⟩,
   ⟨PyData.keyHash P "key", .str "key" (t 2), f.key⟩, ⟨PyData.keyHash P "value", .str "value" (t 3), f.val⟩,
   ⟨PyData.keyHash P "cleanup", .str "cleanup" (t 4), f.cln⟩, ⟨PyData.keyHash P "size", .str "size" (t 5), .none⟩]
noncomputable def cacheEs (P : Params) (t : Nat → Tok) (dd : Addr) (mru lru mx af : Value) : List DictEntry :=
  [⟨PyData.keyHash P "_cache", .str "_cache" (t 0), .ref dd⟩, ⟨PyData.keyHash P "_most_recently_used", .str "_most_recently_used" (t 1), mru⟩,
   ⟨PyData.keyHash P "_least_recently_used", .str "_least_recently_used" (t 2), lru⟩, ⟨PyData.keyHash P "_max_cache", .str "_max_cache" (t 3), mx⟩,
   ⟨PyData.keyHash P "_after_cleanup_count", .str "_after_cleanup_count" (t 4), af⟩]

/-- no mark of the machine's -/
noncomputable def Nb (v : Value) : Prop := PySem.plainIs v .none = true
theorem Nb.handed {v : Value} (h : Nb v) : handedIn v = true := by
  cases v <;> first | rfl | (unfold Nb PySem.plainIs at h; cases h)
theorem Nb.none : Nb .none := rfl
theorem Nb.ref {x : Addr} : Nb (.ref x) := rfl
theorem Nb.int {i : Int} {t : Tok} : Nb (.int i t) := rfl
structure NFok (f : NF) : Prop where
  prev : Nb f.prev
  next : Nb f.next
  key : Nb f.key
  val : Nb f.val
  cln : Nb f.cln

structure Rg where
  x : Addr
  dx : Addr
  t : Nat → Tok

structure LS where
  c : Addr
  dc : Addr
  dd : Addr
  ct : Nat → Tok
  mru : Value
  lru : Value
  mx : Value
  af : Value
  od : Obj
  reg : List Rg
  F : Addr → NF
  ex : List (Addr × Obj)

noncomputable def nodeL (CN : Addr) (P : Params) (F : Addr → NF) : List Rg → List (Addr × Obj)
  | [] => []
  | r :: l => (r.x, instObj CN r.dx) :: (r.dx, dictOf (nodeEs P r.t (F r.x)) 6) :: nodeL CN P F l

noncomputable def ledger (CN CL : Addr) (P : Params) (st : LS) : List (Addr × Obj) :=
  (st.c, instObj CL st.dc) :: (st.dc, dictOf (cacheEs P st.ct st.dd st.mru st.lru st.mx st.af) 5) :: (st.dd, st.od) :: (nodeL CN P st.F st.reg ++ st.ex)

noncomputable def regAddrs : List Rg → List Addr
  | [] => []
  | r :: l => r.x :: r.dx :: regAddrs l
noncomputable def addrs (st : LS) : List Addr := st.c :: st.dc :: st.dd :: (regAddrs st.reg ++ st.ex.map (·.1))

theorem nodeL_addrs (CN : Addr) (P : Params) (F : Addr → NF) : ∀ l, (nodeL CN P F l).map (·.1) = regAddrs l
  | [] => rfl
  | r :: l => by simp [nodeL, regAddrs, nodeL_addrs CN P F l]
theorem ledger_addrs (CN CL : Addr) (P : Params) (st : LS) : (ledger CN CL P st).map (·.1) = addrs st := by
  simp [ledger, addrs, nodeL_addrs]

structure LSok (st : LS) : Prop where
  F : ∀ x, NFok (st.F x)
  mru : Nb st.mru
  lru : Nb st.lru
  mx : Nb st.mx
  af : Nb st.af

noncomputable def setF (F : Addr → NF) (x : Addr) (f : NF) : Addr → NF := fun y => if y = x then f else F y

theorem setF_ok {F : Addr → NF} {x : Addr} {f : NF} (h : ∀ y, NFok (F y)) (hf : NFok f) : ∀ y, NFok (setF F x f y) := fun y => by
  unfold setF; split
  · exact hf
  · exact h y

theorem nodeL_other (CN : Addr) (P : Params) (F : Addr → NF) (x : Addr) (f : NF) : ∀ l : List Rg, x ∉ regAddrs l → nodeL CN P (setF F x f) l = nodeL CN P F l
  | [], _ => rfl
  | r :: l, h => by
    simp only [regAddrs, List.mem_cons, not_or] at h
    have e : setF F x f r.x = F r.x := by unfold setF; rw [if_neg (fun e => h.1 e.symm)]
    simp only [nodeL, e, nodeL_other CN P F x f l h.2.2]

theorem mem_regAddrs {r : Rg} : ∀ {l : List Rg}, r ∈ l → r.x ∈ regAddrs l ∧ r.dx ∈ regAddrs l
  | q :: l, hm => by
    rcases List.mem_cons.mp hm with rfl | hm
    · simp [regAddrs]
    · have := mem_regAddrs hm; simp only [regAddrs, List.mem_cons, this, or_true, and_self]

theorem upd_node {CN : Addr} {P : Params} {F : Addr → NF} {f : NF} {r : Rg} : ∀ {l : List Rg}, r ∈ l → (regAddrs l).Nodup →
    Upd r.dx (dictOf (nodeEs P r.t (F r.x)) 6) (dictOf (nodeEs P r.t f) 6) (nodeL CN P F l) (nodeL CN P (setF F r.x f) l)
  | q :: l, hm, hn => by
    simp only [regAddrs, List.nodup_cons, List.mem_cons, not_or] at hn
    rcases List.mem_cons.mp hm with rfl | hm
    · have e : setF F r.x f r.x = f := by unfold setF; rw [if_pos rfl]
      simp only [nodeL, e, nodeL_other CN P F r.x f l hn.1.2]
      refine Upd.tail hn.1.1 (Upd.head ?_)
      intro p hp e
      exact hn.2.1 (by rw [← nodeL_addrs CN P F, ← e]; exact List.mem_map_of_mem hp)
    · have hx := mem_regAddrs hm
      have e : setF F r.x f q.x = F q.x := by unfold setF; rw [if_neg (fun e : q.x = r.x => hn.1.2 (e ▸ hx.1))]
      simp only [nodeL, e]
      exact Upd.tail (fun e : q.x = r.dx => hn.1.2 (e ▸ hx.2)) (Upd.tail (fun e : q.dx = r.dx => hn.2.1 (e ▸ hx.2)) (upd_node hm hn.2.2))

theorem upd_app {d : Addr} {o o' : Obj} {l l' : List (Addr × Obj)} (u : Upd d o o' l l') : ∀ {e : List (Addr × Obj)}, (∀ p ∈ e, p.1 ≠ d) → Upd d o o' (l ++ e) (l' ++ e) := by
  induction u with
  | head h => intro e he; exact Upd.head fun p hp => (List.mem_append.mp hp).elim (h p) (he p)
  | tail h _ ih => intro e he; exact Upd.tail h (ih he)

theorem mem_nodeL {CN : Addr} {P : Params} {F : Addr → NF} {r : Rg} : ∀ {l : List Rg}, r ∈ l → (r.x, instObj CN r.dx) ∈ nodeL CN P F l ∧ (r.dx, dictOf (nodeEs P r.t (F r.x)) 6) ∈ nodeL CN P F l
  | q :: l, hm => by
    rcases List.mem_cons.mp hm with rfl | hm
    · simp [nodeL]
    · have := mem_nodeL (CN := CN) (P := P) (F := F) hm
      simp only [nodeL, List.mem_cons, this, or_true, and_self]

/-- what a plain class of the text is -/
structure PlainCls (K : Frag) (C : Addr) : Prop where
  sa : findIn K (.ref C) "__setattr__" = some (some (.builtin "object.__setattr__"))
  po : plainOver K C = true
  hd : hasDictIn K C = true
  ga : findIn K (.ref C) "__getattribute__" = some (some (.builtin "object.__getattribute__"))
  gt : findIn K (.ref C) "__getattr__" = some none

structure Attr (K : Frag) (C : Addr) (name : Str) : Prop where
  no : findIn K (.ref C) name = some none
theorem Attr.taker {K : Frag} {C : Addr} {name : Str} (a : Attr K C name) : takerIn K C name = some none := by
  unfold takerIn; rw [a.no]; rfl

section
variable {K : Frag} {CN CL : Addr} {w : World} {g h : Heap} {L : Addr} {m : Str → Option Value} {st : LS}

structure St (CN CL : Addr) (w : World) (g : Heap) (L : Addr) (m : Str → Option Value) (st : LS) (h : Heap) : Prop where
  F : Fr g L h m
  N : News g L h (ledger CN CL w.params st)
  wf : (addrs st).Nodup
  ok : LSok st

theorem St.cinst (S : St CN CL w g L m st h) : W.InstAt h st.c (instObj CL st.dc) CL (some (dictOf (cacheEs w.params st.ct st.dd st.mru st.lru st.mx st.af) 5)) :=
  W.InstAt.of_news S.N (.head _) (.tail _ (.head _))
theorem St.ninst (S : St CN CL w g L m st h) {r : Rg} (hr : r ∈ st.reg) : W.InstAt h r.x (instObj CN r.dx) CN (some (dictOf (nodeEs w.params r.t (st.F r.x)) 6)) :=
  W.InstAt.of_news S.N (.tail _ (.tail _ (.tail _ (List.mem_append_left _ (mem_nodeL hr).1)))) (.tail _ (.tail _ (.tail _ (List.mem_append_left _ (mem_nodeL hr).2))))
end

section
variable {prog : Program} {K : Frag} {CN CL : Addr} {w : World} {g : Heap} {L : Addr} {m : Str → Option Value} {st : LS} {A : Around} {E : Value → Shared → Prop} {s : Shared} {r : Rg} {v : Value}

theorem get_node {expr : Bool} {name : Str} {Q : Value → Shared → Prop} (S : St CN CL w g L m st s.heap) (X : K.In g) (pc : PlainCls K CN) (at_ : Attr K CN name) (hr : r ∈ st.reg)
    (hl : getL name (nodeEs w.params r.t (st.F r.x)) = some (some v)) (hv : handedIn v = true) (h : Q v { s with toks := s.toks + 1 }) : wpAny (model prog w) A (getAttr (.ref r.x) name expr) Q E s :=
  get_value (X.keeps S.F.keep) (S.ninst hr) pc.ga (findObj_own pc.hd at_.no rfl hl) hv h
theorem get_cache {expr : Bool} {name : Str} {Q : Value → Shared → Prop} (S : St CN CL w g L m st s.heap) (X : K.In g) (pc : PlainCls K CL) (at_ : Attr K CL name)
    (hl : getL name (cacheEs w.params st.ct st.dd st.mru st.lru st.mx st.af) = some (some v)) (hv : handedIn v = true) (h : Q v { s with toks := s.toks + 1 }) : wpAny (model prog w) A (getAttr (.ref st.c) name expr) Q E s :=
  get_value (X.keeps S.F.keep) S.cinst pc.ga (findObj_own pc.hd at_.no rfl hl) hv h

theorem set_node {name : Str} {f : NF} {Q : Unit → Shared → Prop} (S : St CN CL w g L m st s.heap) (X : K.In g) (pc : PlainCls K CN) (at_ : Attr K CN name) (hr : r ∈ st.reg) (hok : NFok f)
    (hl : getL name (nodeEs w.params r.t (st.F r.x)) = some (some v))
    {v' : Value} (e : ∀ hsh key, (putL name hsh key v' (nodeEs w.params r.t (st.F r.x)), putN name (nodeEs w.params r.t (st.F r.x)) 6) = (nodeEs w.params r.t f, 6))
    (h : ∀ h' tk, St CN CL w g L m { st with F := setF st.F r.x f } h' → Q () { s with heap := h', toks := tk }) : wpAny (model prog w) A (setAttr (.ref r.x) name v') Q E s := by
  have wf := S.wf
  simp only [addrs, List.nodup_cons, List.mem_cons, not_or, List.mem_append, List.nodup_append] at wf
  have hd := (mem_regAddrs hr).2
  have U : Upd r.dx (dictOf (nodeEs w.params r.t (st.F r.x)) 6) (dictOf (nodeEs w.params r.t f) 6) (ledger CN CL w.params st) (ledger CN CL w.params { st with F := setF st.F r.x f }) := by
    refine Upd.tail ?_ (Upd.tail ?_ (Upd.tail ?_ (upd_app (upd_node hr wf.2.2.2.1) fun q hq e => wf.2.2.2.2.2 r.dx hd q.1 (List.mem_map_of_mem hq) e.symm)))
    · exact fun e : st.c = r.dx => wf.1.2.2.1 (e ▸ hd)
    · exact fun e : st.dc = r.dx => wf.2.1.2.1 (e ▸ hd)
    · exact fun e : st.dd = r.dx => wf.2.2.1.1 (e ▸ hd)
  exact set_dict S.F X S.N (S.ninst hr) rfl pc.sa pc.po at_.taker pc.hd (by rw [hl]; rfl) (e _ _) U (by show 6 ≤ 1000; decide) fun h' F' N' => h h' _ ⟨F', N', S.wf, ⟨setF_ok S.ok.F hok, S.ok.mru, S.ok.lru, S.ok.mx, S.ok.af⟩⟩

theorem set_cache {name : Str} {st' : LS} {Q : Unit → Shared → Prop} (S : St CN CL w g L m st s.heap) (X : K.In g) (pc : PlainCls K CL) (at_ : Attr K CL name)
    (hl : getL name (cacheEs w.params st.ct st.dd st.mru st.lru st.mx st.af) = some (some v))
    {v' : Value} (e : ∀ hsh key, (putL name hsh key v' (cacheEs w.params st.ct st.dd st.mru st.lru st.mx st.af), putN name (cacheEs w.params st.ct st.dd st.mru st.lru st.mx st.af) 5) = (cacheEs w.params st.ct st'.dd st'.mru st'.lru st'.mx st'.af, 5))
    (es : st' = { st with mru := st'.mru, lru := st'.lru, mx := st'.mx, af := st'.af }) (hok : LSok st')
    (h : ∀ h' tk, St CN CL w g L m st' h' → Q () { s with heap := h', toks := tk }) : wpAny (model prog w) A (setAttr (.ref st.c) name v') Q E s := by
  have wf := S.wf
  simp only [addrs, List.nodup_cons, List.mem_cons, not_or] at wf
  obtain ⟨c, dc, dd, ct, mru, lru, mx, af, od, reg, F, ex⟩ := st'
  simp only [LS.mk.injEq] at es
  obtain ⟨rfl, rfl, rfl, rfl, -, -, -, -, rfl, rfl, rfl, rfl⟩ := es
  have U : Upd st.dc (dictOf (cacheEs w.params st.ct st.dd st.mru st.lru st.mx st.af) 5) (dictOf (cacheEs w.params st.ct st.dd mru lru mx af) 5) (ledger CN CL w.params st)
      (ledger CN CL w.params ⟨st.c, st.dc, st.dd, st.ct, mru, lru, mx, af, st.od, st.reg, st.F, st.ex⟩) := by
    refine Upd.tail (fun e => wf.1.1 e) (Upd.head ?_)
    intro p hp e
    have : p.1 ∈ st.dd :: (regAddrs st.reg ++ st.ex.map (·.1)) := by
      rcases List.mem_cons.mp hp with rfl | hp
      · exact .head _
      · refine .tail _ (List.mem_append.mpr ((List.mem_append.mp hp).imp (fun hp => ?_) fun hp => List.mem_map_of_mem hp))
        rw [← nodeL_addrs CN w.params st.F]; exact List.mem_map_of_mem hp
    rcases List.mem_cons.mp this with q | q
    · exact wf.2.1.1 (e ▸ q)
    · exact wf.2.1.2 (e ▸ q)
  exact set_dict S.F X S.N S.cinst rfl pc.sa pc.po at_.taker pc.hd (by rw [hl]; rfl) (e _ _) U (by show 5 ≤ 1000; decide) fun h' F' N' => h h' _ ⟨F', N', S.wf, hok⟩

theorem store_ {name : Str} {scope : Scope} {a : Addr} {cd : Value} {x : Str} {Q : Unit → Shared → Prop} (S : St CN CL w g L m st s.heap)
    (h : ∀ h' tk, St CN CL w g L (fun y => if y = x then some v else m y) st h' → Q () { s with heap := h', toks := tk })
    (hk : scope.kind = .function := by rfl) (hl : (envOf name scope L a cd).kindOf x = some .local := by rfl) :
    wpAny (model prog w) A (storeName (envOf name scope L a cd) x v) Q E s :=
  wpAny_storeName_local hl S.F.ns (fun h' hn hs => h h' _ ⟨S.F.set hn hs, S.N.set hs, S.wf, S.ok⟩) (by show (scope.kind == .class || (scope.kind == .module && L != mainGlobals)) = false; rw [hk]; rfl)
end

section
variable {prog : Program} {K : Frag} {CN CL : Addr} {w : World} {h₀ g h h' : Heap} {L : Addr} {m : Str → Option Value} {st st' : LS} {A : Around} {E : Value → Shared → Prop} {s : Shared} {tk₀ : Nat} {r : Rg} {v : Value}
  {p : Program} {loose : List Str} {mg mb : Str → Option Value}

structure Rep (CN CL : Addr) (w : World) (st : LS) (h : Heap) : Prop where
  at_ : ∀ p ∈ ledger CN CL w.params st, h.get? p.1 = some p.2
  wf : (addrs st).Nodup
  ok : LSok st

/-- the text's part, apart from the ledger, in a heap -/
structure Base (K : Frag) (p : Program) (loose : List Str) (mg mb : Str → Option Value) (h₀ : Heap) (st : LS) (h : Heap) : Prop where
  X : K.In h₀
  T : TopRead p loose mg mb h₀
  stays : ∀ b o, h₀.get? b = some o → h.get? b = some o
  off : ∀ a ∈ addrs st, h₀.get? a = none

/-- what a call of a method leaves -/
structure Ctr (CN CL : Addr) (w : World) (st st' : LS) (h h' : Heap) : Prop where
  rep : Rep CN CL w st' h'
  keeps : ∀ b o, b ∉ addrs st → h.get? b = some o → h'.get? b = some o
  fresh : ∀ a ∈ addrs st', a ∈ addrs st ∨ h.get? a = none

theorem St.rep (S : St CN CL w g L m st h) : Rep CN CL w st h := ⟨fun p hp => (S.N p hp).1, S.wf, S.ok⟩
theorem St.off (S : St CN CL w g L m st h) : ∀ a ∈ addrs st, a ≠ L ∧ g.get? a = none := fun a ha => by
  rw [← ledger_addrs CN CL w.params] at ha
  obtain ⟨p, hp, rfl⟩ := List.mem_map.mp ha
  exact (S.N p hp).2
theorem St.base (S : St CN CL w g L m st h) (X : K.In g) (T : TopRead p loose mg mb g) : Base K p loose mg mb g st h :=
  ⟨X, T, S.F.keep, fun a ha => (S.off a ha).2⟩
theorem St.after (S : St CN CL w g L m st h) (C : Ctr CN CL w st st' h h') : St CN CL w g L m st' h' := by
  have fr : ∀ a ∈ addrs st', a ≠ L ∧ g.get? a = none := fun a ha => by
    rcases C.fresh a ha with q | q
    · exact S.off a q
    · obtain ⟨o, es, ep, ho, r⟩ := S.F.ns
      refine ⟨fun e => (by rw [e, ho] at q; cases q), ?_⟩
      cases z : g.get? a with
      | none => rfl
      | some o => rw [S.F.keep a o z] at q; cases q
  refine ⟨⟨?_, fun b o e => C.keeps b o (fun q => (by rw [(S.off b q).2] at e; cases e)) (S.F.keep b o e), S.F.above⟩, fun p hp => ⟨C.rep.at_ p hp, fr p.1 ?_⟩, C.rep.wf, C.rep.ok⟩
  · obtain ⟨o, es, ep, ho, r⟩ := S.F.ns
    exact ⟨o, es, ep, C.keeps L o (fun q => (S.off L q).1 rfl) ho, r⟩
  · rw [← ledger_addrs CN CL w.params]; exact List.mem_map_of_mem hp
theorem St.back (S : St CN CL w g L m st' h') (k : ∀ b o, b ∉ addrs st → h.get? b = some o → g.get? b = some o) (fr : ∀ a ∈ addrs st', a ∈ addrs st ∨ h.get? a = none) : Ctr CN CL w st st' h h' :=
  ⟨S.rep, fun b o n e => S.F.keep b o (k b o n e), fr⟩
theorem Ctr.refl (R : Rep CN CL w st h) : Ctr CN CL w st st h h := ⟨R, fun _ _ _ e => e, fun _ ha => .inl ha⟩

theorem enterE {name qual : Str} {params : Arguments} {body : List Stmt} {scope : Scope} {dV kV doc pm cdv ct oc : Value} {an od : Option Addr} {osl : Array (Option Value)} {f : Addr} {pos : List Value} {kw : List (Str × Value)} {binds : List (Str × Value)} {Q : Value → Shared → Prop}
    (B : Base K p loose mg mb h₀ st h) (R : Rep CN CL w st h)
    (ho : K.lookup f = some ⟨oc, od, .func (fnOf name qual params body scope dV kV doc pm an cdv ct), osl⟩) (hcd : codeIn K cdv qual = true) (hroom : A.depth < recursionLimit)
    (hbind : BindsTo (up s h tk₀) (fnOf name qual params body scope dV kV doc pm an cdv ct) ⟨pos, kw⟩ binds) (hloc : ∀ y ∈ binds, scope.names.lookup y.1 = some .local)
    (hco : scope.isCoroutine = false) (hgen : scope.isGenerator = false) (hk : scope.kind = .function) (hcell : ∀ x ∈ scope.names, x.2 ≠ .cell)
    (q : ∀ g L' h₁ tk, (∀ b o, b ∉ addrs st → h.get? b = some o → g.get? b = some o) → (∀ b o, g.get? b = some o → h.get? b = some o) → K.In g → TopRead p loose mg mb g → St CN CL w g L' (fun y => binds.reverse.lookup y) st h₁ →
      wpAny (model prog w) (A.deeper (envOf qual scope L' f cdv)) (execs body (envOf qual scope L' f cdv))
        (fun fl s' => Q (match fl with | .ret v => v | _ => .none) s')
        (fun e s' => wpAny (model prog w) (A.deeper (envOf qual scope L' f cdv)) (leaving (envOf qual scope L' f cdv) e) (fun _ s'' => E e s'') (fun e' s'' => E e' s'') s')
        (up s h₁ tk))
 : wpAny (model prog w) A (call (.ref f) pos kw) Q E (up s h tk₀) := by
  have k0 : ∀ b o, b ∉ addrs st → h.get? b = some o → (hideAll h (addrs st)).get? b = some o := fun b o n e => hideAll_get _ e n
  have st0 : ∀ b o, h₀.get? b = some o → (hideAll h (addrs st)).get? b = some o := fun b o e => k0 b o (fun q => (by rw [B.off b q] at e; cases e)) (B.stays b o e)
  refine wpAny_call ?_
  refine codeAny_call_def (fd := fnOf name qual params body scope dV kV doc pm an cdv ct) (body := body) (binds := binds) hroom (B.stays _ _ (B.X _ _ ho)) rfl (B.T.nolimit.keeps B.stays) (codeRec_of (B.X.keeps B.stays) hcd) rfl hbind hcell hloc (fun h₁ hns hk₁ => ?_) hco hgen hk
  refine q (hideAll h (addrs st)) h.objs.size h₁ _ k0 (fun b o e => of_hideAll _ e) (B.X.keeps st0) (B.T.keeps st0) ⟨⟨hns, fun b o e => hk₁ b o (of_hideAll _ e), Nat.le_of_eq (hideAll_size _ _)⟩, fun p hp => ?_, R.wf, R.ok⟩
  exact ⟨hk₁ _ _ (R.at_ p hp), Nat.ne_of_lt (Heap.lt_size (R.at_ p hp)), hideAll_none _ (by rw [← ledger_addrs CN CL w.params]; exact List.mem_map_of_mem hp)⟩

theorem enter {name qual : Str} {params : Arguments} {body : List Stmt} {scope : Scope} {dV kV doc pm cdv ct oc : Value} {an od : Option Addr} {osl : Array (Option Value)} {f : Addr} {pos : List Value} {kw : List (Str × Value)} {binds : List (Str × Value)} {Q : Value → Shared → Prop}
    (B : Base K p loose mg mb h₀ st h) (R : Rep CN CL w st h)
    (ho : K.lookup f = some ⟨oc, od, .func (fnOf name qual params body scope dV kV doc pm an cdv ct), osl⟩) (hcd : codeIn K cdv qual = true) (hroom : A.depth < recursionLimit)
    (hbind : BindsTo (up s h tk₀) (fnOf name qual params body scope dV kV doc pm an cdv ct) ⟨pos, kw⟩ binds) (hloc : ∀ y ∈ binds, scope.names.lookup y.1 = some .local)
    (hco : scope.isCoroutine = false) (hgen : scope.isGenerator = false) (hk : scope.kind = .function) (hcell : ∀ x ∈ scope.names, x.2 ≠ .cell)
    (q : ∀ g L' h₁ tk, (∀ b o, b ∉ addrs st → h.get? b = some o → g.get? b = some o) → (∀ b o, g.get? b = some o → h.get? b = some o) → K.In g → TopRead p loose mg mb g → St CN CL w g L' (fun y => binds.reverse.lookup y) st h₁ →
      wpAny (model prog w) (A.deeper (envOf qual scope L' f cdv)) (execs body (envOf qual scope L' f cdv))
        (fun fl s' => Q (match fl with | .ret v => v | _ => .none) s') (fun _ _ => False) (up s h₁ tk))
 : wpAny (model prog w) A (call (.ref f) pos kw) Q E (up s h tk₀) :=
  enterE B R ho hcd hroom hbind hloc hco hgen hk hcell (fun g L' h₁ tk k k' X T S => wpAny_mono (q g L' h₁ tk k k' X T S) (fun _ _ x => x) fun _ _ x => x.elim)
end

section
variable {prog : Program} {K : Frag} {CN CL C : Addr} {w : World} {g : Heap} {L : Addr} {m : Str → Option Value} {st : LS} {A : Around} {E : Value → Shared → Prop} {s : Shared} {r : Rg} {v : Value} {env : Env}

/-- a call of a method on an object held under a name or got by an expression -/
theorem meth {o : Expr} {name : Str} {apos pos : Pos} {e : Expr} {rest : List Expr} {f x : Addr} {es : List DictEntry} {n : Nat} {ox : Obj} {Q : Value → Shared → Prop} {pl : Sem Bool}
    (h : wpAny (model prog w) A (eval o env) (fun ov s₁ => ov = .ref x ∧ K.In s₁.heap ∧ W.InstAt s₁.heap x ox C (some (dictOf es n)) ∧
      wpAny (model prog w) A (spliced (backTo pos (starEach (e :: rest) env))) (fun vs s₂ => K.In s₂.heap ∧ wpAny (model prog w) A (call (.ref f) (.ref x :: vs)) Q E s₂) E s₁) E s)
    (pc : PlainCls K C) (hf : findIn K (.ref C) name = some (some (.ref f))) (ht : typeIn K (.ref f) = some (.type "function")) (hkeep : keepIn K (.ref f) = true) (hl : getL name es = some none)
    (he : starEach (e :: rest) env = (false, eval e env) :: starEach rest env := by rfl) (hplain : (backTo pos (starEach rest env)).any (·.1) = false := by rfl)
    (hsh : (eval ((o.Attribute name apos).Call (e :: rest) [] pos) env = do
          let ov ← eval o env
          standAt apos.atName
          let __x ← holding [ov] (getMethod ov name pl)
          match __x with
            | (f, first) => callWith pos f first (backTo pos (starEach (e :: rest) env)) []) := by rfl) :
    wpAny (model prog w) A (eval ((o.Attribute name apos).Call (e :: rest) [] pos) env) Q E s :=
  MethodCall_ (wpAny_mono h (fun ov s₁ ⟨e1, X, I, h₁⟩ => by
    subst e1
    exact method_fn X I pc.ga pc.gt hf ht (by show (lookIn name (dictOf es n)).map _ = _; rw [lookIn_dict, hl]; rfl) (callWith_K X hkeep h₁ he hplain)) fun _ _ z => z) hsh
theorem meth0 {o : Expr} {name : Str} {apos pos : Pos} {f x : Addr} {es : List DictEntry} {n : Nat} {ox : Obj} {Q : Value → Shared → Prop} {pl : Sem Bool}
    (h : wpAny (model prog w) A (eval o env) (fun ov s₁ => ov = .ref x ∧ K.In s₁.heap ∧ W.InstAt s₁.heap x ox C (some (dictOf es n)) ∧ wpAny (model prog w) A (call (.ref f) [.ref x]) Q E s₁) E s)
    (pc : PlainCls K C) (hf : findIn K (.ref C) name = some (some (.ref f))) (ht : typeIn K (.ref f) = some (.type "function")) (hkeep : keepIn K (.ref f) = true) (hl : getL name es = some none)
    (hsh : (eval ((o.Attribute name apos).Call [] [] pos) env = do
          let ov ← eval o env
          standAt apos.atName
          let __x ← holding [ov] (getMethod ov name pl)
          match __x with
            | (f, first) => callWith pos f first (backTo pos (starEach [] env)) []) := by rfl) :
    wpAny (model prog w) A (eval ((o.Attribute name apos).Call [] [] pos) env) Q E s :=
  MethodCall_ (wpAny_mono h (fun ov s₁ ⟨e1, X, I, h₁⟩ => by
    subst e1
    exact method_fn X I pc.ga pc.gt hf ht (by show (lookIn name (dictOf es n)).map _ = _; rw [lookIn_dict, hl]; rfl) (callWith_K0 X hkeep h₁)) fun _ _ z => z) hsh
end
section
variable {Ky : Type} [DecidableEq Ky]

inductive EOk (isK : Ky → Value → Prop) (hash : Ky → Int) : List DictEntry → List (Ky × Value) → Prop
  | nil : EOk isK hash [] []
  | cons {e kv es kvs} : isK kv.1 e.key → e.hash = hash kv.1 → e.val = kv.2 → EOk isK hash es kvs → EOk isK hash (e :: es) (kv :: kvs)

theorem EOk.length {isK : Ky → Value → Prop} {hash : Ky → Int} {es : List DictEntry} {kvs : List (Ky × Value)} (h : EOk isK hash es kvs) : es.length = kvs.length := by
  induction h with
  | nil => rfl
  | cons _ _ _ _ ih => simp [ih]

theorem EOk.get {isK : Ky → Value → Prop} {hash : Ky → Int} {es : List DictEntry} {kvs : List (Ky × Value)} (h : EOk isK hash es kvs) :
    ∀ {i : Nat} {kv : Ky × Value}, kvs[i]? = some kv → ∃ e, es[i]? = some e ∧ isK kv.1 e.key ∧ e.hash = hash kv.1 ∧ e.val = kv.2 := by
  induction h with
  | nil => intro i kv h; simp at h
  | cons h1 h2 h3 _ ih =>
    intro i kv h
    cases i with
    | zero => simp only [List.getElem?_cons_zero, Option.some.injEq] at h ⊢; subst h; exact ⟨_, rfl, h1, h2, h3⟩
    | succ j => simp only [List.getElem?_cons_succ] at h ⊢; exact ih h

theorem EOk.append {isK : Ky → Value → Prop} {hash : Ky → Int} {es : List DictEntry} {kvs : List (Ky × Value)} (h : EOk isK hash es kvs) {k : Ky} {key v : Value} (hk : isK k key) :
    EOk isK hash (es ++ [⟨hash k, key, v⟩]) (kvs ++ [(k, v)]) := by
  induction h with
  | nil => exact .cons hk rfl rfl .nil
  | cons h1 h2 h3 _ ih => exact .cons h1 h2 h3 ih

theorem findIdx_none {kvs : List (Ky × Value)} {k : Ky} (h : (kvs.findIdx? fun kv => decide (kv.1 = k)) = none) : k ∉ kvs.map (·.1) := by
  intro hm
  obtain ⟨kv, hkv, rfl⟩ := List.mem_map.mp hm
  have := List.findIdx?_eq_none_iff.mp h kv hkv
  simp at this
theorem valueAt_cons (kv : Ky × Value) (kvs : List (Ky × Value)) (k : Ky) : valueAt (kv :: kvs) k = if kv.1 = k then some kv.2 else valueAt kvs k := by
  unfold valueAt
  rw [List.find?_cons]
  by_cases h : kv.1 = k <;> simp [h]
theorem valueAt_none {kvs : List (Ky × Value)} {k : Ky} (h : k ∉ kvs.map (·.1)) : valueAt kvs k = none := by
  induction kvs with
  | nil => rfl
  | cons kv kvs ih =>
    simp only [List.map_cons, List.mem_cons, not_or] at h
    rw [valueAt_cons, if_neg (fun e => h.1 e.symm), ih h.2]
theorem findIdx_some {kvs : List (Ky × Value)} {k : Ky} : ∀ {i : Nat}, (kvs.findIdx? fun kv => decide (kv.1 = k)) = some i → ∃ v, kvs[i]? = some (k, v) ∧ valueAt kvs k = some v := by
  induction kvs with
  | nil => intro i h; simp at h
  | cons kv kvs ih =>
    intro i h
    rw [List.findIdx?_cons] at h
    by_cases hk : kv.1 = k
    · simp only [hk, decide_true, if_true, Option.some.injEq] at h
      subst h; subst hk
      exact ⟨kv.2, rfl, by rw [valueAt_cons, if_pos rfl]⟩
    · simp only [hk, decide_false, Bool.false_eq_true, if_false, Option.map_eq_some_iff] at h
      obtain ⟨j, hj, rfl⟩ := h
      obtain ⟨v, h1, h2⟩ := ih hj
      exact ⟨v, h1, by rw [valueAt_cons, if_neg hk, h2]⟩

theorem EOk.modify {isK : Ky → Value → Prop} {hash : Ky → Int} {es : List DictEntry} {kvs : List (Ky × Value)} (h : EOk isK hash es kvs) (hn : (kvs.map (·.1)).Nodup) {k : Ky} (v : Value) :
    ∀ {i : Nat}, (kvs.findIdx? fun kv => decide (kv.1 = k)) = some i → EOk isK hash (es.modify i fun e => { e with val := v }) (stored kvs k v) := by
  intro i hi
  have key : ∀ {es : List DictEntry} {kvs : List (Ky × Value)}, EOk isK hash es kvs → (kvs.map (·.1)).Nodup → ∀ {i : Nat}, (kvs.findIdx? fun kv => decide (kv.1 = k)) = some i →
      EOk isK hash (es.modify i fun e => { e with val := v }) (kvs.map fun kv => if kv.1 = k then (kv.1, v) else kv) := by
    intro es kvs h hn
    induction h with
    | nil => intro i hi; simp at hi
    | @cons e kv es kvs h1 h2 h3 h4 ih =>
      intro i hi
      rw [List.map_cons, List.nodup_cons] at hn
      rw [List.findIdx?_cons] at hi
      by_cases hk : kv.1 = k
      · simp only [hk, decide_true, if_true, Option.some.injEq] at hi
        subst hi
        rw [List.map_cons, if_pos hk, map_store_of_not_mem kvs _ v (hk ▸ hn.1)]
        exact .cons h1 h2 rfl h4
      · simp only [hk, decide_false, Bool.false_eq_true, if_false, Option.map_eq_some_iff] at hi
        obtain ⟨j, hj, rfl⟩ := hi
        rw [List.map_cons, if_neg hk]
        exact .cons h1 h2 h3 (ih hn.2 hj)
  have : kvs.any (fun kv => decide (kv.1 = k)) = true := by
    obtain ⟨w, h1, -⟩ := findIdx_some hi
    exact List.any_eq_true.mpr ⟨_, List.mem_of_getElem? h1, by simp⟩
  rw [stored, if_pos this]
  exact key h hn hi

theorem EOk.erase {isK : Ky → Value → Prop} {hash : Ky → Int} {es : List DictEntry} {kvs : List (Ky × Value)} (h : EOk isK hash es kvs) (hn : (kvs.map (·.1)).Nodup) {k : Ky} :
    ∀ {i : Nat}, (kvs.findIdx? fun kv => decide (kv.1 = k)) = some i → EOk isK hash (es.eraseIdx i) (without kvs k) := by
  induction h with
  | nil => intro i hi; simp at hi
  | @cons e kv es kvs h1 h2 h3 h4 ih =>
    intro i hi
    rw [List.map_cons, List.nodup_cons] at hn
    rw [List.findIdx?_cons] at hi
    by_cases hk : kv.1 = k
    · simp only [hk, decide_true, if_true, Option.some.injEq] at hi
      subst hi
      have : without (kv :: kvs) k = kvs := by
        unfold without; rw [List.filter_cons]
        simp only [hk, ne_eq, not_true_eq_false, decide_false, Bool.false_eq_true, if_false]
        exact without_of_not_mem kvs _ (hk ▸ hn.1)
      rw [this]; exact h4
    · simp only [hk, decide_false, Bool.false_eq_true, if_false, Option.map_eq_some_iff] at hi
      obtain ⟨j, hj, rfl⟩ := hi
      have : without (kv :: kvs) k = kv :: without kvs k := by
        unfold without; rw [List.filter_cons]; simp [hk]
      rw [this]
      exact .cons h1 h2 h3 (ih hn.2 hj)

/-- what is known of keys: their values, hashes, and that a look-up finds them -/
structure DT (prog : Program) (w : World) (K : Frag) (Ky : Type) [DecidableEq Ky] where
  isK : Ky → Value → Prop
  hash : Ky → Int
  nb : ∀ {k v}, isK k v → Nb v
  notNone : ∀ {k v}, isK k v → v ≠ .none
  pyHash : ∀ {A : Around} {E : Value → Shared → Prop} {s : Shared} {k : Ky} {v : Value} {Q : Int → Shared → Prop}, K.In s.heap → A.units + 4 < cLine → isK k v → (∀ tk, Q (hash k) { s with toks := tk }) →
    wpAny (model prog w) A (PySem.pyHash v) Q E s
  find : ∀ {A : Around} {E : Value → Shared → Prop} {s : Shared} {d : Addr} {o : Obj} {es : Array DictEntry} {ep : Nat} {kvs : List (Ky × Value)} {k : Ky} {key : Value} {Q : Option Nat → Shared → Prop},
    K.In s.heap → A.units + 4 < cLine → isK k key → s.heap.get? d = some o → o.data = .dict es ep → EOk isK hash es.toList kvs → (kvs.map (·.1)).Nodup →
    Q (kvs.findIdx? fun kv => decide (kv.1 = k)) s → wpAny (model prog w) A (dictFind d key (hash k)) Q E s

noncomputable def OD {prog : Program} {w : World} {K : Frag} (T : DT prog w K Ky) (o : Obj) (kvs : List (Ky × Value)) : Prop :=
  o.ExactDict ∧ ∃ es ep, o.data = .dict es ep ∧ EOk T.isK T.hash es.toList kvs ∧ (kvs.map (·.1)).Nodup

section
variable {prog : Program} {w : World} {K : Frag} {T : DT prog w K Ky} {A : Around} {E : Value → Shared → Prop} {s : Shared} {d : Addr} {o : Obj} {kvs : List (Ky × Value)} {k : Ky} {key v : Value}

theorem OD.typeIs (hd : OD T o kvs) (ho : s.heap.get? d = some o) : s.TypeIs (.ref d) "dict" := ⟨o, ho, hd.1.1⟩
theorem OD.nodup (hd : OD T o kvs) : (kvs.map (·.1)).Nodup := let ⟨_, _, _, _, _, n⟩ := hd; n
theorem OD.new : OD T (dictOf [] 0) [] := ⟨⟨rfl, rfl, rfl⟩, #[], 0, rfl, .nil, List.nodup_nil⟩

theorem OD.get {Q : Option Value → Shared → Prop} (X : K.In s.heap) (hu : A.units + 4 < cLine) (hk : T.isK k key) (ho : s.heap.get? d = some o) (hd : OD T o kvs)
    (h : ∀ tk, Q (valueAt kvs k) { s with toks := tk }) : wpAny (model prog w) A (dictGet d key) Q E s := by
  obtain ⟨_, es, ep, hdat, he, hn⟩ := hd
  unfold dictGet
  refine wpAny_holding (wpAny_bind (T.pyHash X hu hk fun tk => wpAny_bind (T.find (s := { s with toks := tk }) X hu hk ho hdat he hn ?_)))
  cases hi : kvs.findIdx? fun kv => decide (kv.1 = k) with
  | none => exact wpAny_pure (by rw [← valueAt_none (findIdx_none hi)]; exact h tk)
  | some i =>
    obtain ⟨v, h1, h2⟩ := findIdx_some hi
    obtain ⟨e, h3, -, -, h4⟩ := he.get h1
    refine wpAny_bind (wpAny_dictEntries (s := { s with toks := tk }) ho hdat (wpAny_pure ?_))
    rw [← Array.getElem?_toList, h3]
    show Q (some e.val) _
    rw [h4, ← h2]; exact h tk

theorem OD.set {Q : Unit → Shared → Prop} (X : K.In s.heap) (hu : A.units + 4 < cLine) (hk : T.isK k key) (ho : s.heap.get? d = some o) (hd : OD T o kvs) (hz : kvs.length ≤ 100000)
    (h : ∀ h' o' tk, Heap.SameBut d s.heap h' → h'.get? d = some o' → OD T o' (stored kvs k v) → Q () { s with heap := h', toks := tk }) : wpAny (model prog w) A (dictSet d key v) Q E s := by
  obtain ⟨hx, es, ep, hdat, he, hn⟩ := hd
  have hsz : es.size ≤ sizeLine := by rw [← Array.length_toList, he.length, sizeLine_eq]; omega
  unfold dictSet
  refine wpAny_holding (wpAny_bind (T.pyHash X hu hk fun tk => ?_))
  unfold dictSetHashed
  refine wpAny_holding (wpAny_bind (T.find (s := { s with toks := tk }) X hu hk ho hdat he hn ?_))
  cases hi : kvs.findIdx? fun kv => decide (kv.1 = k) with
  | some i =>
    refine wpAny_bind (wpAny_rule (wpAny_bind (wpAny_updateDict (s := { s with toks := tk }) ho hdat (wpAny_point ?_))))
    refine h _ _ tk (Heap.SameBut.update ..) (Heap.get?_update_self _ ho (Obj.isFreed_of_dict (Obj.data_mapDict hdat _))) ⟨hx.mapDict _, _, ep, Obj.data_mapDict hdat _, ?_, ?_⟩
    · have := he.modify hn v hi
      obtain ⟨l⟩ := es
      simpa using this
    · have : kvs.any (fun kv => decide (kv.1 = k)) = true := by
        obtain ⟨w, h1, -⟩ := findIdx_some hi
        exact List.any_eq_true.mpr ⟨_, List.mem_of_getElem? h1, by simp⟩
      rw [stored, if_pos this, keys_map_store]; exact hn
  | none =>
    have hnot := findIdx_none hi
    have hany : ¬ (kvs.any fun kv => decide (kv.1 = k)) = true := by
      rw [List.any_eq_true]; rintro ⟨kv, hkv, he⟩
      exact hnot (List.mem_map.mpr ⟨kv, hkv, of_decide_eq_true he⟩)
    refine wpAny_bind (wpAny_rule (wpAny_updateDictKeys (hz := hsz) (s := { s with toks := tk }) ho hdat ?_))
    refine h _ _ tk (Heap.SameBut.update ..) (Heap.get?_update_self _ ho (Obj.isFreed_of_dict (Obj.data_mapDictKeys hdat _))) ⟨hx.mapDictKeys _, _, ep + 1, Obj.data_mapDictKeys hdat _, ?_, ?_⟩
    · rw [stored, if_neg hany]
      have := he.append hk (v := v)
      obtain ⟨l⟩ := es
      simpa using this
    · rw [stored, if_neg hany, List.map_append, List.nodup_append]
      refine ⟨hn, by simp, ?_⟩
      intro a ha b hb
      simp only [List.map_cons, List.map_nil, List.mem_singleton] at hb
      subst hb
      exact fun e => hnot (e ▸ ha)

theorem OD.take {v : Value} {Q : Option DictEntry → Shared → Prop} (X : K.In s.heap) (hu : A.units + 4 < cLine) (hk : T.isK k key) (ho : s.heap.get? d = some o) (hd : OD T o kvs) (hz : kvs.length ≤ 100000) (hv : valueAt kvs k = some v)
    (h : ∀ h' o' tk e, e.val = v → Heap.SameBut d s.heap h' → h'.get? d = some o' → OD T o' (without kvs k) → Q (some e) { s with heap := h', toks := tk }) : wpAny (model prog w) A (Builtin.Dict.takeOut d key) Q E s := by
  obtain ⟨hx, es, ep, hdat, he, hn⟩ := hd
  have hsz : es.size ≤ sizeLine := by rw [← Array.length_toList, he.length, sizeLine_eq]; omega
  unfold Builtin.Dict.takeOut
  refine wpAny_holding (wpAny_bind (T.pyHash X hu hk fun tk => wpAny_bind (T.find (s := { s with toks := tk }) X hu hk ho hdat he hn ?_)))
  cases hi : kvs.findIdx? fun kv => decide (kv.1 = k) with
  | none => rw [valueAt_none (findIdx_none hi)] at hv; cases hv
  | some i =>
    obtain ⟨v', h1, h2⟩ := findIdx_some hi
    obtain ⟨e, h3, -, -, h4⟩ := he.get h1
    refine wpAny_bind (wpAny_dictEntries (s := { s with toks := tk }) ho hdat ?_)
    rw [← Array.getElem?_toList, h3]
    refine wpAny_bind (wpAny_updateDictKeys (hz := hsz) (s := { s with toks := tk }) ho hdat (wpAny_pure ?_))
    refine h _ _ tk e (by rw [h4]; exact Option.some.inj (h2.symm.trans hv)) (Heap.SameBut.update ..) (Heap.get?_update_self _ ho (Obj.isFreed_of_dict (Obj.data_mapDictKeys hdat _))) ⟨hx.mapDictKeys _, _, ep + 1, Obj.data_mapDictKeys hdat _, ?_, nodup_without hn k⟩
    have := he.erase hn hi
    obtain ⟨l⟩ := es
    simpa using this

theorem OD.getItem {v : Value} {Q : Value → Shared → Prop} (X : K.In s.heap) (hu : A.units + 8 < cLine) (hk : T.isK k key) (ho : s.heap.get? d = some o) (hd : OD T o kvs) (hv : valueAt kvs k = some v)
    (h : ∀ tk, Q v { s with toks := tk }) : wpAny (model prog w) A (getItem (.ref d) key) Q E s := by
  have ht := hd.typeIs ho
  unfold PySem.getItem
  refine wpAny_holding (wpAny_bind (wpAny_sequenceKey ht (by decide) ?_))
  refine wpAny_bind (wpAny_callSpecial?_slot (name := Str.ofString "__getitem__") ht slot_dict_getitem (wpAny_call_entry slot_dict_getitem ht entry_dict_getitem ?_ (args_dict_getitem _ _)))
  show wpAny _ _ (dictGet d key >>= _) _ _ s
  refine wpAny_bind (hd.get X (by simp only [Around.in1_units]; omega) hk ho fun tk => ?_)
  rw [hv]
  exact wpAny_pure ⟨v, rfl, wpAny_pure (h tk)⟩

theorem OD.isIn {Q : Value → Shared → Prop} (X : K.In s.heap) (hu : A.units + 8 < cLine) (hk : T.isK k key) (ho : s.heap.get? d = some o) (hd : OD T o kvs) (hs : (d == sysModules) = false)
    (h : ∀ tk, Q (.bool (valueAt kvs k).isSome) { s with toks := tk }) : wpAny (model prog w) A (compareOp .In key (.ref d)) Q E s := by
  have ht := hd.typeIs ho
  show wpAny _ _ (do return .bool (← contains (.ref d) key)) Q E s
  refine wpAny_bind ?_
  unfold contains
  refine wpAny_holding (wpAny_bind (wpAny_specialOf ht slot_dict_contains.lookup ?_))
  show wpAny _ _ (if (some (Value.builtin "dict.__contains__") == some Value.none) = true then _ else _) _ E s
  rw [if_neg (by rw [beq_builtin_none]; exact Bool.false_ne_true)]
  refine wpAny_bind (wpAny_callSpecialUnlessNone?_slot (name := Str.ofString "__contains__") ht slot_dict_contains (wpAny_call_entry slot_dict_contains ht entry_dict_contains ?_ (args_dict_contains _ _)))
  show wpAny _ _ (dictGet d key >>= _) _ _ s
  refine wpAny_bind (hd.get X (by simp only [Around.in1_units]; omega) hk ho fun tk => ?_)
  cases hf : valueAt kvs k with
  | some v =>
    show wpAny _ _ (ret (.bool true)) _ _ _
    exact wpAny_pure ⟨_, rfl, wpAny_truthy_bool (wpAny_pure (by have := h tk; rw [hf] at this; exact this))⟩
  | none =>
    show wpAny _ _ (Builtin.Dict.pendingKey? d key >>= _) _ _ _
    exact wpAny_bind (wpAny_pendingKey_other hs (wpAny_pure ⟨_, rfl, wpAny_truthy_bool (wpAny_pure (by have := h tk; rw [hf] at this; exact this))⟩))

theorem OD.setItem {Q : Unit → Shared → Prop} (X : K.In s.heap) (hu : A.units + 8 < cLine) (hk : T.isK k key) (ho : s.heap.get? d = some o) (hd : OD T o kvs) (hz : kvs.length ≤ 100000)
    (h : ∀ h' o' tk, Heap.SameBut d s.heap h' → h'.get? d = some o' → OD T o' (stored kvs k v) → Q () { s with heap := h', toks := tk }) : wpAny (model prog w) A (setItem (.ref d) key v) Q E s := by
  have ht := hd.typeIs ho
  unfold PySem.setItem
  refine wpAny_holding (wpAny_bind (wpAny_sequenceKey ht (by decide) ?_))
  refine wpAny_bind (wpAny_callSpecial?_slot (name := Str.ofString "__setitem__") ht slot_dict_setitem (wpAny_call_entry slot_dict_setitem ht entry_dict_setitem ?_ (args_dict_setitem _ _ _)))
  show wpAny _ _ (Builtin.Dict.notOrdered "__setitem__" ⟨[.ref d, key, v], []⟩ >>= _) _ _ s
  refine wpAny_bind (wpAny_notOrdered_dict ht ?_)
  show wpAny _ _ (dictSet d key v >>= _) _ _ s
  exact wpAny_bind (hd.set X (by simp only [Around.in1_units]; omega) hk ho hz fun h' o' tk a b c => wpAny_pure ⟨.none, rfl, wpAny_pure (h h' o' tk a b c)⟩)
end
end
section
variable {Ky : Type} [DecidableEq Ky] {prog : Program} {w : World} {K : Frag} {T : DT prog w K Ky} {A : Around} {E : Value → Shared → Prop} {s : Shared} {d : Addr} {o : Obj} {kvs : List (Ky × Value)} {k : Ky} {key v : Value}

theorem OD.size (hd : OD T o kvs) : ∃ es ep, o.data = .dict es ep ∧ es.size = kvs.length := by
  obtain ⟨_, es, ep, hdat, he, _⟩ := hd
  exact ⟨es, ep, hdat, by rw [← Array.length_toList, he.length]⟩

theorem OD.lenBody {Q' : Value → Shared → Prop} (ho : s.heap.get? d = some o) (hd : OD T o kvs) (hs : (d == sysModules) = false) (hq : Q' (.int kvs.length s.toks) { s with toks := s.toks + 1 }) :
    wpAny (model prog w) A (call (.builtin "dict.__len__") [.ref d]) Q' E s := by
  have ht := hd.typeIs ho
  obtain ⟨es, ep, hdat, hsz⟩ := hd.size
  refine wpAny_call_entry PySem.F.slot_dict_len ht PySem.F.entry_dict_len ?_ (PySem.F.args_dict_len_1 _)
  show wpAny _ _ (dictSize d >>= _) _ _ s
  unfold dictSize
  refine wpAny_bind (wpAny_bind (wpAny_dictEntries ho hdat (wpAny_pure ?_)))
  show wpAny _ _ (Builtin.Dict.pendingCount d >>= _) _ _ s
  refine wpAny_bind (wpAny_pendingCount_other hs ?_)
  rw [hsz]
  exact wpAny_ret_mkInt (by simpa using hq)

theorem OD.len {Q : Value → Shared → Prop} (ho : s.heap.get? d = some o) (hd : OD T o kvs) (hs : (d == sysModules) = false) (hz : kvs.length ≤ 100000)
    (h : ∀ t tk, Q (.int kvs.length t) { s with toks := tk }) : wpAny (model prog w) A (call (.builtin "len") [.ref d]) Q E s :=
  call_len_slot (hd.typeIs ho) PySem.F.slot_dict_len (fun _ hq => hd.lenBody ho hs hq) (by omega) (by omega) (h _ _)

theorem OD.truth {Q : Bool → Shared → Prop} (ho : s.heap.get? d = some o) (hd : OD T o kvs) (hs : (d == sysModules) = false) (hz : kvs.length ≤ 100000)
    (h : ∀ tk, Q (!kvs.isEmpty) { s with toks := tk }) : wpAny (model prog w) A (truthy (.ref d)) Q E s := by
  have ht := hd.typeIs ho
  have hne : ((kvs.length : Int) != 0) = !kvs.isEmpty := by cases kvs <;> simp <;> omega
  have key : wpAny (model prog w) A (runValue (.builtin "len" ⟨[.ref d], []⟩)) (fun r s' => ∃ t, r = .int kvs.length t ∧ Q (!kvs.isEmpty) s') E s := by
    refine wpAny_runValue (codeAny_builtin entry_len ?_)
    rw [Around.under_plainId plain_len _]
    refine wpAny_bind (m := oneArg "len" _) (wpAny_pure ?_)
    refine wpAny_bind (m := callSpecial? (.ref d) (Str.ofString "__len__")) (wpAny_callSpecial?_slot (name := Str.ofString "__len__") ht PySem.F.slot_dict_len (hd.lenBody ho hs ?_))
    show wpAny _ _ _ _ _ { s with toks := s.toks + 1 }
    refine wpAny_bind (wpAny_holding (wpAny_pure (wpAny_bind (wpAny_letGo ?_))))
    show wpAny _ _ (if ((kvs.length : Nat) : Int) < 0 then _ else _) _ _ _
    rw [if_neg (by omega)]
    show wpAny _ _ (if ((kvs.length : Nat) : Int) ≥ 2 ^ 63 then _ else _) _ _ _
    rw [if_neg (by omega)]
    exact wpAny_bind (wpAny_mkInt (wpAny_pure ⟨_, rfl, h _⟩))
  unfold truthy
  first
    | refine wpAny_bind (wpAny_callSpecial?_none (name := Str.ofString "__bool__") ht noBool_dict ?_)
    | refine wpAny_bind (wpAny_pure (wpAny_bind (wpAny_callSpecial?_none (name := Str.ofString "__bool__") ht noBool_dict ?_)))
  first
    | refine wpAny_bind (wpAny_specialOf (name := Str.ofString "__len__") ht PySem.F.slot_dict_len.lookup ?_)
    | refine wpAny_bind (wpAny_pure (wpAny_bind (wpAny_specialOf (name := Str.ofString "__len__") ht PySem.F.slot_dict_len.lookup ?_)))
  first
    | exact wpAny_bind (wpAny_mono key (fun r s' h' => by obtain ⟨t, rfl, hq⟩ := h'; exact wpAny_pure (hne ▸ hq)) fun _ _ e => e)
    | exact wpAny_bind (wpAny_pure (wpAny_bind (wpAny_mono key (fun r s' h' => by obtain ⟨t, rfl, hq⟩ := h'; exact wpAny_pure (hne ▸ hq)) fun _ _ e => e)))

theorem OD.pop {Q : Value → Shared → Prop} (X : K.In s.heap) (hu : A.units + 8 < cLine) (hk : T.isK k key) (ho : s.heap.get? d = some o) (hd : OD T o kvs) (hz : kvs.length ≤ 100000) (hv : valueAt kvs k = some v)
    (h : ∀ h' o' tk, Heap.SameBut d s.heap h' → h'.get? d = some o' → OD T o' (without kvs k) → Q v { s with heap := h', toks := tk }) : wpAny (model prog w) A (call (.builtin "dict.pop") [.ref d, key]) Q E s := by
  have ht := hd.typeIs ho
  refine wpAny_call_entry PySem.F.slot_dict_pop ht PySem.F.entry_dict_pop ?_ (PySem.F.args_dict_pop_2 _ _)
  unfold Builtin.«dict.pop»
  refine wpAny_bind ?_
  unfold Builtin.Dict.keyAndDefault
  refine wpAny_bind (wpAny_notOrdered_dict ht ?_)
  show wpAny _ _ (pure (d, key, none)) _ _ s
  refine wpAny_pure ?_
  have go : wpAny (model prog w) A.in1 (Builtin.Dict.takeOut d key) (fun old s' => ∃ e, old = some e ∧ e.val = v ∧ Q v s') E s :=
    hd.take X (by simp only [Around.in1_units]; omega) hk ho hz hv fun h' o' tk e e1 a b c => ⟨e, rfl, e1, h h' o' tk a b c⟩
  cases hp : (keyPart key).isSome with
  | true =>
    simp only [hp, if_true]
    refine wpAny_bind (wpAny_pure ?_)
    simp only [Bool.false_eq_true, if_false]
    refine wpAny_bind (wpAny_mono go (fun old s' hq => ?_) fun _ _ x => x)
    obtain ⟨e, rfl, rfl, hq⟩ := hq
    simp only [Option.isNone_some, Bool.false_eq_true, if_false]
    exact wpAny_bind (wpAny_letGo (wpAny_pure ⟨_, rfl, hq⟩))
  | false =>
    obtain ⟨es, ep, hdat, hsz⟩ := hd.size
    have hne : es.isEmpty = false := by
      cases hE : es.isEmpty with
      | false => rfl
      | true =>
        have : kvs.length = 0 := by rw [← hsz]; simpa using hE
        rw [List.length_eq_zero_iff.mp this] at hv; cases hv
    simp only [hp, Bool.false_eq_true, if_false]
    refine wpAny_bind (m := dictEntries d) (wpAny_dictEntries ho hdat (wpAny_bind (wpAny_pure ?_)))
    simp only [hne, Bool.false_eq_true, if_false]
    refine wpAny_bind (wpAny_mono go (fun old s' hq => ?_) fun _ _ x => x)
    obtain ⟨e, rfl, rfl, hq⟩ := hq
    simp only [Option.isNone_some, Bool.false_eq_true, if_false]
    exact wpAny_bind (wpAny_letGo (wpAny_pure ⟨_, rfl, hq⟩))

theorem OD.get2 {dflt : Value} {Q : Value → Shared → Prop} (X : K.In s.heap) (hu : A.units + 8 < cLine) (hk : T.isK k key) (ho : s.heap.get? d = some o) (hd : OD T o kvs) (hs : (d == sysModules) = false)
    (h : ∀ tk, Q ((valueAt kvs k).getD dflt) { s with toks := tk }) : wpAny (model prog w) A (call (.builtin "dict.get") [.ref d, key, dflt]) Q E s := by
  have ht := hd.typeIs ho
  refine wpAny_call_entry PySem.F.slot_dict_get ht PySem.F.entry_dict_get ?_ (PySem.F.args_dict_get_3 _ _ _)
  show wpAny _ _ (dictGet d key >>= _) _ _ s
  refine wpAny_bind (hd.get X (by simp only [Around.in1_units]; omega) hk ho fun tk => ?_)
  have h := h tk
  cases hf : valueAt kvs k with
  | some v => rw [hf] at h; exact wpAny_pure ⟨v, rfl, h⟩
  | none =>
    rw [hf] at h
    show wpAny _ _ (Builtin.Dict.missed d key >>= _) _ _ _
    exact wpAny_bind (wpAny_missed_other hs (wpAny_pure ⟨dflt, rfl, h⟩))
theorem OD.get1 {Q : Value → Shared → Prop} (X : K.In s.heap) (hu : A.units + 8 < cLine) (hk : T.isK k key) (ho : s.heap.get? d = some o) (hd : OD T o kvs) (hs : (d == sysModules) = false)
    (h : ∀ tk, Q ((valueAt kvs k).getD .none) { s with toks := tk }) : wpAny (model prog w) A (call (.builtin "dict.get") [.ref d, key]) Q E s := by
  have ht := hd.typeIs ho
  refine wpAny_call_entry PySem.F.slot_dict_get ht PySem.F.entry_dict_get ?_ (PySem.F.args_dict_get_2 _ _)
  show wpAny _ _ (dictGet d key >>= _) _ _ s
  refine wpAny_bind (hd.get X (by simp only [Around.in1_units]; omega) hk ho fun tk => ?_)
  have h := h tk
  cases hf : valueAt kvs k with
  | some v => rw [hf] at h; exact wpAny_pure ⟨v, rfl, h⟩
  | none =>
    rw [hf] at h
    show wpAny _ _ (Builtin.Dict.missed d key >>= _) _ _ _
    exact wpAny_bind (wpAny_missed_other hs (wpAny_pure ⟨.none, rfl, h⟩))

theorem OD.method {name : Str} {id : String} {pl : Sem Bool} {Q : Value × List Value → Shared → Prop} (slot : Slot "dict" name id) (hty : typeOf (.builtin id) = pure (.type "method_descriptor"))
    (ho : s.heap.get? d = some o) (hd : OD T o kvs) (h : Q (.builtin id, [.ref d]) s) : wpAny (model prog w) A (getMethod (.ref d) name pl) Q E s :=
  getMethod_builtin (hd.typeIs ho) PySem.F.plainAttrs_dict slot hty (fun a e => by cases e; exact ⟨o, ho, hd.1.2.1⟩) h

theorem OD.getItemMiss {Q : Value → Shared → Prop} (X : K.In s.heap) (hu : A.units + 8 < cLine) (hk : T.isK k key) (ho : s.heap.get? d = some o) (hd : OD T o kvs) (hv : valueAt kvs k = none) (hs : (d == sysModules) = false) (hh : A.handled = none)
    (h : ∀ h' e tk, Heap.NewExc s.heap h' e "KeyError" → E (Value.ref e) { s with heap := h', toks := tk }) : wpAny (model prog w) A (PySem.getItem (.ref d) key) Q E s := by
  have ht := hd.typeIs ho
  unfold PySem.getItem
  refine wpAny_holding (wpAny_bind (wpAny_sequenceKey ht (by decide) ?_))
  refine wpAny_bind (wpAny_callSpecial?_slot (name := Str.ofString "__getitem__") ht slot_dict_getitem (wpAny_call_entry slot_dict_getitem ht entry_dict_getitem ?_ (args_dict_getitem _ _)))
  show wpAny _ _ (dictGet d key >>= _) _ _ s
  refine wpAny_bind (hd.get X (by simp only [Around.in1_units]; omega) hk ho fun tk => ?_)
  rw [hv]
  show wpAny _ _ (Builtin.Dict.missed d key >>= _) _ _ _
  refine wpAny_bind (wpAny_missed_other hs ?_)
  refine wpAny_bind (wpAny_typeOf (s := { s with toks := tk }) ht ?_)
  show wpAny _ _ (if (Value.type "dict" != Value.type "dict") = true then _ else _) _ _ _
  rw [if_neg (by decide)]
  exact wpAny_bind (wpAny_rule (wpAny_raise_newExc (A := A.in1) plainExc_KeyError hh fun h' e x => h h' e tk x))
end
noncomputable def optV : Option Rg → Value
  | none => .none
  | some r => .ref r.x

/-- what a use does to the nodes -/
noncomputable def fP (F : Addr → NF) (r : Addr) : Option Rg → Addr → NF
  | none => F
  | some p => setF F p.x { F p.x with next := (F r).next }
noncomputable def fQ (F : Addr → NF) (r : Addr) : Option Rg → Addr → NF
  | none => F
  | some q => setF F q.x { F q.x with prev := (F r).prev }
noncomputable def recF (F : Addr → NF) (r m : Addr) (po qo : Option Rg) : Addr → NF :=
  let F3 := fQ (fP F r po) r qo
  let F4 := setF F3 r { F3 r with next := (F3 m).key }
  let F5 := setF F4 m { F4 m with prev := .ref r }
  setF F5 r { F5 r with prev := .none }
noncomputable def recAcc (st : LS) (r mr : Rg) (po qo : Option Rg) : LS :=
  { st with lru := if st.lru = .ref r.x then (st.F r.x).prev else st.lru, F := recF st.F r.x mr.x po qo, mru := .ref r.x }

theorem setF_self {F : Addr → NF} {x : Addr} {f : NF} : setF F x f x = f := by unfold setF; rw [if_pos rfl]
theorem setF_ne {F : Addr → NF} {x y : Addr} {f : NF} (h : y ≠ x) : setF F x f y = F y := by unfold setF; rw [if_neg h]


/-- what a removal does to the nodes -/
noncomputable def rmF (F : Addr → NF) (r : Addr) (po : Option Rg) : Addr → NF :=
  let F1 := setF F r { F r with cln := .none }
  let F2 := setF F1 r { F1 r with val := .none }
  let F3 := fP F2 r po
  let F4 := setF F3 r { F3 r with prev := .none }
  setF F4 r { F4 r with next := .none }

section
variable {Ky : Type}
noncomputable def nk (F : Addr → NF) (n : Value) : List (Ky × Rg) → Value
  | [] => n
  | (_, q) :: _ => (F q.x).key
noncomputable def lastV (p : Value) : List (Ky × Rg) → Value
  | [] => p
  | (_, r) :: l => lastV (.ref r.x) l
/-- a run of the chain: p stands before it, n is the key behind it -/
noncomputable def Seg (F : Addr → NF) : Value → List (Ky × Rg) → Value → Prop
  | _, [], _ => True
  | p, (_, r) :: l, n => (F r.x).prev = p ∧ (F r.x).next = nk F n l ∧ Seg F (.ref r.x) l n

theorem nk_append {F : Addr → NF} {n : Value} {A B : List (Ky × Rg)} : nk F n (A ++ B) = nk F (nk F n B) A := by cases A <;> rfl
theorem Seg.append {F : Addr → NF} {n : Value} {B : List (Ky × Rg)} : ∀ {A : List (Ky × Rg)} {p : Value}, Seg F p (A ++ B) n ↔ Seg F p A (nk F n B) ∧ Seg F (lastV p A) B n
  | [], p => by simp [Seg, lastV]
  | (_, r) :: l, p => by
    simp only [List.cons_append, Seg, lastV, nk_append, Seg.append (A := l), and_assoc]
theorem lastV_append {p : Value} {B : List (Ky × Rg)} : ∀ {A : List (Ky × Rg)} {p : Value}, lastV p (A ++ B) = lastV (lastV p A) B
  | [], _ => rfl
  | (_, r) :: l, _ => by simp only [List.cons_append, lastV]; exact lastV_append (p := .none)
theorem nk_frame {F F' : Addr → NF} {n : Value} {l : List (Ky × Rg)} (h : ∀ y, (F' y).key = (F y).key) : nk F' n l = nk F n l := by
  cases l with
  | nil => rfl
  | cons a l => exact h _
theorem Seg.frame {F F' : Addr → NF} {n : Value} (hk : ∀ y, (F' y).key = (F y).key) : ∀ {l : List (Ky × Rg)} {p : Value}, (∀ a ∈ l, (F' a.2.x).prev = (F a.2.x).prev ∧ (F' a.2.x).next = (F a.2.x).next) → Seg F p l n → Seg F' p l n
  | [], _, _, _ => trivial
  | (_, r) :: l, _, h, s => by
    obtain ⟨a, b, c⟩ := s
    obtain ⟨h1, h2⟩ := h _ (.head _)
    exact ⟨h1.trans a, (h2.trans b).trans (nk_frame hk).symm, c.frame hk fun a ha => h a (.tail _ ha)⟩
theorem Seg.setFirst {F F' : Addr → NF} {n p p' : Value} {a : Ky × Rg} {l : List (Ky × Rg)} (hk : ∀ y, (F' y).key = (F y).key) (h1 : (F' a.2.x).prev = p') (h2 : (F' a.2.x).next = (F a.2.x).next)
    (h : ∀ b ∈ l, (F' b.2.x).prev = (F b.2.x).prev ∧ (F' b.2.x).next = (F b.2.x).next) (s : Seg F p (a :: l) n) : Seg F' p' (a :: l) n := by
  obtain ⟨k, r⟩ := a
  obtain ⟨a, b, c⟩ := s
  exact ⟨h1, (h2.trans b).trans (nk_frame hk).symm, c.frame hk h⟩
theorem Seg.setLast {F F' : Addr → NF} {n n' p : Value} {b : Ky × Rg} {l : List (Ky × Rg)} (hk : ∀ y, (F' y).key = (F y).key) (h1 : (F' b.2.x).next = n') (h2 : (F' b.2.x).prev = (F b.2.x).prev)
    (h : ∀ a ∈ l, (F' a.2.x).prev = (F a.2.x).prev ∧ (F' a.2.x).next = (F a.2.x).next) (s : Seg F p (l ++ [b]) n) : Seg F' p (l ++ [b]) n' := by
  rw [Seg.append] at s ⊢
  refine ⟨?_, ?_⟩
  · have := s.1.frame hk h
    rw [show nk F' n' [b] = nk F n [b] from hk _]; exact this
  · obtain ⟨k, r⟩ := b
    exact ⟨h2.trans s.2.1, h1, trivial⟩

theorem setF_key {F : Addr → NF} {x : Addr} {f : NF} (h : f.key = (F x).key) : ∀ y, (setF F x f y).key = (F y).key := fun y => by
  unfold setF; split
  · rename_i e; rw [e]; exact h
  · rfl
theorem setF_val {F : Addr → NF} {x : Addr} {f : NF} (h : f.val = (F x).val) : ∀ y, (setF F x f y).val = (F y).val := fun y => by
  unfold setF; split
  · rename_i e; rw [e]; exact h
  · rfl
theorem setF_cln {F : Addr → NF} {x : Addr} {f : NF} (h : f.cln = (F x).cln) : ∀ y, (setF F x f y).cln = (F y).cln := fun y => by
  unfold setF; split
  · rename_i e; rw [e]; exact h
  · rfl
theorem fP_key {F : Addr → NF} {r : Addr} {po : Option Rg} : ∀ y, (fP F r po y).key = (F y).key := fun y => by cases po with | none => rfl | some p => exact setF_key (by rfl) y
theorem fP_val {F : Addr → NF} {r : Addr} {po : Option Rg} : ∀ y, (fP F r po y).val = (F y).val := fun y => by cases po with | none => rfl | some p => exact setF_val (by rfl) y
theorem fP_cln {F : Addr → NF} {r : Addr} {po : Option Rg} : ∀ y, (fP F r po y).cln = (F y).cln := fun y => by cases po with | none => rfl | some p => exact setF_cln (by rfl) y
theorem fQ_key {F : Addr → NF} {r : Addr} {po : Option Rg} : ∀ y, (fQ F r po y).key = (F y).key := fun y => by cases po with | none => rfl | some p => exact setF_key (by rfl) y
theorem fQ_val {F : Addr → NF} {r : Addr} {po : Option Rg} : ∀ y, (fQ F r po y).val = (F y).val := fun y => by cases po with | none => rfl | some p => exact setF_val (by rfl) y
theorem fQ_cln {F : Addr → NF} {r : Addr} {po : Option Rg} : ∀ y, (fQ F r po y).cln = (F y).cln := fun y => by cases po with | none => rfl | some p => exact setF_cln (by rfl) y
theorem recF_key {F : Addr → NF} {r m : Addr} {po qo : Option Rg} (y : Addr) : (recF F r m po qo y).key = (F y).key := by
  unfold recF; simp only
  rw [setF_key (by rfl), setF_key (by rfl), setF_key (by rfl), fQ_key, fP_key]
theorem recF_val {F : Addr → NF} {r m : Addr} {po qo : Option Rg} (y : Addr) : (recF F r m po qo y).val = (F y).val := by
  unfold recF; simp only
  rw [setF_val (by rfl), setF_val (by rfl), setF_val (by rfl), fQ_val, fP_val]
theorem recF_cln {F : Addr → NF} {r m : Addr} {po qo : Option Rg} (y : Addr) : (recF F r m po qo y).cln = (F y).cln := by
  unfold recF; simp only
  rw [setF_cln (by rfl), setF_cln (by rfl), setF_cln (by rfl), fQ_cln, fP_cln]

/-- setting one node leaves the links of another -/
theorem links_ne {F : Addr → NF} {x y : Addr} {f : NF} (h : y ≠ x) : (setF F x f y).prev = (F y).prev ∧ (setF F x f y).next = (F y).next := by rw [setF_ne h]; exact ⟨rfl, rfl⟩

/-- a node that is taken out of the chain's middle or end and put in front -/
theorem rec_move {F : Addr → NF} {n : Value} {A B : List (Ky × Rg)} {m p r : Ky × Rg} {po qo : Option Rg} {l A' : List (Ky × Rg)} (hA : A = m :: l) (hA' : A = A' ++ [p]) (hpo : po = some p.2) (hqo : qo = B.head?.map (·.2))
    (nd : ((A ++ r :: B).map (·.2.x)).Nodup) (s : Seg F .none (A ++ r :: B) .none) : Seg (recF F r.2.x m.2.x po qo) .none (r :: (A ++ B)) .none := by
  rw [List.map_append, List.nodup_append] at nd
  obtain ⟨ndA, ndB, dis⟩ := nd
  rw [List.map_cons, List.nodup_cons] at ndB
  rw [Seg.append] at s
  obtain ⟨sA, sr⟩ := s
  obtain ⟨kr, r⟩ := r
  obtain ⟨r1, r2, sB⟩ := sr
  have rA : ∀ a ∈ A, a.2.x ≠ r.x := fun a ha => dis _ (List.mem_map_of_mem (f := fun q : Ky × Rg => q.2.x) ha) _ (.head _)
  have rB : ∀ b ∈ B, b.2.x ≠ r.x := fun b hb e => ndB.1 (by rw [← e]; exact List.mem_map_of_mem (f := fun q : Ky × Rg => q.2.x) hb)
  have AB : ∀ a ∈ A, ∀ b ∈ B, a.2.x ≠ b.2.x := fun a ha b hb => dis _ (List.mem_map_of_mem (f := fun q : Ky × Rg => q.2.x) ha) _ (.tail _ (List.mem_map_of_mem (f := fun q : Ky × Rg => q.2.x) hb))
  have mA : m ∈ A := by rw [hA]; exact .head _
  have pA : p ∈ A := by rw [hA']; exact List.mem_append_right _ (.head _)
  have pA' : ∀ a ∈ A', a.2.x ≠ p.2.x := by
    intro a ha
    rw [hA', List.map_append, List.nodup_append] at ndA
    exact ndA.2.2 _ (List.mem_map_of_mem (f := fun q : Ky × Rg => q.2.x) ha) _ (.head _)
  have ml : ∀ a ∈ l, a.2.x ≠ m.2.x := by
    intro a ha e
    rw [hA, List.map_cons, List.nodup_cons] at ndA
    exact ndA.1 (by rw [← e]; exact List.mem_map_of_mem (f := fun q : Ky × Rg => q.2.x) ha)
  subst hpo hqo
  have k2 : ∀ y, (fP F r.x (some p.2) y).key = (F y).key := fP_key
  -- the one before
  have s2A : Seg (fP F r.x (some p.2)) .none A (nk F .none B) := by
    rw [hA'] at sA ⊢
    refine sA.setLast k2 ?_ ?_ fun a ha => links_ne (pA' a ha)
    · show (setF _ _ _ _).next = _; rw [setF_self]; exact r2
    · show (setF _ _ _ _).prev = _; rw [setF_self]
  have s2B : Seg (fP F r.x (some p.2)) (.ref r.x) B .none := sB.frame k2 fun b hb => links_ne (fun e => AB p pA b hb e.symm)
  have e2r : fP F r.x (some p.2) r.x = F r.x := setF_ne fun e => rA p pA e.symm
  have lastA : lastV .none A = .ref p.2.x := by rw [hA', lastV_append (p := .none)]; rfl
  rw [lastA] at r1
  generalize hF2 : fP F r.x (some p.2) = F2 at *
  -- the one behind
  have k3 : ∀ y, (fQ F2 r.x (B.head?.map (·.2)) y).key = (F2 y).key := fQ_key
  have s3B : Seg (fQ F2 r.x (B.head?.map (·.2))) (.ref p.2.x) B .none := by
    cases B with
    | nil => trivial
    | cons q B' =>
      have nq : ∀ b ∈ B', b.2.x ≠ q.2.x := by
        intro b hb e
        have := ndB.2; rw [List.map_cons, List.nodup_cons] at this
        exact this.1 (by rw [← e]; exact List.mem_map_of_mem (f := fun q : Ky × Rg => q.2.x) hb)
      refine s2B.setFirst k3 ?_ ?_ fun b hb => links_ne (nq b hb)
      · show (setF _ _ _ _).prev = _; rw [setF_self]; show (F2 r.x).prev = _; rw [e2r]; exact r1
      · show (setF _ _ _ _).next = _; rw [setF_self]
  have nB : ∀ a, (∀ b ∈ B, a ≠ b.2.x) → fQ F2 r.x (B.head?.map (·.2)) a = F2 a := by
    intro a ha
    cases B with
    | nil => rfl
    | cons q B' => exact setF_ne (ha q (.head _))
  have s3A : Seg (fQ F2 r.x (B.head?.map (·.2))) .none A (nk F .none B) := s2A.frame k3 fun a ha => by rw [nB _ fun b hb => AB a ha b hb]; exact ⟨rfl, rfl⟩
  have e3r : fQ F2 r.x (B.head?.map (·.2)) r.x = F r.x := (nB _ fun b hb e => rB b hb e.symm).trans e2r
  generalize hF3 : fQ F2 r.x (B.head?.map (·.2)) = F3 at *
  -- the node's next, the first's prev, the node's prev
  have hk : ∀ y, (recF F r.x m.2.x (some p.2) (B.head?.map (·.2)) y).key = (F y).key := recF_key
  have hR : recF F r.x m.2.x (some p.2) (B.head?.map (·.2)) = (let F4 := setF F3 r.x { F3 r.x with next := (F3 m.2.x).key }; let F5 := setF F4 m.2.x { F4 m.2.x with prev := .ref r.x }; setF F5 r.x { F5 r.x with prev := .none }) := by
    unfold recF; simp only [hF2, hF3]
  have mr : m.2.x ≠ r.x := rA m mA
  have k3' : ∀ y, (F3 y).key = (F y).key := fun y => (k3 y).trans (k2 y)
  have g1 : (recF F r.x m.2.x (some p.2) (B.head?.map (·.2)) r.x).prev = .none := by rw [hR]; simp only; rw [setF_self]
  have g2 : (recF F r.x m.2.x (some p.2) (B.head?.map (·.2)) r.x).next = (F3 m.2.x).key := by rw [hR]; simp only; rw [setF_self]; show (setF _ _ _ _).next = _; rw [setF_ne (Ne.symm mr), setF_self]
  have g3 : (recF F r.x m.2.x (some p.2) (B.head?.map (·.2)) m.2.x).prev = .ref r.x := by rw [hR]; simp only; rw [setF_ne mr, setF_self]
  have g4 : (recF F r.x m.2.x (some p.2) (B.head?.map (·.2)) m.2.x).next = (F3 m.2.x).next := by rw [hR]; simp only; rw [setF_ne mr, setF_self]; show (setF _ _ _ _).next = _; rw [setF_ne mr]
  have g5 : ∀ y, y ≠ r.x → y ≠ m.2.x → recF F r.x m.2.x (some p.2) (B.head?.map (·.2)) y = F3 y := fun y h1 h2 => by rw [hR]; simp only; rw [setF_ne h1, setF_ne h2, setF_ne h1]
  generalize recF F r.x m.2.x (some p.2) (B.head?.map (·.2)) = G at *
  have hk3 : ∀ y, (G y).key = (F3 y).key := fun y => (hk y).trans (k3' y).symm
  refine ⟨g1, ?_, ?_⟩
  · rw [g2, nk_append, hA]
    exact (hk3 m.2.x).symm
  · rw [Seg.append, nk_frame hk]
    refine ⟨?_, ?_⟩
    · rw [hA] at s3A ⊢
      refine s3A.setFirst hk3 g3 g4 fun b hb => ?_
      have hb' : b ∈ A := by rw [hA]; exact .tail _ hb
      rw [g5 _ (rA b hb') (ml b hb)]; exact ⟨rfl, rfl⟩
    · have : lastV (.ref r.x : Value) A = .ref p.2.x := by rw [hA', lastV_append (p := .none)]; rfl
      rw [this]
      refine s3B.frame hk3 fun b hb => ?_
      rw [g5 _ (rB b hb) (fun e => AB m mA b hb e.symm)]; exact ⟨rfl, rfl⟩

/-- a new node put in front -/
theorem rec_new {F : Addr → NF} {l : List (Ky × Rg)} {m r : Ky × Rg} (nr : ∀ a ∈ m :: l, a.2.x ≠ r.2.x) (nd : ((m :: l).map (·.2.x)).Nodup) (s : Seg F .none (m :: l) .none) :
    Seg (recF F r.2.x m.2.x none none) .none (r :: m :: l) .none := by
  obtain ⟨kr, r⟩ := r
  have mr : m.2.x ≠ r.x := nr m (.head _)
  have hk : ∀ y, (recF F r.x m.2.x none none y).key = (F y).key := recF_key
  have ml : ∀ a ∈ l, a.2.x ≠ m.2.x := by
    intro a ha e
    rw [List.map_cons, List.nodup_cons] at nd
    exact nd.1 (by rw [← e]; exact List.mem_map_of_mem (f := fun q : Ky × Rg => q.2.x) ha)
  refine ⟨?_, ?_, s.setFirst hk ?_ ?_ fun b hb => ?_⟩
  · show (setF _ _ _ _).prev = _; rw [setF_self]
  · show (setF _ _ _ _).next = _; rw [setF_self]
    show (setF _ _ _ _).next = _; rw [setF_ne (Ne.symm mr), setF_self]
    exact (hk _).symm
  · show (setF _ _ _ _).prev = _; rw [setF_ne mr, setF_self]
  · show (setF _ _ _ _).next = _; rw [setF_ne mr, setF_self]; show (setF _ _ _ _).next = _; rw [setF_ne mr]; rfl
  · have := nr b (.tail _ hb)
    show (setF _ _ _ _).prev = _ ∧ (setF _ _ _ _).next = _
    rw [setF_ne this, setF_ne (ml b hb), setF_ne this]; exact ⟨rfl, rfl⟩

/-- the last one taken off -/
theorem rm_last {F : Addr → NF} {A : List (Ky × Rg)} {r : Ky × Rg} {po : Option Rg} (hpo : optV po = lastV .none A) (hpm : ∀ p, po = some p → ∃ A' k, A = A' ++ [(k, p)])
    (nd : ((A ++ [r]).map (·.2.x)).Nodup) (s : Seg F .none (A ++ [r]) .none) : Seg (rmF F r.2.x po) .none A .none ∧ (∀ y, (rmF F r.2.x po y).key = (F y).key) ∧ ∀ a ∈ A, (rmF F r.2.x po a.2.x).val = (F a.2.x).val ∧ (rmF F r.2.x po a.2.x).cln = (F a.2.x).cln := by
  rw [List.map_append, List.nodup_append] at nd
  obtain ⟨ndA, _, dis⟩ := nd
  rw [Seg.append] at s
  obtain ⟨sA, sr⟩ := s
  obtain ⟨kr, r⟩ := r
  obtain ⟨r1, r2, -⟩ := sr
  have rA : ∀ a ∈ A, a.2.x ≠ r.x := fun a ha => dis _ (List.mem_map_of_mem (f := fun q : Ky × Rg => q.2.x) ha) _ (.head _)
  have e1 : ∀ y, y ≠ r.x → setF (setF F r.x { F r.x with cln := .none }) r.x { setF F r.x { F r.x with cln := .none } r.x with val := .none } y = F y := fun y hy => by rw [setF_ne hy, setF_ne hy]
  have k1 : ∀ y, (setF (setF F r.x { F r.x with cln := .none }) r.x { setF F r.x { F r.x with cln := .none } r.x with val := .none } y).key = (F y).key := fun y => by rw [setF_key (by rfl), setF_key (by rfl)]
  have n1 : (setF (setF F r.x { F r.x with cln := .none }) r.x { setF F r.x { F r.x with cln := .none } r.x with val := .none } r.x).next = .none := by
    rw [setF_self]; show (setF _ _ _ _).next = _; rw [setF_self]; exact r2
  have hkey : ∀ y, (rmF F r.x po y).key = (F y).key := fun y => by
    unfold rmF; simp only; rw [setF_key (by rfl), setF_key (by rfl), fP_key, k1]
  have heq : ∀ a ∈ A, rmF F r.x po a.2.x = fP (setF (setF F r.x { F r.x with cln := .none }) r.x { setF F r.x { F r.x with cln := .none } r.x with val := .none }) r.x po a.2.x := fun a ha => by
    unfold rmF; simp only; rw [setF_ne (rA a ha), setF_ne (rA a ha)]
  refine ⟨?_, hkey, fun a ha => ?_⟩
  · cases po with
    | none =>
      have : A = [] := by
        cases A with
        | nil => rfl
        | cons a A =>
          exfalso
          have : ∀ (l : List (Ky × Rg)) (x : Addr), ∃ y, lastV (.ref x : Value) l = .ref y := by
            intro l
            induction l with
            | nil => exact fun x => ⟨x, rfl⟩
            | cons b l ih => exact fun x => ih b.2.x
          obtain ⟨y, hy⟩ := this A a.2.x
          rw [show lastV (Value.none) (a :: A) = lastV (.ref a.2.x) A from rfl, hy] at hpo
          cases hpo
      subst this; trivial
    | some p =>
      obtain ⟨A', k, hA⟩ := hpm p rfl
      have pA : (k, p) ∈ A := by rw [hA]; exact List.mem_append_right _ (.head _)
      have pA' : ∀ a ∈ A', a.2.x ≠ p.x := by
        intro a ha
        rw [hA, List.map_append, List.nodup_append] at ndA
        exact ndA.2.2 _ (List.mem_map_of_mem (f := fun q : Ky × Rg => q.2.x) ha) _ (.head _)
      rw [hA] at sA ⊢
      refine sA.setLast hkey ?_ ?_ fun a ha => ?_
      · rw [heq _ pA]; show (setF _ _ _ _).next = _; rw [setF_self]; exact n1
      · rw [heq _ pA]; show (setF _ _ _ _).prev = _; rw [setF_self]
        show (setF (setF _ _ _) _ _ _).prev = _; rw [e1 _ (rA _ pA)]
      · have haA : a ∈ A := by rw [hA]; exact List.mem_append_left _ ha
        rw [heq _ haA]
        show (setF _ _ _ _).prev = _ ∧ (setF _ _ _ _).next = _
        rw [setF_ne (pA' a ha), e1 _ (rA a haA)]; exact ⟨rfl, rfl⟩
  · rw [heq a ha, fP_val, fP_cln, e1 _ (rA a ha)]; exact ⟨rfl, rfl⟩

theorem seg_off {Ky : Type} {F : Addr → NF} {x : Addr} {f : NF} : ∀ {l : List (Ky × Rg)} {p n : Value}, (∀ a ∈ l, a.2.x ≠ x) → Seg F p l n → Seg (setF F x f) p l n
  | [], _, _, _, _ => trivial
  | (_, r) :: l, p, n, h, s => by
    obtain ⟨a, b, c⟩ := s
    have hr : setF F x f r.x = F r.x := setF_ne (h _ (.head _))
    refine ⟨(congrArg NF.prev hr).trans a, (congrArg NF.next hr).trans (b.trans ?_), seg_off (fun a ha => h a (.tail _ ha)) c⟩
    cases l with
    | nil => rfl
    | cons q l => exact (congrArg NF.key (setF_ne (h q (.tail _ (.head _))))).symm
theorem setF_setF {F : Addr → NF} {x : Addr} {f g : NF} : setF (setF F x f) x g = setF F x g := by
  funext z; unfold setF; split <;> rfl
theorem setF_comm {F : Addr → NF} {x y : Addr} {f g : NF} (h : x ≠ y) : setF (setF F x f) y g = setF (setF F y g) x f := by
  funext z
  unfold setF
  by_cases h1 : z = y
  · rw [if_pos h1, if_neg (fun e => h (e.symm.trans h1)), if_pos h1]
  · rw [if_neg h1, if_neg h1]
/-- __getitem__ turns the other neighbour first -/
theorem fP_fQ {F : Addr → NF} {r : Addr} {p : Rg} {qo : Option Rg} (hp : r ≠ p.x) (hq : ∀ q, qo = some q → r ≠ q.x ∧ p.x ≠ q.x) : fP (fQ F r qo) r (some p) = fQ (fP F r (some p)) r qo := by
  cases qo with
  | none => rfl
  | some q =>
    obtain ⟨h1, h2⟩ := hq q rfl
    show setF (setF F q.x _) p.x { setF F q.x _ p.x with next := (setF F q.x _ r).next } = setF (setF F p.x _) q.x { setF F p.x _ q.x with prev := (setF F p.x _ r).prev }
    rw [setF_ne h2, setF_ne h1, setF_ne (Ne.symm h2), setF_ne hp, setF_comm (Ne.symm h2)]
end
/-- an expression that comes to a value and leaves the heap -/
noncomputable def Pv (prog : Program) (w : World) (A : Around) (env : Env) (e : Expr) (v : Value) (h : Heap) : Prop :=
  ∀ (s : Shared) (Q E : Value → Shared → Prop), s.heap = h → (∀ tk, Q v { s with toks := tk }) → wpAny (model prog w) A (eval e env) Q E s

noncomputable def IsB (h : Heap) (a b : Value) (c : Bool) : Prop :=
  ∀ (M : Model) (A : Around) (s : Shared) (Q E : Value → Shared → Prop), s.heap = h →
    (Q (.bool c) s → wpAny M A (compareOp .Is a b) Q E s) ∧ (Q (.bool (!c)) s → wpAny M A (compareOp .IsNot a b) Q E s)

theorem isB_plain {h : Heap} {a b : Value} (hp : PySem.plainIs a b = true) : IsB h a b (a == b) :=
  fun _ _ _ _ _ _ => ⟨fun q => wpAny_is_plain hp q, fun q => wpAny_isNot_plain hp q⟩
theorem isB_other {h : Heap} {a b : Value} (hp : PySem.plainIs a b = true) (hne : a ≠ b) : IsB h a b false :=
  fun _ _ _ _ _ _ => ⟨fun q => wpAny_is_other hp hne q, fun q => wpAny_isNot_other hp hne q⟩
theorem isB_none {h : Heap} : IsB h .none .none true :=
  fun _ _ _ _ _ _ => ⟨fun q => wpAny_is_self rfl q, fun q => wpAny_isNot_self rfl q⟩
theorem isB_ref_none {h : Heap} {x : Addr} : IsB h (.ref x) .none false := isB_other rfl (fun e => nomatch e)
theorem isB_self {h : Heap} {x : Addr} : IsB h (.ref x) (.ref x) true :=
  fun _ _ _ _ _ _ => ⟨fun q => wpAny_is_ref_self q, fun q => wpAny_isNot_ref_self q⟩
theorem isB_refs {h : Heap} {x y : Addr} {ox oy : Obj} (hx : h.get? x = some ox) (hy : h.get? y = some oy) (hn : ox.cls ≠ .type "tuple") : IsB h (.ref x) (.ref y) (decide (x = y)) := by
  by_cases e : x = y
  · subst e; rw [decide_eq_true rfl]; exact isB_self
  · rw [decide_eq_false e]
    intro M A s Q E hs
    subst hs
    exact ⟨fun q => wpAny_is_ref_other e hx hy hn q, fun q => wpAny_isNot_ref_other e hx hy hn q⟩

theorem gen_ {α : Sort _} {a : α} {p : Prop} (h : ∀ x, a = x → p) : p := h a rfl
/-- a statement ends, and leaves P of the heap -/
inductive NextP (s : Shared) (P : Heap → Prop) (f : Flow) (s' : Shared) : Prop
  | mk (e : f = .next) (h' : Heap) (tk : Nat) (es : s' = up s h' tk) (p : P h')
section
variable {prog : Program} {w : World} {A : Around} {env : Env} {h : Heap} {s : Shared} {tk : Nat} {Q : Flow → Shared → Prop} {E : Value → Shared → Prop}

theorem Pv.nn {k : Nat} {pos : Pos} : Pv prog w A env (.Constant .none k pos) .none h := fun s Q E hs q => wpAny_Constant_none (q s.toks)
theorem Pv.eq {e : Expr} {v v' : Value} (hp : Pv prog w A env e v h) (q : v = v') : Pv prog w A env e v' h := q ▸ hp
theorem Pv.at {e : Expr} {v : Value} (hp : Pv prog w A env e v h) {Q : Value → Shared → Prop} (q : ∀ tk, Q v (up s h tk)) : wpAny (model prog w) A (eval e env) Q E (up s h tk) := hp (up s h tk) Q E rfl q

/-- if a is b -/
theorem if_is {l r : Expr} {a b : Value} {c : Bool} {body orelse : List Stmt} {pos pos' : Pos} (hl : Pv prog w A env l a h) (hr : Pv prog w A env r b h) (hc : IsB h a b c)
    (ht : c = true → ∀ tk, wpAny (model prog w) A (execs body env) Q E (up s h tk)) (hf : c = false → ∀ tk, wpAny (model prog w) A (execs orelse env) Q E (up s h tk))
    (hm : behindInMarks .Is r = false := by with_unfolding_all rfl) :
    wpAny (model prog w) A (exec (.If (.Compare l [.Is] [r] pos') body orelse pos) env) Q E (up s h tk) := by
  refine wpAny_If (wpAny_isTrue_Compare1 (hl.at fun tk => hr.at fun tk' => ?_) hm)
  refine (hc (model prog w) A (up s h tk') _ _ rfl).1 ?_
  refine wpAny_truthy_bool ?_
  cases c with
  | true => rw [if_pos rfl]; exact ht rfl _
  | false => rw [if_neg Bool.false_ne_true]; exact hf rfl _
theorem if_isNot {l r : Expr} {a b : Value} {c : Bool} {body orelse : List Stmt} {pos pos' : Pos} (hl : Pv prog w A env l a h) (hr : Pv prog w A env r b h) (hc : IsB h a b c)
    (ht : c = false → ∀ tk, wpAny (model prog w) A (execs body env) Q E (up s h tk)) (hf : c = true → ∀ tk, wpAny (model prog w) A (execs orelse env) Q E (up s h tk))
    (hm : behindInMarks .IsNot r = false := by with_unfolding_all rfl) :
    wpAny (model prog w) A (exec (.If (.Compare l [.IsNot] [r] pos') body orelse pos) env) Q E (up s h tk) := by
  refine wpAny_If (wpAny_isTrue_Compare1 (hl.at fun tk => hr.at fun tk' => ?_) hm)
  refine (hc (model prog w) A (up s h tk') _ _ rfl).2 ?_
  refine wpAny_truthy_bool ?_
  cases c with
  | false => rw [if_pos (by decide)]; exact ht rfl _
  | true => rw [if_neg (by decide)]; exact hf rfl _
theorem ret_ {e : Expr} {v : Value} {pos : Pos} (hp : Pv prog w A env e v h) (q : ∀ tk, Q (.ret v) (up s h tk)) : wpAny (model prog w) A (exec (.Return (some e) pos) env) Q E (up s h tk) :=
  wpAny_Return_some (hp.at q)
theorem seqP {x : Stmt} {rest : List Stmt} {P : Heap → Prop} (h1 : wpAny (model prog w) A (exec x env) (NextP s P) E (up s h tk))
    (h2 : ∀ h' tk, P h' → wpAny (model prog w) A (execs rest env) Q E (up s h' tk)) : wpAny (model prog w) A (execs (x :: rest) env) Q E (up s h tk) := by
  refine wpAny_execs_cons (wpAny_mono h1 (fun f s' z => ?_) fun _ _ z => z)
  obtain ⟨rfl, h', tk, rfl, p⟩ := z
  exact h2 h' tk p
end

section
variable {prog : Program} {K : Frag} {CN CL : Addr} {w : World} {g : Heap} {L : Addr} {m : Str → Option Value} {st : LS} {A : Around} {E : Value → Shared → Prop} {s : Shared} {tk : Nat} {h : Heap} {r : Rg} {v : Value}
  {cn : Str} {cs : Scope} {a : Addr} {cd : Value} {p : Program} {loose : List Str} {mg mb : Str → Option Value} {Q : Flow → Shared → Prop}

theorem Pv.name {x : Str} {pos : Pos} (S : St CN CL w g L m st h) (hv : m x = some v) (hk : cs.kind = .function) (hl : (envOf cn cs L a cd).kindOf x = some .local) (hd : (x == ("__debug__" : Str)) = false) :
    Pv prog w A (envOf cn cs L a cd) (.Name x pos) v h := fun s Q E hs q => by subst hs; exact ld S.F hv (q s.toks) hk hl hd
theorem Pv.glob {x : Str} {pos : Pos} (S : St CN CL w g L m st h) (X : K.In g) (T : TopRead p loose mg mb g) (e : nsIn K mainGlobals x = some (some v)) (hk : cs.kind = .function) (hx : (envOf cn cs L a cd).kindOf x = some .globalImplicit) (hd : (x == ("__debug__" : Str)) = false) :
    Pv prog w A (envOf cn cs L a cd) (.Name x pos) v h := fun s Q E hs q => by subst hs; exact name_K S.F X T e (q s.toks) hk hx hd
theorem Pv.builtin {x : Str} {pos : Pos} (S : St CN CL w g L m st h) (X : K.In g) (T : TopRead p loose mg mb g) (e : nsIn K mainGlobals x = some none) (hv : bootBuiltins x = some v) (hn : x ≠ "__name__") (hk : cs.kind = .function) (hx : (envOf cn cs L a cd).kindOf x = some .globalImplicit) (hd : (x == ("__debug__" : Str)) = false) :
    Pv prog w A (envOf cn cs L a cd) (.Name x pos) v h := fun s Q E hs q => by subst hs; exact name_B S.F X T e hv hn (q s.toks) hk hx hd

theorem attr_any {env : Env} {o : Expr} {attr : Str} {pos : Pos} {Q : Value → Shared → Prop}
    (h : wpAny (model prog w) A (eval o env) (fun ov s₁ => wpAny (model prog w) A (getAttr ov attr true) Q E s₁) E s)
    (hsh : eval (o.Attribute attr pos) env = (do
          let ov ← eval o env
          standAt pos.atName
          let r ← holding [ov] (getAttr ov attr true)
          letTemporaryGo o ov r
          pure r)) : wpAny (model prog w) A (eval (o.Attribute attr pos) env) Q E s := by
  rw [hsh]
  exact wpAny_bind (wpAny_mono h (fun ov s₁ h₁ => wpAny_bind (wpAny_standAt (wpAny_bind (wpAny_holding (wpAny_mono h₁ (fun r s₂ h₂ => wpAny_bind (wpAny_letTemporaryGo (wpAny_pure h₂))) fun _ _ z => z))))) fun _ _ z => z)

/-- the fields, each with its name -/
structure NAt (K : Frag) (CN : Addr) (name : Str) (fld : NF → Value) (upd : NF → Value → NF) : Prop where
  at_ : Attr K CN name
  get : ∀ P t f, getL name (nodeEs P t f) = some (some (fld f))
  put : ∀ P t f hsh key v', (putL name hsh key v' (nodeEs P t f), putN name (nodeEs P t f) 6) = (nodeEs P t (upd f v'), 6)
  ok : ∀ f, NFok f → Nb (fld f)
  okU : ∀ f v', NFok f → Nb v' → NFok (upd f v')
structure CAt (K : Frag) (CL : Addr) (name : Str) (fld : LS → Value) (upd : LS → Value → LS) : Prop where
  at_ : Attr K CL name
  get : ∀ P (st : LS), getL name (cacheEs P st.ct st.dd st.mru st.lru st.mx st.af) = some (some (fld st))
  put : ∀ P (st : LS) hsh key v', (putL name hsh key v' (cacheEs P st.ct st.dd st.mru st.lru st.mx st.af), putN name (cacheEs P st.ct st.dd st.mru st.lru st.mx st.af) 5) = (cacheEs P st.ct (upd st v').dd (upd st v').mru (upd st v').lru (upd st v').mx (upd st v').af, 5)
  put' : ∀ (st : LS) v', upd st v' = { st with mru := (upd st v').mru, lru := (upd st v').lru, mx := (upd st v').mx, af := (upd st v').af }
  ok : ∀ st, LSok st → Nb (fld st)
  okU : ∀ st v', LSok st → Nb v' → LSok (upd st v')
theorem nPrev (a : Attr K CN "prev") : NAt K CN "prev" (·.prev) (fun f v => { f with prev := v }) :=
  ⟨a, fun _ _ _ => rfl, fun _ _ _ _ _ _ => rfl, fun _ h => h.prev, fun _ _ h hv => ⟨hv, h.next, h.key, h.val, h.cln⟩⟩
theorem nNext (a : Attr K CN "next_key") : NAt K CN "next_key" (·.next) (fun f v => { f with next := v }) :=
  ⟨a, fun _ _ _ => rfl, fun _ _ _ _ _ _ => rfl, fun _ h => h.next, fun _ _ h hv => ⟨h.prev, hv, h.key, h.val, h.cln⟩⟩
theorem nKey (a : Attr K CN "key") : NAt K CN "key" (·.key) (fun f v => { f with key := v }) :=
  ⟨a, fun _ _ _ => rfl, fun _ _ _ _ _ _ => rfl, fun _ h => h.key, fun _ _ h hv => ⟨h.prev, h.next, hv, h.val, h.cln⟩⟩
theorem nVal (a : Attr K CN "value") : NAt K CN "value" (·.val) (fun f v => { f with val := v }) :=
  ⟨a, fun _ _ _ => rfl, fun _ _ _ _ _ _ => rfl, fun _ h => h.val, fun _ _ h hv => ⟨h.prev, h.next, h.key, hv, h.cln⟩⟩
theorem nCln (a : Attr K CN "cleanup") : NAt K CN "cleanup" (·.cln) (fun f v => { f with cln := v }) :=
  ⟨a, fun _ _ _ => rfl, fun _ _ _ _ _ _ => rfl, fun _ h => h.cln, fun _ _ h hv => ⟨h.prev, h.next, h.key, h.val, hv⟩⟩
theorem cMru (a : Attr K CL "_most_recently_used") : CAt K CL "_most_recently_used" (·.mru) (fun st v => { st with mru := v }) :=
  ⟨a, fun _ _ => rfl, fun _ _ _ _ _ => rfl, fun _ _ => rfl, fun _ h => h.mru, fun _ _ h hv => ⟨h.F, hv, h.lru, h.mx, h.af⟩⟩
theorem cLru (a : Attr K CL "_least_recently_used") : CAt K CL "_least_recently_used" (·.lru) (fun st v => { st with lru := v }) :=
  ⟨a, fun _ _ => rfl, fun _ _ _ _ _ => rfl, fun _ _ => rfl, fun _ h => h.lru, fun _ _ h hv => ⟨h.F, h.mru, hv, h.mx, h.af⟩⟩
theorem cMx (a : Attr K CL "_max_cache") : CAt K CL "_max_cache" (·.mx) (fun st v => { st with mx := v }) :=
  ⟨a, fun _ _ => rfl, fun _ _ _ _ _ => rfl, fun _ _ => rfl, fun _ h => h.mx, fun _ _ h hv => ⟨h.F, h.mru, h.lru, hv, h.af⟩⟩
theorem cAf (a : Attr K CL "_after_cleanup_count") : CAt K CL "_after_cleanup_count" (·.af) (fun st v => { st with af := v }) :=
  ⟨a, fun _ _ => rfl, fun _ _ _ _ _ => rfl, fun _ _ => rfl, fun _ h => h.af, fun _ _ h hv => ⟨h.F, h.mru, h.lru, h.mx, hv⟩⟩
theorem get_dd {P : Params} {st : LS} : getL "_cache" (cacheEs P st.ct st.dd st.mru st.lru st.mx st.af) = some (some (.ref st.dd)) := rfl

theorem Pv.dd {env : Env} {o : Expr} {pos : Pos} (S : St CN CL w g L m st h) (X : K.In g) (pc : PlainCls K CL) (hp : Pv prog w A env o (.ref st.c) h) (a : Attr K CL "_cache")
    (hsh : eval (o.Attribute "_cache" pos) env = (do
          let ov ← eval o env
          standAt pos.atName
          let r ← holding [ov] (getAttr ov "_cache" true)
          letTemporaryGo o ov r
          pure r)) : Pv prog w A env (o.Attribute "_cache" pos) (.ref st.dd) h := fun s Q E hs q => by
  subst hs
  refine attr_any (hp _ _ _ rfl fun tk => ?_) hsh
  exact get_cache (s := { s with toks := tk }) S X pc a rfl rfl (q _)

theorem Pv.node {env : Env} {o : Expr} {name : Str} {pos : Pos} {fld : NF → Value} {upd : NF → Value → NF} (S : St CN CL w g L m st h) (X : K.In g) (pc : PlainCls K CN) (hp : Pv prog w A env o (.ref r.x) h) (hr : r ∈ st.reg) (n : NAt K CN name fld upd)
    (hsh : eval (o.Attribute name pos) env = (do
          let ov ← eval o env
          standAt pos.atName
          let r ← holding [ov] (getAttr ov name true)
          letTemporaryGo o ov r
          pure r)) : Pv prog w A env (o.Attribute name pos) (fld (st.F r.x)) h := fun s Q E hs q => by
  subst hs
  refine attr_any (hp _ _ _ rfl fun tk => ?_) hsh
  exact get_node (s := { s with toks := tk }) S X pc n.at_ hr (n.get _ _ _) (n.ok _ (S.ok.F _)).handed (q _)
theorem Pv.cache {env : Env} {o : Expr} {name : Str} {pos : Pos} {fld : LS → Value} {upd : LS → Value → LS} (S : St CN CL w g L m st h) (X : K.In g) (pc : PlainCls K CL) (hp : Pv prog w A env o (.ref st.c) h) (n : CAt K CL name fld upd)
    (hsh : eval (o.Attribute name pos) env = (do
          let ov ← eval o env
          standAt pos.atName
          let r ← holding [ov] (getAttr ov name true)
          letTemporaryGo o ov r
          pure r)) : Pv prog w A env (o.Attribute name pos) (fld st) h := fun s Q E hs q => by
  subst hs
  refine attr_any (hp _ _ _ rfl fun tk => ?_) hsh
  exact get_cache (s := { s with toks := tk }) S X pc n.at_ (n.get _ _) (n.ok _ S.ok).handed (q _)

/-- x.name = e, x a node -/
theorem as_node {env : Env} {o e : Expr} {name : Str} {pos pos' : Pos} {fld : NF → Value} {upd : NF → Value → NF} (S : St CN CL w g L m st h) (X : K.In g) (pc : PlainCls K CN)
    (he : Pv prog w A env e v h) (hp : Pv prog w A env o (.ref r.x) h) (hr : r ∈ st.reg) (n : NAt K CN name fld upd) (hv : Nb v)
    (q : ∀ h' tk, St CN CL w g L m { st with F := setF st.F r.x (upd (st.F r.x) v) } h' → Q .next (up s h' tk))
    (hs : swapsWith e (some (.Attribute o name pos')) pos.line env = pure false) :
    wpAny (model prog w) A (exec (.Assign [.Attribute o name pos'] e pos) env) Q E (up s h tk) := by
  refine plainObj_wpAny_Assign_Attribute (he.at fun tk => hp.at fun tk' => ?_) hs
  exact set_node (s := up s h tk') S X pc n.at_ hr (n.okU _ _ (S.ok.F _) hv) (n.get _ _ _) (fun _ _ => n.put _ _ _ _ _ _) fun h' tk'' S' => q h' tk'' S'
theorem as_cache {env : Env} {o e : Expr} {name : Str} {pos pos' : Pos} {fld : LS → Value} {upd : LS → Value → LS} (S : St CN CL w g L m st h) (X : K.In g) (pc : PlainCls K CL)
    (he : Pv prog w A env e v h) (hp : Pv prog w A env o (.ref st.c) h) (n : CAt K CL name fld upd) (hv : Nb v)
    (q : ∀ h' tk, St CN CL w g L m (upd st v) h' → Q .next (up s h' tk))
    (hs : swapsWith e (some (.Attribute o name pos')) pos.line env = pure false) :
    wpAny (model prog w) A (exec (.Assign [.Attribute o name pos'] e pos) env) Q E (up s h tk) := by
  refine plainObj_wpAny_Assign_Attribute (he.at fun tk => hp.at fun tk' => ?_) hs
  exact set_cache (s := up s h tk') S X pc n.at_ (n.get _ _) (fun _ _ => n.put _ _ _ _ _) (n.put' _ _) (n.okU _ _ S.ok hv) fun h' tk'' S' => q h' tk'' S'

/-- x = e -/
theorem as_name {x : Str} {pos pos' : Pos} {e : Expr} (S : St CN CL w g L m st h) (he : Pv prog w A (envOf cn cs L a cd) e v h)
    (q : ∀ h' tk, St CN CL w g L (fun y => if y = x then some v else m y) st h' → Q .next (up s h' tk))
    (hk : cs.kind = .function) (hl : (envOf cn cs L a cd).kindOf x = some .local) (hs : swapsWith e (some (.Name x pos')) pos.line (envOf cn cs L a cd) = pure false) :
    wpAny (model prog w) A (exec (.Assign [.Name x pos'] e pos) (envOf cn cs L a cd)) Q E (up s h tk) :=
  wpAny_Assign_Name (he.at fun tk => store_ (s := up s h tk) S (fun h' tk' S' => q h' tk' S') hk hl) hs

section
variable {Ky : Type} [DecidableEq Ky] {T : DT prog w K Ky} {kvs : List (Ky × Value)} {k : Ky} {key : Value}
theorem St.dget (S : St CN CL w g L m st h) : h.get? st.dd = some st.od := (S.N (st.dd, st.od) (.tail _ (.tail _ (.head _)))).1
theorem Pv.item {env : Env} {o i : Expr} {pos : Pos} (S : St CN CL w g L m st h) (X : K.In g) (hu : A.units + 8 < cLine) (ho : Pv prog w A env o (.ref st.dd) h) (hi : Pv prog w A env i key h)
    (hk : T.isK k key) (hd : OD T st.od kvs) (hv : valueAt kvs k = some v)
    (hs : subscripted i false (.ref st.dd) key = operate [.ref st.dd, key] (PySem.getItem (.ref st.dd) key)) : Pv prog w A env (.Subscript o i pos) v h := fun s Q E hs' q => by
  subst hs'
  refine Subscript_ (ho _ _ _ rfl fun tk => hi _ _ _ rfl fun tk' => ?_)
  exact tail_any (s := { s with toks := tk' }) (hd.typeIs (s := { s with toks := tk' }) S.dget) PySem.F.slot_dict_getitem.lookup (hd.getItem (s := { s with toks := tk' }) (X.keeps S.F.keep) hu hk S.dget hv fun tk => q tk) hs
end
end
section
variable {prog : Program} {K : Frag} {CN CL C : Addr} {w : World} {g h₀ h : Heap} {L : Addr} {m : Str → Option Value} {st : LS} {A : Around} {E : Value → Shared → Prop} {s : Shared} {tk tk₀ : Nat} {r : Rg} {v : Value} {env : Env}
  {p : Program} {loose : List Str} {mg mb : Str → Option Value} {Q : Flow → Shared → Prop} {es : List DictEntry} {n : Nat} {ox : Obj} {x f : Addr} {name : Str} {apos pos pos2 : Pos} {o e : Expr}

theorem ex_ {e : Expr} (q : wpAny (model prog w) A (eval e env) (fun _ s' => Q .next s') E (up s h tk)) (hi : interactive env = false) (hs : swapsWith e none pos.line env = pure false) : wpAny (model prog w) A (exec (.Expr e pos) env) Q E (up s h tk) :=
  wpAny_Expr_any q hi hs

/-- o.name() as an expression -/
theorem ev_m0 {Q : Value → Shared → Prop} (hp : Pv prog w A env o (.ref x) h) (I : W.InstAt h x ox C (some (dictOf es n))) (X : K.In h) (pc : PlainCls K C) (hf : findIn K (.ref C) name = some (some (.ref f)))
    (ht : typeIn K (.ref f) = some (.type "function")) (hkeep : keepIn K (.ref f) = true) (hl : getL name es = some none)
    (q : ∀ tk, wpAny (model prog w) A (call (.ref f) [.ref x]) Q E (up s h tk)) {pl : Sem Bool}
    (hsh : (eval ((o.Attribute name apos).Call [] [] pos) env = do
          let ov ← eval o env
          standAt apos.atName
          let __x ← holding [ov] (getMethod ov name pl)
          match __x with
            | (f, first) => callWith pos f first (backTo pos (starEach [] env)) [])) :
    wpAny (model prog w) A (eval ((o.Attribute name apos).Call [] [] pos) env) Q E (up s h tk) :=
  meth0 (f := f) (x := x) (hp.at fun tk => ⟨rfl, X, I, q tk⟩) pc hf ht hkeep hl hsh
theorem ev_m1 {Q : Value → Shared → Prop} (hp : Pv prog w A env o (.ref x) h) (he : Pv prog w A env e v h) (I : W.InstAt h x ox C (some (dictOf es n))) (X : K.In h) (pc : PlainCls K C) (hf : findIn K (.ref C) name = some (some (.ref f)))
    (ht : typeIn K (.ref f) = some (.type "function")) (hkeep : keepIn K (.ref f) = true) (hl : getL name es = some none)
    (q : ∀ tk, wpAny (model prog w) A (call (.ref f) [.ref x, v]) Q E (up s h tk)) {pl : Sem Bool}
    (hst : starEach [e] env = (false, eval e env) :: starEach [] env) (hpl : (backTo pos (starEach [] env)).any (·.1) = false)
    (hsh : (eval ((o.Attribute name apos).Call [e] [] pos) env = do
          let ov ← eval o env
          standAt apos.atName
          let __x ← holding [ov] (getMethod ov name pl)
          match __x with
            | (f, first) => callWith pos f first (backTo pos (starEach [e] env)) [])) :
    wpAny (model prog w) A (eval ((o.Attribute name apos).Call [e] [] pos) env) Q E (up s h tk) :=
  meth (f := f) (x := x) (hp.at fun tk => ⟨rfl, X, I, spliced_more (he.at fun tk' => spliced_none ⟨X, q tk'⟩) hst⟩) pc hf ht hkeep hl hst hpl hsh

theorem St.setOd {h' : Heap} {o' : Obj} (S : St CN CL w g L m st h) (hs : Heap.SameBut st.dd h h') (ho : h'.get? st.dd = some o') : St CN CL w g L m { st with od := o' } h' := by
  have wf := S.wf
  simp only [addrs, List.nodup_cons, List.mem_cons, not_or] at wf
  have hd := S.off st.dd (.tail _ (.tail _ (.head _)))
  refine ⟨S.F.change hs hd.1 hd.2, fun q hq => ?_, S.wf, ⟨S.ok.F, S.ok.mru, S.ok.lru, S.ok.mx, S.ok.af⟩⟩
  have keep : ∀ q ∈ ledger CN CL w.params st, q.1 ≠ st.dd → h'.get? q.1 = some q.2 ∧ q.1 ≠ L ∧ g.get? q.1 = none := fun q hq e => ⟨(hs.2 _ e).trans (S.N q hq).1, (S.N q hq).2⟩
  rcases List.mem_cons.mp hq with rfl | hq
  · exact keep _ (.head _) fun e => wf.1.2.1 e
  rcases List.mem_cons.mp hq with rfl | hq
  · exact keep _ (.tail _ (.head _)) fun e => wf.2.1.1 e
  rcases List.mem_cons.mp hq with rfl | hq
  · exact ⟨ho, hd⟩
  · refine keep _ (.tail _ (.tail _ (.tail _ hq))) fun e => wf.2.2.1 ?_
    rw [← e]
    refine List.mem_append.mpr ((List.mem_append.mp hq).imp (fun hp => ?_) fun hp => List.mem_map_of_mem hp)
    rw [← nodeL_addrs CN w.params st.F]; exact List.mem_map_of_mem hp

section
variable {Ky : Type} [DecidableEq Ky] {T : DT prog w K Ky} {kvs : List (Ky × Value)} {k : Ky} {key : Value}

/-- self._cache.pop(e) -/
theorem ev_pop {Q : Value → Shared → Prop} (S : St CN CL w g L m st h) (X : K.In g) (hu : A.units + 8 < cLine) (ho : Pv prog w A env o (.ref st.dd) h) (he : Pv prog w A env e key h) (hk : T.isK k key) (hd : OD T st.od kvs) (hz : kvs.length ≤ 100000) (hv : valueAt kvs k = some v)
    (q : ∀ h' o' tk, OD T o' (without kvs k) → St CN CL w g L m { st with od := o' } h' → Q v (up s h' tk)) {pl : Sem Bool}
    (hst : starEach [e] env = (false, eval e env) :: starEach [] env) (hpl : (backTo pos (starEach [] env)).any (·.1) = false)
    (hsh : (eval ((o.Attribute "pop" apos).Call [e] [] pos) env = do
          let ov ← eval o env
          standAt apos.atName
          let __x ← holding [ov] (getMethod ov "pop" pl)
          match __x with
            | (f, first) => callWith pos f first (backTo pos (starEach [e] env)) [])) :
    wpAny (model prog w) A (eval ((o.Attribute "pop" apos).Call [e] [] pos) env) Q E (up s h tk) := by
  refine MethodCall_ (ho.at fun tk => ?_) hsh
  refine hd.method PySem.F.slot_dict_pop PySem.F.type_dict_pop (s := up s h tk) S.dget ?_
  refine callWith_method1 (spliced_more (he.at fun tk' => spliced_none ?_) hst) hst hpl
  exact hd.pop (s := up s h tk') (X.keeps S.F.keep) hu hk S.dget hz hv fun h' o' tk'' a b c => q h' o' tk'' c (S.setOd a b)
/-- self._cache.get(e, None) -/
theorem ev_get2 {Q : Value → Shared → Prop} {e2 : Expr} {dflt : Value} (S : St CN CL w g L m st h) (X : K.In g) (hu : A.units + 8 < cLine) (ho : Pv prog w A env o (.ref st.dd) h) (he : Pv prog w A env e key h) (he2 : Pv prog w A env e2 dflt h) (hk : T.isK k key) (hd : OD T st.od kvs) (hs : (st.dd == sysModules) = false)
    (q : ∀ tk, Q ((valueAt kvs k).getD dflt) (up s h tk)) {pl : Sem Bool}
    (hst : starEach [e, e2] env = (false, eval e env) :: starEach [e2] env) (hst2 : starEach [e2] env = (false, eval e2 env) :: starEach [] env) (hpl : (backTo pos (starEach [e2] env)).any (·.1) = false)
    (hsh : (eval ((o.Attribute "get" apos).Call [e, e2] [] pos) env = do
          let ov ← eval o env
          standAt apos.atName
          let __x ← holding [ov] (getMethod ov "get" pl)
          match __x with
            | (f, first) => callWith pos f first (backTo pos (starEach [e, e2] env)) [])) :
    wpAny (model prog w) A (eval ((o.Attribute "get" apos).Call [e, e2] [] pos) env) Q E (up s h tk) := by
  refine MethodCall_ (ho.at fun tk => ?_) hsh
  refine hd.method PySem.F.slot_dict_get PySem.F.type_dict_get (s := up s h tk) S.dget ?_
  refine callWith_method1 (spliced_more (he.at fun tk' => spliced_more (he2.at fun tk'' => spliced_none ?_) hst2) hst) hst hpl
  exact hd.get2 (s := up s h tk'') (X.keeps S.F.keep) hu hk S.dget hs fun tk => q tk

theorem Pv.get2 {e2 : Expr} {dflt : Value} (S : St CN CL w g L m st h) (X : K.In g) (hu : A.units + 8 < cLine) (ho : Pv prog w A env o (.ref st.dd) h) (he : Pv prog w A env e key h) (he2 : Pv prog w A env e2 dflt h) (hk : T.isK k key) (hd : OD T st.od kvs) (hs : (st.dd == sysModules) = false) {pl : Sem Bool}
    (hst : starEach [e, e2] env = (false, eval e env) :: starEach [e2] env) (hst2 : starEach [e2] env = (false, eval e2 env) :: starEach [] env) (hpl : (backTo pos (starEach [e2] env)).any (·.1) = false)
    (hsh : (eval ((o.Attribute "get" apos).Call [e, e2] [] pos) env = do
          let ov ← eval o env
          standAt apos.atName
          let __x ← holding [ov] (getMethod ov "get" pl)
          match __x with
            | (f, first) => callWith pos f first (backTo pos (starEach [e, e2] env)) [])) : Pv prog w A env ((o.Attribute "get" apos).Call [e, e2] [] pos) ((valueAt kvs k).getD dflt) h := fun s Q E hs' q => by
  subst hs'
  exact ev_get2 (s := s) (tk := s.toks) S X hu ho he he2 hk hd hs (fun tk => q tk) hst hst2 hpl hsh

/-- a value of a kind -/
noncomputable def PvE (prog : Program) (w : World) (A : Around) (env : Env) (e : Expr) (P : Value → Prop) (h : Heap) : Prop :=
  ∀ (s : Shared) (Q E : Value → Shared → Prop), s.heap = h → (∀ v tk, P v → Q v { s with toks := tk }) → wpAny (model prog w) A (eval e env) Q E s
theorem PvE.of {P : Value → Prop} (hp : Pv prog w A env e v h) (hv : P v) : PvE prog w A env e P h := fun s Q E hs q => hp s Q E hs fun tk => q _ tk hv
theorem PvE.at {P : Value → Prop} (hp : PvE prog w A env e P h) {Q : Value → Shared → Prop} (q : ∀ v tk, P v → Q v (up s h tk)) : wpAny (model prog w) A (eval e env) Q E (up s h tk) := hp (up s h tk) Q E rfl q

/-- len(o), o the dict -/
theorem PvE.len {fn : Expr} (S : St CN CL w g L m st h) (X : K.In g) (hfn : Pv prog w A env fn (.builtin "len") h) (ho : Pv prog w A env o (.ref st.dd) h) (hd : OD T st.od kvs) (hs : (st.dd == sysModules) = false) (hz : kvs.length ≤ 100000)
    (hst : starEach [o] env = (false, eval o env) :: starEach [] env) (hpl : (backTo pos (starEach [] env)).any (·.1) = false)
    (hsh : eval (fn.Call [o] [] pos) env = do
          let __do_lift ← eval fn env
          callWith pos __do_lift [] (backTo pos (starEach [o] env)) (backToKw pos (keywordEach [] env))) :
    PvE prog w A env (fn.Call [o] [] pos) (fun v => ∃ t, v = .int kvs.length t) h := fun s Q E hs' q => by
  subst hs'
  refine Call_ (hfn _ _ _ rfl fun tk => callWith_builtin1 (spliced_more (ho _ _ _ rfl fun tk' => spliced_none ?_) hst) hst hpl) hsh
  exact hd.len (s := { s with toks := tk' }) S.dget hs hz fun t tk => q _ _ ⟨t, rfl⟩
end
end
section
variable {prog : Program} {w : World} {K : Frag} {Ky : Type} [DecidableEq Ky] {T : DT prog w K Ky} {st st' : LS} {ord A B : List (Ky × Rg)} {kvs : List (Ky × Value)} {k : Ky} {r : Rg}

noncomputable def headV : List (Ky × Rg) → Value
  | [] => .none
  | a :: _ => .ref a.2.x
noncomputable def row (a : Ky × Rg) : Ky × Value := (a.1, .ref a.2.x)

/-- the cache is whole: ord tells its nodes, the latest first -/
structure Cst (T : DT prog w K Ky) (st : LS) (ord : List (Ky × Rg)) (kvs : List (Ky × Value)) : Prop where
  sub : ∀ a ∈ ord, a.2 ∈ st.reg
  nd : (ord.map (·.2.x)).Nodup
  seg : Seg st.F .none ord .none
  mru : st.mru = headV ord
  lru : st.lru = lastV .none ord
  key : ∀ a ∈ ord, T.isK a.1 (st.F a.2.x).key
  od : OD T st.od kvs
  perm : kvs.Perm (ord.map row)
  ne : (st.dd == sysModules) = false

/-- what the cache holds: key, value, clean-up, the latest first -/
noncomputable def vw (st : LS) (ord : List (Ky × Rg)) : List (Ky × Value × Value) := ord.map fun a => (a.1, (st.F a.2.x).val, (st.F a.2.x).cln)
theorem vw_congr (h : ∀ a ∈ ord, (st'.F a.2.x).val = (st.F a.2.x).val ∧ (st'.F a.2.x).cln = (st.F a.2.x).cln) : vw st' ord = vw st ord :=
  List.map_congr_left fun a ha => by rw [(h a ha).1, (h a ha).2]
theorem vw_keys : (vw st ord).map (·.1) = ord.map (·.1) := by unfold vw; rw [List.map_map]; rfl

theorem row_keys : (ord.map row).map (·.1) = ord.map (·.1) := by rw [List.map_map]; rfl
theorem Cst.keys_nd (C : Cst T st ord kvs) : (ord.map (·.1)).Nodup := by
  rw [← row_keys]; exact (C.perm.map _).nodup_iff.mp C.od.nodup
theorem Cst.len (C : Cst T st ord kvs) : kvs.length = ord.length := by rw [C.perm.length_eq, List.length_map]
theorem valueAt_mem {kvs : List (Ky × Value)} {k : Ky} {v : Value} (hn : (kvs.map (·.1)).Nodup) (h : (k, v) ∈ kvs) : valueAt kvs k = some v := by
  obtain ⟨i, hi⟩ := List.mem_iff_getElem?.mp h
  exact valueAt_of_get hn hi
theorem Cst.at (C : Cst T st ord kvs) (h : (k, r) ∈ ord) : valueAt kvs k = some (.ref r.x) :=
  valueAt_mem C.od.nodup (C.perm.mem_iff.mpr (List.mem_map.mpr ⟨_, h, rfl⟩))
theorem Cst.notAt (C : Cst T st ord kvs) (h : k ∉ ord.map (·.1)) : valueAt kvs k = none :=
  valueAt_none fun q => h (by rw [← row_keys]; exact (C.perm.map _).mem_iff.mp q)

theorem lastV_opt : ∀ {A : List (Ky × Rg)} {p : Value}, (A = [] ∧ lastV p A = p) ∨ ∃ A' a, A = A' ++ [a] ∧ lastV p A = .ref a.2.x
  | [], _ => .inl ⟨rfl, rfl⟩
  | a :: l, p => by
    rcases lastV_opt (A := l) (p := .ref a.2.x) with ⟨rfl, h⟩ | ⟨A', b, rfl, h⟩
    · exact .inr ⟨[], a, rfl, h⟩
    · exact .inr ⟨a :: A', b, rfl, h⟩

/-- the last node's facts -/
theorem Cst.last (C : Cst T st (A ++ [(k, r)]) kvs) : r ∈ st.reg ∧ st.lru = .ref r.x ∧ (∃ po, (st.F r.x).prev = optV po ∧ optV po = lastV .none A ∧ (po.isNone = A.isEmpty) ∧ ∀ p, po = some p → p ∈ st.reg ∧ r.x ≠ p.x ∧ ∃ A' k, A = A' ++ [(k, p)]) ∧ (st.F r.x).next = .none ∧ T.isK k (st.F r.x).key ∧ valueAt kvs k = some (.ref r.x) := by
  have hm : (k, r) ∈ A ++ [(k, r)] := List.mem_append_right _ (.head _)
  have s := C.seg
  rw [Seg.append] at s
  obtain ⟨-, s1, s2, -⟩ := s
  refine ⟨C.sub _ hm, by rw [C.lru, lastV_append (p := .none)]; rfl, ?_, s2, C.key _ hm, C.at hm⟩
  have hnd := C.nd
  rw [List.map_append, List.nodup_append] at hnd
  rcases lastV_opt (A := A) (p := .none) with ⟨rfl, h⟩ | ⟨A', ⟨k', p⟩, rfl, h⟩
  · exact ⟨none, s1, rfl, rfl, fun p e => nomatch e⟩
  · refine ⟨some p, s1.trans h, h.symm, by cases A' <;> rfl, fun q e => ?_⟩
    cases e
    exact ⟨C.sub (k', p) (List.mem_append_left _ (List.mem_append_right _ (.head _))), fun e => hnd.2.2 p.x (List.mem_map.mpr ⟨(k', p), List.mem_append_right _ (.head _), rfl⟩) r.x (.head _) e.symm, A', k', rfl⟩

/-- the state behind the removal of the last one -/
theorem Cst.remove {po : Option Rg} {o' : Obj} (C : Cst T st (A ++ [(k, r)]) kvs) (h1 : optV po = lastV .none A) (h2 : po.isNone = A.isEmpty) (h3 : ∀ p, po = some p → ∃ A' k, A = A' ++ [(k, p)]) (ho : OD T o' (without kvs k)) :
    Cst T { st with lru := optV po, mru := (if po.isNone then .none else st.mru), od := o', F := rmF st.F r.x po } A (without kvs k) ∧
    vw { st with lru := optV po, mru := (if po.isNone then .none else st.mru), od := o', F := rmF st.F r.x po } A = vw st A := by
  obtain ⟨a, b, c⟩ := rm_last (r := (k, r)) h1 h3 C.nd C.seg
  have hnd := C.nd
  rw [List.map_append, List.nodup_append] at hnd
  have hkn := C.keys_nd
  rw [List.map_append, List.nodup_append] at hkn
  refine ⟨⟨fun q hq => C.sub q (List.mem_append_left _ hq), hnd.1, a, ?_, h1, fun q hq => ?_, ho, ?_, C.ne⟩, vw_congr c⟩
  · show (if po.isNone then Value.none else st.mru) = headV A
    rw [h2]
    cases A with
    | nil => rfl
    | cons q A => rw [show List.isEmpty (q :: A) = false from rfl, if_neg Bool.false_ne_true, C.mru]; rfl
  · show T.isK q.1 (rmF st.F r.x po q.2.x).key
    rw [b]; exact C.key q (List.mem_append_left _ hq)
  · have p := (C.perm.filter fun kv => decide (kv.1 ≠ k))
    rw [List.map_append, List.filter_append] at p
    have e1 : (A.map row).filter (fun kv => decide (kv.1 ≠ k)) = A.map row := by
      rw [List.filter_eq_self]
      intro kv hkv
      obtain ⟨q, hq, rfl⟩ := List.mem_map.mp hkv
      exact decide_eq_true (hkn.2.2 q.1 (List.mem_map_of_mem hq) k (.head _))
    have e2 : ([(k, r)].map row).filter (fun kv => decide (kv.1 ≠ k)) = [] := by
      show List.filter _ [(k, Value.ref r.x)] = []
      rw [List.filter_cons]; simp
    rw [e1, e2, List.append_nil] at p
    exact p
end

section
variable {Ky : Type} [DecidableEq Ky] {X : Type}
noncomputable def look (V : List (Ky × X)) (k : Ky) : Option X := (V.find? fun e => decide (e.1 = k)).map (·.2)
noncomputable def rest (V : List (Ky × X)) (k : Ky) : List (Ky × X) := V.filter fun e => decide (e.1 ≠ k)
noncomputable def ins (V : List (Ky × X)) (k : Ky) (x : X) : List (Ky × X) := (k, x) :: rest V k
noncomputable def touch (V : List (Ky × X)) (k : Ky) : List (Ky × X) := match look V k with | some x => ins V k x | none => V

theorem look_cons {e : Ky × X} {V : List (Ky × X)} {k : Ky} : look (e :: V) k = if e.1 = k then some e.2 else look V k := by
  unfold look; rw [List.find?_cons]
  by_cases h : e.1 = k <;> simp [h]
theorem look_none {V : List (Ky × X)} {k : Ky} (h : k ∉ V.map (·.1)) : look V k = none := by
  induction V with
  | nil => rfl
  | cons e V ih =>
    simp only [List.map_cons, List.mem_cons, not_or] at h
    rw [look_cons, if_neg (fun q => h.1 q.symm), ih h.2]
theorem look_mid {A B : List (Ky × X)} {k : Ky} {x : X} (h : k ∉ A.map (·.1)) : look (A ++ (k, x) :: B) k = some x := by
  induction A with
  | nil => rw [List.nil_append, look_cons, if_pos rfl]
  | cons e A ih =>
    simp only [List.map_cons, List.mem_cons, not_or] at h
    rw [List.cons_append, look_cons, if_neg (fun q => h.1 q.symm), ih h.2]
theorem rest_none {V : List (Ky × X)} {k : Ky} (h : k ∉ V.map (·.1)) : rest V k = V := by
  unfold rest
  rw [List.filter_eq_self]
  intro e he
  exact decide_eq_true fun q => h (by rw [← q]; exact List.mem_map_of_mem he)
theorem rest_mid {A B : List (Ky × X)} {k : Ky} {x : X} (h : k ∉ A.map (·.1)) (h' : k ∉ B.map (·.1)) : rest (A ++ (k, x) :: B) k = A ++ B := by
  have a := rest_none h
  have b := rest_none h'
  unfold rest at a b ⊢
  rw [List.filter_append, List.filter_cons, a]
  simp only [ne_eq, not_true_eq_false, decide_false, Bool.false_eq_true, if_false]
  rw [b]
theorem mid_keys {A B : List (Ky × X)} {k : Ky} {x : X} (h : ((A ++ (k, x) :: B).map (·.1)).Nodup) : k ∉ A.map (·.1) ∧ k ∉ B.map (·.1) := by
  rw [List.map_append, List.nodup_append] at h
  obtain ⟨-, h2, h3⟩ := h
  rw [List.map_cons, List.nodup_cons] at h2
  exact ⟨fun q => h3 k q k (.head _) rfl, h2.1⟩

variable {prog : Program} {w : World} {K : Frag} {T : DT prog w K Ky} {st st' : LS} {ord A B : List (Ky × Rg)} {kvs : List (Ky × Value)} {k : Ky} {r : Rg}
theorem Cst.split (C : Cst T st ord kvs) (hk : k ∈ ord.map (·.1)) : ∃ D r D', ord = D ++ (k, r) :: D' := by
  obtain ⟨⟨k', r⟩, ha, rfl⟩ := List.mem_map.mp hk
  obtain ⟨D, D', e⟩ := List.append_of_mem ha
  exact ⟨D, r, D', e⟩
theorem vw_app : vw st (A ++ B) = vw st A ++ vw st B := List.map_append
theorem vw_cons {a : Ky × Rg} : vw st (a :: A) = (a.1, (st.F a.2.x).val, (st.F a.2.x).cln) :: vw st A := rfl
theorem Cst.look_hit (C : Cst T st (A ++ (k, r) :: B) kvs) : look (vw st (A ++ (k, r) :: B)) k = some ((st.F r.x).val, (st.F r.x).cln) ∧ rest (vw st (A ++ (k, r) :: B)) k = vw st (A ++ B) := by
  obtain ⟨h1, h2⟩ := mid_keys C.keys_nd
  rw [vw_app, vw_cons, vw_app]
  exact ⟨look_mid (by rw [vw_keys]; exact h1), rest_mid (by rw [vw_keys]; exact h1) (by rw [vw_keys]; exact h2)⟩
theorem Cst.touch_hit (C : Cst T st (A ++ (k, r) :: B) kvs) (h : ∀ y, (st'.F y).val = (st.F y).val ∧ (st'.F y).cln = (st.F y).cln) : vw st' ((k, r) :: (A ++ B)) = touch (vw st (A ++ (k, r) :: B)) k := by
  obtain ⟨h1, h2⟩ := C.look_hit
  unfold touch
  rw [h1]
  show _ = ins _ _ _
  unfold ins
  rw [h2, vw_cons, vw_congr fun a _ => h a.2.x, (h r.x).1, (h r.x).2]
theorem Cst.look_miss (C : Cst T st ord kvs) (hk : k ∉ ord.map (·.1)) : look (vw st ord) k = none ∧ touch (vw st ord) k = vw st ord ∧ rest (vw st ord) k = vw st ord := by
  have h := look_none (V := vw st ord) (k := k) (by rw [vw_keys]; exact hk)
  refine ⟨h, ?_, rest_none (by rw [vw_keys]; exact hk)⟩
  unfold touch; rw [h]
theorem len_touch {V : List (Ky × X)} (h : (V.map (·.1)).Nodup) : (touch V k).length = V.length := by
  unfold touch
  cases e : look V k with
  | none => rfl
  | some x =>
    have hm : k ∈ V.map (·.1) := by
      by_cases q : k ∈ V.map (·.1)
      · exact q
      · rw [look_none q] at e; cases e
    obtain ⟨⟨k', y⟩, ha, rfl⟩ := List.mem_map.mp hm
    obtain ⟨D, D', rfl⟩ := List.append_of_mem ha
    obtain ⟨a, b⟩ := mid_keys h
    show (ins _ _ _).length = _
    unfold ins
    rw [rest_mid a b]
    simp only [List.length_cons, List.length_append]; omega
end

section
variable {prog : Program} {w : World} {K : Frag} {Ky : Type} [DecidableEq Ky] {T : DT prog w K Ky} {st st' : LS} {D' l : List (Ky × Rg)} {kvs : List (Ky × Value)} {k : Ky} {r : Rg} {m : Ky × Rg}
structure HitF (T : DT prog w K Ky) (st : LS) (m : Ky × Rg) (l : List (Ky × Rg)) (k : Ky) (r : Rg) (D' : List (Ky × Rg)) (kvs : List (Ky × Value)) (p b : Rg) : Prop where
  mr : st.mru = .ref m.2.x
  mreg : m.2 ∈ st.reg
  ne : r.x ≠ m.2.x
  lru : st.lru = .ref b.x
  breg : b ∈ st.reg
  prev : (st.F r.x).prev = .ref p.x
  preg : p ∈ st.reg
  pne : r.x ≠ p.x
  nx0 : D' = [] → (st.F r.x).next = .none ∧ st.lru = .ref r.x
  nx1 : ∀ c D'', D' = c :: D'' → c.2 ∈ st.reg ∧ r.x ≠ c.2.x ∧ p.x ≠ c.2.x ∧ T.isK c.1 (st.F r.x).next ∧ valueAt kvs c.1 = some (.ref c.2.x) ∧ st.lru ≠ .ref r.x
  out : Cst T (recAcc st r m.2 (some p) (D'.head?.map (·.2))) ((k, r) :: ((m :: l) ++ D')) kvs
theorem Cst.hit (C : Cst T st ((m :: l) ++ (k, r) :: D') kvs) : ∃ p b, HitF T st m l k r D' kvs p b := by
  have nd := C.nd
  have nd0 := nd
  rw [List.map_append, List.nodup_append] at nd
  have s := C.seg
  rw [Seg.append] at s
  obtain ⟨-, s1, s2, s3⟩ := s
  have hml : m ∈ (m :: l) ++ (k, r) :: D' := .head _
  obtain ⟨A', a, hA', hla⟩ : ∃ A' a, m :: l = A' ++ [a] ∧ lastV (.none : Value) (m :: l) = .ref a.2.x := by
    rcases lastV_opt (A := m :: l) (p := .none) with ⟨q, -⟩ | q
    · cases q
    · exact q
  have haA : a ∈ m :: l := by rw [hA']; exact List.mem_append_right _ (.head _)
  have hlast : ∃ b ∈ (m :: l) ++ (k, r) :: D', st.lru = .ref b.2.x := by
    rcases lastV_opt (A := (m :: l) ++ (k, r) :: D') (p := .none) with ⟨q, -⟩ | ⟨A'', b, q, q2⟩
    · cases q
    · exact ⟨b, by rw [q]; exact List.mem_append_right _ (.head _), by rw [C.lru, q2]⟩
  obtain ⟨b, hb, hlru⟩ := hlast
  have ne : ∀ q ∈ m :: l, r.x ≠ q.2.x := fun q hq e => nd.2.2 _ (List.mem_map_of_mem (f := fun q : Ky × Rg => q.2.x) hq) r.x (.head _) e.symm
  have neB : ∀ q ∈ D', r.x ≠ q.2.x := by
    intro q hq e
    have := nd.2.1
    rw [List.map_cons, List.nodup_cons] at this
    exact this.1 (by show r.x ∈ _; rw [e]; exact List.mem_map_of_mem (f := fun q : Ky × Rg => q.2.x) hq)
  have lru1 : ∀ c D'', D' = c :: D'' → st.lru ≠ .ref r.x := by
    rintro c D'' rfl e
    rw [C.lru, lastV_append (p := .none)] at e
    have e : lastV (.ref c.2.x) D'' = .ref r.x := e
    rcases lastV_opt (A := D'') (p := .ref c.2.x) with ⟨-, q⟩ | ⟨A'', d, q, q2⟩
    · rw [q] at e; exact neB c (.head _) (Value.ref.inj e).symm
    · rw [q2] at e; exact neB d (.tail _ (by rw [q]; exact List.mem_append_right _ (.head _))) (Value.ref.inj e).symm
  have lru0 : D' = [] → st.lru = .ref r.x := by rintro rfl; rw [C.lru, lastV_append (p := .none)]; rfl
  refine ⟨a.2, b.2, by rw [C.mru]; rfl, C.sub _ hml, ne m (.head _), hlru, C.sub _ hb, s1.trans hla, C.sub _ (List.mem_append_left _ haA), ne a haA, fun e => ⟨by subst e; exact s2, lru0 e⟩, ?_, ?_⟩
  · rintro c D'' rfl
    have hc : c ∈ (m :: l) ++ (k, r) :: c :: D'' := List.mem_append_right _ (.tail _ (.head _))
    refine ⟨C.sub _ hc, neB c (.head _), fun e => nd.2.2 _ (List.mem_map_of_mem (f := fun q : Ky × Rg => q.2.x) haA) c.2.x (.tail _ (.head _)) e, ?_, C.at hc, lru1 c D'' rfl⟩
    rw [s2]; exact C.key c hc
  · have mv := rec_move (F := st.F) (n := .none) (A := m :: l) (B := D') (m := m) (p := a) (r := (k, r)) (po := some a.2) (qo := D'.head?.map (·.2)) rfl hA' rfl rfl nd0 C.seg
    have pm : ((m :: l) ++ (k, r) :: D').Perm ((k, r) :: ((m :: l) ++ D')) := List.perm_middle
    refine ⟨fun q hq => C.sub q (pm.mem_iff.mpr hq), (pm.map _).nodup_iff.mp nd0, mv, rfl, ?_, fun q hq => ?_, C.od, C.perm.trans (pm.map _), C.ne⟩
    · show (if st.lru = .ref r.x then (st.F r.x).prev else st.lru) = lastV .none ((k, r) :: ((m :: l) ++ D'))
      show _ = lastV (.ref r.x) ((m :: l) ++ D')
      rw [lastV_append (p := .none)]
      show _ = lastV (lastV (.ref m.2.x) l) D'
      cases D' with
      | nil => rw [if_pos (lru0 rfl), s1]; rfl
      | cons c D' =>
        rw [if_neg (lru1 c D' rfl), C.lru, lastV_append (p := .none)]; rfl
    · show T.isK q.1 (recF st.F r.x m.2.x _ _ q.2.x).key
      rw [recF_key]; exact C.key q (pm.mem_iff.mpr hq)
end

section
variable {prog : Program} {K : Frag} {CN CL : Addr} {w : World} {g h h₁ h₂ : Heap} {L : Addr} {m : Str → Option Value} {st st₁ st₂ : LS} {A : Around} {E : Value → Shared → Prop} {s : Shared} {tk : Nat} {r : Rg} {env : Env} {Q : Flow → Shared → Prop}
theorem Ctr.trans (a : Ctr CN CL w st st₁ h h₁) (b : Ctr CN CL w st₁ st₂ h₁ h₂) : Ctr CN CL w st st₂ h h₂ := by
  refine ⟨b.rep, fun x o n e => b.keeps x o (fun q => ?_) (a.keeps x o n e), fun x hx => ?_⟩
  · rcases a.fresh x q with z | z
    · exact n z
    · rw [e] at z; cases z
  · rcases b.fresh x hx with z | z
    · exact a.fresh x z
    · by_cases hx' : x ∈ addrs st
      · exact .inl hx'
      · cases q : h.get? x with
        | none => exact .inr rfl
        | some o => rw [a.keeps x o hx' q] at z; cases z

theorem St.back2 {m' : Str → Option Value} (S : St CN CL w g L m st h₁) (kk : ∀ b o, b ∉ addrs st → h.get? b = some o → g.get? b = some o) (S' : St CN CL w g L m' st₁ h₂) (C : Ctr CN CL w st st₁ h₁ h₂) : Ctr CN CL w st st₁ h h₂ := by
  refine S'.back kk fun x hx => ?_
  rcases C.fresh x hx with z | z
  · exact .inl z
  · by_cases hx' : x ∈ addrs st
    · exact .inl hx'
    · cases q : h.get? x with
      | none => exact .inr rfl
      | some o => rw [S.F.keep x o (kk x o hx' q)] at z; cases z

theorem assert_node {e : Expr} {msg : Option Expr} {pos : Pos} (S : St CN CL w g L m st h) (X : K.In g) (he : Pv prog w A env e (.ref r.x) h) (hr : r ∈ st.reg)
    (hb : findIn K (.ref CN) "__bool__" = some none) (hl : findIn K (.ref CN) "__len__" = some none) (q : ∀ tk, Q .next (up s h tk))
    (hsh : isTrue e env (eval e env) = do
          let v ← eval e env
          standAt e.pos
          holding [v] (truthy v)) : wpAny (model prog w) A (exec (.Assert e msg pos) env) Q E (up s h tk) :=
  wpAny_Assert_holds (isTrue_plain (he.at fun tk => truthy_K0 (s := up s h tk) S.F X (S.ninst hr) hb hl ⟨rfl, q tk⟩) hsh)

/-- what stays of the cache's own -/
structure Fixd (st st' : LS) : Prop where
  c : st'.c = st.c
  dd : st'.dd = st.dd
  reg : st'.reg = st.reg
  mx : st'.mx = st.mx
  af : st'.af = st.af
  ex : st'.ex = st.ex
theorem Fixd.refl : Fixd st st := ⟨rfl, rfl, rfl, rfl, rfl, rfl⟩
theorem Fixd.trans (a : Fixd st st₁) (b : Fixd st₁ st₂) : Fixd st st₂ := ⟨b.c.trans a.c, b.dd.trans a.dd, b.reg.trans a.reg, b.mx.trans a.mx, b.af.trans a.af, b.ex.trans a.ex⟩

inductive TurnP (s : Shared) (P : Nat → Heap → Prop) (n : Nat) (f : Flow) (s' : Shared) : Prop
  | mk (e : f = .next) (n' : Nat) (h' : Heap) (tk : Nat) (hn : n' < n) (es : s' = up s h' tk) (p : P n' h')
theorem while_inv {test : Expr} {body : List Stmt} {pos : Pos} (P : Nat → Heap → Prop) (R : Heap → Prop)
    (turn : ∀ n h tk, P n h → wpAny (model prog w) A (isTrue test env (eval test env)) (fun b s₂ => WhlIf b (wpAny (model prog w) A (execs body env) (TurnP s P n) (fun _ _ => False) s₂) (∃ h' tk, s₂ = up s h' tk ∧ R h')) (fun _ _ => False) (up s h tk))
    (n : Nat) (hp : P n h) : wpAny (model prog w) A (exec (.While test body [] pos) env) (NextP s R) (fun _ _ => False) (up s h tk) := by
  refine whl_start 1 ?_
  induction n using Nat.strongRecOn generalizing h tk with
  | ind n ih =>
    refine whl_turn PassesOwn.never (wpAny_mono (turn n h tk hp) (fun b s₂ z => ?_) fun _ _ z => z)
    cases b with
    | true =>
      refine WhlIf.yes rfl ?_
      have z' : wpAny (model prog w) A (execs body env) (TurnP s P n) (fun _ _ => False) s₂ := by unfold WhlIf at z; rw [if_pos rfl] at z; exact z
      refine wpAny_mono z' (fun f s' q => ?_) fun _ _ q => q
      obtain ⟨rfl, n', h', tk', hn, rfl, hp'⟩ := q
      exact ih n' hn hp'
    | false =>
      refine WhlIf.no rfl ?_
      unfold WhlIf at z
      rw [if_neg Bool.false_ne_true] at z
      obtain ⟨h', tk', e, r⟩ := z
      exact wpAny_execs_nil ⟨rfl, h', tk', e, r⟩

theorem frames_off {base : Heap} {as : List Addr} (k : ∀ b o, b ∉ as → h.get? b = some o → g.get? b = some o) : ∀ {l : List Env}, h.FunFrames base l → (∀ env ∈ l, ∀ a ∈ as, env.frame ≠ some a) → g.FunFrames base l
  | [], _, _ => trivial
  | env :: _, ⟨hk, ⟨L, o, hf, hn, ho, hd⟩, hr⟩, hne => ⟨hk, ⟨L, o, hf, hn, k L o (fun q => hne env (.head _) L q hf) ho, hd⟩, frames_off k hr fun e he => hne e (.tail _ he)⟩
end
section
variable {prog : Program} {K : Frag} {CN CL C : Addr} {w : World} {g h₀ h : Heap} {L : Addr} {m : Str → Option Value} {st : LS} {A : Around} {E : Value → Shared → Prop} {s : Shared} {tk tk₀ : Nat} {r : Rg} {v : Value} {env : Env}
  {p : Program} {loose : List Str} {mg mb : Str → Option Value} {Q : Flow → Shared → Prop} {x dx f : Addr}

theorem enterN {name qual : Str} {params : Arguments} {body : List Stmt} {scope : Scope} {dV kV doc pm cdv ct oc : Value} {an od : Option Addr} {osl : Array (Option Value)} {pos : List Value} {kw : List (Str × Value)} {binds : List (Str × Value)} {R : Result → Shared → Prop} {l : List (Addr × Obj)}
    (X : K.In h₀) (T : TopRead p loose mg mb h₀) (stays : ∀ b o, h₀.get? b = some o → h.get? b = some o) (hl : ∀ q ∈ l, h.get? q.1 = some q.2 ∧ h₀.get? q.1 = none)
    (ho : K.lookup f = some ⟨oc, od, .func (fnOf name qual params body scope dV kV doc pm an cdv ct), osl⟩) (hcd : codeIn K cdv qual = true) (hroom : A.depth < recursionLimit)
    (hbind : BindsTo (up s h tk₀) (fnOf name qual params body scope dV kV doc pm an cdv ct) ⟨pos, kw⟩ binds) (hloc : ∀ y ∈ binds, scope.names.lookup y.1 = some .local)
    (hco : scope.isCoroutine = false) (hgen : scope.isGenerator = false) (hk : scope.kind = .function) (hcell : ∀ x ∈ scope.names, x.2 ≠ .cell)
    (q : ∀ g L' h₁ tk, (∀ b o, b ∉ l.map (·.1) → h.get? b = some o → g.get? b = some o) → K.In g → TopRead p loose mg mb g → Fr g L' h₁ (fun y => binds.reverse.lookup y) → News g L' h₁ l →
      wpAny (model prog w) (A.deeper (envOf qual scope L' f cdv)) (execs body (envOf qual scope L' f cdv))
        (fun fl s' => R (.ok (.ret (match fl with | .ret v => v | _ => .none))) s') (fun _ _ => False) (up s h₁ tk)) : codeAny (model prog w) A (.call (.ref f) ⟨pos, kw⟩) R (up s h tk₀) := by
  have k0 : ∀ b o, b ∉ l.map (·.1) → h.get? b = some o → (hideAll h (l.map (·.1))).get? b = some o := fun b o n e => hideAll_get _ e n
  have st0 : ∀ b o, h₀.get? b = some o → (hideAll h (l.map (·.1))).get? b = some o := fun b o e => k0 b o (fun q => by
    obtain ⟨z, hz, rfl⟩ := List.mem_map.mp q
    rw [(hl z hz).2] at e; cases e) (stays b o e)
  refine codeAny_call_def (fd := fnOf name qual params body scope dV kV doc pm an cdv ct) (body := body) (binds := binds) hroom (stays _ _ (X _ _ ho)) rfl (T.nolimit.keeps stays) (codeRec_of (X.keeps stays) hcd) rfl hbind hcell hloc (fun h₁ hns hk₁ => ?_) hco hgen hk
  refine wpAny_mono (q (hideAll h (l.map (·.1))) h.objs.size h₁ _ k0 (X.keeps st0) (T.keeps st0) ⟨hns, fun b o e => hk₁ b o (of_hideAll _ e), Nat.le_of_eq (hideAll_size _ _)⟩ fun z hz => ?_) (fun _ _ x => x) fun _ _ x => x.elim
  exact ⟨hk₁ _ _ (hl z hz).1, Nat.ne_of_lt (Heap.lt_size (hl z hz).1), hideAll_none _ (List.mem_map_of_mem hz)⟩

/-- an object that its __init__ fills -/
structure Ini (C : Addr) (g : Heap) (L : Addr) (m : Str → Option Value) (x dx : Addr) (es : List DictEntry) (n : Nat) (h : Heap) : Prop where
  F : Fr g L h m
  N : News g L h [(x, instObj C dx), (dx, dictOf es n)]
  ne : x ≠ dx
theorem as_init {es : List DictEntry} {n : Nat} {name sn : Str} {e : Expr} {pos pos' np : Pos} (I : Ini C g L m x dx es n h) (X : K.In g) (pc : PlainCls K C) (a : Attr K C name) (he : Pv prog w A env e v h) (hp : Pv prog w A env (.Name sn np) (.ref x) h) (hl : (getL name es).isSome = true)
    (hu : ∀ t, (putL name (PyData.keyHash w.params name) (.str name t) v es, putN name es n) = (es ++ [⟨PyData.keyHash w.params name, .str name t, v⟩], n + 1)) (hz : es.length + 1 ≤ 1000)
    (q : ∀ h' tk t, Ini C g L m x dx (es ++ [⟨PyData.keyHash w.params name, .str name t, v⟩]) (n + 1) h' → Q .next (up s h' tk))
    (hs : swapsWith e (some (.Attribute (.Name sn np) name pos')) pos.line env = pure false) :
    wpAny (model prog w) A (exec (.Assign [.Attribute (.Name sn np) name pos'] e pos) env) Q E (up s h tk) := by
  refine plainObj_wpAny_Assign_Attribute (he.at fun tk => hp.at fun tk' => ?_) hs
  refine set_dict (s := up s h tk') I.F X I.N (W.InstAt.of_news I.N (.head _) (.tail _ (.head _))) rfl pc.sa pc.po a.taker pc.hd hl (hu _) (Upd.tail I.ne (Upd.head fun _ h => nomatch h)) (by simpa using hz) fun h' F' N' => q h' _ _ ⟨F', N', I.ne⟩
theorem Ini.pvName {x' : Str} {pos : Pos} {cn : Str} {cs : Scope} {a : Addr} {cd : Value} {es : List DictEntry} {n : Nat} (I : Ini C g L m x dx es n h) (hv : m x' = some v) (hk : cs.kind = .function) (hl : (envOf cn cs L a cd).kindOf x' = some .local) (hd : (x' == ("__debug__" : Str)) = false) :
    Pv prog w A (envOf cn cs L a cd) (.Name x' pos) v h := fun s Q E hs q => by subst hs; exact ld I.F hv (q s.toks) hk hl hd
theorem Ini.pvGlob {x' : Str} {pos : Pos} {cn : Str} {cs : Scope} {a : Addr} {cd : Value} {es : List DictEntry} {n : Nat} (I : Ini C g L m x dx es n h) (X : K.In g) (T : TopRead p loose mg mb g) (e : nsIn K mainGlobals x' = some (some v)) (hk : cs.kind = .function) (hx : (envOf cn cs L a cd).kindOf x' = some .globalImplicit) (hd : (x' == ("__debug__" : Str)) = false) :
    Pv prog w A (envOf cn cs L a cd) (.Name x' pos) v h := fun s Q E hs q => by subst hs; exact name_K I.F X T e (q s.toks) hk hx hd

/-- the ledger stays where only two others turn -/
theorem St.keep2 {h' : Heap} {as : List Addr} (S : St CN CL w g L m st h) (k : ∀ b o, b ∉ as → h.get? b = some o → h'.get? b = some o) (nx : ∀ a ∈ as, a ∉ addrs st ∧ a ≠ L ∧ g.get? a = none) : St CN CL w g L m st h' := by
  obtain ⟨o, es, ep, ho, r⟩ := S.F.ns
  refine ⟨⟨⟨o, es, ep, k _ _ (fun q => (nx _ q).2.1 rfl) ho, r⟩, fun b o e => k b o (fun q => ?_) (S.F.keep b o e), S.F.above⟩, fun q hq => ⟨k _ _ (fun z => (nx _ z).1 ?_) (S.N q hq).1, (S.N q hq).2⟩, S.wf, S.ok⟩
  · rw [(nx _ q).2.2] at e; cases e
  · rw [← ledger_addrs CN CL w.params]; exact List.mem_map_of_mem hq
/-- the new node joins the ledger -/
theorem St.join {f : NF} {t : Nat → Tok} (S : St CN CL w g L m st h) (nx : x ∉ addrs st) (ndx : dx ∉ addrs st) (ne : x ≠ dx) (hf : NFok f)
    (N : News g L h [(x, instObj CN dx), (dx, dictOf (nodeEs w.params t f) 6)]) :
    St CN CL w g L m { st with reg := ⟨x, dx, t⟩ :: st.reg, F := setF st.F x f } h := by
  have nx0 := nx
  simp only [addrs, List.mem_cons, not_or, List.mem_append] at nx
  refine ⟨S.F, fun q hq => ?_, ?_, ⟨setF_ok S.ok.F hf, S.ok.mru, S.ok.lru, S.ok.mx, S.ok.af⟩⟩
  · have e1 : setF st.F x f x = f := setF_self
    have hq : q ∈ (st.c, instObj CL st.dc) :: (st.dc, dictOf (cacheEs w.params st.ct st.dd st.mru st.lru st.mx st.af) 5) :: (st.dd, st.od) :: (((x, instObj CN dx) :: (dx, dictOf (nodeEs w.params t (setF st.F x f x)) 6) :: nodeL CN w.params (setF st.F x f) st.reg) ++ st.ex) := hq
    rw [e1, nodeL_other CN w.params st.F x f st.reg nx.2.2.2.1] at hq
    simp only [List.mem_cons, List.cons_append] at hq
    rcases hq with rfl | rfl | rfl | rfl | rfl | hq
    · exact S.N _ (.head _)
    · exact S.N _ (.tail _ (.head _))
    · exact S.N _ (.tail _ (.tail _ (.head _)))
    · exact N _ (.head _)
    · exact N _ (.tail _ (.head _))
    · exact S.N _ (.tail _ (.tail _ (.tail _ hq)))
  · show (st.c :: st.dc :: st.dd :: ((x :: dx :: regAddrs st.reg) ++ st.ex.map (·.1))).Nodup
    have pm : (st.c :: st.dc :: st.dd :: ((x :: dx :: regAddrs st.reg) ++ st.ex.map (·.1))).Perm (x :: dx :: addrs st) := by
      have p0 : (st.c :: st.dc :: st.dd :: x :: dx :: (regAddrs st.reg ++ st.ex.map (·.1))).Perm (x :: dx :: st.c :: st.dc :: st.dd :: (regAddrs st.reg ++ st.ex.map (·.1))) := by
        have : ([st.c, st.dc, st.dd] ++ ([x, dx] ++ (regAddrs st.reg ++ st.ex.map (·.1)))).Perm ([x, dx] ++ ([st.c, st.dc, st.dd] ++ (regAddrs st.reg ++ st.ex.map (·.1)))) := by
          generalize regAddrs st.reg ++ st.ex.map (·.1) = Z
          rw [← List.append_assoc [st.c, st.dc, st.dd] [x, dx] Z, ← List.append_assoc [x, dx] [st.c, st.dc, st.dd] Z]
          exact List.Perm.append_right _ List.perm_append_comm
        exact this
      exact p0
    rw [pm.nodup_iff, List.nodup_cons, List.nodup_cons]
    refine ⟨fun q => ?_, ndx, S.wf⟩
    rcases List.mem_cons.mp q with q | q
    · exact ne q
    · exact nx0 q

/-- what stays of the cache's own where nodes may be made -/
structure FixA (st st' : LS) : Prop where
  c : st'.c = st.c
  dd : st'.dd = st.dd
  mx : st'.mx = st.mx
  af : st'.af = st.af
  ex : st'.ex = st.ex
theorem Fixd.a {st st' : LS} (f : Fixd st st') : FixA st st' := ⟨f.c, f.dd, f.mx, f.af, f.ex⟩
theorem FixA.trans {st st₁ st₂ : LS} (a : FixA st st₁) (b : FixA st₁ st₂) : FixA st st₂ := ⟨b.c.trans a.c, b.dd.trans a.dd, b.mx.trans a.mx, b.af.trans a.af, b.ex.trans a.ex⟩

section
variable {Ky : Type} [DecidableEq Ky] {T : DT prog w K Ky} {kvs : List (Ky × Value)} {k : Ky} {key : Value} {ord : List (Ky × Rg)}
/-- links and keys as they were -/
theorem Cst.congr {F' : Addr → NF} (C : Cst T st ord kvs) (h : ∀ y, (F' y).prev = (st.F y).prev ∧ (F' y).next = (st.F y).next ∧ (F' y).key = (st.F y).key) : Cst T { st with F := F' } ord kvs :=
  ⟨C.sub, C.nd, C.seg.frame (fun y => (h y).2.2) fun a _ => ⟨(h a.2.x).1, (h a.2.x).2.1⟩, C.mru, C.lru, fun a ha => by show T.isK _ (F' _).key; rw [(h _).2.2]; exact C.key a ha, C.od, C.perm, C.ne⟩

/-- if key in self._cache -/
theorem if_in {l r : Expr} {body orelse : List Stmt} {pos pos' : Pos} (S : St CN CL w g L m st h) (X : K.In g) (hu : A.units + 8 < cLine) (hl : Pv prog w A env l key h) (hr : Pv prog w A env r (.ref st.dd) h) (hk : T.isK k key) (hd : OD T st.od kvs) (hs : (st.dd == sysModules) = false)
    (ht : (valueAt kvs k).isSome = true → ∀ tk, wpAny (model prog w) A (execs body env) Q E (up s h tk)) (hf : (valueAt kvs k).isSome = false → ∀ tk, wpAny (model prog w) A (execs orelse env) Q E (up s h tk))
    (hm : behindInMarks .In r = false) :
    wpAny (model prog w) A (exec (.If (.Compare l [.In] [r] pos') body orelse pos) env) Q E (up s h tk) := by
  refine wpAny_If (wpAny_isTrue_Compare1 (hl.at fun tk => hr.at fun tk' => ?_) hm)
  refine hd.isIn (s := up s h tk') (X.keeps S.F.keep) hu hk S.dget hs fun tk2 => ?_
  refine wpAny_truthy_bool ?_
  cases hv : (valueAt kvs k).isSome with
  | true => rw [if_pos rfl]; exact ht hv _
  | false => rw [if_neg Bool.false_ne_true]; exact hf hv _

/-- o[i] = e, o the dict -/
theorem as_item {o i e : Expr} {pos pos' : Pos} (S : St CN CL w g L m st h) (X : K.In g) (hu : A.units + 8 < cLine) (he : Pv prog w A env e v h) (ho : Pv prog w A env o (.ref st.dd) h) (hi : Pv prog w A env i key h) (hk : T.isK k key) (hd : OD T st.od kvs) (hz : kvs.length ≤ 100000)
    (q : ∀ h' o' tk, OD T o' (stored kvs k v) → St CN CL w g L m { st with od := o' } h' → Q .next (up s h' tk))
    (hs : swapsWith e (some (o.Subscript i pos')) pos.line env = pure false) : wpAny (model prog w) A (exec (.Assign [o.Subscript i pos'] e pos) env) Q E (up s h tk) :=
  wpAny_Assign_Subscript (he.at fun tk => ho.at fun tk' => hi.at fun tk2 => hd.setItem (s := up s h tk2) (X.keeps S.F.keep) hu hk S.dget hz fun h' o' tk3 a b c => q h' o' tk3 c (S.setOd a b)) hs

/-- if len(o) > n -/
theorem if_gt {l r : Expr} {a b : Int} {tb : Tok} {body orelse : List Stmt} {pos pos' : Pos} (hl : PvE prog w A env l (fun v => ∃ t, v = .int a t) h) (hr : Pv prog w A env r (.int b tb) h)
    (ht : b < a → ∀ tk, wpAny (model prog w) A (execs body env) Q E (up s h tk)) (hf : ¬ b < a → ∀ tk, wpAny (model prog w) A (execs orelse env) Q E (up s h tk))
    (hm : behindInMarks .Gt r = false) :
    wpAny (model prog w) A (exec (.If (.Compare l [.Gt] [r] pos') body orelse pos) env) Q E (up s h tk) := by
  refine wpAny_If (wpAny_isTrue_Compare1 (hl.at fun v tk hv => hr.at fun tk' => ?_) hm)
  obtain ⟨t, rfl⟩ := hv
  refine gt_int ?_
  refine wpAny_truthy_bool ?_
  by_cases hab : b < a
  · rw [decide_eq_true hab, if_pos rfl]; exact ht hab _
  · rw [decide_eq_false hab, if_neg Bool.false_ne_true]; exact hf hab _
end
end
section
variable {prog : Program} {K : Frag} {CN CL C : Addr} {w : World} {g h₀ h : Heap} {L : Addr} {m : Str → Option Value} {st : LS} {A : Around} {E : Value → Shared → Prop} {s : Shared} {tk tk₀ : Nat} {r : Rg} {v : Value} {env : Env}
  {Q : Flow → Shared → Prop}

noncomputable def IsI (a : Int) (v : Value) : Prop := ∃ t, v = .int a t
noncomputable def PvI (prog : Program) (w : World) (A : Around) (env : Env) (e : Expr) (a : Int) (h : Heap) : Prop := PvE prog w A env e (IsI a) h
theorem PvI.const {i : Int} {k : Nat} {pos : Pos} : PvI prog w A env (.Constant (.int i) k pos) i h := fun s Q E hs q =>
  wpAny_Constant_int (q _ _ ⟨_, rfl⟩)
theorem PvI.of {e : Expr} {a : Int} {t : Tok} (hp : Pv prog w A env e (.int a t) h) : PvI prog w A env e a h := PvE.of hp ⟨_, rfl⟩
theorem PvI.ofI {e : Expr} {a : Int} (hp : Pv prog w A env e v h) (hv : IsI a v) : PvI prog w A env e a h := PvE.of hp hv
theorem PvI.eq {e : Expr} {a b : Int} (hp : PvI prog w A env e a h) (q : a = b) : PvI prog w A env e b h := q ▸ hp
theorem PvI.mul {l r : Expr} {a b : Int} {pos : Pos} (hl : PvI prog w A env l a h) (hr : PvI prog w A env r b h) (hm : IntMulOk a b) : PvI prog w A env (.BinOp l .Mult r pos) (a * b) h := fun s Q E hs q => by
  refine wpAny_BinOp (hl _ _ _ hs fun v tk hv => hr _ _ _ hs fun v' tk' hv' => ?_)
  obtain ⟨t, rfl⟩ := hv
  obtain ⟨t', rfl⟩ := hv'
  exact mul_int (q _ _ ⟨_, rfl⟩) hm
theorem PvI.add {l r : Expr} {a b : Int} {pos : Pos} (hl : PvI prog w A env l a h) (hr : PvI prog w A env r b h) : PvI prog w A env (.BinOp l .Add r pos) (a + b) h := fun s Q E hs q => by
  refine wpAny_BinOp (hl _ _ _ hs fun v tk hv => hr _ _ _ hs fun v' tk' hv' => ?_)
  obtain ⟨t, rfl⟩ := hv
  obtain ⟨t', rfl⟩ := hv'
  exact add_int (q _ _ ⟨_, rfl⟩)
theorem PvI.mod {l r : Expr} {a b : Int} {pos : Pos} (hl : PvI prog w A env l a h) (hr : PvI prog w A env r b h) (hb : b ≠ 0) : PvI prog w A env (.BinOp l .Mod r pos) (a.fmod b) h := fun s Q E hs q => by
  refine wpAny_BinOp (hl _ _ _ hs fun v tk hv => hr _ _ _ hs fun v' tk' hv' => ?_)
  obtain ⟨t, rfl⟩ := hv
  obtain ⟨t', rfl⟩ := hv'
  exact mod_int hb (q _ _ ⟨_, rfl⟩)
theorem PvI.fdiv {l r : Expr} {a b : Int} {pos : Pos} (hl : PvI prog w A env l a h) (hr : PvI prog w A env r b h) (hb : b ≠ 0) (hs : b.natAbs < 1073741824) : PvI prog w A env (.BinOp l .FloorDiv r pos) (a.fdiv b) h := fun s Q E hs' q => by
  refine wpAny_BinOp (hl _ _ _ hs' fun v tk hv => hr _ _ _ hs' fun v' tk' hv' => ?_)
  obtain ⟨t, rfl⟩ := hv
  obtain ⟨t', rfl⟩ := hv'
  exact floordiv_int hb (q _ _ ⟨_, rfl⟩) (hp := .inl (PyProof.noPylong_small hs))

/-- the tests of ints -/
inductive ICmp : CmpOp → (Int → Int → Bool) → Prop
  | lt : ICmp .Lt fun a b => decide (a < b)
  | gt : ICmp .Gt fun a b => decide (b < a)
  | eq : ICmp .Eq fun a b => a == b
  | ne : ICmp .NotEq fun a b => a != b
theorem ICmp.wp {op : CmpOp} {f : Int → Int → Bool} (c : ICmp op f) {M : Model} {a b : Int} {t u : Tok} {Q E : Value → Shared → Prop} (q : Q (.bool (f a b)) s) : wpAny (model prog w) A (compareOp op (.int a t) (.int b u)) Q E s := by
  cases c with
  | lt => exact lt_int q
  | gt => exact gt_int q
  | eq => exact eq_int q
  | ne => exact ne_int q
theorem if_int {l r : Expr} {a b : Int} {op : CmpOp} {f : Int → Int → Bool} {body orelse : List Stmt} {pos pos' : Pos} (c : ICmp op f) (hl : PvI prog w A env l a h) (hr : PvI prog w A env r b h)
    (ht : f a b = true → ∀ tk, wpAny (model prog w) A (execs body env) Q E (up s h tk)) (hf : f a b = false → ∀ tk, wpAny (model prog w) A (execs orelse env) Q E (up s h tk))
    (hm : behindInMarks op r = false) :
    wpAny (model prog w) A (exec (.If (.Compare l [op] [r] pos') body orelse pos) env) Q E (up s h tk) := by
  refine wpAny_If (wpAny_isTrue_Compare1 (PvE.at hl fun v tk hv => PvE.at hr fun v' tk' hv' => ?_) hm)
  obtain ⟨t, rfl⟩ := hv
  obtain ⟨t', rfl⟩ := hv'
  refine c.wp (M := model prog w) (wpAny_truthy_bool ?_)
  cases hc : f a b with
  | true => rw [if_pos rfl]; exact ht hc _
  | false => rw [if_neg Bool.false_ne_true]; exact hf hc _

/-- x.name = e, of a value of a kind -/
theorem as_cacheE {o e : Expr} {name : Str} {pos pos' : Pos} {fld : LS → Value} {upd : LS → Value → LS} {P : Value → Prop} (S : St CN CL w g L m st h) (X : K.In g) (pc : PlainCls K CL)
    (he : PvE prog w A env e P h) (hp : Pv prog w A env o (.ref st.c) h) (n : CAt K CL name fld upd) (hv : ∀ v, P v → Nb v)
    (q : ∀ v, P v → ∀ h' tk, St CN CL w g L m (upd st v) h' → Q .next (up s h' tk))
    (hs : swapsWith e (some (.Attribute o name pos')) pos.line env = pure false) :
    wpAny (model prog w) A (exec (.Assign [.Attribute o name pos'] e pos) env) Q E (up s h tk) := by
  refine plainObj_wpAny_Assign_Attribute (he.at fun v tk hP => hp.at fun tk' => ?_) hs
  exact set_cache (s := up s h tk') S X pc n.at_ (n.get _ _) (fun _ _ => n.put _ _ _ _ _) (n.put' _ _) (n.okU _ _ S.ok (hv _ hP)) fun h' tk'' S' => q _ hP h' tk'' S'
theorem IsI.nb {a : Int} {v : Value} (h : IsI a v) : Nb v := by obtain ⟨t, rfl⟩ := h; exact Nb.int

theorem ret_E {e : Expr} {P : Value → Prop} {pos : Pos} (hp : PvE prog w A env e P h) (q : ∀ v tk, P v → Q (.ret v) (up s h tk)) : wpAny (model prog w) A (exec (.Return (some e) pos) env) Q E (up s h tk) :=
  wpAny_Return_some (hp.at q)

section
variable {Ky : Type} [DecidableEq Ky] {T : DT prog w K Ky} {kvs : List (Ky × Value)} {k : Ky} {key : Value}
/-- key in o, o the dict -/
theorem Pv.isIn {l r : Expr} {pos : Pos} (S : St CN CL w g L m st h) (X : K.In g) (hu : A.units + 8 < cLine) (hl : Pv prog w A env l key h) (hr : Pv prog w A env r (.ref st.dd) h) (hk : T.isK k key) (hd : OD T st.od kvs) (hs : (st.dd == sysModules) = false) (hm : behindInMarks .In r = false) :
    Pv prog w A env (.Compare l [.In] [r] pos) (.bool (valueAt kvs k).isSome) h := fun s Q E hs' q => by
  subst hs'
  refine wpAny_Compare1 (hl _ _ _ rfl fun tk => hr _ _ _ rfl fun tk' => ?_) hm
  exact hd.isIn (s := { s with toks := tk' }) (X.keeps S.F.keep) hu hk S.dget hs fun tk2 => q tk2
end
end
section
variable {prog : Program} {K : Frag} {CN CL C : Addr} {w : World} {g h₀ h : Heap} {L : Addr} {m : Str → Option Value} {st : LS} {A : Around} {E : Value → Shared → Prop} {s : Shared} {tk tk₀ : Nat} {r : Rg} {v v2 : Value} {env : Env}
  {p : Program} {loose : List Str} {mg mb : Str → Option Value} {Q : Flow → Shared → Prop} {x dx f : Addr} {es : List DictEntry} {n : Nat} {ox : Obj} {name kn : Str} {apos pos kp : Pos} {o e e2 : Expr}

/-- o.name(e, kn=e2) as an expression -/
theorem ev_mk1 {Q : Value → Shared → Prop} (hp : Pv prog w A env o (.ref x) h) (he : Pv prog w A env e v h) (he2 : Pv prog w A env e2 v2 h) (I : W.InstAt h x ox C (some (dictOf es n))) (X : K.In h) (pc : PlainCls K C) (hf : findIn K (.ref C) name = some (some (.ref f)))
    (ht : typeIn K (.ref f) = some (.type "function")) (hkeep : keepIn K (.ref f) = true) (hl : getL name es = some none)
    (q : ∀ tk, wpAny (model prog w) A (call (.ref f) [.ref x, v] [(kn, v2)]) Q E (up s h tk)) {pl : Sem Bool}
    (hst : starEach [e] env = (false, eval e env) :: starEach [] env)
    (hpl : ((backTo pos (starEach [e] env)).any (·.1) || (backToKw pos (keywordEach [⟨some kn, e2, kp⟩] env)).any (·.1.isNone)) = false)
    (hall : (backToKw pos (keywordEach [⟨some kn, e2, kp⟩] env)).all (·.1.isSome) = true)
    (hsh : eval (.Call (.Attribute o name apos) [e] [⟨some kn, e2, kp⟩] pos) env = (do
      let ov ← eval o env
      standAt apos.atName
      let (f, first) ← holding [ov] (getMethod ov name pl)
      callWith pos f first (backTo pos (starEach [e] env)) (backToKw pos (keywordEach [⟨some kn, e2, kp⟩] env)))) :
    wpAny (model prog w) A (eval ((o.Attribute name apos).Call [e] [⟨some kn, e2, kp⟩] pos) env) Q E (up s h tk) := by
  refine methodCall_KW (hp.at fun tk => ?_) hsh
  refine method_fn (s := up s h tk) X I pc.ga pc.gt hf ht (by show (lookIn name (dictOf es n)).map _ = _; rw [lookIn_dict, hl]; rfl) ?_
  refine callWith_KW X hkeep hall (spliced_more (he.at fun tk2 => spliced_none ?_) hst) hpl hst
  exact kws_cons (he2.at fun tk4 => kws_nil ⟨X, q tk4⟩)
/-- o.name(e, e2) as an expression -/
theorem ev_m2 {Q : Value → Shared → Prop} (hp : Pv prog w A env o (.ref x) h) (he : Pv prog w A env e v h) (he2 : Pv prog w A env e2 v2 h) (I : W.InstAt h x ox C (some (dictOf es n))) (X : K.In h) (pc : PlainCls K C) (hf : findIn K (.ref C) name = some (some (.ref f)))
    (ht : typeIn K (.ref f) = some (.type "function")) (hkeep : keepIn K (.ref f) = true) (hl : getL name es = some none)
    (q : ∀ tk, wpAny (model prog w) A (call (.ref f) [.ref x, v, v2]) Q E (up s h tk)) {pl : Sem Bool}
    (hst : starEach [e, e2] env = (false, eval e env) :: starEach [e2] env) (hst2 : starEach [e2] env = (false, eval e2 env) :: starEach [] env) (hpl : (backTo pos (starEach [e2] env)).any (·.1) = false)
    (hsh : (eval ((o.Attribute name apos).Call [e, e2] [] pos) env = do
          let ov ← eval o env
          standAt apos.atName
          let __x ← holding [ov] (getMethod ov name pl)
          match __x with
            | (f, first) => callWith pos f first (backTo pos (starEach [e, e2] env)) [])) :
    wpAny (model prog w) A (eval ((o.Attribute name apos).Call [e, e2] [] pos) env) Q E (up s h tk) :=
  meth (f := f) (x := x) (hp.at fun tk => ⟨rfl, X, I, spliced_more (he.at fun tk' => spliced_more (he2.at fun tk'' => spliced_none ⟨X, q tk''⟩) hst2) hst⟩) pc hf ht hkeep hl hst hpl hsh

/-- an object that its __init__ fills, with others beside -/
structure IniX (C : Addr) (g : Heap) (L : Addr) (m : Str → Option Value) (x dx : Addr) (es : List DictEntry) (n : Nat) (ex : List (Addr × Obj)) (h : Heap) : Prop where
  F : Fr g L h m
  N : News g L h ((x, instObj C dx) :: (dx, dictOf es n) :: ex)
  ne : x ≠ dx
  off : ∀ q ∈ ex, q.1 ≠ dx ∧ q.1 ≠ x
theorem as_iniX {ex : List (Addr × Obj)} {sn : Str} {pos' np : Pos} (I : IniX C g L m x dx es n ex h) (X : K.In g) (pc : PlainCls K C) (a : Attr K C name) (he : Pv prog w A env e v h) (hp : Pv prog w A env (.Name sn np) (.ref x) h) (hl : (getL name es).isSome = true)
    (hu : ∀ t, (putL name (PyData.keyHash w.params name) (.str name t) v es, putN name es n) = (es ++ [⟨PyData.keyHash w.params name, .str name t, v⟩], n + 1)) (hz : es.length + 1 ≤ 1000)
    (q : ∀ h' tk t, IniX C g L m x dx (es ++ [⟨PyData.keyHash w.params name, .str name t, v⟩]) (n + 1) ex h' → Q .next (up s h' tk))
    (hs : swapsWith e (some (.Attribute (.Name sn np) name pos')) pos.line env = pure false) :
    wpAny (model prog w) A (exec (.Assign [.Attribute (.Name sn np) name pos'] e pos) env) Q E (up s h tk) := by
  refine plainObj_wpAny_Assign_Attribute (he.at fun tk => hp.at fun tk' => ?_) hs
  refine set_dict (s := up s h tk') I.F X I.N (W.InstAt.of_news I.N (.head _) (.tail _ (.head _))) rfl pc.sa pc.po a.taker pc.hd hl (hu _) (Upd.tail I.ne (Upd.head fun q hq => (I.off q hq).1)) (by simpa using hz) fun h' F' N' => q h' _ _ ⟨F', N', I.ne, I.off⟩
theorem as_iniE {ex : List (Addr × Obj)} {sn : Str} {pos' np : Pos} {P : Value → Prop} (I : IniX C g L m x dx es n ex h) (X : K.In g) (pc : PlainCls K C) (a : Attr K C name) (he : PvE prog w A env e P h) (hp : Pv prog w A env (.Name sn np) (.ref x) h) (hl : (getL name es).isSome = true)
    (hu : ∀ v t, (putL name (PyData.keyHash w.params name) (.str name t) v es, putN name es n) = (es ++ [⟨PyData.keyHash w.params name, .str name t, v⟩], n + 1)) (hz : es.length + 1 ≤ 1000)
    (q : ∀ v, P v → ∀ h' tk t, IniX C g L m x dx (es ++ [⟨PyData.keyHash w.params name, .str name t, v⟩]) (n + 1) ex h' → Q .next (up s h' tk))
    (hs : swapsWith e (some (.Attribute (.Name sn np) name pos')) pos.line env = pure false) :
    wpAny (model prog w) A (exec (.Assign [.Attribute (.Name sn np) name pos'] e pos) env) Q E (up s h tk) := by
  refine plainObj_wpAny_Assign_Attribute (he.at fun v tk hv => hp.at fun tk' => ?_) hs
  refine set_dict (s := up s h tk') I.F X I.N (W.InstAt.of_news I.N (.head _) (.tail _ (.head _))) rfl pc.sa pc.po a.taker pc.hd hl (hu _ _) (Upd.tail I.ne (Upd.head fun q hq => (I.off q hq).1)) (by simpa using hz) fun h' F' N' => q v hv h' _ _ ⟨F', N', I.ne, I.off⟩
/-- x.name = {} -/
theorem as_iniD {sn : Str} {pos' np dp : Pos} (I : IniX C g L m x dx es n [] h) (X : K.In g) (pc : PlainCls K C) (a : Attr K C name) (hp : ∀ h, IniX C g L m x dx es n [] h → Pv prog w A env (.Name sn np) (.ref x) h) (hl : (getL name es).isSome = true)
    (hu : ∀ v t, (putL name (PyData.keyHash w.params name) (.str name t) v es, putN name es n) = (es ++ [⟨PyData.keyHash w.params name, .str name t, v⟩], n + 1)) (hz : es.length + 1 ≤ 1000)
    (q : ∀ h' tk t dd, L < dd → IniX C g L m x dx (es ++ [⟨PyData.keyHash w.params name, .str name t, .ref dd⟩]) (n + 1) [(dd, dictOf [] 0)] h' → Q .next (up s h' tk))
    (hs : swapsWith (.Dict [] [] dp) (some (.Attribute (.Name sn np) name pos')) pos.line env = pure false) :
    wpAny (model prog w) A (exec (.Assign [.Attribute (.Name sn np) name pos'] (.Dict [] [] dp) pos) env) Q E (up s h tk) := by
  refine plainObj_wpAny_Assign_Attribute ?_ hs
  refine wpAny_Dict_empty ?_
  have kx := fun b o (e : h.get? b = some o) => Heap.get?_push_of_some { cls := .type "dict", data := .dict #[] } e
  have fr : g.get? h.objs.size = none := next_is_new I.F
  have nL : h.objs.size ≠ L := (Nat.ne_of_lt I.F.ns.lt).symm
  have nn : ∀ q ∈ [(x, instObj C dx), (dx, dictOf es n)], q.1 ≠ h.objs.size := fun q hq => Nat.ne_of_lt (Heap.lt_size (I.N q hq).1)
  have I2 : IniX C g L m x dx es n [(h.objs.size, dictOf [] 0)] (h.push { cls := .type "dict", data := .dict #[] }) := by
    refine ⟨I.F.push _, fun q hq => ?_, I.ne, fun q hq => ?_⟩
    · simp only [List.mem_cons, List.not_mem_nil, or_false] at hq
      rcases hq with rfl | rfl | rfl
      · exact ⟨kx _ _ (I.N _ (.head _)).1, (I.N _ (.head _)).2⟩
      · exact ⟨kx _ _ (I.N _ (.tail _ (.head _))).1, (I.N _ (.tail _ (.head _))).2⟩
      · exact ⟨Heap.get?_push_size _ rfl, nL, fr⟩
    · rw [List.mem_singleton.mp hq]
      exact ⟨(nn _ (.tail _ (.head _))).symm, (nn _ (.head _)).symm⟩
  have I3 : IniX C g L m x dx es n [] (h.push { cls := .type "dict", data := .dict #[] }) := ⟨I2.F, fun q hq => I2.N q (by
    simp only [List.mem_cons, List.not_mem_nil, or_false] at hq ⊢
    rcases hq with rfl | rfl
    · exact .inl rfl
    · exact .inr (.inl rfl)), I.ne, fun q hq => nomatch hq⟩
  refine Pv.at (s := s) (tk := tk) (hp _ I3) fun tk' => ?_
  refine set_dict (s := up s (h.push { cls := .type "dict", data := .dict #[] }) tk') I2.F X I2.N (W.InstAt.of_news I2.N (.head _) (.tail _ (.head _))) rfl pc.sa pc.po a.taker pc.hd hl (hu _ _) (Upd.tail I.ne (Upd.head fun q hq => (I2.off q hq).1)) (by simpa using hz) fun h' F' N' => q h' _ _ _ I.F.ns.lt ⟨F', N', I.ne, I2.off⟩
theorem IniX.pvName {ex : List (Addr × Obj)} {x' : Str} {pos : Pos} {cn : Str} {cs : Scope} {a : Addr} {cd : Value} (I : IniX C g L m x dx es n ex h) (hv : m x' = some v) (hk : cs.kind = .function) (hl : (envOf cn cs L a cd).kindOf x' = some .local) (hd : (x' == ("__debug__" : Str)) = false) :
    Pv prog w A (envOf cn cs L a cd) (.Name x' pos) v h := fun s Q E hs q => by subst hs; exact ld I.F hv (q s.toks) hk hl hd
theorem IniX.attr {ex : List (Addr × Obj)} {env : Env} {pos : Pos} (I : IniX C g L m x dx es n ex h) (X : K.In g) (pc : PlainCls K C) (hp : Pv prog w A env o (.ref x) h) (a : Attr K C name) (hl : getL name es = some (some v)) (hv : Nb v)
    (hsh : eval (o.Attribute name pos) env = (do
          let ov ← eval o env
          standAt pos.atName
          let r ← holding [ov] (getAttr ov name true)
          letTemporaryGo o ov r
          pure r)) : Pv prog w A env (o.Attribute name pos) v h := fun s Q E hs q => by
  subst hs
  refine attr_any (hp _ _ _ rfl fun tk => ?_) hsh
  exact get_value (s := { s with toks := tk }) (X.keeps I.F.keep) (W.InstAt.of_news I.N (.head _) (.tail _ (.head _))) pc.ga (findObj_own pc.hd a.no rfl hl) hv.handed (q _)
end
section
variable {prog : Program} {w : World} {K : Frag}
theorem eok_keys {es : List DictEntry} {kvs : List (Int × Value)} (h : EOk (fun k v => (intKind prog w).is k v = true) (intKind prog w).hash es kvs) : Pairs (intKind prog w) es kvs ∧ ∀ e ∈ es, ∃ k, (intKind prog w).is k e.key = true ∧ e.hash = (intKind prog w).hash k := by
  induction h with
  | nil => exact ⟨.nil, fun e he => nomatch he⟩
  | cons h1 h2 h3 _ ih => exact ⟨.cons h1 h3 ih.1, fun e he => (List.mem_cons.mp he).elim (fun q => ⟨_, q ▸ h1, q ▸ h2⟩) (ih.2 e)⟩
theorem eok_keysOf {es : Array DictEntry} {kvs : List (Int × Value)} (h : EOk (fun k v => (intKind prog w).is k v = true) (intKind prog w).hash es.toList kvs) : KeysOf (intKind prog w) es :=
  fun e he => (eok_keys h).2 e (Array.mem_toList_iff.mpr he)

theorem arr_idx {es : Array DictEntry} {f : DictEntry → Bool} : es.findIdx? f = es.toList.findIdx? f := by obtain ⟨l⟩ := es; simp
/-- keys that are ints -/
noncomputable def TI (prog : Program) (w : World) (K : Frag) : DT prog w K Int where
  isK := fun k v => (intKind prog w).is k v = true
  hash := (intKind prog w).hash
  nb := fun h => by obtain ⟨t, rfl⟩ := Value.isInt_shape h; exact Nb.int
  notNone := fun h e => by obtain ⟨t, rfl⟩ := Value.isInt_shape h; cases e
  pyHash := fun _ _ hk q => (intKind prog w).pyHash hk (q _)
  find := fun _ _ hk ho hd he hn q => wpAny_dictFind_of hk ho hd (eok_keysOf he) (by
    rw [arr_idx, (eok_keys he).1.findIdx]; exact q)
theorem TI.isK_int {k : Int} {t : Tok} : (TI prog w K).isK k (.int k t) := intKind_is prog w k t
theorem TI.shape {k : Int} {v : Value} (h : (TI prog w K).isK k v) : IsI k v := Value.isInt_shape h

theorem OD.dictAt {h : Heap} {d : Addr} {o : Obj} {kvs : List (Int × Value)} (hd : OD (TI prog w K) o kvs) (ho : h.get? d = some o) : ∃ ep, h.DictAt (intKind prog w) d kvs ep :=
  let ⟨hx, es, ep, hdat, he, hn⟩ := hd
  ⟨ep, o, es, ho, hx, hdat, eok_keysOf he, (eok_keys he).1, hn⟩
end

section
variable {prog : Program} {K : Frag} {CN CL C : Addr} {w : World} {g h₀ h h' : Heap} {L : Addr} {m : Str → Option Value} {st : LS} {A : Around} {E : Value → Shared → Prop} {s : Shared} {tk tk₀ : Nat} {r : Rg} {v v2 : Value} {env : Env}

noncomputable def Grow (h h' : Heap) : Prop := ∀ b o, h.get? b = some o → h'.get? b = some o
theorem Grow.refl : Grow h h := fun _ _ e => e
theorem Grow.trans {h2 : Heap} (a : Grow h h') (b : Grow h' h2) : Grow h h2 := fun x o e => b x o (a x o e)
theorem Grow.push {o : Obj} : Grow h (h.push o) := fun _ _ e => Heap.get?_push_of_some _ e
theorem St.grow (S : St CN CL w g L m st h) (k : Grow h h') : St CN CL w g L m st h' := by
  obtain ⟨o, es, ep, ho, r⟩ := S.F.ns
  exact ⟨⟨⟨o, es, ep, k _ _ ho, r⟩, fun b o e => k b o (S.F.keep b o e), S.F.above⟩, fun q hq => ⟨k _ _ (S.N q hq).1, (S.N q hq).2⟩, S.wf, S.ok⟩

theorem cd_loop {kx vx target iter : Expr} {scope : Scope} {pos : Pos} {it : Value} {D : Addr} {env : Env} {R : Result → Shared → Prop} (I : Nat → Shared → Prop)
    (turn : ∀ n s, I n s → wpAny (model prog w) A (pyNext it) (fun r s₁ => match r with
      | none => R (.ok .next) s₁
      | some v => wpAny (model prog w) A (letOwnedTupleGo target it v) (fun _ s₀ => wpAny (model prog w) A (assign target env v) (fun _ s₂ =>
          wpAny (model prog w) A (eval kx env) (fun kv s₄ => wpAny (model prog w) A (eval vx env) (fun vv s₅ =>
            wpAny (model prog w) A (dictSet D kv vv) (fun _ s₆ => ∃ m, m < n ∧ I m s₆) (notedBy (model prog w) A env fun e s' => R (.error e) s') s₅) (notedBy (model prog w) A env fun e s' => R (.error e) s') s₄) (notedBy (model prog w) A env fun e s' => R (.error e) s') s₂)
          (notedBy (model prog w) A env fun e s' => R (.error e) s') s₀) (notedBy (model prog w) A env fun e s' => R (.error e) s') s₁) (notedBy (model prog w) A env fun e s' => R (.error e) s') s)
    (n : Nat) (h : I n s) : codeAny (model prog w) A (.compLoop (.DictComp kx vx [⟨target, iter, [], 0⟩] scope pos) 0 it (.ref D) env) R s := by
  refine codeAny_loop rfl I (fun n s hI => ?_) n h
  show wpAny _ A ((compTurn (.DictComp kx vx [⟨target, iter, [], 0⟩] scope pos) 0 it (.ref D) env).onRaise (fun x => do noteFrame x env; theTreesLotGoes x)) _ _ s
  refine wpAny_noted ?_
  rw [compTurn_dict]
  refine wpAny_bind (wpAny_standAt (wpAny_bind (wpAny_mono (turn n s hI) (fun r s₁ h₁ => ?_) fun _ _ h' => h')))
  cases r with
  | none => exact wpAny_pure h₁
  | some v =>
    refine wpAny_bind (wpAny_mono h₁ (fun _ s₀ h₀' => ?_) fun _ _ h' => h')
    refine wpAny_bind (wpAny_mono h₀' (fun _ s₂ h₂ => ?_) fun _ _ h' => h')
    refine wpAny_bind (wpAny_tests_nil ?_)
    exact wpAny_bind (wpAny_bind (wpAny_mono h₂ (fun kv s₄ h₄ => wpAny_bind (wpAny_holding (wpAny_mono h₄ (fun vv s₅ h₅ => wpAny_bind (wpAny_standAt (wpAny_holding (wpAny_mono h₅ (fun _ s₆ h₆ => wpAny_pure ⟨rfl, h₆⟩) fun _ _ h' => h')))) fun _ _ h' => h'))) fun _ _ h' => h'))

noncomputable def nodeVal (st : LS) : Value → Value
  | .ref x => (st.F x).val
  | v => v
theorem stored_new {Ky : Type} [DecidableEq Ky] {kvs : List (Ky × Value)} {k : Ky} {v : Value} (h : k ∉ kvs.map (·.1)) : stored kvs k v = kvs ++ [(k, v)] := by
  unfold stored
  rw [if_neg]
  rw [List.any_eq_true]
  rintro ⟨kv, hkv, he⟩
  exact h (List.mem_map.mpr ⟨kv, hkv, of_decide_eq_true he⟩)

/-- the comprehension over items(), i pairs taken -/
inductive ItemsP (prog : Program) (w : World) (K : Frag) (s : Shared) (st : LS) (h1 : Heap) (I Dd Cc : Addr) (ep : Nat) (kvs : List (Int × Value)) (n : Nat) (s' : Shared) : Prop
  | mk (h' : Heap) (tk' i : Nat) (m' : Str → Option Value) (oD : Obj) (ok ov : Value) (es : s' = up s h' tk') (hi : i ≤ kvs.length) (hn : n = kvs.length + 1 - i) (G : Grow h1 h') (it : IsItemIter h' I st.dd i kvs.length ep ok ov) (ns : h'.Ns Cc m') (hD : h'.get? Dd = some oD)
    (od : OD (TI prog w K) oD ((kvs.take i).map fun kv => (kv.1, nodeVal st kv.2)))
theorem comp_items {kn nn : Str} {kp np ap pk pn tp pos : Pos} {kk : Nat} {scope : Scope} {iter : Expr} {cl : List (Str × Addr)} {Q : Value → Shared → Prop} {ord : List (Int × Rg)} {kvs : List (Int × Value)}
    (S : St CN CL w g L m st h) (X : K.In g) (pc : PlainCls K CN) (at_ : Attr K CN "value") (C : Cst (TI prog w K) st ord kvs) (hh : A.handled = none) (hu : A.units + 8 < cLine) (hz : kvs.length ≤ 100000)
    (hiter : ∀ (Q : Value → Shared → Prop), (∀ h1 tk v, Grow h h1 → h1.IsItemsView v st.dd → Q (.ref v) (up s h1 tk)) → wpAny (model prog w) A (eval iter env) Q E (up s h tk₀))
    (hclos : closureFor scope env = pure cl) (hcell : ∀ y ∈ scope.names, y.2 ≠ .cell) (hkind : scope.kind = .function)
    (hnames : ∀ y ∈ scope.names, y.2 = .local → scope.names.lookup y.1 = some .local) (hxa : scope.names.lookup kn = some .local) (hxb : scope.names.lookup nn = some .local) (hab : ¬ kn = nn)
    (hd1 : (kn == ("__debug__" : Str)) = false) (hd2 : (nn == ("__debug__" : Str)) = false)
    (hs : ∀ x, foldedSetIterable iter env x = pure x)
    (hsh : ∀ env, eval ((Expr.Name nn np).Attribute "value" ap) env = (do
          let ov ← eval (Expr.Name nn np) env
          standAt ap.atName
          let r ← holding [ov] (getAttr ov "value" true)
          letTemporaryGo (Expr.Name nn np) ov r
          pure r))
    (hq : ∀ h' tk a o', Grow h h' → L < a → h.get? a = none → h'.get? a = some o' → OD (TI prog w K) o' (kvs.map fun kv => (kv.1, nodeVal st kv.2)) → Q (.ref a) (up s h' tk)) :
    wpAny (model prog w) A (eval (.DictComp (.Name kn kp) (.Attribute (.Name nn np) "value" ap) [⟨.Tuple [.Name kn pk, .Name nn pn] kk tp, iter, [], 0⟩] scope pos) env) Q E (up s h tk₀) := by
  rw [arm_eval_DictComp]
  refine wpAny_comprehension_free (use := none) rfl hs hclos hkind hnames (hiter _ fun h1 tk1 vw G1 hv => ?_)
  obtain ⟨ep, hat⟩ := C.od.dictAt S.dget
  have hat1 : h1.DictAt (intKind prog w) st.dd kvs ep := hat.keep G1
  refine wpAny_pyIter_items hv hat1 ?_
  refine gen_ (a := h1.objs.size) fun I hI => ?_
  refine gen_ (a := h1.push { cls := .type "dict_itemiterator", data := .fields #[.none, .bool false, .ref st.dd, .int 0 0, .int kvs.length 0, .int ep 0, .none, .none] }) fun H1 hH1 => ?_
  have GH1 : Grow h1 H1 := hH1 ▸ Grow.push
  have hit : IsItemIter H1 I st.dd 0 kvs.length ep .none .none := by rw [← hH1, ← hI]; exact Heap.get?_push_size _ rfl
  have hH1s : H1.objs.size = I + 1 := by rw [← hH1, Heap.size_push, hI]
  refine wpAny_newObj_type (wpAny_newFunctionEnv hcell (by intro y hy; simp at hy) (fun h3 hns3 hsb3 => ?_) hkind)
  obtain ⟨mm, hns3⟩ : ∃ mm, h3.Ns _ mm := ⟨_, hns3⟩
  have hns3 : h3.Ns (H1.push { cls := .type "dict", dict := none, data := .dict #[] }).objs.size mm := by rw [← hH1]; exact hns3
  have hsb3 : Heap.SameBut (H1.push { cls := .type "dict", dict := none, data := .dict #[] }).objs.size ((H1.push { cls := .type "dict", dict := none, data := .dict #[] }).push { cls := .type (if (some env).isSome = true then "dict" else "frame"), data := .dict #[] }) h3 := by rw [← hH1]; exact hsb3
  refine gen_ (a := H1.push { cls := .type "dict", dict := none, data := .dict #[] }) fun H2 hH2 => ?_
  rw [hH2] at hns3 hsb3
  refine gen_ (a := H1.objs.size) fun Dd hDd => ?_
  have hC : H2.objs.size = Dd + 1 := by rw [← hH2, Heap.size_push, hDd]
  refine gen_ (a := H2.objs.size) fun Cc hCc => ?_
  rw [hCc] at hns3 hsb3 hC
  have hID : I < Dd := by rw [← hDd, hH1s]; exact Nat.lt_succ_self _
  have hDC : Dd < Cc := by rw [hC]; exact Nat.lt_succ_self _
  have hIC : I < Cc := Nat.lt_trans hID hDC
  have lt1 : ∀ b o, h1.get? b = some o → b < I := fun b o e => hI ▸ Heap.lt_size e
  have old1 : ∀ b o, H1.get? b = some o → h3.get? b = some o := fun b o e => hsb3.extBut b o (Nat.ne_of_lt (Nat.lt_trans (hDd ▸ Heap.lt_size e) hDC)) (Heap.get?_push_of_some _ (by rw [← hH2]; exact Heap.get?_push_of_some _ e))
  have hD3 : h3.get? Dd = some (dictOf [] 0) := hsb3.extBut _ _ (Nat.ne_of_lt hDC) (Heap.get?_push_of_some _ (by rw [← hH2, ← hDd]; exact Heap.get?_push_size _ rfl))
  have fD : h.get? Dd = none := by
    cases e : h.get? Dd with
    | none => rfl
    | some o => exact absurd (lt1 _ _ (G1 _ _ e)) (Nat.not_lt.mpr (Nat.le_of_lt hID))
  have LD : L < Dd := by
    obtain ⟨oL, _, _, hoL, _⟩ := S.F.ns
    exact Nat.lt_trans (lt1 L oL (G1 L oL hoL)) hID
  have loop : ∀ s₃ : Shared, (∃ tk, s₃ = up s h3 tk) → codeAny (model prog w) A (.compLoop (.DictComp (.Name kn kp) (.Attribute (.Name nn np) "value" ap) [⟨.Tuple [.Name kn pk, .Name nn pn] kk tp, iter, [], 0⟩] scope pos) 0 (.ref I) (.ref Dd) (compEnvC scope cl Cc env))
      (compPost (model prog w) A E none Q (.ref Dd) Cc) s₃ := by
    rintro s₃ ⟨tk3, rfl⟩
    refine cd_loop (ItemsP prog w K s st h1 I Dd Cc ep kvs) ?_ (kvs.length + 1)
      ⟨h3, tk3, 0, _, dictOf [] 0, _, _, rfl, Nat.zero_le _, rfl, fun b o e => old1 b o (GH1 b o e), old1 _ _ hit, hns3, hD3, OD.new⟩
    rintro n s' ⟨h4, tk4, i, m4, oD, ok, ov, rfl, hi, rfl, G4, hit4, hns4, hD4, hOD4⟩
    have hat4 : h4.DictAt (intKind prog w) st.dd kvs ep := hat1.keep G4
    by_cases hlt : i < kvs.length
    · obtain ⟨⟨k, x⟩, hx⟩ : ∃ q, kvs[i]? = some q := ⟨kvs[i], by simp [hlt]⟩
      refine wpAny_pyNext_items_item (s := up s h4 tk4) hit4 hat4 hx fun key h5 hkey ho5 hT5 hsz5 hk5 => ?_
      have hT : h4.objs.size < h5.objs.size := by show _ < h5.objs.size; rw [hsz5]; exact Nat.lt_succ_self _
      have hTne : h4.objs.size ≠ I := Nat.ne_of_gt (Heap.lt_size hit4)
      refine wpAny_letOwnedTupleGo_items (s := up s h5 tk4) ho5 fun h6 hit6 hs6 => ?_
      have hT6 : h6.IsTuple h4.objs.size #[key, x] := ⟨_, hs6.extBut _ _ hTne hT5, rfl, _, rfl⟩
      have up6 : ∀ b o, b ≠ I → h4.get? b = some o → h6.get? b = some o := fun b o hb e => hs6.extBut b o hb (hk5 b o hb e)
      refine kcp_assign (s := up s h6 tk4) (env := compEnvC scope cl Cc env) hh hT6 (lookup_relabel_local hxa) (lookup_relabel_local hxb) (by simp [compEnvC, relabel, hkind]) (hns4.at' fun o e => up6 _ o (Nat.ne_of_gt hIC) e) fun h7 tk7 hns7 hs7 => ?_
      have up7 : ∀ b o, b ≠ I → b ≠ Cc → h4.get? b = some o → h7.get? b = some o := fun b o hb hc e => hs7 b o hc (up6 b o hb e)
      have G7 : Grow h1 h7 := fun b o e => up7 b o (Nat.ne_of_lt (lt1 b o e)) (Nat.ne_of_lt (Nat.lt_trans (lt1 b o e) hIC)) (G4 b o e)
      have hit7 : IsItemIter h7 I st.dd (i + 1) kvs.length ep key x := hs7 I _ (Nat.ne_of_lt hIC) hit6
      have hk : (compEnvC scope cl Cc env).scope.kind = .function := hkind
      refine wpAny_Name (wpAny_loadName_local (s := up s h7 tk7) hk (lookup_relabel_local hxa) hns7 (v := key) (by simp [hab]) ?_) hd1
      have hmem : (k, x) ∈ ord.map row := C.perm.mem_iff.mp (List.mem_of_getElem? hx)
      obtain ⟨⟨k', r⟩, hra, hre⟩ := List.mem_map.mp hmem
      obtain rfl : k = k' := (congrArg Prod.fst hre).symm
      obtain rfl : Value.ref r.x = x := congrArg Prod.snd hre
      have hr : r ∈ st.reg := C.sub _ hra
      have S7 : St CN CL w g L m st h7 := S.grow (G1.trans G7)
      refine attr_any (wpAny_Name (wpAny_loadName_local (s := up s h7 tk7) hk (lookup_relabel_local hxb) hns7 (v := .ref r.x) (by simp) ?_) hd2) (hsh _)
      refine get_node (s := up s h7 tk7) (v := (st.F r.x).val) S7 X pc at_ hr rfl (S.ok.F _).val.handed ?_
      have hD7 : h7.get? Dd = some oD := up7 _ _ (Nat.ne_of_gt hID) (Nat.ne_of_lt hDC) hD4
      have hnot : k ∉ ((kvs.take i).map fun kv => (kv.1, nodeVal st kv.2)).map (·.1) := by
        rw [List.map_map]
        show k ∉ (kvs.take i).map (·.1)
        intro hm
        have hn := C.od.nodup
        have e : kvs = kvs.take i ++ (k, Value.ref r.x) :: kvs.drop (i + 1) := by
          have := List.take_append_drop i kvs
          rw [List.drop_eq_getElem_cons hlt] at this
          rw [← Option.some.inj ((List.getElem?_eq_getElem hlt).symm.trans hx)]; exact this.symm
        rw [e, List.map_append, List.nodup_append] at hn
        exact hn.2.2 k hm k (.head _) rfl
      refine hOD4.set (s := up s h7 (tk7 + 1)) (X.keeps S7.F.keep) (by omega) hkey hD7 (by rw [List.length_map, List.length_take]; omega) fun h8 o8 tk8 hs8 ho8 hOD8 => ?_
      rw [stored_new hnot] at hOD8
      have et : kvs.take (i + 1) = kvs.take i ++ [(k, Value.ref r.x)] := by
        rw [List.take_succ_eq_append_getElem hlt, Option.some.inj ((List.getElem?_eq_getElem hlt).symm.trans hx)]
      refine ⟨kvs.length + 1 - (i + 1), by omega, h8, tk8, i + 1, _, o8, key, _, rfl, hlt, rfl, fun b o e => hs8.extBut b o (Nat.ne_of_lt (Nat.lt_trans (lt1 b o e) hID)) (G7 b o e), hs8.extBut _ _ (Nat.ne_of_lt hID) hit7, hns7.at' fun o e => hs8.extBut _ _ (Nat.ne_of_gt hDC) e, ho8, ?_⟩
      rw [et, List.map_append]; exact hOD8
    · have hin : i = kvs.length := Nat.le_antisymm hi (Nat.not_lt.mp hlt)
      subst hin
      refine wpAny_pyNext_items_end (s := up s h4 tk4) hh hit4 hat4 (by simp) fun h5 hx5 => ?_
      refine ⟨m4, hns4.at' fun o e => hx5 _ o (Nat.ne_of_gt hIC) e, fun h6 hs6 => ?_⟩
      rw [List.take_length] at hOD4
      refine hq h6 _ Dd oD (fun b o e => ?_) LD fD (hs6.extBut _ _ (Nat.ne_of_lt hDC) (hx5 _ _ (Nat.ne_of_gt hID) hD4)) hOD4
      have e1 := G1 b o e
      exact hs6.extBut b o (Nat.ne_of_lt (Nat.lt_trans (lt1 b o e1) hIC)) (hx5 b o (Nat.ne_of_lt (lt1 b o e1)) (G4 b o e1))
  have hit3 := old1 _ _ hit
  subst hDd hCc hH2 hI hH1
  exact codeAny_compStart_dict (loop _ ⟨_, rfl⟩) (kcp_self hit3 (loop _ ⟨_, rfl⟩))
end
theorem kf_ints_of : ∀ {vs : List Value} {ns : List Int}, IntsAre vs ns → kf_ints vs = true
  | _, _, .nil => rfl
  | _, _, .cons (vs := vs) n t h => (by show kf_ints vs = true; exact kf_ints_of h)
theorem isInt_eq {k n : Int} {t : Tok} : isInt k (.int n t) = decide (n = k) := by
  unfold isInt; by_cases h : n = k <;> simp [h]
theorem int_remove {k : Int} : ∀ {vs : List Value} {ns : List Int}, IntsAre vs ns → k ∈ ns → ∃ j q, kf_at k vs = some j ∧ ki_delL vs j = some q ∧ IntsAre q (ns.erase k)
  | _, _, .nil, h => nomatch h
  | _, _, .cons n t (vs := vs) (ns := ns) h, hm => by
    by_cases e : n = k
    · subst e
      refine ⟨0, vs, ?_, rfl, ?_⟩
      · unfold kf_at; rw [isInt_eq, decide_eq_true rfl]; rfl
      · rw [List.erase_cons_head]; exact h
    · obtain ⟨j, q, h1, h2, h3⟩ := int_remove h ((List.mem_cons.mp hm).resolve_left fun q => e q.symm)
      refine ⟨j + 1, .int n t :: q, ?_, ?_, ?_⟩
      · unfold kf_at; rw [isInt_eq, decide_eq_false e, h1]; rfl
      · unfold ki_delL; rw [h2]
      · rw [List.erase_cons_tail (by simpa using e)]; exact .cons n t h3
theorem IntsAre.drop : ∀ {vs : List Value} {ns : List Int} (i : Nat), IntsAre vs ns → IntsAre (vs.drop i) (ns.drop i)
  | _, _, 0, h => h
  | _, _, _ + 1, .nil => .nil
  | _, _, i + 1, .cons n t h => IntsAre.drop i h
theorem IntsAre.take : ∀ {vs : List Value} {ns : List Int} (i : Nat), IntsAre vs ns → IntsAre (vs.take i) (ns.take i)
  | _, _, 0, _ => .nil
  | _, _, _ + 1, .nil => .nil
  | _, _, i + 1, .cons n t h => .cons n t (IntsAre.take i h)
theorem pick_ints {vs : List Value} {ns : List Int} (h : IntsAre vs ns) (lo hi st : Option Int) : ∃ ns', IntsAre (slicePick vs.toArray lo hi st).toList ns' := by
  refine ⟨_, intsAre_map _ fun v hv => ?_⟩
  unfold slicePick at hv
  simp only [List.mem_filterMap] at hv
  obtain ⟨i, _, hi⟩ := hv
  rw [List.getElem?_toArray] at hi
  exact h.all v (List.mem_of_getElem? hi)

section
variable {prog : Program} {K : Frag} {CN CL C : Addr} {w : World} {g h₀ h h' : Heap} {L : Addr} {m : Str → Option Value} {st : LS} {A : Around} {E : Value → Shared → Prop} {s : Shared} {tk tk₀ : Nat} {r : Rg} {v v2 : Value} {env : Env}
  {a : Addr} {o o' : Obj} {pre post : List (Addr × Obj)}

noncomputable def LS.withEx (st : LS) (ex : List (Addr × Obj)) : LS := { st with ex := ex }
@[simp] theorem withEx_ex {ex : List (Addr × Obj)} : (st.withEx ex).ex = ex := rfl
theorem St.exGet (S : St CN CL w g L m st h) (hm : (a, o) ∈ st.ex) : h.get? a = some o ∧ a ≠ L ∧ g.get? a = none :=
  S.N (a, o) (.tail _ (.tail _ (.tail _ (List.mem_append_right _ hm))))
theorem St.exGet' (S : St CN CL w g L m st h) (hm : st.ex = pre ++ (a, o) :: post) : h.get? a = some o ∧ a ≠ L ∧ g.get? a = none :=
  S.exGet (hm ▸ List.mem_append_right _ (.head _))
theorem addrs_off (wf : (addrs st).Nodup) (hm : st.ex = pre ++ (a, o) :: post) : a ≠ st.c ∧ a ≠ st.dc ∧ a ≠ st.dd ∧ a ∉ regAddrs st.reg ∧ (∀ q ∈ pre, q.1 ≠ a) ∧ ∀ q ∈ post, q.1 ≠ a := by
  unfold addrs at wf
  rw [hm] at wf
  simp only [List.nodup_cons, List.mem_cons, not_or, List.mem_append, List.nodup_append, List.map_append, List.map_cons] at wf
  obtain ⟨⟨-, -, -, h1⟩, ⟨-, -, h2⟩, ⟨-, h3⟩, h4, ⟨h5, ⟨h6, -⟩, h7⟩, h8⟩ := wf
  refine ⟨fun e => h1.2.1 e.symm, fun e => h2.2.1 e.symm, fun e => h3.2.1 e.symm, fun q => h8 a q a (.inr (.inl rfl)) rfl, fun q hq e => h7 q.1 (List.mem_map_of_mem hq) a (.inl rfl) e, fun q hq e => h6 ?_⟩
  rw [← e]; exact List.mem_map_of_mem (f := fun x : Addr × Obj => x.1) hq

theorem upd_pre {d : Addr} {l l' : List (Addr × Obj)} (u : Upd d o o' l l') : ∀ {e : List (Addr × Obj)}, (∀ q ∈ e, q.1 ≠ d) → Upd d o o' (e ++ l) (e ++ l')
  | [], _ => u
  | q :: e, h => .tail (h q (.head _)) (upd_pre u fun q hq => h q (.tail _ hq))
theorem upd_ex (P : Params) (wf : (addrs st).Nodup) (hm : st.ex = pre ++ (a, o) :: post) : Upd a o o' (ledger CN CL P st) (ledger CN CL P (st.withEx (pre ++ (a, o') :: post))) := by
  obtain ⟨h1, h2, h3, h4, h5, h6⟩ := addrs_off wf hm
  unfold ledger LS.withEx
  rw [hm]
  refine .tail (Ne.symm h1) (.tail (Ne.symm h2) (.tail (Ne.symm h3) (upd_pre (upd_pre (.head h6) h5) fun q hq e => h4 ?_)))
  rw [← nodeL_addrs CN P st.F, ← e]; exact List.mem_map_of_mem hq
theorem wf_ex (wf : (addrs st).Nodup) (hm : st.ex = pre ++ (a, o) :: post) : (addrs (st.withEx (pre ++ (a, o') :: post))).Nodup := by
  unfold addrs LS.withEx at *
  rw [hm] at wf
  simpa only [List.map_append, List.map_cons] using wf
theorem St.setEx' (S : St CN CL w g L m st h) (hm : st.ex = pre ++ (a, o) :: post) (F' : Fr g L h' m) (N' : News g L h' (ledger CN CL w.params (st.withEx (pre ++ (a, o') :: post)))) : St CN CL w g L m (st.withEx (pre ++ (a, o') :: post)) h' :=
  ⟨F', N', wf_ex S.wf hm, ⟨S.ok.F, S.ok.mru, S.ok.lru, S.ok.mx, S.ok.af⟩⟩
theorem St.setEx (S : St CN CL w g L m st h) (hm : st.ex = pre ++ (a, o) :: post) (hs : Heap.SameBut a h h') (ho : h'.get? a = some o') : St CN CL w g L m (st.withEx (pre ++ (a, o') :: post)) h' := by
  have ha := S.exGet' hm
  obtain ⟨p1, p2, e1, e2, a1, a2⟩ := (upd_ex (CN := CN) (CL := CL) (o' := o') w.params S.wf hm).split
  refine S.setEx' hm (S.F.change hs ha.2.1 ha.2.2) ?_
  have N := S.N
  rw [e1] at N
  rw [e2]
  exact news_set N a1 a2 hs ho
/-- a fresh object joins the law's own -/
theorem St.addEx (S : St CN CL w g L m st h) (k : Grow h h') (ha : h.get? a = none) (ho : h'.get? a = some o) : St CN CL w g L m (st.withEx ((a, o) :: st.ex)) h' := by
  have S' := S.grow k
  have aL : a ≠ L := fun e => by
    obtain ⟨oL, _, _, hL, _⟩ := S.F.ns
    rw [e, hL] at ha; cases ha
  have ag : g.get? a = none := by
    cases e : g.get? a with
    | none => rfl
    | some o => rw [S.F.keep a o e] at ha; cases ha
  refine ⟨S'.F, fun q hq => ?_, ?_, ⟨S.ok.F, S.ok.mru, S.ok.lru, S.ok.mx, S.ok.af⟩⟩
  · unfold ledger LS.withEx at hq
    simp only [List.mem_cons, List.mem_append] at hq
    rcases hq with rfl | rfl | rfl | hq | rfl | hq
    · exact S'.N _ (.head _)
    · exact S'.N _ (.tail _ (.head _))
    · exact S'.N _ (.tail _ (.tail _ (.head _)))
    · exact S'.N _ (.tail _ (.tail _ (.tail _ (List.mem_append_left _ hq))))
    · exact ⟨ho, aL, ag⟩
    · exact S'.N _ (.tail _ (.tail _ (.tail _ (List.mem_append_right _ hq))))
  · have na : a ∉ addrs st := fun hm => by
      rw [← ledger_addrs CN CL w.params] at hm
      obtain ⟨q, hq, rfl⟩ := List.mem_map.mp hm
      rw [(S.N q hq).1] at ha; cases ha
    show (st.c :: st.dc :: st.dd :: (regAddrs st.reg ++ a :: st.ex.map (·.1))).Nodup
    have pm : (st.c :: st.dc :: st.dd :: (regAddrs st.reg ++ a :: st.ex.map (·.1))).Perm (a :: addrs st) := by
      show ([st.c, st.dc, st.dd] ++ (regAddrs st.reg ++ a :: st.ex.map (·.1))).Perm _
      rw [← List.append_assoc]
      refine List.perm_middle.trans (List.Perm.cons _ ?_)
      rw [List.append_assoc]; exact List.Perm.refl _
    rw [pm.nodup_iff, List.nodup_cons]
    exact ⟨na, S.wf⟩
/-- some of the law's own are forgotten -/
theorem St.subEx {ex : List (Addr × Obj)} (S : St CN CL w g L m st h) (hs : List.Sublist ex st.ex) : St CN CL w g L m (st.withEx ex) h := by
  refine ⟨S.F, fun q hq => S.N q ?_, ?_, ⟨S.ok.F, S.ok.mru, S.ok.lru, S.ok.mx, S.ok.af⟩⟩
  · unfold ledger LS.withEx at hq
    simp only [List.mem_cons, List.mem_append] at hq
    unfold ledger
    simp only [List.mem_cons, List.mem_append]
    rcases hq with h | h | h | h | h
    · exact .inl h
    · exact .inr (.inl h)
    · exact .inr (.inr (.inl h))
    · exact .inr (.inr (.inr (.inl h)))
    · exact .inr (.inr (.inr (.inr (hs.subset h))))
  · refine List.Nodup.sublist ?_ S.wf
    unfold addrs LS.withEx
    exact (((hs.map _).append_left _).cons_cons _).cons_cons _ |>.cons_cons _
theorem St.name (S : St CN CL w g L m st h) : True := trivial

section
variable {Ky : Type} [DecidableEq Ky] {T : DT prog w K Ky} {kvs : List (Ky × Value)} {k : Ky} {key : Value} {ord : List (Ky × Rg)}
theorem Cst.withEx {ex : List (Addr × Obj)} (C : Cst T st ord kvs) : Cst T (st.withEx ex) ord kvs := ⟨C.sub, C.nd, C.seg, C.mru, C.lru, C.key, C.od, C.perm, C.ne⟩
theorem vw_withEx {ex : List (Addr × Obj)} : vw (st.withEx ex) ord = vw st ord := rfl

/-- a dict of the law's own: d.pop(e) -/
theorem ex_pop {Q : Value → Shared → Prop} {od e : Expr} {apos pos : Pos} (S : St CN CL w g L m st h) (X : K.In g) (hu : A.units + 8 < cLine) (hm : st.ex = pre ++ (a, o) :: post) (ho : Pv prog w A env od (.ref a) h) (he : Pv prog w A env e key h) (hk : T.isK k key) (hd : OD T o kvs) (hz : kvs.length ≤ 100000) (hv : valueAt kvs k = some v)
    (q : ∀ h' o' tk, OD T o' (without kvs k) → St CN CL w g L m (st.withEx (pre ++ (a, o') :: post)) h' → Q v (up s h' tk)) {pl : Sem Bool}
    (hst : starEach [e] env = (false, eval e env) :: starEach [] env) (hpl : (backTo pos (starEach [] env)).any (·.1) = false)
    (hsh : (eval ((od.Attribute "pop" apos).Call [e] [] pos) env = do
          let ov ← eval od env
          standAt apos.atName
          let __x ← holding [ov] (getMethod ov "pop" pl)
          match __x with
            | (f, first) => callWith pos f first (backTo pos (starEach [e] env)) [])) :
    wpAny (model prog w) A (eval ((od.Attribute "pop" apos).Call [e] [] pos) env) Q E (up s h tk) := by
  refine MethodCall_ (ho.at fun tk => ?_) hsh
  refine hd.method PySem.F.slot_dict_pop PySem.F.type_dict_pop (s := up s h tk) (S.exGet' hm).1 ?_
  refine callWith_method1 (spliced_more (he.at fun tk' => spliced_none ?_) hst) hst hpl
  exact hd.pop (s := up s h tk') (X.keeps S.F.keep) hu hk (S.exGet' hm).1 hz hv fun h' o' tk'' b c d => q h' o' tk'' d (S.setEx hm b c)
/-- d[i] = e -/
theorem ex_item {Q : Flow → Shared → Prop} {od i e : Expr} {pos pos' : Pos} (S : St CN CL w g L m st h) (X : K.In g) (hu : A.units + 8 < cLine) (hm : st.ex = pre ++ (a, o) :: post) (he : Pv prog w A env e v h) (ho : Pv prog w A env od (.ref a) h) (hi : Pv prog w A env i key h) (hk : T.isK k key) (hd : OD T o kvs) (hz : kvs.length ≤ 100000)
    (q : ∀ h' o' tk, OD T o' (stored kvs k v) → St CN CL w g L m (st.withEx (pre ++ (a, o') :: post)) h' → Q .next (up s h' tk))
    (hs : swapsWith e (some (od.Subscript i pos')) pos.line env = pure false) : wpAny (model prog w) A (exec (.Assign [od.Subscript i pos'] e pos) env) Q E (up s h tk) :=
  wpAny_Assign_Subscript (he.at fun tk => ho.at fun tk' => hi.at fun tk2 => hd.setItem (s := up s h tk2) (X.keeps S.F.keep) hu hk (S.exGet' hm).1 hz fun h' o' tk3 b c d => q h' o' tk3 d (S.setEx hm b c)) hs
/-- key in d -/
theorem Pv.exIn {l r : Expr} {pos : Pos} (S : St CN CL w g L m st h) (X : K.In g) (hu : A.units + 8 < cLine) (hm : st.ex = pre ++ (a, o) :: post) (hl : Pv prog w A env l key h) (hr : Pv prog w A env r (.ref a) h) (hk : T.isK k key) (hd : OD T o kvs) (hs : (a == sysModules) = false) (hmk : behindInMarks .In r = false) :
    Pv prog w A env (.Compare l [.In] [r] pos) (.bool (valueAt kvs k).isSome) h := fun s Q E hs' q => by
  subst hs'
  refine wpAny_Compare1 (hl _ _ _ rfl fun tk => hr _ _ _ rfl fun tk' => ?_) hmk
  exact hd.isIn (s := { s with toks := tk' }) (X.keeps S.F.keep) hu hk (S.exGet' hm).1 hs fun tk2 => q tk2
/-- if key in d -/
theorem if_exIn {Q : Flow → Shared → Prop} {l r : Expr} {body orelse : List Stmt} {pos pos' : Pos} (S : St CN CL w g L m st h) (X : K.In g) (hu : A.units + 8 < cLine) (hm : st.ex = pre ++ (a, o) :: post) (hl : Pv prog w A env l key h) (hr : Pv prog w A env r (.ref a) h) (hk : T.isK k key) (hd : OD T o kvs) (hs : (a == sysModules) = false)
    (ht : (valueAt kvs k).isSome = true → ∀ tk, wpAny (model prog w) A (execs body env) Q E (up s h tk)) (hf : (valueAt kvs k).isSome = false → ∀ tk, wpAny (model prog w) A (execs orelse env) Q E (up s h tk))
    (hmk : behindInMarks .In r = false) :
    wpAny (model prog w) A (exec (.If (.Compare l [.In] [r] pos') body orelse pos) env) Q E (up s h tk) := by
  refine wpAny_If (wpAny_isTrue_Compare1 (hl.at fun tk => hr.at fun tk' => ?_) hmk)
  refine hd.isIn (s := up s h tk') (X.keeps S.F.keep) hu hk (S.exGet' hm).1 hs fun tk2 => ?_
  refine wpAny_truthy_bool ?_
  cases hv : (valueAt kvs k).isSome with
  | true => rw [if_pos rfl]; exact ht hv _
  | false => rw [if_neg Bool.false_ne_true]; exact hf hv _
/-- d.get(e), d.get(e, e2) -/
theorem Pv.exGet1 {od e : Expr} {apos pos : Pos} (S : St CN CL w g L m st h) (X : K.In g) (hu : A.units + 8 < cLine) (hm : (a, o) ∈ st.ex) (ho : Pv prog w A env od (.ref a) h) (he : Pv prog w A env e key h) (hk : T.isK k key) (hd : OD T o kvs) (hs : (a == sysModules) = false) {pl : Sem Bool}
    (hst : starEach [e] env = (false, eval e env) :: starEach [] env) (hpl : (backTo pos (starEach [] env)).any (·.1) = false)
    (hsh : (eval ((od.Attribute "get" apos).Call [e] [] pos) env = do
          let ov ← eval od env
          standAt apos.atName
          let __x ← holding [ov] (getMethod ov "get" pl)
          match __x with
            | (f, first) => callWith pos f first (backTo pos (starEach [e] env)) [])) : Pv prog w A env ((od.Attribute "get" apos).Call [e] [] pos) ((valueAt kvs k).getD .none) h := fun s Q E hs' q => by
  subst hs'
  refine MethodCall_ (ho _ _ _ rfl fun tk => ?_) hsh
  refine hd.method PySem.F.slot_dict_get PySem.F.type_dict_get (s := { s with toks := tk }) (S.exGet hm).1 ?_
  refine callWith_method1 (spliced_more (he _ _ _ rfl fun tk' => spliced_none ?_) hst) hst hpl
  exact hd.get1 (s := { s with toks := tk' }) (X.keeps S.F.keep) hu hk (S.exGet hm).1 hs fun tk => q tk
theorem PvE.exGet2 {od e e2 : Expr} {apos pos : Pos} {P : Value → Prop} (S : St CN CL w g L m st h) (X : K.In g) (hu : A.units + 8 < cLine) (hm : (a, o) ∈ st.ex) (ho : Pv prog w A env od (.ref a) h) (he : Pv prog w A env e key h) (he2 : PvE prog w A env e2 P h) (hk : T.isK k key) (hd : OD T o kvs) (hs : (a == sysModules) = false) {pl : Sem Bool}
    (hst : starEach [e, e2] env = (false, eval e env) :: starEach [e2] env) (hst2 : starEach [e2] env = (false, eval e2 env) :: starEach [] env) (hpl : (backTo pos (starEach [e2] env)).any (·.1) = false)
    (hsh : (eval ((od.Attribute "get" apos).Call [e, e2] [] pos) env = do
          let ov ← eval od env
          standAt apos.atName
          let __x ← holding [ov] (getMethod ov "get" pl)
          match __x with
            | (f, first) => callWith pos f first (backTo pos (starEach [e, e2] env)) [])) : PvE prog w A env ((od.Attribute "get" apos).Call [e, e2] [] pos) (fun v => ∃ d, P d ∧ v = (valueAt kvs k).getD d) h := fun s Q E hs' q => by
  subst hs'
  refine MethodCall_ (ho _ _ _ rfl fun tk => ?_) hsh
  refine hd.method PySem.F.slot_dict_get PySem.F.type_dict_get (s := { s with toks := tk }) (S.exGet hm).1 ?_
  refine callWith_method1 (spliced_more (he _ _ _ rfl fun tk' => spliced_more (he2 _ _ _ rfl fun d tk'' hd' => spliced_none ?_) hst2) hst) hst hpl
  exact hd.get2 (s := { s with toks := tk'' }) (X.keeps S.F.keep) hu hk (S.exGet hm).1 hs fun tk => q _ tk ⟨d, hd', rfl⟩
end
end
section
variable {prog : Program} {K : Frag} {CN CL C : Addr} {w : World} {g h₀ h h' : Heap} {L : Addr} {m : Str → Option Value} {st : LS} {A : Around} {E : Value → Shared → Prop} {s : Shared} {tk tk₀ : Nat} {r : Rg} {v v2 : Value} {env : Env}
  {a : Addr} {o o' : Obj} {pre post : List (Addr × Obj)} {its : List Value} {ns : List Int} {n : Nat}

/-- line.remove(e) -/
theorem ex_remove {Q : Value → Shared → Prop} {ol e : Expr} {k : Int} {apos pos : Pos} (S : St CN CL w g L m st h) (hm : st.ex = pre ++ (a, listOf its.toArray n) :: post) (ho : Pv prog w A env ol (.ref a) h) (he : PvI prog w A env e k h) (hi : IntsAre its ns) (hk : k ∈ ns) (hz : ns.length ≤ 100000)
    (q : ∀ h' q tk, IntsAre q (ns.erase k) → St CN CL w g L m (st.withEx (pre ++ (a, listOf q.toArray (n + 1)) :: post)) h' → Q .none (up s h' tk)) {pl : Sem Bool}
    (hst : starEach [e] env = (false, eval e env) :: starEach [] env) (hpl : (backTo pos (starEach [] env)).any (·.1) = false)
    (hsh : (eval ((ol.Attribute "remove" apos).Call [e] [] pos) env = do
          let ov ← eval ol env
          standAt apos.atName
          let __x ← holding [ov] (getMethod ov "remove" pl)
          match __x with
            | (f, first) => callWith pos f first (backTo pos (starEach [e] env)) [])) :
    wpAny (model prog w) A (eval ((ol.Attribute "remove" apos).Call [e] [] pos) env) Q E (up s h tk) := by
  obtain ⟨j, q', h1, h2, h3⟩ := int_remove hi hk
  refine MethodCall_ (ho.at fun tk => ?_) hsh
  have hin : (a, listOf its.toArray n) ∈ ledger CN CL w.params st := .tail _ (.tail _ (.tail _ (List.mem_append_right _ (hm ▸ List.mem_append_right _ (.head _)))))
  refine kl_method (s := up s h tk) S.N hin PySem.F.slot_list_remove PySem.F.type_list_remove ?_
  refine callWith_method1 (spliced_more (PvE.at he fun v tk' hv => spliced_none ?_) hst) hst hpl
  obtain ⟨t, rfl⟩ := hv
  have hl : its.length ≤ 100000 := by rw [hi.length]; exact hz
  exact kf_remove (s := up s h tk') S.F S.N (kf_ints_of hi) h1 h2 (upd_ex w.params S.wf hm) (by rw [sizeLine_eq]; show its.length ≤ _; omega) fun h' F' N' => q h' q' _ h3 (S.setEx' hm F' N')
/-- line.insert(0, e) -/
theorem ex_insert {Q : Value → Shared → Prop} {ol e e0 : Expr} {k : Int} {t : Tok} {apos pos : Pos} (S : St CN CL w g L m st h) (hm : st.ex = pre ++ (a, listOf its.toArray n) :: post) (ho : Pv prog w A env ol (.ref a) h) (he0 : PvI prog w A env e0 0 h) (he : Pv prog w A env e (.int k t) h) (hi : IntsAre its ns) (hz : ns.length ≤ 100000)
    (q : ∀ h' tk, St CN CL w g L m (st.withEx (pre ++ (a, listOf (Value.int k t :: its).toArray (n + 1)) :: post)) h' → Q .none (up s h' tk)) {pl : Sem Bool}
    (hst : starEach [e0, e] env = (false, eval e0 env) :: starEach [e] env) (hst2 : starEach [e] env = (false, eval e env) :: starEach [] env) (hpl : (backTo pos (starEach [e] env)).any (·.1) = false)
    (hsh : (eval ((ol.Attribute "insert" apos).Call [e0, e] [] pos) env = do
          let ov ← eval ol env
          standAt apos.atName
          let __x ← holding [ov] (getMethod ov "insert" pl)
          match __x with
            | (f, first) => callWith pos f first (backTo pos (starEach [e0, e] env)) [])) :
    wpAny (model prog w) A (eval ((ol.Attribute "insert" apos).Call [e0, e] [] pos) env) Q E (up s h tk) := by
  refine MethodCall_ (ho.at fun tk => ?_) hsh
  have hin : (a, listOf its.toArray n) ∈ ledger CN CL w.params st := .tail _ (.tail _ (.tail _ (List.mem_append_right _ (hm ▸ List.mem_append_right _ (.head _)))))
  refine kl_method (s := up s h tk) S.N hin PySem.F.slot_list_insert PySem.F.type_list_insert ?_
  refine callWith_method1 (spliced_more (PvE.at he0 fun v tk' hv => spliced_more (he.at fun tk'' => spliced_none ?_) hst2) hst) hst hpl
  obtain ⟨t0, rfl⟩ := hv
  have hl : its.length ≤ 100000 := by rw [hi.length]; exact hz
  exact kl_insert (s := up s h tk'') S.F S.N (by decide) (by show kl_ins its 0 (.int k t) = .int k t :: its; unfold kl_ins; simp) (upd_ex w.params S.wf hm) (by rw [sizeLine_eq]; show its.length ≤ _; omega) fun h' F' N' => q h' _ (S.setEx' hm F' N')
/-- len(line) -/
theorem PvI.exLen {fn ol : Expr} {pos : Pos} (S : St CN CL w g L m st h) (hm : (a, listOf its.toArray n) ∈ st.ex) (hfn : Pv prog w A env fn (.builtin "len") h) (ho : Pv prog w A env ol (.ref a) h) (hi : IntsAre its ns) (hz : ns.length ≤ 100000)
    (hst : starEach [ol] env = (false, eval ol env) :: starEach [] env) (hpl : (backTo pos (starEach [] env)).any (·.1) = false)
    (hsh : eval (fn.Call [ol] [] pos) env = do
          let __do_lift ← eval fn env
          callWith pos __do_lift [] (backTo pos (starEach [ol] env)) (backToKw pos (keywordEach [] env))) :
    PvI prog w A env (fn.Call [ol] [] pos) ns.length h := fun s Q E hs' q => by
  subst hs'
  refine Call_ (hfn _ _ _ rfl fun tk => callWith_builtin1 (spliced_more (ho _ _ _ rfl fun tk' => spliced_none ?_) hst) hst hpl) hsh
  have hin : (a, listOf its.toArray n) ∈ ledger CN CL w.params st := .tail _ (.tail _ (.tail _ (List.mem_append_right _ hm)))
  have e : its.toArray.size = ns.length := by rw [List.size_toArray, hi.length]
  refine PyProof.Rows.len_list (s := { s with toks := tk' }) (l := a) (items := its.toArray) ⟨_, (S.N _ hin).1, rfl, _, rfl⟩ (by rw [e]; omega) ?_
  rw [e]
  exact q _ _ ⟨_, rfl⟩

/-- a slice: a fresh list -/
theorem ev_slice {Q : Value → Shared → Prop} {ol : Expr} {lower upper : Option Expr} {lo hi : Option Int} {sp pos : Pos} (hl : h.IsList a its.toArray) (hz : its.length ≤ 100000) (ho : Pv prog w A env ol (.ref a) h)
    (hlo : ∀ (s : Shared) (Q E : Value → Shared → Prop), s.heap = h → (∀ v tk, IsPart v lo → Q v { s with toks := tk }) → wpAny (model prog w) A (evalPart lower env) Q E s)
    (hhi : ∀ (s : Shared) (Q E : Value → Shared → Prop), s.heap = h → (∀ v tk, IsPart v hi → Q v { s with toks := tk }) → wpAny (model prog w) A (evalPart upper env) Q E s)
    (q : ∀ h' tk b, Grow h h' → h.get? b = none → h'.get? b = some (listOf (slicePick its.toArray lo hi none) 0) → Q (.ref b) (up s h' tk))
    (ht : ∀ o r, letTemporaryGo ol o r = pure ()) :
    wpAny (model prog w) A (eval (.Subscript ol (.Slice lower upper none sp) pos) env) Q E (up s h tk) := by
  refine wpAny_Subscript_list_slice (ho.at fun tk1 => hlo _ _ _ rfl fun vl tk2 pl => hhi _ _ _ rfl fun vu tk3 pu => ?_) ht
  refine ⟨a, its.toArray, lo, hi, rfl, hl, by rw [List.size_toArray, sizeLine_eq]; omega, pl, pu, ?_⟩
  refine q _ _ _ (Grow.push.trans Grow.push) ?_ ?_
  · show h.get? (h.objs.size + 1) = none
    cases e : h.get? (h.objs.size + 1) with
    | none => rfl
    | some o => exact absurd (Heap.lt_size e) (Nat.not_lt.mpr (Nat.le_succ _))
  · have e1 := Heap.get?_push_size (h.push { cls := .type "slice", data := .fields #[vl, vu, .none] }) (o := { cls := .type "list", data := .seq (slicePick its.toArray lo hi none) }) rfl
    rw [Heap.size_push] at e1
    exact e1
theorem part_none {s : Shared} {Q E : Value → Shared → Prop} (hs : s.heap = h) (q : ∀ v tk, IsPart v none → Q v { s with toks := tk }) : wpAny (model prog w) A (evalPart none env) Q E s :=
  wpAny_evalPart_none (q _ s.toks .none)
theorem part_int {e : Expr} {i : Int} (he : PvI prog w A env e i h) {s : Shared} {Q E : Value → Shared → Prop} (hs : s.heap = h) (q : ∀ v tk, IsPart v (some i) → Q v { s with toks := tk }) : wpAny (model prog w) A (evalPart (some e) env) Q E s :=
  wpAny_evalPart_some (he _ _ _ hs fun v tk hv => by obtain ⟨t, rfl⟩ := hv; exact q _ _ (.int i t))

/-- x = e, e of a kind -/
theorem as_nameE {cn : Str} {cs : Scope} {f : Addr} {cd : Value} {Q : Flow → Shared → Prop} {P : Value → Prop} {x : Str} {pos pos' : Pos} {e : Expr} (S : St CN CL w g L m st h) (he : PvE prog w A (envOf cn cs L f cd) e P h)
    (q : ∀ v, P v → ∀ h' tk, St CN CL w g L (fun y => if y = x then some v else m y) st h' → Q .next (up s h' tk))
    (hk : cs.kind = .function) (hl : (envOf cn cs L f cd).kindOf x = some .local) (hs : swapsWith e (some (.Name x pos')) pos.line (envOf cn cs L f cd) = pure false) :
    wpAny (model prog w) A (exec (.Assign [.Name x pos'] e pos) (envOf cn cs L f cd)) Q E (up s h tk) :=
  wpAny_Assign_Name (he.at fun v tk hv => store_ (s := up s h tk) S (fun h' tk' S' => q v hv h' tk' S') hk hl) hs
end
section
variable {prog : Program} {K : Frag} {CN CL C : Addr} {w : World} {g h₀ h h' : Heap} {L : Addr} {m : Str → Option Value} {st : LS} {A : Around} {E : Value → Shared → Prop} {s : Shared} {tk tk₀ : Nat} {r : Rg} {v v2 : Value} {env : Env}
  {a : Addr} {o o' : Obj} {pre post : List (Addr × Obj)} {its : List Value} {ns : List Int} {n : Nat}

noncomputable def ownF (fp : List Addr) (h : Heap) : List (Addr × Obj) := fp.filterMap fun b => (h.get? b).map fun o => (b, o)
theorem mem_ownF {fp : List Addr} {q : Addr × Obj} : q ∈ ownF fp h ↔ q.1 ∈ fp ∧ h.get? q.1 = some q.2 := by
  unfold ownF
  rw [List.mem_filterMap]
  constructor
  · rintro ⟨b, hb, e⟩
    cases z : h.get? b with
    | none => rw [z] at e; cases e
    | some o => rw [z] at e; cases e; exact ⟨hb, z⟩
  · rintro ⟨hb, e⟩
    exact ⟨q.1, hb, by rw [e]; rfl⟩
theorem ownF_sub : ∀ (fp : List Addr), ((ownF fp h).map (·.1)).Sublist fp
  | [] => List.Sublist.slnil
  | b :: fp => by
    unfold ownF
    rw [List.filterMap_cons]
    cases z : h.get? b with
    | none => exact (ownF_sub fp).cons b
    | some o => exact (ownF_sub fp).cons_cons b

/-- what a loop is set out on -/
structure Sets (prog : Program) (w : World) (A : Around) (h : Heap) (n : Nat) (Pe : Nat → Value → Prop) (s : Shared) (it : Value) (s₂ : Shared) : Prop where
  go : ∃ I fp Sw h2 tk2, it = .ref I ∧ s₂ = up s h2 tk2 ∧ Grow h h2 ∧ Walks prog w A I fp [I] n Pe Sw ∧ Sw 0 h2 ∧ (∀ b ∈ fp, h.get? b = none) ∧ fp.Nodup ∧ ∀ i h', Sw i h' → ∀ b ∈ fp, ∃ o, h'.get? b = some o

/-- how a turn ends -/
noncomputable def TurnEnd (CN CL : Addr) (w : World) (g : Heap) (L : Addr) (own : List (Addr × Obj)) (J : LS → (Str → Option Value) → Prop) (s : Shared) (Q : Flow → Shared → Prop) (f : Flow) (s' : Shared) : Prop :=
  match f with
  | .ret v => Q (.ret v) s'
  | .brk => Q .next s'
  | _ => ∃ h' tk' m' st', s' = up s h' tk' ∧ St CN CL w g L m' (st'.withEx (own ++ st'.ex)) h' ∧ J st' m'

theorem for_st {x cn : Str} {cs : Scope} {f : Addr} {cd : Value} {px pos : Pos} {iter : Expr} {body : List Stmt} {Pe : Nat → Value → Prop} {Q : Flow → Shared → Prop} (P : Nat → LS → (Str → Option Value) → Prop)
    (S : St CN CL w g L m st h) (hx : (envOf cn cs L f cd).kindOf x = some .local) (hk : cs.kind = .function)
    (hp : (cs.kind == .class || (cs.kind == .module && L != mainGlobals)) = false)
    (hit : wpAny (model prog w) A (eval iter (envOf cn cs L f cd)) (fun xv s₁ => wpAny (model prog w) A (pyIter xv) (Sets prog w A h n Pe s) E s₁) E (up s h tk))
    (h0 : P 0 st m)
    (turn : ∀ i v m₁ st₁ own h₁ tk₁, i < n → Pe i v → P i st₁ m₁ → St CN CL w g L (fun y => if y = x then some v else m₁ y) (st₁.withEx (own ++ st₁.ex)) h₁ →
      wpAny (model prog w) A (execs body (envOf cn cs L f cd)) (TurnEnd CN CL w g L own (P (i + 1)) s Q) E (up s h₁ tk₁))
    (done : ∀ m' st' h' tk', P n st' m' → St CN CL w g L m' st' h' → Q .next (up s h' tk'))
    (hs : ∀ x, foldedSetIterable iter (envOf cn cs L f cd) x = pure x) (hE : PassesOwn (model prog w) A (envOf cn cs L f cd) E) :
    wpAny (model prog w) A (exec (.For (.Name x px) iter body [] pos) (envOf cn cs L f cd)) Q E (up s h tk) := by
  refine For_invV (env := envOf cn cs L f cd) g hx hp (wpAny_mono hit (fun xv s₁ h₁ => wpAny_mono h₁ (fun it s₂ h₂ => ?_) fun _ _ e => e) fun _ _ e => e) hs hE
  obtain ⟨I, fp, Sw, h2, tk2, rfl, rfl, G, W, hst, hfr, hnd, hlv⟩ := h₂.go
  have Lv : ∃ o, h.get? L = some o := let ⟨o, _, _, ho, _⟩ := S.F.ns; ⟨o, ho⟩
  have gfp : ∀ b ∈ fp, g.get? b = none := fun b hb => by
    cases e : g.get? b with
    | none => rfl
    | some o => have := hfr b hb; rw [S.F.keep b o e] at this; cases this
  have Lfp : L ∉ fp := fun q => by obtain ⟨o, ho⟩ := Lv; rw [hfr L q] at ho; cases ho
  have fpA : ∀ b ∈ fp, b ∉ addrs st := fun b hb hm => by
    rw [← ledger_addrs CN CL w.params] at hm
    obtain ⟨q, hq, rfl⟩ := List.mem_map.mp hm
    have := (S.N q hq).1
    rw [hfr _ hb] at this; cases this
  have Ifp : I ∈ fp := W.sub I (.head _)
  have S2 := S.grow G
  have offI : ∀ st' : LS, (∀ b ∈ fp, b ∉ addrs st') → ∀ q ∈ ledger CN CL w.params st', q.1 ∉ [I] := fun st' hf q hq hm => by
    rw [List.mem_singleton] at hm
    exact hf I Ifp (by rw [← hm, ← ledger_addrs CN CL w.params]; exact List.mem_map_of_mem hq)
  refine ⟨I, fp, [I], n, Pe, Sw, m, ledger CN CL w.params st, fun i m' news' => ∃ st', news' = ledger CN CL w.params st' ∧ (addrs st').Nodup ∧ LSok st' ∧ (∀ b ∈ fp, b ∉ addrs st') ∧ P i st' m',
    rfl, W, Lfp, fun b hb => gfp b (W.sub b hb), offI st fpA, hst, S2.F, S2.N, ⟨st, rfl, S.wf, S.ok, fpA, h0⟩, ?_, ?_⟩
  · rintro i v m₁ news₁ s₁ own ⟨h₁, tk₁, rfl⟩ hin hPe ⟨st₁, rfl, wf₁, ok₁, off₁, hP₁⟩ _ hsub hget hall hst₁ F₁ N₁
    have own_iff : ∀ q, q ∈ own ↔ q ∈ ownF fp h₁ := fun q => ⟨fun hq => mem_ownF.mpr ⟨hsub q hq, hget q hq⟩, fun hq => hall q.1 (mem_ownF.mp hq).1 (gfp _ (mem_ownF.mp hq).1) q.2 (mem_ownF.mp hq).2⟩
    have S₁ : St CN CL w g L (fun y => if y = x then some v else m₁ y) (st₁.withEx (ownF fp h₁ ++ st₁.ex)) h₁ := by
      refine ⟨F₁, fun q hq => ?_, ?_, ⟨ok₁.F, ok₁.mru, ok₁.lru, ok₁.mx, ok₁.af⟩⟩
      · unfold ledger LS.withEx at hq
        simp only [List.mem_cons, List.mem_append] at hq
        refine N₁ q ?_
        rw [List.mem_append]
        unfold ledger
        simp only [List.mem_cons, List.mem_append]
        rcases hq with h | h | h | h | h | h
        · exact .inr (.inl h)
        · exact .inr (.inr (.inl h))
        · exact .inr (.inr (.inr (.inl h)))
        · exact .inr (.inr (.inr (.inr (.inl h))))
        · exact .inl ((own_iff q).mpr h)
        · exact .inr (.inr (.inr (.inr (.inr h))))
      · have pm : (addrs (st₁.withEx (ownF fp h₁ ++ st₁.ex))).Perm ((ownF fp h₁).map (·.1) ++ addrs st₁) := by
          unfold addrs LS.withEx
          show ([st₁.c, st₁.dc, st₁.dd] ++ (regAddrs st₁.reg ++ (ownF fp h₁ ++ st₁.ex).map (·.1))).Perm ((ownF fp h₁).map (·.1) ++ ([st₁.c, st₁.dc, st₁.dd] ++ (regAddrs st₁.reg ++ st₁.ex.map (·.1))))
          rw [List.map_append]
          generalize (ownF fp h₁).map (·.1) = X
          generalize st₁.ex.map (·.1) = Y
          generalize [st₁.c, st₁.dc, st₁.dd] = Z
          generalize regAddrs st₁.reg = R
          rw [← List.append_assoc R X Y, ← List.append_assoc Z, ← List.append_assoc Z R Y, ← List.append_assoc X]
          refine List.Perm.append_right Y ?_
          rw [← List.append_assoc Z R X]
          exact List.perm_append_comm
        rw [pm.nodup_iff, List.nodup_append]
        refine ⟨List.Nodup.sublist (ownF_sub fp) hnd, wf₁, fun b hb c hc e => ?_⟩
        obtain ⟨q, hq, rfl⟩ := List.mem_map.mp hb
        exact off₁ q.1 (mem_ownF.mp hq).1 (e ▸ hc)
    refine wpAny_mono (turn i v m₁ st₁ (ownF fp h₁) h₁ tk₁ hin hPe hP₁ S₁) (fun fl s' hf => ?_) fun _ _ e => e
    have fin : (∃ h' tk' m' st', s' = up s h' tk' ∧ St CN CL w g L m' (st'.withEx (ownF fp h₁ ++ st'.ex)) h' ∧ P (i + 1) st' m') → LoopStepU g L [I] own (fun m' news' => ∃ st', news' = ledger CN CL w.params st' ∧ (addrs st').Nodup ∧ LSok st' ∧ (∀ b ∈ fp, b ∉ addrs st') ∧ P (i + 1) st' m') (up s h₁ tk₁) .next s' := by
      rintro ⟨h', tk', m', st', rfl, S', hP'⟩
      have Ssub : St CN CL w g L m' st' h' := by
        have := S'.subEx (ex := st'.ex) (List.sublist_append_right _ _)
        exact this
      have offS : ∀ b ∈ fp, b ∉ addrs st' := fun b hb hm => by
        obtain ⟨o, ho⟩ := hlv _ _ hst₁ b hb
        obtain ⟨l1, l2, e1⟩ := List.append_of_mem (mem_ownF.mpr ⟨hb, ho⟩ : (b, o) ∈ ownF fp h₁)
        have off := addrs_off (a := b) (o := o) (pre := l1) (post := l2 ++ st'.ex) S'.wf (by show ownF fp h₁ ++ st'.ex = _; rw [e1, List.append_assoc]; rfl)
        unfold addrs at hm
        simp only [List.mem_cons, List.mem_append] at hm
        rcases hm with e | e | e | e | e
        · exact off.1 e
        · exact off.2.1 e
        · exact off.2.2.1 e
        · exact off.2.2.2.1 e
        · obtain ⟨q, hq, e⟩ := List.mem_map.mp e
          exact off.2.2.2.2.2 q (List.mem_append_right _ hq) e
      refine ⟨rfl, h', tk', m', ledger CN CL w.params st', rfl, Ssub.F, fun q hq => ?_, offI st' offS, st', rfl, Ssub.wf, Ssub.ok, offS, hP'⟩
      rcases List.mem_append.mp hq with hq | hq
      · refine S'.N q ?_
        unfold ledger LS.withEx
        exact .tail _ (.tail _ (.tail _ (List.mem_append_right _ (List.mem_append_left _ ((own_iff q).mp hq)))))
      · exact Ssub.N q hq
    cases fl with
    | ret v => exact .ret hf
    | brk => exact .brk hf
    | next => exact .next (fin hf)
    | cont => exact .cont (fin hf)
  · rintro h' tk' m' news' F' N' _ ⟨st', rfl, wf', ok', off', hP'⟩
    exact done m' st' h' tk' hP' ⟨F', N', wf', ok'⟩

/-- over a list -/
theorem sets_list {l : Addr} {items : Array Value} (hh : A.handled = none) {h1 : Heap} (G : Grow h h1) (hl : h1.IsList l items) (hf : h.get? l = none) :
    wpAny (model prog w) A (pyIter (.ref l)) (Sets prog w A h items.size (fun i v => items[i]? = some v) s) E (up s h1 tk) := by
  refine wpAny_pyIter_list (s := up s h1 tk) hl ⟨h1.objs.size, [h1.objs.size, l], _, _, tk, rfl, rfl, G.trans Grow.push, Walks.list hh h1.objs.size l ?_ items, ⟨⟨_, Heap.get?_push_size _ rfl, rfl, rfl⟩, hl.at fun o e => Heap.get?_push_of_some _ e⟩, ?_, ?_, ?_⟩
  · obtain ⟨o, ho, _⟩ := hl; exact Nat.ne_of_lt (Heap.lt_size ho)
  · intro b hb
    rcases List.mem_cons.mp hb with rfl | hb
    · cases e : h.get? h1.objs.size with
      | none => rfl
      | some o => exact absurd (Heap.lt_size (G _ _ e)) (Nat.lt_irrefl _)
    · rw [List.mem_singleton.mp hb]; exact hf
  · obtain ⟨o, ho, _⟩ := hl
    simp only [List.nodup_cons, List.mem_singleton, List.not_mem_nil, not_false_eq_true, List.nodup_nil, and_true]
    exact Nat.ne_of_gt (Heap.lt_size ho)
  · rintro i h' ⟨⟨o, ho, _⟩, ⟨o2, ho2, _⟩⟩ b hb
    rcases List.mem_cons.mp hb with rfl | hb
    · exact ⟨o, ho⟩
    · rw [List.mem_singleton.mp hb]; exact ⟨o2, ho2⟩
theorem fits {i : Int} (h1 : -200000 ≤ i) (h2 : i ≤ 200000) : Builtin.Range.rangeFitsLong i = true := by
  unfold Builtin.Range.rangeFitsLong
  rw [Bool.and_eq_true, decide_eq_true_eq, decide_eq_true_eq]
  constructor <;> omega
/-- over range(n) -/
theorem sets_range {r : Addr} {n : Nat} {t u v : Tok} (hh : A.handled = none) {h1 : Heap} (G : Grow h h1) (hr : IsRange h1 r 0 n 1 t u v) (hn : n ≤ 100000) :
    wpAny (model prog w) A (pyIter (.ref r)) (Sets prog w A h n (fun i v => IsI i v) s) E (up s h1 tk) := by
  have hsz : Builtin.Range.rangeSize 0 n 1 = n := by unfold Builtin.Range.rangeSize; simp; omega
  refine wpAny_pyIter_range (s := up s h1 tk) hr ?_ ⟨h1.objs.size, [h1.objs.size], _, _, tk, rfl, rfl, G.trans Grow.push, (?_ : Walks prog w A h1.objs.size [h1.objs.size] [h1.objs.size] n _ (fun i h => IsRangeIter h h1.objs.size (0 + (i : Nat) * 1) ((n : Int) - (i : Nat)) 1)), ?_, ?_, by simp, ?_⟩
  · unfold Builtin.Range.small
    rw [hsz, if_pos (by decide), fits (i := 0) (by omega) (by omega), fits (i := (n : Int)) (by omega) (by omega), fits (i := 1) (by omega) (by omega), fits (i := (n : Int) + (1 - 1)) (by omega) (by omega)]
    simp
  · have W := Walks.range (prog := prog) (w := w) hh h1.objs.size 0 1 n
    have e : (fun (i : Nat) v => ∃ t, v = Value.int (0 + (i : Int) * 1) t) = fun (i : Nat) v => IsI (i : Int) v := by
      funext i v; unfold IsI; rw [Int.zero_add, Int.mul_one]
    rw [e] at W
    exact W
  · rw [hsz]
    have := Heap.get?_push_size h1 (o := { cls := .type "range_iterator", data := .fields #[rawInt 0, rawInt n, rawInt 1] }) rfl
    show (h1.push _).get? h1.objs.size = _
    simpa [IsRangeIter] using this
  · intro b hb
    rw [List.mem_singleton.mp hb]
    cases e : h.get? h1.objs.size with
    | none => rfl
    | some o => exact absurd (Heap.lt_size (G _ _ e)) (Nat.lt_irrefl _)
  · rintro i h' ho b hb
    rw [List.mem_singleton.mp hb]; exact ⟨_, ho⟩
end
section
variable {Ky : Type} [DecidableEq Ky] {kvs : List (Ky × Value)} {k : Ky} {v c : Value} {V : List (Ky × Value × Value)}
noncomputable def pr (e : Ky × Value × Value) : Ky × Value := (e.1, e.2.1)
theorem pr_keys : (V.map pr).map (·.1) = V.map (·.1) := by rw [List.map_map]; rfl
theorem without_filter : without kvs k = kvs.filter fun kv => decide (kv.1 ≠ k) := rfl
theorem without_split {A B : List (Ky × Value)} (hn : ((A ++ (k, v) :: B).map (·.1)).Nodup) : without (A ++ (k, v) :: B) k = A ++ B := by
  obtain ⟨h1, h2⟩ := mid_keys hn
  exact rest_mid h1 h2
theorem stored_perm0 (hn : (kvs.map (·.1)).Nodup) : (stored kvs k v).Perm ((k, v) :: without kvs k) := by
  by_cases h : k ∈ kvs.map (·.1)
  · obtain ⟨⟨k', v0⟩, hm, rfl⟩ := List.mem_map.mp h
    obtain ⟨A, B, rfl⟩ := List.append_of_mem hm
    rw [without_split hn]
    obtain ⟨h1, h2⟩ := mid_keys hn
    unfold stored
    rw [if_pos (List.any_eq_true.mpr ⟨_, hm, by simp⟩), List.map_append, List.map_cons, if_pos rfl, map_store_of_not_mem A _ v h1, map_store_of_not_mem B _ v h2]
    exact List.perm_middle
  · rw [stored_new h, without_of_not_mem kvs _ h]
    exact List.perm_append_comm
theorem stored_perm (hn : (kvs.map (·.1)).Nodup) (hp : kvs.Perm (V.map pr)) : (stored kvs k v).Perm ((ins V k (v, c)).map pr) := by
  refine (stored_perm0 hn).trans ?_
  show ((k, v) :: _).Perm ((k, v) :: (rest V k).map pr)
  refine List.Perm.cons _ ?_
  have e : (rest V k).map pr = (V.map pr).filter fun kv => decide (kv.1 ≠ k) := by
    unfold rest
    rw [List.filter_map]; rfl
  rw [e]
  exact hp.filter _
theorem pop_perm {A B : List (Ky × Value)} (hn : (kvs.map (·.1)).Nodup) (hp : kvs.Perm (A ++ (k, v) :: B)) : valueAt kvs k = some v ∧ (without kvs k).Perm (A ++ B) := by
  refine ⟨valueAt_mem hn (hp.mem_iff.mpr (List.mem_append_right _ (.head _))), ?_⟩
  have hn' : ((A ++ (k, v) :: B).map (·.1)).Nodup := (hp.map _).nodup_iff.mp hn
  rw [← without_split hn']
  exact hp.filter _
theorem rest_keys (hn : (V.map (·.1)).Nodup) : (rest V k).map (·.1) = (V.map (·.1)).erase k := by
  by_cases h : k ∈ V.map (·.1)
  · obtain ⟨⟨k', v0⟩, hm, rfl⟩ := List.mem_map.mp h
    obtain ⟨A, B, rfl⟩ := List.append_of_mem hm
    obtain ⟨h1, h2⟩ := mid_keys hn
    rw [rest_mid h1 h2, List.map_append, List.map_append, List.map_cons, List.erase_append_right _ h1, List.erase_cons_head]
  · rw [rest_none h, List.erase_of_not_mem h]
theorem ins_keys {x : Value × Value} (hn : (V.map (·.1)).Nodup) : (ins V k x).map (·.1) = k :: (V.map (·.1)).erase k := by
  show k :: (rest V k).map (·.1) = _
  rw [rest_keys hn]
theorem ins_nodup {x : Value × Value} (hn : (V.map (·.1)).Nodup) : ((ins V k x).map (·.1)).Nodup := by
  rw [ins_keys hn, List.nodup_cons]
  exact ⟨fun h => (List.Nodup.mem_erase_iff hn).mp h |>.1 rfl, hn.erase k⟩
theorem mem_ins {x : Value × Value} {e : Ky × Value × Value} (h : e ∈ ins V k x) : e = (k, x) ∨ e ∈ V := by
  rcases List.mem_cons.mp h with h | h
  · exact .inl h
  · exact .inr (List.mem_filter.mp h).1
theorem isSome_mem (hp : kvs.Perm (V.map pr)) (hn : (kvs.map (·.1)).Nodup) : (valueAt kvs k).isSome = true ↔ k ∈ V.map (·.1) := by
  have e : k ∈ V.map (·.1) ↔ k ∈ kvs.map (·.1) := by rw [← pr_keys]; exact ((hp.map _).mem_iff).symm
  rw [e]
  constructor
  · intro h
    by_cases q : k ∈ kvs.map (·.1)
    · exact q
    · rw [valueAt_none q] at h; cases h
  · intro h
    obtain ⟨⟨k', v0⟩, hm, rfl⟩ := List.mem_map.mp h
    rw [valueAt_mem hn hm]; rfl
theorem look_mem (hn : (V.map (·.1)).Nodup) {x : Value × Value} (h : (k, x) ∈ V) : look V k = some x := by
  obtain ⟨A, B, rfl⟩ := List.append_of_mem h
  exact look_mid (mid_keys hn).1
/-- the law's own map tells what the cache does -/
theorem held_look (hp : kvs.Perm (V.map pr)) (hn : (kvs.map (·.1)).Nodup) : valueAt kvs k = (look V k).map (·.1) := by
  have hV : (V.map (·.1)).Nodup := by rw [← pr_keys]; exact (hp.map _).nodup_iff.mp hn
  by_cases h : k ∈ V.map (·.1)
  · obtain ⟨⟨k', x⟩, hm, rfl⟩ := List.mem_map.mp h
    rw [look_mem hV hm]
    exact valueAt_mem hn (hp.mem_iff.mpr (List.mem_map_of_mem (f := pr) hm))
  · rw [look_none h]
    refine valueAt_none fun q => h ?_
    rw [← pr_keys]; exact ((hp.map _).mem_iff).mp q
end

section
variable {CN CL : Addr} {w : World} {g h : Heap} {L : Addr} {m : Str → Option Value} {st : LS}
theorem St.permEx {ex : List (Addr × Obj)} (S : St CN CL w g L m st h) (hs : ex.Perm st.ex) : St CN CL w g L m (st.withEx ex) h := by
  refine ⟨S.F, fun q hq => S.N q ?_, ?_, ⟨S.ok.F, S.ok.mru, S.ok.lru, S.ok.mx, S.ok.af⟩⟩
  · unfold ledger LS.withEx at hq
    unfold ledger
    simp only [List.mem_cons, List.mem_append] at hq ⊢
    rw [hs.mem_iff] at hq
    exact hq
  · have : (addrs (st.withEx ex)).Perm (addrs st) := by
      unfold addrs LS.withEx
      exact (((hs.map _).append_left _).cons _).cons _ |>.cons _
    rw [this.nodup_iff]; exact S.wf
end
noncomputable def LS.ofEx (st : LS) (ex : List (Addr × Obj)) : LS := { st with ex := ex }
/-- the clean-ups: what stands for them among the law's objects, which values they are, and what a call of one leaves -/
structure Hook (prog : Program) (w : World) (K : Frag) (CN CL : Addr) where
  ok : Nat → List (Addr × Obj) → Prop
  cb : Value → Prop
  Run : Value → Value → Value → List (Addr × Obj) → List (Addr × Obj) → Prop
  nb : ∀ {c}, cb c → Nb c
  ne : ∀ {c}, cb c → c ≠ .none
  fn : ∀ {c ex n}, cb c → ok n ex → ∃ q oc od fd sl, c = .ref q ∧ (q, (⟨oc, od, .func fd, sl⟩ : Obj)) ∈ ex
  mono : ∀ {n ex}, ok (n + 1) ex → ok n ex
  keep : ∀ {c k v ex ex' n}, cb c → ok (n + 1) ex → Run c k v ex ex' → ok n ex'
  call : ∀ {n p loose mg mb h₀ st h A s tk c key val} {E : Value → Shared → Prop} {Q : Value → Shared → Prop}, cb c → ok (n + 1) st.ex → Base K p loose mg mb h₀ st h → Rep CN CL w st h → A.depth < recursionLimit → A.units + 40 < cLine → Nb key → Nb val →
    (∀ h' tk' ex', Run c key val st.ex ex' → Ctr CN CL w st (st.ofEx ex') h h' → Q .none (up s h' tk')) → wpAny (model prog w) A (PySem.call c [key, val]) Q E (up s h tk)
theorem Hook.le {prog : Program} {w : World} {K : Frag} {CN CL : Addr} (H : Hook prog w K CN CL) {ex : List (Addr × Obj)} {n j : Nat} (h : n ≤ j) (ho : H.ok j ex) : H.ok n ex := by
  induction h with
  | refl => exact ho
  | step _ ih => exact ih (H.mono ho)
/-- one node's clean-up, or none -/
inductive RunC {prog : Program} {w : World} {K : Frag} {CN CL : Addr} (H : Hook prog w K CN CL) (c k v : Value) (ex : List (Addr × Obj)) : List (Addr × Obj) → Prop
  | no (e : c = .none) : RunC H c k v ex ex
  | yes {ex'} (e : H.cb c) (r : H.Run c k v ex ex') : RunC H c k v ex ex'
theorem RunC.keep {prog : Program} {w : World} {K : Frag} {CN CL : Addr} {H : Hook prog w K CN CL} {c k v : Value} {ex ex' : List (Addr × Obj)} {n : Nat} (r : RunC H c k v ex ex') (ho : H.ok (n + 1) ex) : H.ok n ex' := by
  cases r with
  | no _ => exact H.mono ho
  | yes e r => exact H.keep e ho r
/-- a clean-up or none -/
noncomputable def Cb {prog : Program} {w : World} {K : Frag} {CN CL : Addr} (H : Hook prog w K CN CL) (c : Value) : Prop := c = .none ∨ H.cb c
theorem Cb.nb {prog : Program} {w : World} {K : Frag} {CN CL : Addr} {H : Hook prog w K CN CL} {c : Value} (h : Cb H c) : Nb c := h.elim (fun e => e ▸ Nb.none) H.nb
theorem fresh_back {g h h4 : Heap} {L : Addr} {m : Str → Option Value} {st : LS} {a : Addr} (kk : ∀ b o, b ∉ addrs st → h.get? b = some o → g.get? b = some o) (F : Fr g L h4 m) (q : h4.get? a = none) : a ∈ addrs st ∨ h.get? a = none := by
  by_cases hm : a ∈ addrs st
  · exact .inl hm
  · refine .inr ?_
    cases e : h.get? a with
    | none => rfl
    | some o => rw [F.keep a o (kk a o hm e)] at q; cases q
/-- a node that has run its clean-up -/
noncomputable def clnF (F : Addr → NF) (x : Addr) : Addr → NF := setF F x { F x with cln := .none, val := .none }
theorem clnF_eq {F : Addr → NF} {x : Addr} : setF (setF F x { F x with cln := .none }) x { (setF F x { F x with cln := .none }) x with val := .none } = clnF F x := by
  unfold clnF; rw [setF_setF, setF_self]
theorem rmF_eq {F : Addr → NF} {x : Addr} {po : Option Rg} : rmF F x po = setF (setF (fP (clnF F x) x po) x { (fP (clnF F x) x po) x with prev := .none }) x { (setF (fP (clnF F x) x po) x { (fP (clnF F x) x po) x with prev := .none }) x with next := .none } := by
  unfold rmF; simp only [clnF_eq]
section
variable {prog : Program} {K : Frag} {CN CL : Addr} {w : World} {g h : Heap} {L : Addr} {m : Str → Option Value} {st : LS} {A : Around} {E : Value → Shared → Prop} {s : Shared} {tk : Nat} {r : Rg} {v v2 : Value} {env : Env}
theorem ev_own2 {o e e2 : Expr} {name : Str} {apos pos : Pos} {q : Addr} {Q : Value → Shared → Prop} {pl : Sem Bool} (S : St CN CL w g L m st h) (X : K.In g) (pc : PlainCls K CN) (at_ : Attr K CN name) (hr : r ∈ st.reg)
    (hp : Pv prog w A env o (.ref r.x) h) (he : Pv prog w A env e v h) (he2 : Pv prog w A env e2 v2 h) (hl : getL name (nodeEs w.params r.t (st.F r.x)) = some (some (.ref q))) (fn : FnAt q h)
    (qq : ∀ tk, wpAny (model prog w) A (call (.ref q) [v, v2]) Q E (up s h tk))
    (hst : starEach [e, e2] env = (false, eval e env) :: starEach [e2] env) (hst2 : starEach [e2] env = (false, eval e2 env) :: starEach [] env) (hpl : (backTo pos (starEach [e2] env)).any (·.1) = false)
    (hsh : (eval ((o.Attribute name apos).Call [e, e2] [] pos) env = do
          let ov ← eval o env
          standAt apos.atName
          let __x ← holding [ov] (getMethod ov name pl)
          match __x with
            | (f, first) => callWith pos f first (backTo pos (starEach [e, e2] env)) [])) :
    wpAny (model prog w) A (eval ((o.Attribute name apos).Call [e, e2] [] pos) env) Q E (up s h tk) :=
  MethodCall_ (hp.at fun tk => method_usual (X.keeps S.F.keep) (S.ninst hr) pc.ga pc.gt at_.no rfl
    (get_node (s := up s h tk) S X pc at_ hr hl rfl (callWith_F fn (spliced_more (he.at fun tk' => spliced_more (he2.at fun tk'' => spliced_none ⟨fn, qq tk''⟩) hst2) hst) hst hpl))) hsh
end
theorem Cst.ofEx {prog : Program} {w : World} {K : Frag} {Ky : Type} [DecidableEq Ky] {T : DT prog w K Ky} {st : LS} {ord : List (Ky × Rg)} {kvs : List (Ky × Value)} {ex : List (Addr × Obj)} (C : Cst T st ord kvs) : Cst T { st with ex := ex } ord kvs := ⟨C.sub, C.nd, C.seg, C.mru, C.lru, C.key, C.od, C.perm, C.ne⟩
structure Fixr (st st' : LS) : Prop where
  c : st'.c = st.c
  dd : st'.dd = st.dd
  reg : st'.reg = st.reg
  mx : st'.mx = st.mx
  af : st'.af = st.af
theorem Fixr.refl {st : LS} : Fixr st st := ⟨rfl, rfl, rfl, rfl, rfl⟩
theorem Fixr.trans {a b c : LS} (x : Fixr a b) (y : Fixr b c) : Fixr a c := ⟨y.c.trans x.c, y.dd.trans x.dd, y.reg.trans x.reg, y.mx.trans x.mx, y.af.trans x.af⟩
/-- the clean-ups of a line's end ran, the last one first -/
inductive Runs {prog : Program} {w : World} {K : Frag} {CN CL : Addr} {Ky : Type} [DecidableEq Ky] (H : Hook prog w K CN CL) (T : DT prog w K Ky) : List (Ky × Value × Value) → List (Addr × Obj) → List (Addr × Obj) → Prop
  | nil {ex} : Runs H T [] ex ex
  | cons {k v c key l ex ex1 ex2} (r : Runs H T l ex ex1) (hk : T.isK k key) (x : RunC H c key v ex1 ex2) : Runs H T ((k, v, c) :: l) ex ex2
/-- a cache after its end has been cut off to n nodes -/
structure Cut {prog : Program} {w : World} {K : Frag} {CN CL : Addr} {Ky : Type} [DecidableEq Ky] (H : Hook prog w K CN CL) (T : DT prog w K Ky) (b : Nat) (D : List (Ky × Rg)) (st st1 : LS) (n : Nat) (kvs1 : List (Ky × Value)) : Prop where
  fx : Fixr st st1
  C : Cst T st1 (D.take n) kvs1
  ev : vw st1 (D.take n) = vw st (D.take n)
  ok : H.ok ((D.take n).length + b) st1.ex
  runs : Runs H T ((vw st D).drop n) st.ex st1.ex
/-- what stays of a cache's state -/
structure FixB (st st' : LS) : Prop where
  c : st'.c = st.c
  dd : st'.dd = st.dd
  mx : st'.mx = st.mx
  af : st'.af = st.af
theorem FixB.trans {st st₁ st₂ : LS} (a : FixB st st₁) (b : FixB st₁ st₂) : FixB st st₂ := ⟨b.c.trans a.c, b.dd.trans a.dd, b.mx.trans a.mx, b.af.trans a.af⟩
theorem FixB.refl {st : LS} : FixB st st := ⟨rfl, rfl, rfl, rfl⟩
theorem Fixr.b {st st' : LS} (f : Fixr st st') : FixB st st' := ⟨f.c, f.dd, f.mx, f.af⟩
theorem Fixd.b {st st' : LS} (f : Fixd st st') : FixB st st' := ⟨f.c, f.dd, f.mx, f.af⟩
/-- the clean-up of the entry that an addition writes over, where there is one -/
noncomputable def OldRun {prog : Program} {w : World} {K : Frag} {CN CL : Addr} {Ky : Type} [DecidableEq Ky] (H : Hook prog w K CN CL) (T : DT prog w K Ky) (V : List (Ky × Value × Value)) (k : Ky) (ex ex' : List (Addr × Obj)) : Prop :=
  match look V k with
  | some (v, c) => ∃ key, T.isK k key ∧ RunC H c key v ex ex'
  | none => ex' = ex
/-- what an addition leaves -/
inductive AddDone {prog : Program} {w : World} {K : Frag} {CN CL : Addr} {Ky : Type} [DecidableEq Ky] (H : Hook prog w K CN CL) (T : DT prog w K Ky) (b : Nat) (V : List (Ky × Value × Value)) (k : Ky) (x : Value × Value) (mx af : Int) (st st' : LS) : Prop
  | mk (ex1 : List (Addr × Obj)) (D' : List (Ky × Rg)) (kvs' : List (Ky × Value)) (F : FixB st st') (C : Cst T st' D' kvs') (ok : H.ok b st'.ex) (old : OldRun H T V k st.ex ex1)
    (r : (mx < ((ins V k x).length : Int) ∧ vw st' D' = (ins V k x).take af.toNat ∧ Runs H T ((ins V k x).drop af.toNat) ex1 st'.ex) ∨ (¬mx < ((ins V k x).length : Int) ∧ vw st' D' = ins V k x ∧ st'.ex = ex1))
section
variable {prog : Program} {K : Frag} {CN CL : Addr} {w : World} {g h : Heap} {L : Addr} {m : Str → Option Value} {st : LS} {A : Around} {E : Value → Shared → Prop} {s : Shared} {tk : Nat} {env : Env}
/-- min(e1, e2) of ints -/
theorem ev_min {fn e1 e2 : Expr} {a b : Int} {pos : Pos} {Q : Value → Shared → Prop} (hfn : Pv prog w A env fn (.builtin "min") h) (h1 : PvI prog w A env e1 a h) (h2 : PvI prog w A env e2 b h) (hh : A.handled = none)
    (q : ∀ v h' tk, IsI (min a b) v → Grow h h' → Q v (up s h' tk))
    (hst : starEach [e1, e2] env = (false, eval e1 env) :: starEach [e2] env) (hst2 : starEach [e2] env = (false, eval e2 env) :: starEach [] env) (hpl : (backTo pos (starEach [e2] env)).any (·.1) = false)
    (hsh : eval (fn.Call [e1, e2] [] pos) env = do
          let __do_lift ← eval fn env
          callWith pos __do_lift [] (backTo pos (starEach [e1, e2] env)) (backToKw pos (keywordEach [] env))) :
    wpAny (model prog w) A (eval (fn.Call [e1, e2] [] pos) env) Q E (up s h tk) := by
  refine Call_ (hfn.at fun tk => callWith_builtin1 (spliced_more (PvE.at h1 fun v tk1 hv => spliced_more (PvE.at h2 fun v2 tk2 hv2 => spliced_none ?_) hst2) hst) hst hpl) hsh
  obtain ⟨t, rfl⟩ := hv
  obtain ⟨t2, rfl⟩ := hv2
  refine min_two_ints (s := up s h tk2) hh fun h' tk' hk => q _ h' tk' ?_ fun c o e => hk c o e
  rw [Int.min_def]
  by_cases c : b < a
  · rw [if_pos c, if_neg (by omega)]; exact ⟨_, rfl⟩
  · rw [if_neg c, if_pos (by omega)]; exact ⟨_, rfl⟩
/-- x.name = e, where e makes objects -/
theorem as_cacheW {o e : Expr} {name : Str} {pos pos' : Pos} {fld : LS → Value} {upd : LS → Value → LS} {P : Value → Prop} {Q : Flow → Shared → Prop} (S : St CN CL w g L m st h) (X : K.In g) (pc : PlainCls K CL)
    (he : ∀ Q' : Value → Shared → Prop, (∀ v h' tk, P v → Grow h h' → Q' v (up s h' tk)) → wpAny (model prog w) A (eval e env) Q' E (up s h tk)) (hp : ∀ h', St CN CL w g L m st h' → Pv prog w A env o (.ref st.c) h') (n : CAt K CL name fld upd) (hv : ∀ v, P v → Nb v)
    (q : ∀ v, P v → ∀ h' tk, St CN CL w g L m (upd st v) h' → Q .next (up s h' tk))
    (hs : swapsWith e (some (.Attribute o name pos')) pos.line env = pure false) :
    wpAny (model prog w) A (exec (.Assign [.Attribute o name pos'] e pos) env) Q E (up s h tk) := by
  refine plainObj_wpAny_Assign_Attribute (he _ fun v h1 tk1 hP G => (hp h1 (S.grow G)).at fun tk' => ?_) hs
  exact set_cache (s := up s h1 tk') (S.grow G) X pc n.at_ (n.get _ _) (fun _ _ => n.put _ _ _ _ _) (n.put' _ _) (n.okU _ _ S.ok (hv _ hP)) fun h' tk'' S' => q _ hP h' tk'' S'
end
/-- the count to keep -/
noncomputable def keepOf (n : Int) : Option Int → Int
  | none => (n * 8).fdiv 10
  | some a => min a n
noncomputable def IsO (a : Option Int) (v : Value) : Prop := match a with | none => v = .none | some i => IsI i v
theorem keepOf_nonneg {n : Int} {a : Option Int} (hn : 0 ≤ n) (ha : ∀ i, a = some i → 0 ≤ i) : 0 ≤ keepOf n a := by
  cases a with
  | none => exact Int.fdiv_nonneg (by omega) (by decide)
  | some i => have := ha i rfl; show 0 ≤ min i n; omega
theorem IsO.nb {a : Option Int} {v : Value} (h : IsO a v) : Nb v := by
  cases a with
  | none => exact (show v = .none from h) ▸ Nb.none
  | some i => exact IsI.nb h
theorem IniX.grow {C : Addr} {g h h' : Heap} {L : Addr} {m : Str → Option Value} {x dx : Addr} {es : List DictEntry} {n : Nat} {ex : List (Addr × Obj)} (I : IniX C g L m x dx es n ex h) (G : Grow h h') : IniX C g L m x dx es n ex h' :=
  ⟨I.F.grownK fun b o e => G b o e, fun q hq => ⟨G _ _ (I.N q hq).1, (I.N q hq).2⟩, I.ne, I.off⟩
/-- no clean-ups at all -/
noncomputable def hook0 (prog : Program) (w : World) (K : Frag) (CN CL : Addr) : Hook prog w K CN CL where
  ok := fun _ _ => True
  mono := fun h => h
  cb := fun _ => False
  Run := fun _ _ _ _ _ => False
  nb := fun h => h.elim
  ne := fun h => h.elim
  fn := fun h => h.elim
  keep := fun h => h.elim
  call := fun h => h.elim
section
variable {prog : Program} {K : Frag} {C : Addr} {w : World} {g h : Heap} {L : Addr} {m : Str → Option Value} {A : Around} {E : Value → Shared → Prop} {s : Shared} {tk : Nat} {env : Env} {x dx : Addr} {es : List DictEntry} {n : Nat} {name : Str} {e : Expr} {pos : Pos} {Q : Flow → Shared → Prop}
theorem as_iniW {ex : List (Addr × Obj)} {sn : Str} {pos' np : Pos} {P : Value → Prop} (I : IniX C g L m x dx es n ex h) (X : K.In g) (pc : PlainCls K C) (a : Attr K C name)
    (he : ∀ Q' : Value → Shared → Prop, (∀ v h' tk, P v → Grow h h' → Q' v (up s h' tk)) → wpAny (model prog w) A (eval e env) Q' E (up s h tk)) (hp : ∀ h', IniX C g L m x dx es n ex h' → Pv prog w A env (.Name sn np) (.ref x) h') (hl : (getL name es).isSome = true)
    (hu : ∀ v t, (putL name (PyData.keyHash w.params name) (.str name t) v es, putN name es n) = (es ++ [⟨PyData.keyHash w.params name, .str name t, v⟩], n + 1)) (hz : es.length + 1 ≤ 1000)
    (q : ∀ v, P v → ∀ h' tk t, IniX C g L m x dx (es ++ [⟨PyData.keyHash w.params name, .str name t, v⟩]) (n + 1) ex h' → Q .next (up s h' tk))
    (hs : swapsWith e (some (.Attribute (.Name sn np) name pos')) pos.line env = pure false) :
    wpAny (model prog w) A (exec (.Assign [.Attribute (.Name sn np) name pos'] e pos) env) Q E (up s h tk) := by
  refine plainObj_wpAny_Assign_Attribute (he _ fun v h1 tk1 hv G => (hp h1 (I.grow G)).at fun tk' => ?_) hs
  have I := I.grow G
  refine set_dict (s := up s h1 tk') I.F X I.N (W.InstAt.of_news I.N (.head _) (.tail _ (.head _))) rfl pc.sa pc.po a.taker pc.hd hl (hu _ _) (Upd.tail I.ne (Upd.head fun q hq => (I.off q hq).1)) (by simpa using hz) fun h' F' N' => q v hv h' _ _ ⟨F', N', I.ne, I.off⟩
end
/-- a dict's entries, whatever its keys -/
noncomputable def RawAt (h : Heap) (d : Addr) (es : Array DictEntry) (ep : Nat) : Prop := ∃ o, h.get? d = some o ∧ o.data = .dict es ep
theorem RawAt.keep {h h' : Heap} {d : Addr} {es : Array DictEntry} {ep : Nat} (x : RawAt h d es ep) (k : ∀ o, h.get? d = some o → h'.get? d = some o) : RawAt h' d es ep := let ⟨o, a, b⟩ := x; ⟨o, k o a, b⟩
section
variable {prog : Program} {w : World} {A : Around} {E : Value → Shared → Prop} {s : Shared} {it d : Addr} {es : Array DictEntry} {ep i : Nat}
theorem raw_iter {v : Addr} {Q : Value → Shared → Prop} (hv : s.heap.IsItemsView v d) (hm : RawAt s.heap d es ep)
    (hQ : Q (.ref s.heap.objs.size) { s with heap := s.heap.push { cls := .type "dict_itemiterator", data := .fields #[.none, .bool false, .ref d, .int 0 0, .int es.size 0, .int ep 0, .none, .none] } }) :
    wpAny (model prog w) A (pyIter (.ref v)) Q E s := by
  obtain ⟨ov, hov, hcv, hdv⟩ := id hv
  obtain ⟨o, ho, hdat⟩ := id hm
  refine wpAny_pyIter_slot hv.typeIs F.slot_dict_items_iter (wpAny_call_entry F.slot_dict_items_iter hv.typeIs F.entry_dict_items_iter ?_ (F.args_dict_items_iter_1 _))
  unfold Builtin.«dict_items.__iter__»
  refine wpAny_bind (wpAny_pure (wpAny_bind ?_))
  unfold Builtin.Dict_items.dictOf
  refine wpAny_bind (wpAny_field hov hdv (x := .ref d) rfl (wpAny_pure (wpAny_bind ?_)))
  unfold Builtin.Dict_items.newIterator
  refine wpAny_bind (wpAny_dictEntries ho hdat (wpAny_bind (wpAny_dictEpoch ho hdat ?_)))
  simp only [show Builtin.Dict_items.ownsTuple "dict_itemiterator" = true by decide, if_true]
  refine wpAny_newObj_type (wpAny_pure ⟨_, rfl, "dict_itemiterator", _, ⟨_, Heap.get?_push_size _ rfl, rfl⟩, F.slot_dict_itemiterator_next.lookup, ?_⟩)
    (by simp only [sizeOk, Builtin.Dict_items.ownedTupleFields, List.size_toArray, List.length_append, List.length_cons, List.length_nil, sizeLine_eq]; omega)
  simpa [rawInt, Builtin.Dict_items.ownedTupleFields] using hQ
theorem raw_item {ok ov : Value} {e : DictEntry} {Q : Option Value → Shared → Prop} (hit : IsItemIter s.heap it d i es.size ep ok ov) (hm : RawAt s.heap d es ep) (hx : es[i]? = some e)
    (hQ : ∀ h', IsItemIterOut h' it d (i + 1) es.size ep e.key e.val s.heap.objs.size → h'.get? s.heap.objs.size = some { cls := .type "tuple", data := .seq #[e.key, e.val] } → h'.objs.size = s.heap.objs.size + 1 →
      (∀ b o, b ≠ it → s.heap.get? b = some o → h'.get? b = some o) → Q (some (.ref s.heap.objs.size)) { s with heap := h' }) :
    wpAny (model prog w) A (pyNext (.ref it)) Q E s := by
  obtain ⟨hp, gg, dr, tk, os⟩ := s
  obtain ⟨od, hod, hdd⟩ := id hm
  have hT : Shared.TypeIs ⟨hp, gg, dr, tk, os⟩ (.ref it) "dict_itemiterator" := ⟨_, hit, rfl⟩
  have hil : it ≠ hp.objs.size := Nat.ne_of_lt (Heap.lt_size hit)
  unfold pyNext
  refine wpAny_bind (wpAny_attempt (wpAny_callSpecial?_slot (name := Str.ofString "__next__") hT F.slot_dict_itemiterator_next
    (wpAny_call_entry F.slot_dict_itemiterator_next hT F.entry_dict_itemiterator_next ?_ (F.args_dict_itemiterator_next_1 _))))
  refine wpAny_bind (wpAny_pure (wpAny_bind (wpAny_bind (wpAny_bind (wpAny_typeNameOfWhole_itemiter hT (wpAny_pure (wpAny_bind (wpAny_fieldsOf hit rfl ?_))))))))
  simp only [show Builtin.Dict_items.ownsTuple "dict_itemiterator" = true by decide, if_true]
  show wpAny _ _ (if (Value.ref d == Value.none) = true then _ else _) _ _ _
  rw [if_neg (show ¬ ((Value.ref d == Value.none) = true) from Bool.false_ne_true)]
  refine wpAny_bind (wpAny_pure (wpAny_bind (wpAny_dictEntries hod hdd ?_)))
  rw [if_neg (by simp)]
  refine wpAny_bind (wpAny_pure (wpAny_bind (wpAny_dictEpoch hod hdd ?_)))
  rw [if_neg (by simp)]
  refine wpAny_pure ?_
  simp only [show ¬ ((i : Int) < 0) from by omega, if_false, Int.toNat_natCast, hx]
  refine wpAny_bind (wpAny_bind (wpAny_typeNameOfWhole_itemiter hT (wpAny_pure ?_)))
  refine wpAny_bind (wpAny_isOneOf_itemiter hT ?_)
  show wpAny _ _ (setField (.ref it) 3 (rawInt ((i : Int) + 1)) >>= _) _ _ ⟨hp, gg, dr, tk, os⟩
  refine wpAny_bind (wpAny_setField_rec hit (by simp) fun h1 e1 s1 => ?_)
  replace s1 : Heap.SameBut it hp h1 := s1
  replace e1 : IsItemIter h1 it d (i + 1) es.size ep ok ov := by
    have e : ((i + 1 : Nat) : Int) = (i : Int) + 1 := by omega
    unfold IsItemIter; rw [e]; simpa [rawInt] using e1
  have hT1 : Shared.TypeIs ⟨h1, gg, dr, tk, os⟩ (.ref it) "dict_itemiterator" := ⟨_, e1, rfl⟩
  refine wpAny_bind (wpAny_holding (wpAny_bind (wpAny_isOneOf_itemiter hT1 (wpAny_bind (wpAny_isOneOf_itemiter hT1 ?_)))))
  show wpAny _ _ (Builtin.Dict_items.pairFromOwner (.ref it) 6 e.key e.val) _ _ ⟨h1, gg, dr, tk, os⟩
  unfold Builtin.Dict_items.pairFromOwner
  refine wpAny_bind (wpAny_newTuple ?_)
  obtain ⟨h2, eh2⟩ : ∃ h2, h1.push { cls := .type "tuple", data := .seq #[e.key, e.val] } = h2 := ⟨_, rfl⟩
  have e2 : IsItemIter h2 it d (i + 1) es.size ep ok ov := eh2 ▸ Heap.get?_push_of_some _ e1
  have t2 : h2.get? hp.objs.size = some { cls := .type "tuple", data := .seq #[e.key, e.val] } := by rw [← eh2, ← s1.1]; exact Heap.get?_push_size _ rfl
  have z2 : h2.objs.size = hp.objs.size + 1 := by rw [← eh2, Heap.size_push, s1.1]
  have k2 : ∀ b o, b ≠ it → hp.get? b = some o → h2.get? b = some o := fun b o hb e => by rw [← eh2]; exact Heap.get?_push_of_some _ (s1.extBut b o hb e)
  show wpAny _ _ (Builtin.Dict_items.ownedTupleIsFree (.ref it) >>= _) _ _ ⟨h1.push { cls := .type "tuple", data := .seq #[e.key, e.val] }, gg, dr, tk, os⟩
  rw [eh2, s1.1]
  refine wpAny_bind ?_
  unfold Builtin.Dict_items.ownedTupleIsFree
  refine wpAny_bind (wpAny_field e2 rfl (x := .none) rfl (wpAny_pure ?_))
  simp only [if_true]
  refine wpAny_bind (wpAny_field e2 rfl (x := ok) rfl (wpAny_bind (wpAny_field e2 rfl (x := ov) rfl ?_)))
  refine wpAny_bind (wpAny_setField_rec e2 (by simp) fun h3 e3 s3 => ?_)
  replace s3 : Heap.SameBut it h2 h3 := s3
  replace e3 : IsItemIter h3 it d (i + 1) es.size ep e.key ov := e3
  refine wpAny_bind (wpAny_setField_rec e3 (by simp) fun h4 e4 s4 => ?_)
  replace s4 : Heap.SameBut it h3 h4 := s4
  replace e4 : IsItemIter h4 it d (i + 1) es.size ep e.key e.val := e4
  refine wpAny_bind (wpAny_setField_rec e4 (by simp) fun h5 e5 s5 => ?_)
  replace s5 : Heap.SameBut it h4 h5 := s5
  replace e5 : IsItemIterOut h5 it d (i + 1) es.size ep e.key e.val hp.objs.size := e5
  refine wpAny_bind (wpAny_setField_rec e5 (by simp) fun h6 e6 s6 => ?_)
  replace s6 : Heap.SameBut it h5 h6 := s6
  replace e6 : IsItemIterOut h6 it d (i + 1) es.size ep e.key e.val hp.objs.size := e6
  have all : ∀ b o, b ≠ it → h2.get? b = some o → h6.get? b = some o := fun b o hb q => s6.extBut _ _ hb (s5.extBut _ _ hb (s4.extBut _ _ hb (s3.extBut _ _ hb q)))
  exact wpAny_bind (wpAny_letGo (wpAny_pure (wpAny_pure ⟨_, rfl, wpAny_pure (hQ h6 e6 (all _ _ (Ne.symm hil) t2) (by rw [s6.1, s5.1, s4.1, s3.1, z2]) fun b o hb q => all b o hb (k2 b o hb q))⟩)))
theorem raw_end {ok ov : Value} {Q : Option Value → Shared → Prop} (hh : A.handled = none) (hit : IsItemIter s.heap it d i es.size ep ok ov) (hm : RawAt s.heap d es ep) (hx : es[i]? = none)
    (hQ : ∀ h', Heap.ExtBut it s.heap h' → Q none { s with heap := h' }) : wpAny (model prog w) A (pyNext (.ref it)) Q E s := by
  obtain ⟨od, hod, hdd⟩ := id hm
  have hT : s.TypeIs (.ref it) "dict_itemiterator" := ⟨_, hit, rfl⟩
  unfold pyNext
  refine wpAny_bind (wpAny_attempt (wpAny_callSpecial?_slot (name := Str.ofString "__next__") hT F.slot_dict_itemiterator_next
    (wpAny_call_entry F.slot_dict_itemiterator_next hT F.entry_dict_itemiterator_next ?_ (F.args_dict_itemiterator_next_1 _))))
  refine wpAny_bind (wpAny_pure (wpAny_bind (wpAny_bind (wpAny_bind (wpAny_typeNameOfWhole_itemiter hT (wpAny_pure (wpAny_bind (wpAny_fieldsOf hit rfl ?_))))))))
  simp only [show Builtin.Dict_items.ownsTuple "dict_itemiterator" = true by decide, if_true]
  show wpAny _ _ (if (Value.ref d == Value.none) = true then _ else _) _ _ s
  rw [if_neg (show ¬ ((Value.ref d == Value.none) = true) from Bool.false_ne_true)]
  refine wpAny_bind (wpAny_pure (wpAny_bind (wpAny_dictEntries hod hdd ?_)))
  rw [if_neg (by simp)]
  refine wpAny_bind (wpAny_pure (wpAny_bind (wpAny_dictEpoch hod hdd ?_)))
  rw [if_neg (by simp)]
  refine wpAny_pure ?_
  simp only [show ¬ ((i : Int) < 0) from by omega, if_false, Int.toNat_natCast, hx]
  refine wpAny_bind (wpAny_bind (wpAny_typeNameOfWhole_itemiter hT (wpAny_pure ?_)))
  show wpAny _ _ (setField (.ref it) 2 .none >>= _) _ _ s
  refine wpAny_bind (wpAny_setField hit rfl (by simp) ?_)
  show wpAny _ _ (newExc (.type "StopIteration") [] >>= _) _ _ _
  refine wpAny_bind ?_
  simp only [newExc, newTuple]
  refine wpAny_bind (wpAny_newObj_type ?_ (by size_fits))
  refine wpAny_bind (m := firstArgMember _ _) (wpAny_of_eq (a := Value.none) (by first | rfl | (simp only [firstArgMember]; rfl)) ?_)
  refine wpAny_newObj_type ?_ (by size_fits)
  simp only [raiseNew]
  refine wpAny_bind (wpAny_handled ?_)
  rw [show A.in1.handled = none from hh]
  refine wpAny_bind (wpAny_pure (wpAny_throw ?_))
  refine wpAny_bind (wpAny_isInstance (T := "StopIteration") (b := true) ⟨_, Heap.get?_push_size _ rfl, rfl⟩ isSubtype_stop ?_)
  exact wpAny_pure (hQ _ (((Heap.SameBut.update ..).extBut.push _).push _))
end
section
variable {prog : Program} {K : Frag} {CN CL C : Addr} {w : World} {g h₀ h h' : Heap} {L : Addr} {m : Str → Option Value} {st : LS} {A : Around} {E : Value → Shared → Prop} {s : Shared} {tk tk₀ : Nat} {r : Rg} {v v2 : Value} {env : Env}
/-- the comprehension over items(), i pairs taken -/
inductive ItemsR {prog : Program} {w : World} {K : Frag} {Ky : Type} [DecidableEq Ky] (T : DT prog w K Ky) (s : Shared) (st : LS) (h1 : Heap) (I Dd Cc : Addr) (ep : Nat) (kvs : List (Ky × Value)) (n : Nat) (s' : Shared) : Prop
  | mk (h' : Heap) (tk' i : Nat) (m' : Str → Option Value) (oD : Obj) (ok ov : Value) (es : s' = up s h' tk') (hi : i ≤ kvs.length) (hn : n = kvs.length + 1 - i) (G : Grow h1 h') (it : IsItemIter h' I st.dd i kvs.length ep ok ov) (ns : h'.Ns Cc m') (hD : h'.get? Dd = some oD)
    (od : OD T oD ((kvs.take i).map fun kv => (kv.1, nodeVal st kv.2)))
theorem comp_itemsR {Ky : Type} [DecidableEq Ky] {T : DT prog w K Ky} {kn nn : Str} {kp np ap pk pn tp pos : Pos} {kk : Nat} {scope : Scope} {iter : Expr} {cl : List (Str × Addr)} {Q : Value → Shared → Prop} {ord : List (Ky × Rg)} {kvs : List (Ky × Value)}
    (S : St CN CL w g L m st h) (X : K.In g) (pc : PlainCls K CN) (at_ : Attr K CN "value") (C : Cst T st ord kvs) (hh : A.handled = none) (hu : A.units + 8 < cLine) (hz : kvs.length ≤ 100000)
    (hiter : ∀ (Q : Value → Shared → Prop), (∀ h1 tk v, Grow h h1 → h1.IsItemsView v st.dd → Q (.ref v) (up s h1 tk)) → wpAny (model prog w) A (eval iter env) Q E (up s h tk₀))
    (hclos : closureFor scope env = pure cl) (hcell : ∀ y ∈ scope.names, y.2 ≠ .cell) (hkind : scope.kind = .function)
    (hnames : ∀ y ∈ scope.names, y.2 = .local → scope.names.lookup y.1 = some .local) (hxa : scope.names.lookup kn = some .local) (hxb : scope.names.lookup nn = some .local) (hab : ¬ kn = nn)
    (hd1 : (kn == ("__debug__" : Str)) = false) (hd2 : (nn == ("__debug__" : Str)) = false)
    (hs : ∀ x, foldedSetIterable iter env x = pure x)
    (hsh : ∀ env, eval ((Expr.Name nn np).Attribute "value" ap) env = (do
          let ov ← eval (Expr.Name nn np) env
          standAt ap.atName
          let r ← holding [ov] (getAttr ov "value" true)
          letTemporaryGo (Expr.Name nn np) ov r
          pure r))
    (hq : ∀ h' tk a o', Grow h h' → L < a → h.get? a = none → h'.get? a = some o' → OD T o' (kvs.map fun kv => (kv.1, nodeVal st kv.2)) → Q (.ref a) (up s h' tk)) :
    wpAny (model prog w) A (eval (.DictComp (.Name kn kp) (.Attribute (.Name nn np) "value" ap) [⟨.Tuple [.Name kn pk, .Name nn pn] kk tp, iter, [], 0⟩] scope pos) env) Q E (up s h tk₀) := by
  rw [arm_eval_DictComp]
  refine wpAny_comprehension_free (use := none) rfl hs hclos hkind hnames (hiter _ fun h1 tk1 vw G1 hv => ?_)
  obtain ⟨hex, es, ep, hdat, heok, hnod⟩ := id C.od
  have hesz : es.size = kvs.length := by rw [← heok.length, Array.length_toList]
  have hat1 : RawAt h1 st.dd es ep := ⟨_, G1 _ _ S.dget, hdat⟩
  refine raw_iter hv hat1 ?_
  rw [hesz]
  refine gen_ (a := h1.objs.size) fun I hI => ?_
  refine gen_ (a := h1.push { cls := .type "dict_itemiterator", data := .fields #[.none, .bool false, .ref st.dd, .int 0 0, .int kvs.length 0, .int ep 0, .none, .none] }) fun H1 hH1 => ?_
  have GH1 : Grow h1 H1 := hH1 ▸ Grow.push
  have hit : IsItemIter H1 I st.dd 0 kvs.length ep .none .none := by rw [← hH1, ← hI]; exact Heap.get?_push_size _ rfl
  have hH1s : H1.objs.size = I + 1 := by rw [← hH1, Heap.size_push, hI]
  refine wpAny_newObj_type (wpAny_newFunctionEnv hcell (by intro y hy; simp at hy) (fun h3 hns3 hsb3 => ?_) hkind)
  obtain ⟨mm, hns3⟩ : ∃ mm, h3.Ns _ mm := ⟨_, hns3⟩
  have hns3 : h3.Ns (H1.push { cls := .type "dict", dict := none, data := .dict #[] }).objs.size mm := by rw [← hH1]; exact hns3
  have hsb3 : Heap.SameBut (H1.push { cls := .type "dict", dict := none, data := .dict #[] }).objs.size ((H1.push { cls := .type "dict", dict := none, data := .dict #[] }).push { cls := .type (if (some env).isSome = true then "dict" else "frame"), data := .dict #[] }) h3 := by rw [← hH1]; exact hsb3
  refine gen_ (a := H1.push { cls := .type "dict", dict := none, data := .dict #[] }) fun H2 hH2 => ?_
  rw [hH2] at hns3 hsb3
  refine gen_ (a := H1.objs.size) fun Dd hDd => ?_
  have hC : H2.objs.size = Dd + 1 := by rw [← hH2, Heap.size_push, hDd]
  refine gen_ (a := H2.objs.size) fun Cc hCc => ?_
  rw [hCc] at hns3 hsb3 hC
  have hID : I < Dd := by rw [← hDd, hH1s]; exact Nat.lt_succ_self _
  have hDC : Dd < Cc := by rw [hC]; exact Nat.lt_succ_self _
  have hIC : I < Cc := Nat.lt_trans hID hDC
  have lt1 : ∀ b o, h1.get? b = some o → b < I := fun b o e => hI ▸ Heap.lt_size e
  have old1 : ∀ b o, H1.get? b = some o → h3.get? b = some o := fun b o e => hsb3.extBut b o (Nat.ne_of_lt (Nat.lt_trans (hDd ▸ Heap.lt_size e) hDC)) (Heap.get?_push_of_some _ (by rw [← hH2]; exact Heap.get?_push_of_some _ e))
  have hD3 : h3.get? Dd = some (dictOf [] 0) := hsb3.extBut _ _ (Nat.ne_of_lt hDC) (Heap.get?_push_of_some _ (by rw [← hH2, ← hDd]; exact Heap.get?_push_size _ rfl))
  have fD : h.get? Dd = none := by
    cases e : h.get? Dd with
    | none => rfl
    | some o => exact absurd (lt1 _ _ (G1 _ _ e)) (Nat.not_lt.mpr (Nat.le_of_lt hID))
  have LD : L < Dd := by
    obtain ⟨oL, _, _, hoL, _⟩ := S.F.ns
    exact Nat.lt_trans (lt1 L oL (G1 L oL hoL)) hID
  have loop : ∀ s₃ : Shared, (∃ tk, s₃ = up s h3 tk) → codeAny (model prog w) A (.compLoop (.DictComp (.Name kn kp) (.Attribute (.Name nn np) "value" ap) [⟨.Tuple [.Name kn pk, .Name nn pn] kk tp, iter, [], 0⟩] scope pos) 0 (.ref I) (.ref Dd) (compEnvC scope cl Cc env))
      (compPost (model prog w) A E none Q (.ref Dd) Cc) s₃ := by
    rintro s₃ ⟨tk3, rfl⟩
    refine cd_loop (ItemsR T s st h1 I Dd Cc ep kvs) ?_ (kvs.length + 1)
      ⟨h3, tk3, 0, _, dictOf [] 0, _, _, rfl, Nat.zero_le _, rfl, fun b o e => old1 b o (GH1 b o e), old1 _ _ hit, hns3, hD3, OD.new⟩
    rintro n s' ⟨h4, tk4, i, m4, oD, ok, ov, rfl, hi, rfl, G4, hit4, hns4, hD4, hOD4⟩
    have hat4 : RawAt h4 st.dd es ep := hat1.keep fun o e => G4 _ o e
    have hit4' := hit4
    rw [← hesz] at hit4'
    by_cases hlt : i < kvs.length
    · obtain ⟨⟨k, x⟩, hx⟩ : ∃ q, kvs[i]? = some q := ⟨kvs[i], by simp [hlt]⟩
      obtain ⟨e₀, he₀, hkey, -, hval⟩ := heok.get hx
      rw [Array.getElem?_toList] at he₀
      refine raw_item (s := up s h4 tk4) hit4' hat4 he₀ fun h5 ho5 hT5 hsz5 hk5 => ?_
      rw [hval, hesz] at ho5
      rw [hval] at hT5
      obtain ⟨key, hkk⟩ : ∃ key, e₀.key = key := ⟨_, rfl⟩
      rw [hkk] at hkey ho5 hT5
      have hT : h4.objs.size < h5.objs.size := by show _ < h5.objs.size; rw [hsz5]; exact Nat.lt_succ_self _
      have hTne : h4.objs.size ≠ I := Nat.ne_of_gt (Heap.lt_size hit4)
      refine wpAny_letOwnedTupleGo_items (s := up s h5 tk4) ho5 fun h6 hit6 hs6 => ?_
      have hT6 : h6.IsTuple h4.objs.size #[key, x] := ⟨_, hs6.extBut _ _ hTne hT5, rfl, _, rfl⟩
      have up6 : ∀ b o, b ≠ I → h4.get? b = some o → h6.get? b = some o := fun b o hb e => hs6.extBut b o hb (hk5 b o hb e)
      refine kcp_assign (s := up s h6 tk4) (env := compEnvC scope cl Cc env) hh hT6 (lookup_relabel_local hxa) (lookup_relabel_local hxb) (by simp [compEnvC, relabel, hkind]) (hns4.at' fun o e => up6 _ o (Nat.ne_of_gt hIC) e) fun h7 tk7 hns7 hs7 => ?_
      have up7 : ∀ b o, b ≠ I → b ≠ Cc → h4.get? b = some o → h7.get? b = some o := fun b o hb hc e => hs7 b o hc (up6 b o hb e)
      have G7 : Grow h1 h7 := fun b o e => up7 b o (Nat.ne_of_lt (lt1 b o e)) (Nat.ne_of_lt (Nat.lt_trans (lt1 b o e) hIC)) (G4 b o e)
      have hit7 : IsItemIter h7 I st.dd (i + 1) kvs.length ep key x := hs7 I _ (Nat.ne_of_lt hIC) hit6
      have hk : (compEnvC scope cl Cc env).scope.kind = .function := hkind
      refine wpAny_Name (wpAny_loadName_local (s := up s h7 tk7) hk (lookup_relabel_local hxa) hns7 (v := key) (by simp [hab]) ?_) hd1
      have hmem : (k, x) ∈ ord.map row := C.perm.mem_iff.mp (List.mem_of_getElem? hx)
      obtain ⟨⟨k', r⟩, hra, hre⟩ := List.mem_map.mp hmem
      obtain rfl : k = k' := (congrArg Prod.fst hre).symm
      obtain rfl : Value.ref r.x = x := congrArg Prod.snd hre
      have hr : r ∈ st.reg := C.sub _ hra
      have S7 : St CN CL w g L m st h7 := S.grow (G1.trans G7)
      refine attr_any (wpAny_Name (wpAny_loadName_local (s := up s h7 tk7) hk (lookup_relabel_local hxb) hns7 (v := .ref r.x) (by simp) ?_) hd2) (hsh _)
      refine get_node (s := up s h7 tk7) (v := (st.F r.x).val) S7 X pc at_ hr rfl (S.ok.F _).val.handed ?_
      have hD7 : h7.get? Dd = some oD := up7 _ _ (Nat.ne_of_gt hID) (Nat.ne_of_lt hDC) hD4
      have hnot : k ∉ ((kvs.take i).map fun kv => (kv.1, nodeVal st kv.2)).map (·.1) := by
        rw [List.map_map]
        show k ∉ (kvs.take i).map (·.1)
        intro hm
        have hn := C.od.nodup
        have e : kvs = kvs.take i ++ (k, Value.ref r.x) :: kvs.drop (i + 1) := by
          have := List.take_append_drop i kvs
          rw [List.drop_eq_getElem_cons hlt] at this
          rw [← Option.some.inj ((List.getElem?_eq_getElem hlt).symm.trans hx)]; exact this.symm
        rw [e, List.map_append, List.nodup_append] at hn
        exact hn.2.2 k hm k (.head _) rfl
      refine hOD4.set (s := up s h7 (tk7 + 1)) (X.keeps S7.F.keep) (by omega) hkey hD7 (by rw [List.length_map, List.length_take]; omega) fun h8 o8 tk8 hs8 ho8 hOD8 => ?_
      rw [stored_new hnot] at hOD8
      have et : kvs.take (i + 1) = kvs.take i ++ [(k, Value.ref r.x)] := by
        rw [List.take_succ_eq_append_getElem hlt, Option.some.inj ((List.getElem?_eq_getElem hlt).symm.trans hx)]
      refine ⟨kvs.length + 1 - (i + 1), by omega, h8, tk8, i + 1, _, o8, key, _, rfl, hlt, rfl, fun b o e => hs8.extBut b o (Nat.ne_of_lt (Nat.lt_trans (lt1 b o e) hID)) (G7 b o e), hs8.extBut _ _ (Nat.ne_of_lt hID) hit7, hns7.at' fun o e => hs8.extBut _ _ (Nat.ne_of_gt hDC) e, ho8, ?_⟩
      rw [et, List.map_append]; exact hOD8
    · have hin : i = kvs.length := Nat.le_antisymm hi (Nat.not_lt.mp hlt)
      subst hin
      refine raw_end (s := up s h4 tk4) hh hit4' hat4 (Array.getElem?_eq_none (Nat.le_of_eq hesz)) fun h5 hx5 => ?_
      refine ⟨m4, hns4.at' fun o e => hx5 _ o (Nat.ne_of_gt hIC) e, fun h6 hs6 => ?_⟩
      rw [List.take_length] at hOD4
      refine hq h6 _ Dd oD (fun b o e => ?_) LD fD (hs6.extBut _ _ (Nat.ne_of_lt hDC) (hx5 _ _ (Nat.ne_of_gt hID) hD4)) hOD4
      have e1 := G1 b o e
      exact hs6.extBut b o (Nat.ne_of_lt (Nat.lt_trans (lt1 b o e1) hIC)) (hx5 b o (Nat.ne_of_lt (lt1 b o e1)) (G4 b o e1))
  have hit3 := old1 _ _ hit
  subst hDd hCc hH2 hI hH1
  exact codeAny_compStart_dict (loop _ ⟨_, rfl⟩) (kcp_self hit3 (loop _ ⟨_, rfl⟩))
end
section
variable {prog : Program} {w : World} {A : Around} {E : Value → Shared → Prop} {s : Shared} {d : Addr}
theorem raw_items (d : Addr) (hd : (d == sysModules) = false) :
    MeetsIn prog w (Builtin.«dict.items» ⟨[.ref d], []⟩) (fun _ R s => s.TypeIs (.ref d) "dict" ∧ R (.ok (.ret (.ref s.heap.objs.size))) { s with heap := s.heap.push { cls := .type "dict_items", data := .fields #[.ref d] } }) :=
  .of_wp fun A R s ⟨hm, h⟩ => by
    unfold Builtin.«dict.items»
    refine wpAny_bind ?_
    unfold Builtin.Dict.noArgs
    refine wpAny_bind (wpAny_notOrdered_dict hm ?_)
    show wpAny _ _ (pure d) _ _ s
    refine wpAny_pure ?_
    show wpAny _ _ (Builtin.Dict.showsAll d >>= _) _ _ s
    unfold Builtin.Dict.showsAll
    rw [if_neg (by rw [hd]; exact Bool.false_ne_true)]
    exact wpAny_bind (wpAny_pure (wpAny_bind (wpAny_newObj_type (wpAny_pure ⟨_, rfl, h⟩))))
theorem raw_keys (d : Addr) (hd : (d == sysModules) = false) :
    MeetsIn prog w (Builtin.«dict.keys» ⟨[.ref d], []⟩) (fun _ R s => s.TypeIs (.ref d) "dict" ∧ R (.ok (.ret (.ref s.heap.objs.size))) { s with heap := s.heap.push { cls := .type "dict_keys", data := .fields #[.ref d] } }) :=
  .of_wp fun A R s ⟨hm, h⟩ => by
    unfold Builtin.«dict.keys»
    refine wpAny_bind ?_
    unfold Builtin.Dict.noArgs
    refine wpAny_bind (wpAny_notOrdered_dict hm ?_)
    show wpAny _ _ (pure d) _ _ s
    refine wpAny_pure ?_
    show wpAny _ _ (Builtin.Dict.showsAll d >>= _) _ _ s
    unfold Builtin.Dict.showsAll
    rw [if_neg (by rw [hd]; exact Bool.false_ne_true)]
    exact wpAny_bind (wpAny_pure (wpAny_bind (wpAny_newObj_type (wpAny_pure ⟨_, rfl, h⟩))))
end
section
variable {prog : Program} {K : Frag} {CN CL C : Addr} {w : World} {g h₀ h : Heap} {L : Addr} {m : Str → Option Value} {st : LS} {A : Around} {E : Value → Shared → Prop} {s : Shared} {tk tk₀ : Nat} {r : Rg} {v v2 : Value} {env : Env}
  {p : Program} {loose : List Str} {mg mb : Str → Option Value} {Q : Flow → Shared → Prop} {x dx f : Addr} {es : List DictEntry} {n : Nat} {ox : Obj} {name kn : Str} {apos pos kp : Pos} {o e e2 : Expr}
theorem ev_mk2 {e3 : Expr} {v3 : Value} {Q : Value → Shared → Prop} (hp : Pv prog w A env o (.ref x) h) (he : Pv prog w A env e v h) (he3 : Pv prog w A env e3 v3 h) (he2 : Pv prog w A env e2 v2 h) (I : W.InstAt h x ox C (some (dictOf es n))) (X : K.In h) (pc : PlainCls K C) (hf : findIn K (.ref C) name = some (some (.ref f)))
    (ht : typeIn K (.ref f) = some (.type "function")) (hkeep : keepIn K (.ref f) = true) (hl : getL name es = some none)
    (q : ∀ tk, wpAny (model prog w) A (call (.ref f) [.ref x, v, v3] [(kn, v2)]) Q E (up s h tk)) {pl : Sem Bool}
    (hst : starEach [e, e3] env = (false, eval e env) :: starEach [e3] env) (hst3 : starEach [e3] env = (false, eval e3 env) :: starEach [] env)
    (hpl : ((backTo pos (starEach [e, e3] env)).any (·.1) || (backToKw pos (keywordEach [⟨some kn, e2, kp⟩] env)).any (·.1.isNone)) = false)
    (hall : (backToKw pos (keywordEach [⟨some kn, e2, kp⟩] env)).all (·.1.isSome) = true)
    (hsh : eval (.Call (.Attribute o name apos) [e, e3] [⟨some kn, e2, kp⟩] pos) env = (do
      let ov ← eval o env
      standAt apos.atName
      let (f, first) ← holding [ov] (getMethod ov name pl)
      callWith pos f first (backTo pos (starEach [e, e3] env)) (backToKw pos (keywordEach [⟨some kn, e2, kp⟩] env)))) :
    wpAny (model prog w) A (eval ((o.Attribute name apos).Call [e, e3] [⟨some kn, e2, kp⟩] pos) env) Q E (up s h tk) := by
  refine methodCall_KW (hp.at fun tk => ?_) hsh
  refine method_fn (s := up s h tk) X I pc.ga pc.gt hf ht (by show (lookIn name (dictOf es n)).map _ = _; rw [lookIn_dict, hl]; rfl) ?_
  refine callWith_KW X hkeep hall (spliced_more (he.at fun tk2 => spliced_more (he3.at fun tk3 => spliced_none ?_) hst3) hst) hpl hst
  exact kws_cons (he2.at fun tk4 => kws_nil ⟨X, q tk4⟩)
end
section
open PySem PySem.W PyProof.Rows PySem.Calls PySem.SeqAt
theorem sub_int_bytes : isSubtype (.type "int") (.type "bytes") = pure false := by rw [isSubtype_type]; kernel_rfl
theorem sub_str_bytes : isSubtype (.type "str") (.type "bytes") = pure false := by rw [isSubtype_type]; kernel_rfl
theorem sub_tuple_bytes : isSubtype (.type "tuple") (.type "bytes") = pure false := by rw [isSubtype_type]; kernel_rfl
theorem sub_bytes_int : isSubtype (.type "bytes") (.type "int") = pure false := by rw [isSubtype_type]; kernel_rfl
theorem sub_bytes_str : isSubtype (.type "bytes") (.type "str") = pure false := by rw [isSubtype_type]; kernel_rfl
theorem sub_bytes_tuple : isSubtype (.type "bytes") (.type "tuple") = pure false := by rw [isSubtype_type]; kernel_rfl
theorem slot_bytes_eq_refl : Slot "bytes" (cmpInfo .Eq).2.2 "bytes.__eq__" := FB.slot_bytes_eq
theorem int_eq_bytes (a : Int) (t : Tok) (b : Array UInt8) (u : Tok) : Gives (Builtin.«int.__eq__» ⟨[.int a t, .bytes b u], []⟩) (.val .notImplemented) :=
  .of_wp fun M A E s Q h => by obtain ⟨hp, g, d, tk, os⟩ := s; have f1 := sub_bytes_int; wp_walk; exact ⟨_, rfl, h⟩
theorem str_eq_bytes (a : Str) (t : Tok) (b : Array UInt8) (u : Tok) : Gives (Builtin.«str.__eq__» ⟨[.str a t, .bytes b u], []⟩) (.val .notImplemented) :=
  .of_wp fun M A E s Q h => by obtain ⟨hp, g, d, tk, os⟩ := s; have f1 := sub_bytes_str; wp_walk; exact ⟨_, rfl, h⟩
theorem bytes_eq_int (a : Int) (t : Tok) (b : Array UInt8) (u : Tok) : Gives (Builtin.«bytes.__eq__» ⟨[.bytes b u, .int a t], []⟩) (.val .notImplemented) :=
  .of_wp fun M A E s Q h => by obtain ⟨hp, g, d, tk, os⟩ := s; have f1 := sub_int_bytes; wp_walk; exact ⟨_, rfl, h⟩
theorem bytes_eq_str (a : Str) (t : Tok) (b : Array UInt8) (u : Tok) : Gives (Builtin.«bytes.__eq__» ⟨[.bytes b u, .str a t], []⟩) (.val .notImplemented) :=
  .of_wp fun M A E s Q h => by obtain ⟨hp, g, d, tk, os⟩ := s; have f1 := sub_str_bytes; wp_walk; exact ⟨_, rfl, h⟩

end
section
open PySem PySem.W PyProof.Rows PySem.Calls PySem.SeqAt
theorem tuple_eq_bytes (l : Addr) (items : Array Value) (n : Nat) (dd : Option Addr) (sl : Array (Option Value)) (b : Array UInt8) (u : Tok) :
    Meets (Builtin.«tuple.__eq__» ⟨[.ref l, .bytes b u], []⟩) (fun _ R s => s.heap.get? l = some { cls := .type "tuple", dict := dd, data := .seq items n, slots := sl } ∧ R (.ok (.ret .notImplemented)) s) :=
  .of_wp fun prog w A R s h => by obtain ⟨hp, g, d, tk, os⟩ := s; obtain ⟨hl, h⟩ := h; have f1 := sub_bytes_tuple; wp_walk using AutoSeq1.wpAny_loadPart' hl; exact ⟨_, rfl, h⟩
theorem bytes_eq_tuple (l : Addr) (items : Array Value) (n : Nat) (dd : Option Addr) (sl : Array (Option Value)) (b : Array UInt8) (u : Tok) :
    Meets (Builtin.«bytes.__eq__» ⟨[.bytes b u, .ref l], []⟩) (fun _ R s => s.heap.get? l = some { cls := .type "tuple", dict := dd, data := .seq items n, slots := sl } ∧ R (.ok (.ret .notImplemented)) s) :=
  .of_wp fun prog w A R s h => by obtain ⟨hp, g, d, tk, os⟩ := s; obtain ⟨hl, h⟩ := h; have f1 := sub_tuple_bytes; wp_walk using AutoSeq1.wpAny_loadPart' hl, wpAny_load hl; exact ⟨_, rfl, h⟩
section
variable {A : Around} {s : Shared}
theorem eqAt_of_rc {a b : Value} {k : Bool} (hne : a ≠ b) (hf : ∀ x y, a ≠ .float x y) (h : RcAt A s a b k) : EqAt A s a b k := fun prog w E Q q => by
  unfold eqBool
  refine wpAny_holding ?_
  refine wpAny_ite_split (fun hab => absurd (eq_of_beq hab) hne) (fun _ => ?_)
  cases a with
  | float x y => exact absurd rfl (hf x y)
  | _ => exact wpAny_bind (h prog w E _ (wpAny_truthy_bool q))
theorem rc_int_bytes (a : Int) (t : Tok) (b : Array UInt8) (u : Tok) : RcAt A s (.int a t) (.bytes b u) false := fun prog w E Q h =>
  rc_eq_decline_or (k := false) (typeIs_int s a t) (typeIs_bytes s b u) (by decide) sub_bytes_int F.slot_int_eq slot_bytes_eq_refl
    (fun _ hq => call_gives F.slot_int_eq (typeIs_int s a t) F.entry_int_eq (F.args_int_eq_2 _ _) (int_eq_bytes a t b u) hq)
    (fun _ hq => call_gives slot_bytes_eq_refl (typeIs_bytes s b u) FB.entry_bytes_eq (FB.args_bytes_eq_2 _ _) (bytes_eq_int a t b u) hq)
    (fun _ hq => wpAny_of_eq (rfl : isSame (.int a t) (.bytes b u) = pure false) hq) (.inl rfl) h
theorem rc_bytes_int (a : Int) (t : Tok) (b : Array UInt8) (u : Tok) : RcAt A s (.bytes b u) (.int a t) false := fun prog w E Q h =>
  rc_eq_decline_or (k := false) (typeIs_bytes s b u) (typeIs_int s a t) (by decide) sub_int_bytes FB.slot_bytes_eq F.slot_int_eq_refl
    (fun _ hq => call_gives FB.slot_bytes_eq (typeIs_bytes s b u) FB.entry_bytes_eq (FB.args_bytes_eq_2 _ _) (bytes_eq_int a t b u) hq)
    (fun _ hq => call_gives F.slot_int_eq_refl (typeIs_int s a t) F.entry_int_eq (F.args_int_eq_2 _ _) (int_eq_bytes a t b u) hq)
    (fun _ hq => wpAny_of_eq (rfl : isSame (.bytes b u) (.int a t) = pure false) hq) (.inl rfl) h
theorem rc_str_bytes (a : Str) (t : Tok) (b : Array UInt8) (u : Tok) : RcAt A s (.str a t) (.bytes b u) false := fun prog w E Q h =>
  rc_eq_decline_or (k := false) (typeIs_str s a t) (typeIs_bytes s b u) (by decide) sub_bytes_str F.slot_str_eq slot_bytes_eq_refl
    (fun _ hq => call_gives F.slot_str_eq (typeIs_str s a t) F.entry_str_eq (F.args_str_eq_2 _ _) (str_eq_bytes a t b u) hq)
    (fun _ hq => call_gives slot_bytes_eq_refl (typeIs_bytes s b u) FB.entry_bytes_eq (FB.args_bytes_eq_2 _ _) (bytes_eq_str a t b u) hq)
    (fun _ hq => wpAny_of_eq (rfl : isSame (.str a t) (.bytes b u) = pure false) hq) (.inl rfl) h
theorem rc_bytes_str (a : Str) (t : Tok) (b : Array UInt8) (u : Tok) : RcAt A s (.bytes b u) (.str a t) false := fun prog w E Q h =>
  rc_eq_decline_or (k := false) (typeIs_bytes s b u) (typeIs_str s a t) (by decide) sub_str_bytes FB.slot_bytes_eq F.slot_str_eq_refl
    (fun _ hq => call_gives FB.slot_bytes_eq (typeIs_bytes s b u) FB.entry_bytes_eq (FB.args_bytes_eq_2 _ _) (bytes_eq_str a t b u) hq)
    (fun _ hq => call_gives F.slot_str_eq_refl (typeIs_str s a t) F.entry_str_eq (F.args_str_eq_2 _ _) (str_eq_bytes a t b u) hq)
    (fun _ hq => wpAny_of_eq (rfl : isSame (.bytes b u) (.str a t) = pure false) hq) (.inl rfl) h
theorem rc_tuple_bytes {l : Addr} {items : Array Value} (b : Array UInt8) (u : Tok) (hl : s.heap.IsTuple l items) (hu : A.units < cLine) : RcAt A s (.ref l) (.bytes b u) false := fun prog w E Q h => by
  obtain ⟨⟨cls, dd, data, sl⟩, ho, hc, n, hd⟩ := id hl
  simp only at hc hd
  subst hc hd
  exact rc_eq_decline_or (k := false) ⟨_, ho, rfl⟩ (typeIs_bytes s b u) (by decide) sub_bytes_tuple F.slot_tuple_eq slot_bytes_eq_refl
    (fun _ hq => call_meets F.slot_tuple_eq ⟨_, ho, rfl⟩ F.entry_tuple_eq (F.args_tuple_eq_2 _ _) (tuple_eq_bytes l items n dd sl b u) ⟨ho, hq⟩)
    (fun _ hq => call_meets slot_bytes_eq_refl (typeIs_bytes s b u) FB.entry_bytes_eq (FB.args_bytes_eq_2 _ _) (bytes_eq_tuple l items n dd sl b u) ⟨ho, hq⟩)
    (fun _ hq => wpAny_of_eq (rfl : isSame (.ref l) (.bytes b u) = pure false) hq) (.inr hu) h
theorem rc_bytes_tuple {l : Addr} {items : Array Value} (b : Array UInt8) (u : Tok) (hl : s.heap.IsTuple l items) (hu : A.units < cLine) : RcAt A s (.bytes b u) (.ref l) false := fun prog w E Q h => by
  obtain ⟨⟨cls, dd, data, sl⟩, ho, hc, n, hd⟩ := id hl
  simp only at hc hd
  subst hc hd
  exact rc_eq_decline_or (k := false) (typeIs_bytes s b u) ⟨_, ho, rfl⟩ (by decide) sub_tuple_bytes FB.slot_bytes_eq F.slot_tuple_eq_refl
    (fun _ hq => call_meets FB.slot_bytes_eq (typeIs_bytes s b u) FB.entry_bytes_eq (FB.args_bytes_eq_2 _ _) (bytes_eq_tuple l items n dd sl b u) ⟨ho, hq⟩)
    (fun _ hq => call_meets F.slot_tuple_eq_refl ⟨_, ho, rfl⟩ F.entry_tuple_eq (F.args_tuple_eq_2 _ _) (tuple_eq_bytes l items n dd sl b u) ⟨ho, hq⟩)
    (fun _ hq => wpAny_of_eq (rfl : isSame (.bytes b u) (.ref l) = pure false) hq) (.inr hu) h
theorem eqAt_bytes (b : Array UInt8) (t : Tok) (c : Array UInt8) (u : Tok) : EqAt A s (.bytes b t) (.bytes c u) (decide (b.toList = c.toList)) := fun prog w E Q h => eqBool_bytes h
end

end
section
open PySem PySem.W PyProof.Rows PySem.Calls PySem.SeqAt

noncomputable def shV : Value → Bool
  | .int _ _ => true
  | .str _ _ => true
  | .bytes _ _ => true
  | .ref _ => true
  | _ => false
inductive ShV : Value → Prop
  | int {n t} : ShV (.int n t)
  | str {n t} : ShV (.str n t)
  | bytes {n t} : ShV (.bytes n t)
  | ref {a} : ShV (.ref a)
theorem shV_of {v : Value} (h : shV v = true) : ShV v := by cases v <;> first | exact .int | exact .str | exact .bytes | exact .ref | exact absurd h Bool.false_ne_true

/-- keys of many kinds, by their place in a list -/
structure MK (prog : Program) (w : World) (K : Frag) (L : List Value) (hash : Nat → Int) : Prop where
  sh : ∀ {i : Nat} {v}, L[i]? = some v → ShV v
  inj : ∀ {i j : Nat} {v}, L[i]? = some v → L[j]? = some v → i = j
  stv : ∀ {i j : Nat} {x t v}, L[i]? = some (.str x t) → L[j]? = some v → v.isStr x = decide (j = i)
  eq : ∀ {A : Around} {s : Shared} {i j : Nat} {u v}, K.In s.heap → A.units < cLine → L[i]? = some u → L[j]? = some v → EqAt A s u v (decide (i = j))
  quiet : ∀ {A : Around} {E : Value → Shared → Prop} {s : Shared} {i : Nat} {u} {Q : Bool → Shared → Prop}, K.In s.heap → L[i]? = some u → Q true s → wpAny (model prog w) A (eqIsQuiet 8 u) Q E s

section
variable {prog : Program} {w : World} {K : Frag} {L : List Value} {hash : Nat → Int} {A : Around} {E : Value → Shared → Prop} {s : Shared}

theorem fi_some {kvs : List (Nat × Value)} {k : Nat} (hn : (kvs.map (·.1)).Nodup) : ∀ {j : Nat} {v : Value}, kvs[j]? = some (k, v) → (kvs.findIdx? fun kv => decide (kv.1 = k)) = some j := by
  induction kvs with
  | nil => intro j v h; simp at h
  | cons kv kvs ih =>
    intro j v h
    rw [List.map_cons, List.nodup_cons] at hn
    rw [List.findIdx?_cons]
    cases j with
    | zero => simp only [List.getElem?_cons_zero, Option.some.injEq] at h; subst h; simp
    | succ j =>
      simp only [List.getElem?_cons_succ] at h
      have : kv.1 ≠ k := fun e => hn.1 (e ▸ List.mem_map.mpr ⟨_, List.mem_of_getElem? h, rfl⟩)
      simp [this, ih hn.2 h]
theorem fi_none {kvs : List (Nat × Value)} {k : Nat} (h : ∀ (j : Nat) (v : Value), kvs[j]? ≠ some (k, v)) : (kvs.findIdx? fun kv => decide (kv.1 = k)) = none := by
  rw [List.findIdx?_eq_none_iff]
  intro kv hm
  obtain ⟨j, hj⟩ := List.getElem?_of_mem hm
  simp only [decide_eq_false_iff_not]
  rintro rfl
  exact h j kv.2 hj

/-- what a walk over the places of one hash has seen -/
structure Seen (kvs : List (Nat × Value)) (k : Nat) (all rest : List Nat) (hit : Option Nat) : Prop where
  ex : ∃ done, all = done ++ rest ∧ (hit = none → ∀ (j : Nat), j ∈ done → ∀ v : Value, kvs[j]? ≠ some (k, v))
  hit : ∀ (j : Nat), hit = some j → ∃ v : Value, kvs[j]? = some (k, v)
theorem Seen.start {kvs : List (Nat × Value)} {k : Nat} {all : List Nat} : Seen kvs k all all none := ⟨⟨[], rfl, fun _ _ h => absurd h (by simp)⟩, fun j h => nomatch h⟩
theorem Seen.skip {kvs : List (Nat × Value)} {k x : Nat} {all rest : List Nat} {hit : Option Nat} (S : Seen kvs k all (x :: rest) hit) (h : ∀ v : Value, kvs[x]? ≠ some (k, v)) : Seen kvs k all rest hit := by
  obtain ⟨⟨done, e, hd⟩, hh⟩ := S
  refine ⟨⟨done ++ [x], by simp [e], fun q j hj => ?_⟩, hh⟩
  rcases List.mem_append.mp hj with hj | hj
  · exact hd q j hj
  · rw [List.mem_singleton.mp hj]; exact h
theorem Seen.found {kvs : List (Nat × Value)} {k x : Nat} {all rest : List Nat} {hit : Option Nat} {v : Value} (S : Seen kvs k all (x :: rest) hit) (h : kvs[x]? = some (k, v)) : Seen kvs k all rest (some x) := by
  obtain ⟨⟨done, e, hd⟩, hh⟩ := S
  exact ⟨⟨done ++ [x], by simp [e], fun q => nomatch q⟩, fun j q => by cases q; exact ⟨_, h⟩⟩
theorem Seen.fin {kvs : List (Nat × Value)} {k : Nat} {all : List Nat} {hit : Option Nat} (hn : (kvs.map (·.1)).Nodup) (S : Seen kvs k all [] hit) (hall : ∀ (j : Nat) (v : Value), kvs[j]? = some (k, v) → j ∈ all) :
    (kvs.findIdx? fun kv => decide (kv.1 = k)) = hit := by
  obtain ⟨⟨done, e, hd⟩, hh⟩ := S
  cases hit with
  | some j => obtain ⟨v, h⟩ := hh j rfl; exact fi_some hn h
  | none => exact fi_none fun j v h => hd rfl j (by rw [List.append_nil] at e; exact e ▸ hall j v h) v h

/-- what an entry is -/
theorem EOk.at {es : List DictEntry} {kvs : List (Nat × Value)} {isK : Nat → Value → Prop} (h : EOk isK hash es kvs) : ∀ {i : Nat} {e : DictEntry}, es[i]? = some e → ∃ k v, kvs[i]? = some (k, v) ∧ isK k e.key ∧ e.hash = hash k := by
  induction h with
  | nil => intro i e h; simp at h
  | @cons e' kv es kvs h1 h2 h3 _ ih =>
    intro i e h
    cases i with
    | zero => simp only [List.getElem?_cons_zero, Option.some.injEq] at h ⊢; subst h; exact ⟨kv.1, kv.2, rfl, h1, h2⟩
    | succ j => simp only [List.getElem?_cons_succ] at h ⊢; exact ih h

variable (M : MK prog w K L hash) {d : Addr} {o : Obj} {es : Array DictEntry} {ep : Nat} {kvs : List (Nat × Value)} {k : Nat} {key : Value} {Q : Option Nat → Shared → Prop}

theorem mem_places (he : EOk (fun k v => L[k]? = some v) hash es.toList kvs) : ∀ (j : Nat) (v : Value), kvs[j]? = some (k, v) → j ∈ placesWithHash es.size (fun i => es[i]?.map (·.hash)) (hash k) := by
  intro j v h
  obtain ⟨e, h1, _, h2, _⟩ := he.get h
  rw [Array.getElem?_toList] at h1
  rw [placesWithHash, List.mem_filter]
  refine ⟨List.mem_range.mpr (Array.getElem?_eq_some_iff.mp h1).1, by rw [h1]; simp [h2]⟩

theorem arr_idx' {es : Array DictEntry} {f : DictEntry → Bool} : es.findIdx? f = es.toList.findIdx? f := by obtain ⟨l⟩ := es; simp
include M
theorem mk_walk (X : K.In s.heap) (hu : A.units + 4 < cLine) (hk : L[k]? = some key) (ho : s.heap.get? d = some o) (hd : o.data = .dict es ep)
    (he : EOk (fun k v => L[k]? = some v) hash es.toList kvs) (hn : (kvs.map (·.1)).Nodup) (hQ : Q (kvs.findIdx? fun kv => decide (kv.1 = k)) s) :
    wpAny (model prog w) A (dictWalkPlain d key (hash k) es (placesWithHash es.size (fun i => es[i]?.map (·.hash)) (hash k))) Q E s := by
  unfold dictWalkPlain
  refine wpAny_bind ?_
  refine wpAny_forIn_list _ (fun rest b s' => s' = s ∧ b = (none, ()) ∧ Seen kvs k (placesWithHash es.size (fun i => es[i]?.map (·.hash)) (hash k)) rest none) _ ?_ ?_ _ _ ⟨rfl, rfl, .start⟩
  · rintro x rest b s' ⟨rfl, rfl, S⟩
    cases hx : es[x]? with
    | none => exact wpAny_pure ⟨rfl, rfl, S.skip fun v h => by obtain ⟨e, h1, -⟩ := he.get h; rw [Array.getElem?_toList, hx] at h1; exact nomatch h1⟩
    | some e =>
      obtain ⟨k', v', h1, h2, h3⟩ := he.at (i := x) (by rw [Array.getElem?_toList]; exact hx)
      dsimp only
      by_cases hh : (e.hash == hash k) = true
      · rw [if_pos hh]
        refine wpAny_bind (wpAny_dictEpoch ho hd (wpAny_bind (M.eq X (by omega) h2 hk _ _ _ _ (wpAny_bind (wpAny_dictEpoch ho hd ?_)))))
        show wpAny _ _ (if (ep != ep) = true then _ else _) _ E _
        rw [if_neg (by simp)]
        by_cases hkk : k' = k
        · subst hkk
          rw [decide_eq_true rfl]
          simp only [if_true]
          rw [fi_some hn h1] at hQ
          exact wpAny_bind (wpAny_rule (wpAny_pure (wpAny_pure hQ)))
        · rw [decide_eq_false hkk]
          simp only [Bool.false_eq_true, if_false]
          exact wpAny_bind (wpAny_rule (wpAny_pure ⟨rfl, rfl, S.skip fun v h => by rw [h1] at h; cases h; exact hkk rfl⟩))
      · rw [if_neg hh]
        exact wpAny_pure ⟨rfl, rfl, S.skip fun v h => by rw [h1] at h; cases h; exact hh (by simp [h3])⟩
  · rintro b s' ⟨rfl, rfl, S⟩
    rw [S.fin hn (mem_places he)] at hQ
    exact wpAny_pure hQ

theorem mk_tells {stored : List Value} {Q : Bool → Shared → Prop} (X : K.In s.heap) (hk : L[k]? = some key) (hst : ∀ v ∈ stored, ∃ i : Nat, L[i]? = some v) (h : Q false s) :
    wpAny (model prog w) A (tableMayTell key stored) Q E s := by
  unfold tableMayTell
  split
  · exact wpAny_pure h
  · refine wpAny_bind (M.quiet X hk ?_)
    simp only [Bool.not_true, Bool.false_eq_true, if_false]
    refine wpAny_bind ?_
    refine wpAny_forIn_list _ (fun rest r s' => s' = s ∧ r = (none, ()) ∧ ∀ v ∈ rest, ∃ i : Nat, L[i]? = some v) _ ?_ ?_ _ _ ⟨rfl, rfl, hst⟩
    · rintro x rest r s' ⟨rfl, rfl, hr⟩
      obtain ⟨i, hb⟩ := hr x List.mem_cons_self
      refine wpAny_bind (M.quiet X hb ?_)
      simp only [Bool.not_true, Bool.false_eq_true, if_false]
      exact wpAny_pure ⟨rfl, rfl, fun v hv => hr v (List.mem_cons_of_mem _ hv)⟩
    · rintro r s' ⟨rfl, rfl, _⟩
      exact wpAny_pure h

theorem mk_str (hk : L[k]? = some key) {x : Str} {t : Tok} (e : key = .str x t) {es : List DictEntry} {kvs : List (Nat × Value)} (he : EOk (fun k v => L[k]? = some v) hash es kvs) :
    (es.findIdx? fun e => e.key.isStr x) = kvs.findIdx? fun kv => decide (kv.1 = k) := by
  induction he with
  | nil => rfl
  | cons h1 h2 h3 _ ih =>
    rw [List.findIdx?_cons, List.findIdx?_cons, ih, M.stv (e ▸ hk) h1]

omit M in
theorem by_value {x : Str} {t : Tok} (ho : s.heap.get? d = some o) (hd : o.data = .dict es ep) (h : Q (es.findIdx? fun e => e.key.isStr x) s) : wpAny (model prog w) A (foundByValue d (.str x t) es x) Q E s := by
  unfold foundByValue
  cases hf : es.findIdx? (fun e => e.key.isStr x) with
  | none =>
    rw [hf] at h
    exact wpAny_pure h
  | some i =>
    rw [hf] at h
    obtain ⟨hlt, hi, _⟩ := Array.findIdx?_eq_some_iff_getElem.mp hf
    obtain ⟨t', hk⟩ := KTD.kt_isStr hi
    simp only [Array.getElem?_eq_getElem hlt]
    rw [hk]
    refine wpAny_bind (wpAny_dictEpoch ho hd (wpAny_bind (SeqAt.EqAt.str_str x t' x t prog w E _ (wpAny_bind (wpAny_dictEpoch ho hd ?_)))))
    refine wpAny_ite_split (fun q => absurd q (by rw [bne_self_eq_false]; exact Bool.false_ne_true)) (fun _ => ?_)
    rw [beq_self_eq_true]
    exact wpAny_bind (wpAny_rule (wpAny_pure h))

theorem mk_find (X : K.In s.heap) (hu : A.units + 4 < cLine) (hk : L[k]? = some key) (ho : s.heap.get? d = some o) (hd : o.data = .dict es ep)
    (he : EOk (fun k v => L[k]? = some v) hash es.toList kvs) (hn : (kvs.map (·.1)).Nodup) (hQ : Q (kvs.findIdx? fun kv => decide (kv.1 = k)) s) :
    wpAny (model prog w) A (dictFind d key (hash k)) Q E s := by
  have hst : ∀ v ∈ (placesWithHash es.size (fun i => es[i]?.map (·.hash)) (hash k)).filterMap (fun i => es[i]?.map (·.key)), ∃ i : Nat, L[i]? = some v := by
    intro v hv
    obtain ⟨i, _, hi⟩ := List.mem_filterMap.mp hv
    cases hei : es[i]? with
    | none => rw [hei] at hi; cases hi
    | some e =>
      rw [hei] at hi
      obtain rfl : e.key = v := by simpa using hi
      obtain ⟨k', v', h1, h2, h3⟩ := he.at (i := i) (by rw [Array.getElem?_toList]; exact hei)
      exact ⟨k', h2⟩
  have hany : ¬ (es.any fun e => e.key == key && e.hash != hash k) = true := by
    rw [← Array.any_toList, List.any_eq_true]
    rintro ⟨e, hin, hc⟩
    obtain ⟨i, hi⟩ := List.getElem?_of_mem hin
    obtain ⟨k', v', h1, h2, h3⟩ := he.at hi
    simp only [Bool.and_eq_true, beq_iff_eq, bne_iff_ne, ne_eq] at hc
    rw [hc.1] at h2
    exact hc.2 (by rw [h3, M.inj h2 hk])
  have loop : ∀ (f : Nat → Option (Option Nat) × Option Nat → Sem (ForInStep (Option (Option Nat) × Option Nat))) (g : Option (Option Nat) × Option Nat → Sem (Option Nat)),
      (∀ x hit e k' v' s', s' = s → es[x]? = some e → kvs[x]? = some (k', v') → L[k']? = some e.key → e.hash = hash k' → (hit.isSome = true → k' ≠ k) →
        ∀ {R : ForInStep (Option (Option Nat) × Option Nat) → Shared → Prop}, (k' = k → R (.yield (none, some x)) s) → (k' = k → R (.done (some (some x), hit)) s) → (k' ≠ k → R (.yield (none, hit)) s) → wpAny (model prog w) A (f x (none, hit)) R E s') →
      (∀ x hit, es[x]? = none → f x (none, hit) = pure (.yield (none, hit))) → (∀ hit, g (none, hit) = pure hit) → (∀ r hit, g (some r, hit) = pure r) →
      wpAny (model prog w) A (forIn (placesWithHash es.size (fun i => es[i]?.map (·.hash)) (hash k)) (none, none) f >>= g) Q E s := by
    intro f g hf h0 hg hg2
    refine wpAny_bind ?_
    refine wpAny_forIn_list _ (fun rest b s' => s' = s ∧ ∃ hit, b = (none, hit) ∧ Seen kvs k (placesWithHash es.size (fun i => es[i]?.map (·.hash)) (hash k)) rest hit ∧ rest.Nodup ∧ (∀ j, hit = some j → j ∉ rest)) _ ?_ ?_ _ _
      ⟨rfl, none, rfl, .start, List.Pairwise.filter _ List.nodup_range, fun j h => nomatch h⟩
    · rintro x rest b s' ⟨rfl, hit, rfl, S, hnd, hr⟩
      rw [List.nodup_cons] at hnd
      have hr' : ∀ j, hit = some j → j ∉ rest := fun j h q => hr j h (List.mem_cons_of_mem _ q)
      cases hx : es[x]? with
      | none =>
        rw [h0 x hit hx]
        exact wpAny_pure ⟨rfl, hit, rfl, S.skip (fun v h => by obtain ⟨e, h1, -⟩ := he.get h; rw [Array.getElem?_toList, hx] at h1; exact nomatch h1), hnd.2, hr'⟩
      | some e =>
        obtain ⟨k', v', h1, h2, h3⟩ := he.at (i := x) (by rw [Array.getElem?_toList]; exact hx)
        refine hf x hit e k' v' s' rfl hx h1 h2 h3 ?_ ?_ ?_ ?_
        · intro hs hkk
          obtain ⟨j, rfl⟩ := Option.isSome_iff_exists.mp hs
          obtain ⟨v, hv⟩ := S.hit j rfl
          have a1 := fi_some hn hv
          rw [hkk] at h1
          have a2 := fi_some hn h1
          rw [a1] at a2; cases a2
          exact hr _ rfl List.mem_cons_self
        · rintro rfl
          exact ⟨rfl, some x, rfl, S.found h1, hnd.2, fun j h => by cases h; exact hnd.1⟩
        · rintro rfl
          rw [fi_some hn h1] at hQ
          show wpAny _ _ (g (some (some x), hit)) _ _ _
          rw [hg2]
          exact wpAny_pure hQ
        · intro hne
          exact ⟨rfl, hit, rfl, S.skip (fun v h => by rw [h1] at h; cases h; exact hne rfl), hnd.2, hr'⟩
    · rintro b s' ⟨rfl, hit, rfl, S, -, -⟩
      rw [S.fin hn (mem_places he)] at hQ
      rw [hg]
      exact wpAny_pure hQ
  unfold dictFind
  try with_reducible refine wpAny_holding ?_
  refine wpAny_bind (wpAny_dictEntries ho hd ?_)
  have hs := M.sh hk
  cases hs
  case int =>
    refine wpAny_ite_split (fun _ => mk_walk M X hu hk ho hd he hn hQ) (fun _ => ?_)
    refine wpAny_ite_split (fun _ => wpAny_bind (wpAny_pure ?_)) (fun _ => wpAny_bind (mk_tells M X hk hst ?_))
    all_goals
      refine wpAny_ite_split (fun q => absurd q (by rw [Bool.false_and]; exact Bool.false_ne_true)) (fun _ => ?_)
      refine loop _ _ ?_ ?_ (fun _ => rfl) (fun _ _ => rfl)
      · rintro x hit e k' v' s' rfl h1 h2 h3 h4 h5 R r1 r2 r3
        rw [h1]
        refine wpAny_ite_split (fun _ => ?_) (fun q => wpAny_pure (r3 (fun e => q (by rw [h4, e]; exact beq_self_eq_true _))))
        refine wpAny_bind (wpAny_dictEpoch ho hd (wpAny_bind (M.eq X (Nat.lt_of_le_of_lt (Nat.le_add_right _ _) hu) h3 hk _ _ _ _ (wpAny_bind (wpAny_dictEpoch ho hd ?_)))))
        refine wpAny_ite_split (fun q => absurd q (by rw [bne_self_eq_false]; exact Bool.false_ne_true)) (fun _ => ?_)
        refine wpAny_ite_split (fun q => ?_) (fun q => ?_)
        · refine wpAny_ite_split (fun r => absurd (of_decide_eq_true q) (h5 r)) (fun _ => wpAny_bind (wpAny_rule ?_))
          exact wpAny_ite_split (fun _ => wpAny_pure (r2 (of_decide_eq_true q))) (fun _ => wpAny_pure (r1 (of_decide_eq_true q)))
        · refine wpAny_bind (wpAny_rule ?_)
          exact wpAny_ite_split (fun q => absurd q (by rw [Bool.false_and]; exact Bool.false_ne_true)) (fun _ => wpAny_pure (r3 (fun e => q (decide_eq_true e))))
      · intro x hit h0; simp only [h0]
  case str =>
    refine wpAny_ite_split (fun h => ?_) (fun _ => wpAny_ite_split (fun _ => mk_walk M X hu hk ho hd he hn hQ) (fun _ => ?_))
    · rw [← mk_str M hk rfl he, ← arr_idx'] at hQ
      exact by_value ho hd hQ
    refine wpAny_ite_split (fun _ => wpAny_bind (wpAny_pure ?_)) (fun _ => wpAny_bind (mk_tells M X hk hst ?_))
    all_goals
      refine wpAny_ite_split (fun q => absurd q (by rw [Bool.false_and]; exact Bool.false_ne_true)) (fun _ => ?_)
      refine loop _ _ ?_ ?_ (fun _ => rfl) (fun _ _ => rfl)
      · rintro x hit e k' v' s' rfl h1 h2 h3 h4 h5 R r1 r2 r3
        rw [h1]
        refine wpAny_ite_split (fun _ => ?_) (fun q => wpAny_pure (r3 (fun e => q (by rw [h4, e]; exact beq_self_eq_true _))))
        refine wpAny_bind (wpAny_dictEpoch ho hd (wpAny_bind (M.eq X (Nat.lt_of_le_of_lt (Nat.le_add_right _ _) hu) h3 hk _ _ _ _ (wpAny_bind (wpAny_dictEpoch ho hd ?_)))))
        refine wpAny_ite_split (fun q => absurd q (by rw [bne_self_eq_false]; exact Bool.false_ne_true)) (fun _ => ?_)
        refine wpAny_ite_split (fun q => ?_) (fun q => ?_)
        · refine wpAny_ite_split (fun r => absurd (of_decide_eq_true q) (h5 r)) (fun _ => wpAny_bind (wpAny_rule ?_))
          exact wpAny_ite_split (fun _ => wpAny_pure (r2 (of_decide_eq_true q))) (fun _ => wpAny_pure (r1 (of_decide_eq_true q)))
        · refine wpAny_bind (wpAny_rule ?_)
          exact wpAny_ite_split (fun q => absurd q (by rw [Bool.false_and]; exact Bool.false_ne_true)) (fun _ => wpAny_pure (r3 (fun e => q (decide_eq_true e))))
      · intro x hit h0; simp only [h0]
  case bytes =>
    refine wpAny_ite_split (fun _ => mk_walk M X hu hk ho hd he hn hQ) (fun _ => ?_)
    refine wpAny_ite_split (fun _ => wpAny_bind (wpAny_pure ?_)) (fun _ => wpAny_bind (mk_tells M X hk hst ?_))
    all_goals
      refine wpAny_ite_split (fun q => absurd q (by rw [Bool.false_and]; exact Bool.false_ne_true)) (fun _ => ?_)
      refine loop _ _ ?_ ?_ (fun _ => rfl) (fun _ _ => rfl)
      · rintro x hit e k' v' s' rfl h1 h2 h3 h4 h5 R r1 r2 r3
        rw [h1]
        refine wpAny_ite_split (fun _ => ?_) (fun q => wpAny_pure (r3 (fun e => q (by rw [h4, e]; exact beq_self_eq_true _))))
        refine wpAny_bind (wpAny_dictEpoch ho hd (wpAny_bind (M.eq X (Nat.lt_of_le_of_lt (Nat.le_add_right _ _) hu) h3 hk _ _ _ _ (wpAny_bind (wpAny_dictEpoch ho hd ?_)))))
        refine wpAny_ite_split (fun q => absurd q (by rw [bne_self_eq_false]; exact Bool.false_ne_true)) (fun _ => ?_)
        refine wpAny_ite_split (fun q => ?_) (fun q => ?_)
        · refine wpAny_ite_split (fun r => absurd (of_decide_eq_true q) (h5 r)) (fun _ => wpAny_bind (wpAny_rule ?_))
          exact wpAny_ite_split (fun _ => wpAny_pure (r2 (of_decide_eq_true q))) (fun _ => wpAny_pure (r1 (of_decide_eq_true q)))
        · refine wpAny_bind (wpAny_rule ?_)
          exact wpAny_ite_split (fun q => absurd q (by rw [Bool.false_and]; exact Bool.false_ne_true)) (fun _ => wpAny_pure (r3 (fun e => q (decide_eq_true e))))
      · intro x hit h0; simp only [h0]
  case ref =>
    refine wpAny_ite_split (fun _ => mk_walk M X hu hk ho hd he hn hQ) (fun _ => ?_)
    refine wpAny_ite_split (fun q => absurd q hany) (fun _ => ?_)
    refine wpAny_ite_split (fun _ => wpAny_bind (wpAny_pure ?_)) (fun _ => wpAny_bind (mk_tells M X hk hst ?_))
    all_goals
      refine wpAny_ite_split (fun q => absurd q (by rw [Bool.false_and]; exact Bool.false_ne_true)) (fun _ => ?_)
      refine loop _ _ ?_ ?_ (fun _ => rfl) (fun _ _ => rfl)
      · rintro x hit e k' v' s' rfl h1 h2 h3 h4 h5 R r1 r2 r3
        rw [h1]
        refine wpAny_ite_split (fun _ => ?_) (fun q => wpAny_pure (r3 (fun e => q (by rw [h4, e]; exact beq_self_eq_true _))))
        refine wpAny_bind (wpAny_dictEpoch ho hd (wpAny_bind (M.eq X (Nat.lt_of_le_of_lt (Nat.le_add_right _ _) hu) h3 hk _ _ _ _ (wpAny_bind (wpAny_dictEpoch ho hd ?_)))))
        refine wpAny_ite_split (fun q => absurd q (by rw [bne_self_eq_false]; exact Bool.false_ne_true)) (fun _ => ?_)
        refine wpAny_ite_split (fun q => ?_) (fun q => ?_)
        · refine wpAny_ite_split (fun r => absurd (of_decide_eq_true q) (h5 r)) (fun _ => wpAny_bind (wpAny_rule ?_))
          exact wpAny_ite_split (fun _ => wpAny_pure (r2 (of_decide_eq_true q))) (fun _ => wpAny_pure (r1 (of_decide_eq_true q)))
        · refine wpAny_bind (wpAny_rule ?_)
          exact wpAny_ite_split (fun q => absurd q (by rw [Bool.false_and]; exact Bool.false_ne_true)) (fun _ => wpAny_pure (r3 (fun e => q (decide_eq_true e))))
      · intro x hit h0; simp only [h0]
end

end
/-- the object of a tuple -/
noncomputable abbrev tupO (its : List Value) : Obj := { cls := .type "tuple", data := .seq its.toArray }
section
variable {prog : Program} {K : Frag} {CN CL : Addr} {w : World} {g h h' : Heap} {L : Addr} {m : Str → Option Value} {st : LS} {A : Around} {E : Value → Shared → Prop} {s : Shared} {tk : Nat} {r : Rg} {v v2 : Value} {env : Env}
/-- an expression that may make objects -/
noncomputable def PvG (prog : Program) (w : World) (A : Around) (env : Env) (e : Expr) (P : Value → Heap → Prop) (h : Heap) : Prop :=
  ∀ (s : Shared) (tk : Nat) (E : Value → Shared → Prop) (Q : Value → Shared → Prop), (∀ v h' tk', Grow h h' → P v h' → Q v (up s h' tk')) → wpAny (model prog w) A (eval e env) Q E (up s h tk)
theorem PvG.of {e : Expr} {P : Value → Prop} (hp : PvE prog w A env e P h) : PvG prog w A env e (fun v _ => P v) h := fun s tk E Q q => hp.at fun v tk' hv => q v h tk' Grow.refl hv
/-- a test, pure -/
noncomputable def PvT (prog : Program) (w : World) (A : Around) (env : Env) (e : Expr) (b : Bool) (h : Heap) : Prop :=
  ∀ (s : Shared) (tk : Nat) (E : Value → Shared → Prop) (Q : Bool → Shared → Prop), (∀ tk', Q b (up s h tk')) → wpAny (model prog w) A (isTrue e env (eval e env)) Q E (up s h tk)
theorem PvT.int {l r : Expr} {a b : Int} {op : CmpOp} {f : Int → Int → Bool} {pos' : Pos} (c : ICmp op f) (hl : PvI prog w A env l a h) (hr : PvI prog w A env r b h) (hm : behindInMarks op r = false) :
    PvT prog w A env (.Compare l [op] [r] pos') (f a b) h := fun s tk E Q q => by
  refine wpAny_isTrue_Compare1 (PvE.at hl fun v tk hv => PvE.at hr fun v' tk' hv' => ?_) hm
  obtain ⟨t, rfl⟩ := hv
  obtain ⟨t', rfl⟩ := hv'
  exact c.wp (M := model prog w) (wpAny_truthy_bool (q _))
theorem PvT.is {l r : Expr} {a b : Value} {c : Bool} {pos' : Pos} (hl : Pv prog w A env l a h) (hr : Pv prog w A env r b h) (hc : IsB h a b c) (hm : behindInMarks .Is r = false) :
    PvT prog w A env (.Compare l [.Is] [r] pos') c h := fun s tk E Q q => by
  refine wpAny_isTrue_Compare1 (hl.at fun tk => hr.at fun tk' => ?_) hm
  exact (hc (model prog w) A (up s h tk') _ _ rfl).1 (wpAny_truthy_bool (q _))
theorem if_t {e : Expr} {b : Bool} {body orelse : List Stmt} {pos : Pos} {Q : Flow → Shared → Prop} (t : PvT prog w A env e b h) (ht : b = true → ∀ tk, wpAny (model prog w) A (execs body env) Q E (up s h tk)) (hf : b = false → ∀ tk, wpAny (model prog w) A (execs orelse env) Q E (up s h tk)) :
    wpAny (model prog w) A (exec (.If e body orelse pos) env) Q E (up s h tk) := by
  refine wpAny_If (t s tk _ _ fun tk' => ?_)
  cases b with
  | true => rw [if_pos rfl]; exact ht rfl _
  | false => rw [if_neg Bool.false_ne_true]; exact hf rfl _
theorem PvG.ite {e x y : Expr} {b : Bool} {pos : Pos} {P : Value → Heap → Prop} (t : PvT prog w A env e b h) (hx : b = true → PvG prog w A env x P h) (hy : b = false → PvG prog w A env y P h) :
    PvG prog w A env (.IfExp e x y pos) P h := fun s tk E Q q => by
  refine wpAny_IfExp (t s tk _ _ fun tk' => ?_)
  cases b with
  | true => rw [if_pos rfl]; exact hx rfl s _ E Q q
  | false => rw [if_neg Bool.false_ne_true]; exact hy rfl s _ E Q q
theorem PvE.ite {e x y : Expr} {b : Bool} {pos : Pos} {P : Value → Prop} (t : PvT prog w A env e b h) (hx : b = true → PvE prog w A env x P h) (hy : b = false → PvE prog w A env y P h) :
    PvE prog w A env (.IfExp e x y pos) P h := fun s Q E hs q => by
  subst hs
  refine wpAny_IfExp (t s s.toks E _ fun tk' => ?_)
  cases b with
  | true => rw [if_pos rfl]; exact (hx rfl).at fun v tk hv => q v tk hv
  | false => rw [if_neg Bool.false_ne_true]; exact (hy rfl).at fun v tk hv => q v tk hv
theorem PvI.abs {fn e : Expr} {a : Int} {pos : Pos} (hfn : Pv prog w A env fn (.builtin "abs") h) (h1 : PvI prog w A env e a h)
    (hst : starEach [e] env = (false, eval e env) :: starEach [] env) (hpl : (backTo pos (starEach [] env)).any (·.1) = false)
    (hsh : eval (fn.Call [e] [] pos) env = do
          let __do_lift ← eval fn env
          callWith pos __do_lift [] (backTo pos (starEach [e] env)) (backToKw pos (keywordEach [] env))) :
    PvI prog w A env (fn.Call [e] [] pos) (if a < 0 then -a else a) h := fun s Q E hs q => by
  subst hs
  refine Call_ (hfn s _ _ rfl fun tk => callWith_builtin1 (spliced_more (PvE.at (s := s) h1 fun v tk1 hv => spliced_none ?_) hst) hst hpl) hsh
  obtain ⟨t, rfl⟩ := hv
  exact call_abs_int fun u tk' => q _ _ ⟨u, rfl⟩
/-- min of two, as PvG -/
theorem PvG.min {fn e1 e2 : Expr} {a b : Int} {pos : Pos} (hfn : Pv prog w A env fn (.builtin "min") h) (h1 : PvI prog w A env e1 a h) (h2 : PvI prog w A env e2 b h) (hh : A.handled = none)
    (hst : starEach [e1, e2] env = (false, eval e1 env) :: starEach [e2] env) (hst2 : starEach [e2] env = (false, eval e2 env) :: starEach [] env) (hpl : (backTo pos (starEach [e2] env)).any (·.1) = false)
    (hsh : eval (fn.Call [e1, e2] [] pos) env = do
          let __do_lift ← eval fn env
          callWith pos __do_lift [] (backTo pos (starEach [e1, e2] env)) (backToKw pos (keywordEach [] env))) :
    PvG prog w A env (fn.Call [e1, e2] [] pos) (fun v _ => IsI (Min.min a b) v) h := fun s tk E Q q =>
  ev_min hfn h1 h2 hh (fun v h' tk' hv G => q v h' tk' G hv) hst hst2 hpl hsh
/-- x = e, of an expression that may make objects -/
theorem as_nameG {cn : Str} {cs : Scope} {a : Addr} {cd : Value} {P : Value → Heap → Prop} {x : Str} {pos pos' : Pos} {e : Expr} {Q : Flow → Shared → Prop} (S : St CN CL w g L m st h) (he : PvG prog w A (envOf cn cs L a cd) e P h)
    (q : ∀ v h' (tk' : Nat), P v h' → Grow h h' → ∀ h2 (tk2 : Nat), St CN CL w g L (fun y => if y = x then some v else m y) st h2 → (∀ b o, b ≠ L → h'.get? b = some o → h2.get? b = some o) → Q .next (up s h2 tk2))
    (hk : cs.kind = .function) (hl : (envOf cn cs L a cd).kindOf x = some .local) (hs : swapsWith e (some (.Name x pos')) pos.line (envOf cn cs L a cd) = pure false) :
    wpAny (model prog w) A (exec (.Assign [.Name x pos'] e pos) (envOf cn cs L a cd)) Q E (up s h tk) := by
  refine wpAny_Assign_Name (he s tk E _ fun v h' tk' G hv => ?_) hs
  refine wpAny_storeName_local (s := up s h' tk') hl (S.grow G).F.ns (fun h2 hn hs2 => ?_) (by show (cs.kind == .class || (cs.kind == .module && L != mainGlobals)) = false; rw [hk]; rfl)
  exact q v h' tk' hv G h2 _ ⟨(S.grow G).F.set hn hs2, (S.grow G).N.set hs2, S.wf, S.ok⟩ fun b o hb e => (hs2.2 b hb).trans e
theorem St.held (S : St CN CL w g L m st h) {a : Addr} (ha : a ∈ addrs st) : ∃ o, h.get? a = some o := by
  rw [← ledger_addrs CN CL w.params] at ha
  obtain ⟨p, hp, rfl⟩ := List.mem_map.mp ha
  exact ⟨_, (S.N p hp).1⟩
/-- what is new inside is new outside -/
theorem St.newOut {h4 : Heap} {a : Addr} (S : St CN CL w g L m st h4) (kk : ∀ b o, b ∉ addrs st → h.get? b = some o → g.get? b = some o) (q : h4.get? a = none) : h.get? a = none :=
  (fresh_back kk S.F q).elim (fun ha => by obtain ⟨o, ho⟩ := S.held ha; rw [ho] at q; cases q) id
theorem size_none {h : Heap} : h.get? h.objs.size = none := by
  cases e : h.get? h.objs.size with
  | none => rfl
  | some o => exact absurd (Heap.lt_size e) (Nat.lt_irrefl _)
theorem two_le {n : Nat} (h : n ≤ 16) : n ≤ sizeLine := Nat.le_trans h (by decide)
end
section
variable {prog : Program} {K : Frag} {CN CL : Addr} {w : World} {g h h' : Heap} {L : Addr} {m : Str → Option Value} {st : LS} {A : Around} {E : Value → Shared → Prop} {s : Shared} {tk : Nat} {r : Rg} {v v2 : Value} {env : Env}
  {a : Addr} {o o' : Obj} {its : List Value} {n : Nat}
/-- all of the law's objects but those at D stay -/
noncomputable def Chg (D : List Addr) (ex ex' : List (Addr × Obj)) : Prop := ∀ q ∈ ex, q.1 ∉ D → q ∈ ex'
theorem Chg.refl {D : List Addr} {ex : List (Addr × Obj)} : Chg D ex ex := fun _ h _ => h
theorem Chg.trans {D : List Addr} {ex ex1 ex2 : List (Addr × Obj)} (x : Chg D ex ex1) (y : Chg D ex1 ex2) : Chg D ex ex2 := fun q h n => y q (x q h n) n
theorem Chg.cons {D : List Addr} {ex : List (Addr × Obj)} {q : Addr × Obj} : Chg D ex (q :: ex) := fun _ h _ => .tail _ h
theorem Chg.nil {D : List Addr} {ex ex' : List (Addr × Obj)} (x : Chg [] ex ex') : Chg D ex ex' := fun q h _ => x q h (List.not_mem_nil)
theorem St.exOf (S : St CN CL w g L m st h) (hm : (a, o) ∈ st.ex) : h.get? a = some o := (S.exGet hm).1
theorem Rep.exOf (S : Rep CN CL w st h) (hm : (a, o) ∈ st.ex) : h.get? a = some o :=
  S.at_ _ (List.mem_cons_of_mem _ (List.mem_cons_of_mem _ (List.mem_cons_of_mem _ (List.mem_append_right _ hm))))
/-- one of the law's objects is changed -/
theorem St.setM (S : St CN CL w g L m st h) (hm : (a, o) ∈ st.ex) (hs : Heap.SameBut a h h') (ho : h'.get? a = some o') : ∃ ex', St CN CL w g L m (st.withEx ex') h' ∧ (a, o') ∈ ex' ∧ Chg [a] st.ex ex' := by
  obtain ⟨pre, post, e⟩ := List.append_of_mem hm
  refine ⟨_, S.setEx e hs ho, List.mem_append_right _ (.head _), fun q hq hn => ?_⟩
  rw [e] at hq
  rcases List.mem_append.mp hq with hq | hq
  · exact List.mem_append_left _ hq
  · rcases List.mem_cons.mp hq with rfl | hq
    · exact absurd (.head _) hn
    · exact List.mem_append_right _ (.tail _ hq)
theorem isList_of (ho : h.get? a = some (listOf its.toArray n)) : h.IsList a its.toArray := ⟨_, ho, rfl, n, rfl⟩
theorem isTup_of (ho : h.get? a = some (tupO its)) : IsTup h a its.toArray := ⟨_, ho, rfl, 0, rfl⟩
/-- len of a list -/
theorem PvI.lenL {fn ol : Expr} {pos : Pos} (hl : h.IsList a its.toArray) (hz : its.length ≤ 100000) (hfn : Pv prog w A env fn (.builtin "len") h) (ho : Pv prog w A env ol (.ref a) h)
    (hst : starEach [ol] env = (false, eval ol env) :: starEach [] env) (hpl : (backTo pos (starEach [] env)).any (·.1) = false)
    (hsh : eval (fn.Call [ol] [] pos) env = do
          let __do_lift ← eval fn env
          callWith pos __do_lift [] (backTo pos (starEach [ol] env)) (backToKw pos (keywordEach [] env))) :
    PvI prog w A env (fn.Call [ol] [] pos) its.length h := fun s Q E hs' q => by
  subst hs'
  refine Call_ (hfn _ _ _ rfl fun tk => callWith_builtin1 (spliced_more (ho _ _ _ rfl fun tk' => spliced_none ?_) hst) hst hpl) hsh
  refine PyProof.Rows.len_list (s := { s with toks := tk' }) (l := a) (items := its.toArray) hl (by rw [List.size_toArray]; omega) ?_
  rw [List.size_toArray]
  exact q _ _ ⟨_, rfl⟩
/-- an item of a tuple -/
theorem Pv.itemT {ol : Expr} {i : Nat} {k : Nat} {pos ipos : Pos} (ht : h.get? a = some (tupO its)) (ho : Pv prog w A env ol (.ref a) h) (hi : its[i]? = some v) (hz : its.length ≤ 16)
    (hs : ∀ u, subscripted (.Constant (.int i) k ipos) false (.ref a) (.int i u) = operate [.ref a, .int i u] (getItem (.ref a) (.int i u))) (hg : ∀ r, letTemporaryGo ol (.ref a) r = pure ()) :
    Pv prog w A env (.Subscript ol (.Constant (.int i) k ipos) pos) v h := fun s Q E hs' q => by
  subst hs'
  have hlt : i < its.length := (List.getElem?_eq_some_iff.mp hi).1
  refine Subscript_ (ho _ _ _ rfl fun tk => PvI.const _ _ _ rfl fun v tk' hv => ?_)
  obtain ⟨t, rfl⟩ := hv
  refine item_tupleL (s := { s with toks := tk' }) (isTup_of ht) (by omega) (by omega) (j := i) ?_ hi (q _) (hs t) hg
  unfold seqIndex?
  simp only [Int.ofNat_eq_natCast]
  split <;> simp_all <;> omega
/-- an item of a list -/
theorem Pv.itemL {ol e : Expr} {i : Nat} {pos : Pos} (hl : h.IsList a its.toArray) (ho : Pv prog w A env ol (.ref a) h) (he : PvI prog w A env e i h) (hi : its[i]? = some v) (hz : its.length ≤ 100000)
    (hs : ∀ u, subscripted e false (.ref a) (.int i u) = operate [.ref a, .int i u] (getItem (.ref a) (.int i u))) (hg : ∀ r, letTemporaryGo ol (.ref a) r = pure ()) :
    Pv prog w A env (.Subscript ol e pos) v h := fun s Q E hs' q => by
  subst hs'
  have hlt : i < its.length := (List.getElem?_eq_some_iff.mp hi).1
  refine Subscript_ (ho _ _ _ rfl fun tk => he _ _ _ rfl fun v tk' hv => ?_)
  obtain ⟨t, rfl⟩ := hv
  exact item_listL (s := { s with toks := tk' }) hl (by omega) (by omega) (by simpa using hi) (q _) (hs t) hg
/-- max of two -/
theorem PvG.max {fn e1 e2 : Expr} {a b : Int} {pos : Pos} (hfn : Pv prog w A env fn (.builtin "max") h) (h1 : PvI prog w A env e1 a h) (h2 : PvI prog w A env e2 b h) (hh : A.handled = none)
    (hst : starEach [e1, e2] env = (false, eval e1 env) :: starEach [e2] env) (hst2 : starEach [e2] env = (false, eval e2 env) :: starEach [] env) (hpl : (backTo pos (starEach [e2] env)).any (·.1) = false)
    (hsh : eval (fn.Call [e1, e2] [] pos) env = do
          let __do_lift ← eval fn env
          callWith pos __do_lift [] (backTo pos (starEach [e1, e2] env)) (backToKw pos (keywordEach [] env))) :
    PvG prog w A env (fn.Call [e1, e2] [] pos) (fun v _ => IsI (Max.max a b) v) h := fun s tk E Q q => by
  refine Call_ (hfn.at fun tk => callWith_builtin1 (spliced_more (PvE.at h1 fun v tk1 hv => spliced_more (PvE.at h2 fun v2 tk2 hv2 => spliced_none ?_) hst2) hst) hst hpl) hsh
  obtain ⟨t, rfl⟩ := hv
  obtain ⟨t2, rfl⟩ := hv2
  refine max_two_ints (s := up s h tk2) hh fun h' tk' hk => q _ h' tk' (fun c o e => hk c o e) ?_
  rw [Int.max_def]
  by_cases c : b > a
  · rw [if_pos c, if_pos (Int.le_of_lt c)]; exact ⟨_, rfl⟩
  · rw [if_neg c]
    by_cases c2 : a ≤ b
    · rw [if_pos c2, show b = a by omega]; exact ⟨_, rfl⟩
    · rw [if_neg c2]; exact ⟨_, rfl⟩
/-- a slice's part that may make objects -/
noncomputable def PartG (prog : Program) (w : World) (A : Around) (env : Env) (e : Option Expr) (i : Option Int) (h : Heap) : Prop :=
  ∀ (s : Shared) (tk : Nat) (E : Value → Shared → Prop) (Q : Value → Shared → Prop), (∀ v h' tk', Grow h h' → IsPart v i → Q v (up s h' tk')) → wpAny (model prog w) A (evalPart e env) Q E (up s h tk)
theorem PartG.none : PartG prog w A env .none .none h := fun s tk E Q q => wpAny_evalPart_none (q _ h tk Grow.refl .none)
theorem PartG.some {e : Expr} {i : Int} (he : PvG prog w A env e (fun v _ => IsI i v) h) : PartG prog w A env (some e) (.some i) h := fun s tk E Q q =>
  wpAny_evalPart_some (he s tk E _ fun v h' tk' G hv => by obtain ⟨t, rfl⟩ := hv; exact q _ h' tk' G (.int i t))
/-- a slice of a list: a fresh list -/
theorem PvG.slice {ol : Expr} {lower upper : Option Expr} {lo hi : Option Int} {sp pos : Pos} (hl : h.IsList a its.toArray) (hz : its.length ≤ 100000) (ho : Pv prog w A env ol (.ref a) h)
    (hlo : PartG prog w A env lower lo h) (hhi : ∀ h1, Grow h h1 → PartG prog w A env upper hi h1) (ht : ∀ o r, letTemporaryGo ol o r = pure ()) :
    PvG prog w A env (.Subscript ol (.Slice lower upper none sp) pos) (fun v h' => ∃ b, v = .ref b ∧ h.get? b = none ∧ h'.get? b = some (listOf (slicePick its.toArray lo hi none) 0)) h := fun s tk E Q q => by
  refine wpAny_Subscript_list_slice (ho.at fun tk1 => hlo s _ _ _ fun vl h1 tk2 G1 pl => hhi h1 G1 s _ _ _ fun vu h2 tk3 G2 pu => ?_) ht
  refine ⟨a, its.toArray, lo, hi, rfl, hl.at fun o e => G2 _ _ (G1 _ _ e), by rw [List.size_toArray, sizeLine_eq]; omega, pl, pu, ?_⟩
  refine q _ _ _ ((G1.trans G2).trans (Grow.push.trans Grow.push)) ⟨_, rfl, ?_, ?_⟩
  · show h.get? (h2.objs.size + 1) = none
    cases e : h.get? (h2.objs.size + 1) with
    | none => rfl
    | some o => exact absurd (Heap.lt_size (G2 _ _ (G1 _ _ e))) (Nat.not_lt.mpr (Nat.le_succ _))
  · have e1 := Heap.get?_push_size (h2.push { cls := .type "slice", data := .fields #[vl, vu, .none] }) (o := { cls := .type "list", data := .seq (slicePick its.toArray lo hi none) }) rfl
    rw [Heap.size_push] at e1
    exact e1
/-- x.append(e) -/
theorem ex_append {ol e : Expr} {apos pos : Pos} {P : Value → Heap → Prop} {Q : Value → Shared → Prop} (hx : h.get? a = some (listOf its.toArray n)) (ho : Pv prog w A env ol (.ref a) h) (he : PvG prog w A env e P h) (hz : its.length ≤ 100000)
    (q : ∀ v h2, Grow h h2 → P v h2 → ∀ h' (tk' : Nat), Heap.SameBut a h2 h' → h'.get? a = some (listOf (its ++ [v]).toArray (n + 1)) → Q .none (up s h' tk')) {pl : Sem Bool}
    (hst : starEach [e] env = (false, eval e env) :: starEach [] env) (hpl : (backTo pos (starEach [] env)).any (·.1) = false)
    (hsh : (eval ((ol.Attribute "append" apos).Call [e] [] pos) env = do
          let ov ← eval ol env
          standAt apos.atName
          let __x ← holding [ov] (getMethod ov "append" pl)
          match __x with
            | (f, first) => callWith pos f first (backTo pos (starEach [e] env)) [])) :
    wpAny (model prog w) A (eval ((ol.Attribute "append" apos).Call [e] [] pos) env) Q E (up s h tk) := by
  refine MethodCall_ (ho.at fun tk => ?_) hsh
  refine Calls.getMethod_list_append (s := up s h tk) hx rfl rfl ?_
  refine callWith_method1 (spliced_more (he s tk _ _ fun v h2 tk2 G hv => spliced_none ?_) hst) hst hpl
  refine append_at (s := up s h2 tk2) (hsz := by rw [List.size_toArray, sizeLine_eq]; omega) (G _ _ hx) fun h' hs ho' => q v h2 G hv h' _ hs ?_
  rw [ho', List.push_toArray]
/-- (e1, e2, e3) -/
theorem PvG.tup3 {e1 e2 e3 : Expr} {P1 : Value → Prop} {v2 v3 : Value} {k : Nat} {pos : Pos} (h1 : PvE prog w A env e1 P1 h) (h2 : Pv prog w A env e2 v2 h) (h3 : Pv prog w A env e3 v3 h)
    (hst1 : starEach [e1, e2, e3] env = (false, eval e1 env) :: starEach [e2, e3] env) (hst2 : starEach [e2, e3] env = (false, eval e2 env) :: starEach [e3] env) (hst3 : starEach [e3] env = (false, eval e3 env) :: starEach [] env) :
    PvG prog w A env (.Tuple [e1, e2, e3] k pos) (fun v h' => ∃ b v1, v = .ref b ∧ P1 v1 ∧ h.get? b = none ∧ h'.get? b = some (tupO [v1, v2, v3])) h := fun s tk E Q q =>
  wpAny_Tuple (spliced_more (h1.at fun v1 tk1 hv => spliced_more (h2.at fun tk2 => spliced_more (h3.at fun tk3 => spliced_none ⟨two_le (show 3 ≤ 16 by decide), q _ _ _ Grow.push ⟨_, v1, rfl, hv, size_none, Heap.get?_push_size _ rfl⟩⟩) hst3) hst2) hst1)
theorem PvG.tup2 {e1 e2 : Expr} {v1 v2 : Value} {k : Nat} {pos : Pos} (h1 : Pv prog w A env e1 v1 h) (h2 : Pv prog w A env e2 v2 h)
    (hst1 : starEach [e1, e2] env = (false, eval e1 env) :: starEach [e2] env) (hst2 : starEach [e2] env = (false, eval e2 env) :: starEach [] env) :
    PvG prog w A env (.Tuple [e1, e2] k pos) (fun v h' => ∃ b, v = .ref b ∧ h.get? b = none ∧ h'.get? b = some (tupO [v1, v2])) h := fun s tk E Q q =>
  wpAny_Tuple (spliced_more (h1.at fun tk1 => spliced_more (h2.at fun tk2 => spliced_none ⟨two_le (show 2 ≤ 16 by decide), q _ _ _ Grow.push ⟨_, rfl, size_none, Heap.get?_push_size _ rfl⟩⟩) hst2) hst1)
/-- [e] -/
theorem PvG.list1 {e1 : Expr} {P1 : Value → Heap → Prop} {pos : Pos} (h1 : PvG prog w A env e1 P1 h) (hst1 : starEach [e1] env = (false, eval e1 env) :: starEach [] env) :
    PvG prog w A env (.List [e1] pos) (fun v h' => ∃ b v1 h1, v = .ref b ∧ Grow h h1 ∧ P1 v1 h1 ∧ Grow h1 h' ∧ h1.get? b = none ∧ h'.get? b = some (listOf [v1].toArray 0)) h := fun s tk E Q q =>
  wpAny_List (spliced_more (h1 s tk _ _ fun v1 h2 tk1 G hv => spliced_none ⟨two_le (show 1 ≤ 16 by decide), q _ _ _ (G.trans Grow.push) ⟨_, v1, h2, rfl, G, hv, Grow.push, size_none, Heap.get?_push_size _ rfl⟩⟩) hst1)
theorem PvG.list0 {pos : Pos} : PvG prog w A env (.List [] pos) (fun v h' => ∃ b, v = .ref b ∧ h.get? b = none ∧ h'.get? b = some (listOf ([] : List Value).toArray 0)) h := fun s tk E Q q =>
  wpAny_List (spliced_none ⟨Nat.zero_le _, q _ _ _ Grow.push ⟨_, rfl, size_none, Heap.get?_push_size _ rfl⟩⟩)
/-- x + y, of lists -/
inductive SumL (its : List Value) (P2 : Value → Heap → Prop) (h : Heap) (v : Value) (h' : Heap) : Prop
  | mk (b b2 : Addr) (h1 : Heap) (its2 : List Value) (n2 : Nat) (e : v = .ref b) (G1 : Grow h h1) (hp : P2 (.ref b2) h1) (hb2 : h1.get? b2 = some (listOf its2.toArray n2)) (G2 : Grow h1 h') (hb : h1.get? b = none) (hb' : h'.get? b = some (listOf (its ++ its2).toArray 0))
theorem PvG.addL {e1 e2 : Expr} {P2 : Value → Heap → Prop} {pos : Pos} (h1 : Pv prog w A env e1 (.ref a) h) (hl1 : h.get? a = some (listOf its.toArray n)) (h2 : PvG prog w A env e2 P2 h)
    (hp : ∀ v h1, P2 v h1 → ∃ (b2 : Addr) (its2 : List Value) (n2 : Nat), v = .ref b2 ∧ h1.get? b2 = some (listOf its2.toArray n2) ∧ its.length + its2.length ≤ 100000) :
    PvG prog w A env (.BinOp e1 .Add e2 pos) (SumL its P2 h) h := fun s tk E Q q => by
  refine wpAny_BinOp (h1.at fun tk1 => h2 s tk1 _ _ fun v h1 tk2 G hv => ?_)
  obtain ⟨b2, its2, n2, rfl, hb2, hz⟩ := hp v h1 hv
  refine PySem.P.add_list (s := up s h1 tk2) (G _ _ hl1) hb2 ?_ (by rw [List.size_toArray, List.size_toArray, sizeLine_eq]; omega)
  refine q _ _ _ (G.trans Grow.push) ⟨_, b2, h1, its2, n2, rfl, G, hv, hb2, Grow.push, size_none, ?_⟩
  rw [← List.append_toArray]
  exact Heap.get?_push_size _ rfl
theorem PvG.eqI {e : Expr} {a b : Int} (hp : PvG prog w A env e (fun v _ => IsI a v) h) (q : a = b) : PvG prog w A env e (fun v _ => IsI b v) h := q ▸ hp
theorem PvI.sub {l r : Expr} {a b : Int} {pos : Pos} (hl : PvI prog w A env l a h) (hr : PvI prog w A env r b h) : PvI prog w A env (.BinOp l .Sub r pos) (a - b) h := fun s Q E hs q => by
  refine wpAny_BinOp (hl _ _ _ hs fun v tk hv => hr _ _ _ hs fun v' tk' hv' => ?_)
  obtain ⟨t, rfl⟩ := hv
  obtain ⟨t', rfl⟩ := hv'
  exact sub_int (q _ _ ⟨_, rfl⟩)
end
section
variable {prog : Program} {K : Frag} {CN CL C : Addr} {w : World} {g h₀ h h' : Heap} {L : Addr} {m : Str → Option Value} {st : LS} {A : Around} {E : Value → Shared → Prop} {s : Shared} {tk tk₀ : Nat} {r : Rg} {v v2 : Value} {env : Env}
  {a : Addr} {o o' : Obj} {pre post : List (Addr × Obj)} {its : List Value} {ns : List Int} {n : Nat}

/-- what a loop is set out on: fr are objects of its own, kp stand in the ledger -/
structure SetsK (prog : Program) (w : World) (A : Around) (h : Heap) (kp : List (Addr × Obj)) (n : Nat) (Pe : Nat → Value → Prop) (s : Shared) (it : Value) (s₂ : Shared) : Prop where
  go : ∃ (I : Addr) (fp wr fr : List Addr) (Sw : Nat → Heap → Prop) (h2 : Heap) (tk2 : Nat), it = .ref I ∧ s₂ = up s h2 tk2 ∧ Grow h h2 ∧ Walks prog w A I fp wr n Pe Sw ∧ Sw 0 h2 ∧ (∀ b ∈ wr, b ∈ fr) ∧ (∀ b ∈ fr, h.get? b = none) ∧ fr.Nodup ∧ (∀ b ∈ fp, b ∈ fr ∨ ∃ q ∈ kp, q.1 = b) ∧ ∀ i h', Sw i h' → ∀ b ∈ fr, b ∈ fp ∧ ∃ o, h'.get? b = some o

theorem for_k {x : Str} {px pos : Pos} {iter : Expr} {body : List Stmt} {Pe : Nat → Value → Prop} {Q : Flow → Shared → Prop} (P : Nat → LS → (Str → Option Value) → Prop) (kp : List (Addr × Obj))
    (S : St CN CL w g L m st h) (hL : env.locals = L) (hx : env.kindOf x = some .local)
    (hp : (env.scope.kind == .class || (env.scope.kind == .module && env.locals != env.globals)) = false)
    (hit : wpAny (model prog w) A (eval iter env) (fun xv s₁ => wpAny (model prog w) A (pyIter xv) (SetsK prog w A h kp n Pe s) E s₁) E (up s h tk))
    (h0 : P 0 st m) (hkp : ∀ i st' m', P i st' m' → ∀ q ∈ kp, q ∈ st'.ex)
    (turn : ∀ i v m₁ st₁ own h₁ tk₁, i < n → Pe i v → P i st₁ m₁ → St CN CL w g L (fun y => if y = x then some v else m₁ y) (st₁.withEx (own ++ st₁.ex)) h₁ →
      wpAny (model prog w) A (execs body env) (TurnEnd CN CL w g L own (P (i + 1)) s Q) E (up s h₁ tk₁))
    (done : ∀ m' st' h' tk', P n st' m' → St CN CL w g L m' st' h' → Q .next (up s h' tk'))
    (hs : ∀ x, foldedSetIterable iter env x = pure x) (hE : PassesOwn (model prog w) A env E) :
    wpAny (model prog w) A (exec (.For (.Name x px) iter body [] pos) env) Q E (up s h tk) := by
  subst hL
  refine For_invV (env := env) g hx hp (wpAny_mono hit (fun xv s₁ h₁ => wpAny_mono h₁ (fun it s₂ h₂ => ?_) fun _ _ e => e) fun _ _ e => e) hs hE
  obtain ⟨I, fp, wr, fr, Sw, h2, tk2, rfl, rfl, G, W, hst, hwf, hfr, hnd, hfp, hlv⟩ := h₂.go
  have Lv : ∃ o, h.get? env.locals = some o := let ⟨o, _, _, ho, _⟩ := S.F.ns; ⟨o, ho⟩
  have gfr : ∀ b ∈ fr, g.get? b = none := fun b hb => by
    cases e : g.get? b with
    | none => rfl
    | some o => have := hfr b hb; rw [S.F.keep b o e] at this; cases this
  have kpo : ∀ q ∈ kp, q.1 ≠ env.locals ∧ g.get? q.1 = none := fun q hq => by
    have := S.exGet (a := q.1) (o := q.2) (hkp 0 st m h0 q hq)
    exact ⟨this.2.1, this.2.2⟩
  have gfp : ∀ b ∈ fp, g.get? b = none := fun b hb => (hfp b hb).elim (gfr b) fun ⟨q, hq, e⟩ => e ▸ (kpo q hq).2
  have Lfp : env.locals ∉ fp := fun q => (hfp _ q).elim (fun q => by obtain ⟨o, ho⟩ := Lv; rw [hfr _ q] at ho; cases ho) fun ⟨q, hq, e⟩ => (kpo q hq).1 e
  have frA : ∀ b ∈ fr, b ∉ addrs st := fun b hb hm => by
    rw [← ledger_addrs CN CL w.params] at hm
    obtain ⟨q, hq, rfl⟩ := List.mem_map.mp hm
    have := (S.N q hq).1
    rw [hfr _ hb] at this; cases this
  have S2 := S.grow G
  have offW : ∀ st' : LS, (∀ b ∈ fr, b ∉ addrs st') → ∀ q ∈ ledger CN CL w.params st', q.1 ∉ wr := fun st' hf q hq hm =>
    hf _ (hwf _ hm) (by rw [← ledger_addrs CN CL w.params]; exact List.mem_map_of_mem hq)
  refine ⟨I, fp, wr, n, Pe, Sw, m, ledger CN CL w.params st, fun i m' news' => ∃ st', news' = ledger CN CL w.params st' ∧ (addrs st').Nodup ∧ LSok st' ∧ (∀ b ∈ fr, b ∉ addrs st') ∧ P i st' m',
    rfl, W, Lfp, fun b hb => gfp b (W.sub b hb), offW st frA, hst, S2.F, S2.N, ⟨st, rfl, S.wf, S.ok, frA, h0⟩, ?_, ?_⟩
  · rintro i v m₁ news₁ s₁ own ⟨h₁, tk₁, rfl⟩ hin hPe ⟨st₁, rfl, wf₁, ok₁, off₁, hP₁⟩ _ hsub hget hall hst₁ F₁ N₁
    have fro : ∀ q ∈ ownF fr h₁, q ∈ own := fun q hq => by
      obtain ⟨e1, e2⟩ := mem_ownF.mp hq
      exact hall q.1 (hlv _ _ hst₁ _ e1).1 (gfr _ e1) q.2 e2
    have own_or : ∀ q ∈ own, q ∈ ownF fr h₁ ∨ q ∈ kp := fun q hq => (hfp _ (hsub q hq)).elim (fun e => .inl (mem_ownF.mpr ⟨e, hget q hq⟩)) fun ⟨q', hq', e⟩ => by
      have e1 := (N₁ q' (List.mem_append_right _ (by unfold ledger; exact .tail _ (.tail _ (.tail _ (List.mem_append_right _ (hkp _ _ _ hP₁ q' hq'))))))).1
      rw [e, hget q hq] at e1
      exact .inr (by rw [show q = q' from Prod.ext e.symm (Option.some.inj e1)]; exact hq')
    have S₁ : St CN CL w g env.locals (fun y => if y = x then some v else m₁ y) (st₁.withEx (ownF fr h₁ ++ st₁.ex)) h₁ := by
      refine ⟨F₁, fun q hq => ?_, ?_, ⟨ok₁.F, ok₁.mru, ok₁.lru, ok₁.mx, ok₁.af⟩⟩
      · unfold ledger LS.withEx at hq
        simp only [List.mem_cons, List.mem_append] at hq
        refine N₁ q ?_
        rw [List.mem_append]
        unfold ledger
        simp only [List.mem_cons, List.mem_append]
        rcases hq with h | h | h | h | h | h
        · exact .inr (.inl h)
        · exact .inr (.inr (.inl h))
        · exact .inr (.inr (.inr (.inl h)))
        · exact .inr (.inr (.inr (.inr (.inl h))))
        · exact .inl (fro q h)
        · exact .inr (.inr (.inr (.inr (.inr h))))
      · have pm : (addrs (st₁.withEx (ownF fr h₁ ++ st₁.ex))).Perm ((ownF fr h₁).map (·.1) ++ addrs st₁) := by
          unfold addrs LS.withEx
          show ([st₁.c, st₁.dc, st₁.dd] ++ (regAddrs st₁.reg ++ (ownF fr h₁ ++ st₁.ex).map (·.1))).Perm ((ownF fr h₁).map (·.1) ++ ([st₁.c, st₁.dc, st₁.dd] ++ (regAddrs st₁.reg ++ st₁.ex.map (·.1))))
          rw [List.map_append]
          generalize (ownF fr h₁).map (·.1) = X
          generalize st₁.ex.map (·.1) = Y
          generalize [st₁.c, st₁.dc, st₁.dd] = Z
          generalize regAddrs st₁.reg = R
          rw [← List.append_assoc R X Y, ← List.append_assoc Z, ← List.append_assoc Z R Y, ← List.append_assoc X]
          refine List.Perm.append_right Y ?_
          rw [← List.append_assoc Z R X]
          exact List.perm_append_comm
        rw [pm.nodup_iff, List.nodup_append]
        refine ⟨List.Nodup.sublist (ownF_sub fr) hnd, wf₁, fun b hb c hc e => ?_⟩
        obtain ⟨q, hq, rfl⟩ := List.mem_map.mp hb
        exact off₁ q.1 (mem_ownF.mp hq).1 (e ▸ hc)
    refine wpAny_mono (turn i v m₁ st₁ (ownF fr h₁) h₁ tk₁ hin hPe hP₁ S₁) (fun fl s' hf => ?_) fun _ _ e => e
    have fin : (∃ h' tk' m' st', s' = up s h' tk' ∧ St CN CL w g env.locals m' (st'.withEx (ownF fr h₁ ++ st'.ex)) h' ∧ P (i + 1) st' m') → LoopStepU g env.locals wr own (fun m' news' => ∃ st', news' = ledger CN CL w.params st' ∧ (addrs st').Nodup ∧ LSok st' ∧ (∀ b ∈ fr, b ∉ addrs st') ∧ P (i + 1) st' m') (up s h₁ tk₁) .next s' := by
      rintro ⟨h', tk', m', st', rfl, S', hP'⟩
      have Ssub : St CN CL w g env.locals m' st' h' := S'.subEx (ex := st'.ex) (List.sublist_append_right _ _)
      have offS : ∀ b ∈ fr, b ∉ addrs st' := fun b hb hm => by
        obtain ⟨-, o, ho⟩ := hlv _ _ hst₁ b hb
        obtain ⟨l1, l2, e1⟩ := List.append_of_mem (mem_ownF.mpr ⟨hb, ho⟩ : (b, o) ∈ ownF fr h₁)
        have off := addrs_off (a := b) (o := o) (pre := l1) (post := l2 ++ st'.ex) S'.wf (by show ownF fr h₁ ++ st'.ex = _; rw [e1, List.append_assoc]; rfl)
        unfold addrs at hm
        simp only [List.mem_cons, List.mem_append] at hm
        rcases hm with e | e | e | e | e
        · exact off.1 e
        · exact off.2.1 e
        · exact off.2.2.1 e
        · exact off.2.2.2.1 e
        · obtain ⟨q, hq, e⟩ := List.mem_map.mp e
          exact off.2.2.2.2.2 q (List.mem_append_right _ hq) e
      refine ⟨rfl, h', tk', m', ledger CN CL w.params st', rfl, Ssub.F, fun q hq => ?_, offW st' offS, st', rfl, Ssub.wf, Ssub.ok, offS, hP'⟩
      rcases List.mem_append.mp hq with hq | hq
      · rcases own_or q hq with hq | hq
        · refine S'.N q ?_
          unfold ledger LS.withEx
          exact .tail _ (.tail _ (.tail _ (List.mem_append_right _ (List.mem_append_left _ hq))))
        · refine Ssub.N q ?_
          unfold ledger
          exact .tail _ (.tail _ (.tail _ (List.mem_append_right _ (hkp _ _ _ hP' q hq))))
      · exact Ssub.N q hq
    cases fl with
    | ret v => exact .ret hf
    | brk => exact .brk hf
    | next => exact .next (fin hf)
    | cont => exact .cont (fin hf)
  · rintro h' tk' m' news' F' N' _ ⟨st', rfl, wf', ok', off', hP'⟩
    exact done m' st' h' tk' hP' ⟨F', N', wf', ok'⟩

/-- over a list of the ledger -/
theorem setsK_list {l : Addr} {lo : Obj} {items : Array Value} (hh : A.handled = none) (hl : h.IsList l items) :
    wpAny (model prog w) A (pyIter (.ref l)) (SetsK prog w A h [(l, lo)] items.size (fun i v => items[i]? = some v) s) E (up s h tk) := by
  refine wpAny_pyIter_list (s := up s h tk) hl ⟨h.objs.size, [h.objs.size, l], [h.objs.size], [h.objs.size], _, _, tk, rfl, rfl, Grow.push, Walks.list hh h.objs.size l ?_ items, ⟨⟨_, Heap.get?_push_size _ rfl, rfl, rfl⟩, hl.at fun o e => Heap.get?_push_of_some _ e⟩, fun b hb => hb, ?_, ?_, ?_, ?_⟩
  · obtain ⟨o, ho, _⟩ := hl; exact Nat.ne_of_lt (Heap.lt_size ho)
  · intro b hb
    rw [List.mem_singleton.mp hb]; exact size_none
  · exact List.nodup_cons.mpr ⟨List.not_mem_nil, List.nodup_nil⟩
  · intro b hb
    rcases List.mem_cons.mp hb with rfl | hb
    · exact .inl (.head _)
    · exact .inr ⟨_, .head _, (List.mem_singleton.mp hb).symm⟩
  · rintro i h' ⟨⟨o, ho, _⟩, _⟩ b hb
    rw [List.mem_singleton.mp hb]
    exact ⟨.head _, o, ho⟩
end
section
variable {prog : Program} {K : Frag} {CN CL : Addr} {w : World} {g h₀ h h' : Heap} {L : Addr} {m : Str → Option Value} {st : LS} {A : Around} {E : Value → Shared → Prop} {s : Shared} {tk tk₀ : Nat} {v v2 : Value} {env : Env}
  {a c : Addr} {o o' : Obj} {cn : Str} {cs : Scope} {f : Addr} {cd : Value} {cl : List (Str × Addr)} {x : Str} {pos : Pos} {p : Program} {loose : List Str} {mg mb : Str → Option Value}
/-- names in a frame that has cells -/
theorem Pv.nameX (S : St CN CL w g L m st h) (hv : m x = some v) (hk : cs.kind = .function) (hl : (envX cn cs L f cd cl).kindOf x = some .local) (hd : (x == ("__debug__" : Str)) = false) :
    Pv prog w A (envX cn cs L f cd cl) (.Name x pos) v h := fun s Q E hs q => by subst hs; exact nameX_L S.F hv (q s.toks) hk hl hd
theorem Pv.globX (S : St CN CL w g L m st h) (X : K.In g) (T : TopRead p loose mg mb g) (e : nsIn K mainGlobals x = some (some v)) (hk : cs.kind = .function) (hx : (envX cn cs L f cd cl).kindOf x = some .globalImplicit) (hd : (x == ("__debug__" : Str)) = false) :
    Pv prog w A (envX cn cs L f cd cl) (.Name x pos) v h := fun s Q E hs q => by subst hs; exact nameX_K S.F X T e (q s.toks) hk hx hd
theorem Pv.builtinX (S : St CN CL w g L m st h) (X : K.In g) (T : TopRead p loose mg mb g) (e : nsIn K mainGlobals x = some none) (hv : bootBuiltins x = some v) (hn : x ≠ "__name__") (hk : cs.kind = .function) (hx : (envX cn cs L f cd cl).kindOf x = some .globalImplicit) (hd : (x == ("__debug__" : Str)) = false) :
    Pv prog w A (envX cn cs L f cd cl) (.Name x pos) v h := fun s Q E hs q => by subst hs; exact nameX_B S.F X T e hv hn (q s.toks) hk hx hd
theorem St.inLed (S : St CN CL w g L m st h) (hm : (a, o) ∈ st.ex) : (a, o) ∈ ledger CN CL w.params st := .tail _ (.tail _ (.tail _ (List.mem_append_right _ hm)))
theorem Pv.cellX (S : St CN CL w g L m st h) (hc : cl.lookup x = some c) (hm : (c, o) ∈ st.ex) (hd' : o.data = .cell (some v)) (hk : cs.kind = .function) (hx : (envX cn cs L f cd cl).kindOf x = some .cell) (hd : (x == ("__debug__" : Str)) = false) :
    Pv prog w A (envX cn cs L f cd cl) (.Name x pos) v h := fun s Q E hs q => by subst hs; exact nameX_C S.N hc (S.inLed hm) hd' (q s.toks) hk hx hd
theorem Pv.freeX (S : St CN CL w g L m st h) (hc : cl.lookup x = some c) (hm : (c, o) ∈ st.ex) (hd' : o.data = .cell (some v)) (hk : cs.kind = .function) (hx : (envX cn cs L f cd cl).kindOf x = some .free) (hd : (x == ("__debug__" : Str)) = false) (hn : (x == ("__classdict__" : Str)) = false) :
    Pv prog w A (envX cn cs L f cd cl) (.Name x pos) v h := fun s Q E hs q => by subst hs; exact nameX_F S.N hc (S.inLed hm) hd' (q s.toks) hk hx hd hn
theorem storeX {Q : Unit → Shared → Prop} (S : St CN CL w g L m st h)
    (q : ∀ h' tk', St CN CL w g L (fun y => if y = x then some v else m y) st h' → Q () (up s h' tk')) (hk : cs.kind = .function) (hl : (envX cn cs L f cd cl).kindOf x = some .local) :
    wpAny (model prog w) A (storeName (envX cn cs L f cd cl) x v) Q E (up s h tk) :=
  wpAny_storeName_local (s := up s h tk) hl S.F.ns (fun h' hn hs => q h' _ ⟨S.F.set hn hs, S.N.set hs, S.wf, S.ok⟩) (by show (cs.kind == .class || (cs.kind == .module && L != mainGlobals)) = false; rw [hk]; rfl)
theorem storeCX {Q : Unit → Shared → Prop} {v₀ : Option Value} (S : St CN CL w g L m st h) (hc : cl.lookup x = some c) (hm : (c, o) ∈ st.ex) (hd' : o.data = .cell v₀)
    (q : ∀ h' o', Heap.SameBut c h h' → h'.get? c = some o' → o'.data = .cell (some v) → Q () (up s h' tk)) (hk : cs.kind = .function) (hl : (envX cn cs L f cd cl).kindOf x = some .cell) :
    wpAny (model prog w) A (storeName (envX cn cs L f cd cl) x v) Q E (up s h tk) := by
  refine wpAny_storeName_cell (s := up s h tk) hk hl hc ⟨o, (S.exGet hm).1, hd'⟩ fun h' hv hs => ?_
  obtain ⟨o', ho', hd2⟩ := hv
  exact q h' o' hs ho' hd2

/-- a comprehension of one clause: the names of its own block -/
theorem comp_name {C : Addr} {sc : Scope} {mm : Str → Option Value} (hns : h.Ns C mm) (hv : mm x = some v) (hk : (compEnvC sc cl C env).scope.kind = .function) (hl : (compEnvC sc cl C env).kindOf x = some .local) (hd : (x == ("__debug__" : Str)) = false) :
    Pv prog w A (compEnvC sc cl C env) (.Name x pos) v h := fun s Q E hs q => by
  subst hs
  exact ldVarK (scope := sc) (cl := cl) (C := C) (env := env) hns hv (q s.toks) hk hl hd
theorem comp_free {C : Addr} {sc : Scope} (hc : cl.lookup x = some c) (hv : h.IsCell c (some v)) (hk : (compEnvC sc cl C env).scope.kind = .function) (hl : (compEnvC sc cl C env).kindOf x = some .free) (hd : (x == ("__debug__" : Str)) = false) (hn : (x == ("__classdict__" : Str)) = false) :
    Pv prog w A (compEnvC sc cl C env) (.Name x pos) v h := fun s Q E hs q => by
  subst hs
  exact ldFreeK (C := C) hc hv (q s.toks) hk hl hd hn
end
section
variable {prog : Program} {w : World} {A : Around} {E : Value → Shared → Prop} {s : Shared} {h h2 : Heap} {tk2 : Nat} {env : Env}
/-- a list comprehension under way: i items asked -/
inductive CompI (h2 : Heap) (s : Shared) (C D : Addr) (fr : List Addr) (Sw : Nat → Heap → Prop) (Pe : Nat → Value → Prop) (pz : Value → Bool) (n k : Nat) (s' : Shared) : Prop
  | mk (h' : Heap) (tk' i : Nat) (vs : List Value) (mm : Str → Option Value) (es : s' = up s h' tk') (hi : i ≤ n) (hk : k = n + 1 - i) (st : Sw i h') (hl : vs.length = i) (hv : ∀ j v, vs[j]? = some v → Pe j v)
    (G : ∀ b o, b ∉ fr → h2.get? b = some o → h'.get? b = some o) (ns : h'.Ns C mm) (hD : h'.get? D = some (listOf (vs.filter pz).toArray (vs.filter pz).length))
theorem comp_core {x : Str} {px p2 : Pos} {iter : Expr} {ifs : List Expr} {scope : Scope} {cl : List (Str × Addr)} {pos : Pos} {I : Addr} {fp wr : List Addr} {n : Nat} {Pe : Nat → Value → Prop} {Sw : Nat → Heap → Prop} {pz : Value → Bool} {RR : Value → Addr → Result → Shared → Prop}
    (W : Walks prog w A I fp wr n Pe Sw) (hst : Sw 0 h2) (hfp : ∀ b ∈ fp, b < h2.objs.size) (hz : n ≤ 100000)
    (hcell : ∀ y ∈ scope.names, y.2 ≠ .cell) (hkind : scope.kind = .function) (hx : scope.names.lookup x = some .local) (hd : (x == ("__debug__" : Str)) = false)
    (tests : ∀ (i : Nat) (v : Value) (C : Addr) (mm : Str → Option Value) (h' : Heap) (tk' : Nat) (Q : Bool → Shared → Prop) (E : Value → Shared → Prop), i < n → Pe i v → (∀ b o, b ∉ wr → h2.get? b = some o → h'.get? b = some o) → h'.Ns C mm → mm x = some v → (∀ tk'', Q (pz v) (up s h' tk'')) →
      wpAny (model prog w) A (forIn ifs true fun c r => if r = true then do let ok ← isTrue c (compEnvC scope cl C env) (eval c (compEnvC scope cl C env)); pure (ForInStep.yield ok) else pure (ForInStep.yield r)) Q E (up s h' tk'))
    (fin : ∀ (D C : Addr) (h' : Heap) (tk' : Nat) (mm : Str → Option Value) (vs : List Value), (∀ b o, b ∉ wr → h2.get? b = some o → h'.get? b = some o) → h'.Ns C mm → h2.get? C = none → h2.get? D = none → C ≠ D → vs.length = n → (∀ j v, vs[j]? = some v → Pe j v) →
      h'.get? D = some (listOf (vs.filter pz).toArray (vs.filter pz).length) → RR (.ref D) C (.ok .next) (up s h' tk')) :
    wpAny (model prog w) A (newList []) (fun acc s₃ => wpAny (model prog w) A (newFunctionEnv scope env.globals cl [] env.qual none .none (some env)) (fun cenv s₄ =>
      codeAny (model prog w) A (.compStart (.ListComp (.Name x p2) [⟨.Name x px, iter, ifs, 0⟩] scope pos) 0 (.ref I) acc { cenv with scope := relabel scope env }) (RR acc cenv.locals) s₄) E s₃) E (up s h2 tk2) := by
  refine wpAny_newObj_type (wpAny_newFunctionEnv hcell (by intro y hy; simp at hy) (fun h₁ hns₁ hsb₁ => ?_) hkind)
  dsimp only at hns₁ hsb₁ ⊢
  obtain ⟨mm, hns₁⟩ : ∃ mm, h₁.Ns _ mm := ⟨_, hns₁⟩
  have hC : ((up s h2 tk2).heap.push { cls := .type "list", dict := none, data := .seq ([] : List Value).toArray }).objs.size = h2.objs.size + 1 := Heap.size_push ..
  have hacc : h₁.get? h2.objs.size = some (listOf ([] : List Value).toArray 0) := hsb₁.extBut _ _ (by rw [hC]; exact Nat.ne_of_lt (Nat.lt_succ_self _)) (Heap.get?_push_of_some _ (Heap.get?_push_size _ rfl))
  have old : ∀ b o, h2.get? b = some o → h₁.get? b = some o := fun b o e => hsb₁.extBut b o (by rw [hC]; exact Nat.ne_of_lt (Nat.lt_succ_of_lt (Heap.lt_size e))) (Heap.get?_push_of_some _ (Heap.get?_push_of_some _ e))
  rw [hC] at hns₁
  have fC : h2.get? (h2.objs.size + 1) = none := by
    cases e : h2.get? (h2.objs.size + 1) with
    | none => rfl
    | some o => exact absurd (Heap.lt_size e) (Nat.not_lt.mpr (Nat.le_succ _))
  have fpD : ∀ b ∈ fp, b ≠ h2.objs.size ∧ b ≠ h2.objs.size + 1 := fun b hb => ⟨Nat.ne_of_lt (hfp b hb), Nat.ne_of_lt (Nat.lt_succ_of_lt (hfp b hb))⟩
  have hDw : h2.objs.size ∉ wr := fun q => (fpD _ (W.sub _ q)).1 rfl
  have hCw : h2.objs.size + 1 ∉ wr := fun q => (fpD _ (W.sub _ q)).2 rfl
  have hst₁ : Sw 0 h₁ := W.frame _ _ _ hst fun b _ o e => old b o e
  have loop : ∀ s₃ : Shared, (∃ tk, s₃ = up s h₁ tk) → codeAny (model prog w) A (.compLoop (.ListComp (.Name x p2) [⟨.Name x px, iter, ifs, 0⟩] scope pos) 0 (.ref I) (.ref h2.objs.size) (compEnvC scope cl (h2.objs.size + 1) env))
      (RR (.ref h2.objs.size) (h2.objs.size + 1)) s₃ := by
    rintro s₃ ⟨tk3, rfl⟩
    refine codeAny_compLoop_tests (CompI h2 s (h2.objs.size + 1) h2.objs.size wr Sw Pe pz n) ?_ (n + 1)
      ⟨h₁, tk3, 0, [], mm, rfl, Nat.zero_le _, rfl, hst₁, rfl, fun j v e => by simp at e, fun b o _ e => old b o e, hns₁, hacc⟩
    rintro k s' ⟨h', tk', i, vs, mm', rfl, hi, rfl, st', hl, hv, G', hn', hD'⟩
    by_cases hlt : i < n
    · refine W.item i _ _ _ hlt st' fun v h3 tk3 hPv st3 k3 => ?_
      have n3 := hn'.at' fun o e => k3 _ o hCw e
      refine wpAny_assign_Name (wpAny_storeName_local (lookup_relabel_local hx) n3 (fun h4 n4 s4 => ?_) (by simp [compEnvC, relabel, hkind]))
      have st4 : Sw (i + 1) h4 := W.frame _ _ _ st3 fun b hb o e => s4.extBut b o (fpD b hb).2 e
      have G4 : ∀ b o, b ∉ wr → h2.get? b = some o → h4.get? b = some o := fun b o hb e => s4.extBut b o (fun q => by have q' : b = h2.objs.size + 1 := q; rw [q', fC] at e; cases e) (k3 b o hb (G' b o hb e))
      have hD4 : h4.get? h2.objs.size = some (listOf (vs.filter pz).toArray (vs.filter pz).length) := s4.extBut _ _ (fun q => by have q' : h2.objs.size = h2.objs.size + 1 := q; omega) (k3 _ _ hDw hD')
      have hl' : (vs ++ [v]).length = i + 1 := by rw [List.length_append, hl]; rfl
      have hv' : ∀ j u, (vs ++ [v])[j]? = some u → Pe j u := fun j u e => by
        rw [List.getElem?_append] at e
        split at e
        · exact hv j u e
        · rename_i hj
          rw [List.getElem?_singleton] at e
          split at e
          · cases e; rw [show j = i by omega]; exact hPv
          · cases e
      refine tests i v (h2.objs.size + 1) _ h4 _ _ _ hlt hPv G4 n4 (by simp) fun tk5 => ?_
      cases hp : pz v with
      | true =>
        rw [if_pos rfl]
        refine (comp_name (v := v) (pos := p2) n4 (by simp) (by simp [compEnvC, relabel, hkind]) (lookup_relabel_local hx) hd) (up s h4 tk5) _ _ rfl fun tk6 => ?_
        refine append_at (s := up s h4 tk6) (hsz := by rw [List.size_toArray, sizeLine_eq]; have := List.length_filter_le pz vs; omega) hD4 fun h5 s5 hD5 => ?_
        refine ⟨n + 1 - (i + 1), by omega, h5, tk6, i + 1, vs ++ [v], _, rfl, hlt, rfl, W.frame _ _ _ st4 fun b hb o e => s5.extBut b o (fpD b hb).1 e, hl', hv', fun b o hb e => s5.extBut b o (Nat.ne_of_lt (Heap.lt_size e)) (G4 b o hb e), n4.sameBut s5 (Nat.ne_of_gt (Nat.lt_succ_self _)), ?_⟩
        rw [List.filter_append, show [v].filter pz = [v] by simp [hp], List.length_append, hD5, List.push_toArray]; rfl
      | false =>
        rw [if_neg Bool.false_ne_true]
        refine ⟨n + 1 - (i + 1), by omega, h4, tk5, i + 1, vs ++ [v], _, rfl, hlt, rfl, st4, hl', hv', G4, n4, ?_⟩
        rw [List.filter_append, show [v].filter pz = [] by simp [hp], List.append_nil]; exact hD4
    · obtain rfl : i = n := Nat.le_antisymm hi (Nat.not_lt.mp hlt)
      refine W.done _ _ _ st' fun h3 tk3 k3 => ?_
      exact fin _ _ h3 tk3 _ vs (fun b o hb e => k3 b o hb (G' b o hb e)) (hn'.at' fun o e => k3 _ o hCw e) fC size_none (Nat.ne_of_gt (Nat.lt_succ_self _)) hl hv (k3 _ _ hDw hD')
  rw [hC]
  exact codeAny_compStart_list (loop _ ⟨_, rfl⟩) (W.self 0 _ _ _ hst₁ (loop _ ⟨_, rfl⟩))
end
section
variable {prog : Program} {w : World} {A : Around} {E : Value → Shared → Prop} {s : Shared} {h : Heap} {tk : Nat} {env : Env}
/-- what a comprehension is set out on -/
structure CSet (prog : Program) (w : World) (A : Around) (h : Heap) (n : Nat) (Pe : Nat → Value → Prop) (s : Shared) (it : Value) (s₂ : Shared) : Prop where
  go : ∃ (I : Addr) (fp wr : List Addr) (Sw : Nat → Heap → Prop) (h2 : Heap) (tk2 : Nat), it = .ref I ∧ s₂ = up s h2 tk2 ∧ Grow h h2 ∧ Walks prog w A I fp wr n Pe Sw ∧ Sw 0 h2 ∧ (∀ b ∈ fp, b < h2.objs.size) ∧ ∀ b ∈ wr, h.get? b = none
/-- a pure test of a comprehension -/
noncomputable def CTest (prog : Program) (w : World) (A : Around) (h : Heap) (x : Str) (scope : Scope) (cl : List (Str × Addr)) (env : Env) (ifs : List Expr) (n : Nat) (Pe : Nat → Value → Prop) (pz : Value → Bool) (s : Shared) : Prop :=
  ∀ (i : Nat) (v : Value) (C : Addr) (mm : Str → Option Value) (h' : Heap) (tk' : Nat) (Q : Bool → Shared → Prop) (E : Value → Shared → Prop), i < n → Pe i v → Grow h h' → h'.Ns C mm → mm x = some v → (∀ tk'', Q (pz v) (up s h' tk'')) →
      wpAny (model prog w) A (forIn ifs true fun c r => if r = true then do let ok ← isTrue c (compEnvC scope cl C env) (eval c (compEnvC scope cl C env)); pure (ForInStep.yield ok) else pure (ForInStep.yield r)) Q E (up s h' tk')
theorem CTest.nil {x : Str} {scope : Scope} {cl : List (Str × Addr)} {n : Nat} {Pe : Nat → Value → Prop} : CTest prog w A h x scope cl env [] n Pe (fun _ => true) s :=
  fun i v C mm h' tk' Q E _ _ _ _ _ q => wpAny_tests_nil (q _)
/-- [x for x in it if ..] -/
theorem ev_comp {x : Str} {px p2 : Pos} {iter : Expr} {ifs : List Expr} {scope : Scope} {cl : List (Str × Addr)} {pos : Pos} {n : Nat} {Pe : Nat → Value → Prop} {pz : Value → Bool} {Q : Value → Shared → Prop}
    (hit : wpAny (model prog w) A (eval iter env) (fun xv s₁ => wpAny (model prog w) A (pyIter xv) (CSet prog w A h n Pe s) E s₁) E (up s h tk)) (hz : n ≤ 100000)
    (hclos : closureFor scope env = pure cl) (hcell : ∀ y ∈ scope.names, y.2 ≠ .cell) (hkind : scope.kind = .function) (hnames : ∀ y ∈ scope.names, y.2 = .local → scope.names.lookup y.1 = some .local)
    (hx : scope.names.lookup x = some .local) (hd : (x == ("__debug__" : Str)) = false) (hs : ∀ x, foldedSetIterable iter env x = pure x)
    (tests : CTest prog w A h x scope cl env ifs n Pe pz s)
    (q : ∀ (D : Addr) (h' : Heap) (tk' : Nat) (vs : List Value), Grow h h' → h.get? D = none → h'.get? D = some (listOf (vs.filter pz).toArray (vs.filter pz).length) → vs.length = n → (∀ j v, vs[j]? = some v → Pe j v) → Q (.ref D) (up s h' tk')) :
    wpAny (model prog w) A (eval (.ListComp (.Name x p2) [⟨.Name x px, iter, ifs, 0⟩] scope pos) env) Q E (up s h tk) := by
  rw [arm_eval_ListComp]
  refine wpAny_comprehension_free (use := none) rfl hs hclos hkind hnames (wpAny_mono hit (fun xv s₁ h₁ => wpAny_mono h₁ (fun it s₂ hset => ?_) fun _ _ e => e) fun _ _ e => e)
  obtain ⟨I, fp, wr, Sw, h2, tk2, rfl, rfl, G, W, hst, hfp, hwr⟩ := hset.go
  have gr : ∀ h' : Heap, (∀ b o, b ∉ wr → h2.get? b = some o → h'.get? b = some o) → Grow h h' := fun h' k b o e => k b o (fun hb => by rw [hwr b hb] at e; cases e) (G b o e)
  have none1 : ∀ b, h2.get? b = none → h.get? b = none := fun b e => by
    cases e2 : h.get? b with
    | none => rfl
    | some o => rw [G b o e2] at e; cases e
  refine comp_core (pz := pz) (x := x) W hst hfp hz hcell hkind hx hd (fun i v C mm h' tk' Q E hi hp k hn hm qq => tests i v C mm h' tk' Q E hi hp (gr h' k) hn hm qq) fun D C h' tk' mm vs k hn fC fD hCD hl hv hD => ?_
  refine ⟨mm, hn, fun h3 s3 => q D h3 tk' vs (fun b o e => s3.extBut b o (fun e2 => by rw [e2, none1 C fC] at e; cases e) (gr h' k b o e)) (none1 D fD) (s3.extBut _ _ (Ne.symm hCD) hD) hl hv⟩
end
section
variable {prog : Program} {w : World} {A : Around} {E : Value → Shared → Prop} {s : Shared} {it d : Addr} {es : Array DictEntry} {ep i : Nat} {h : Heap} {tk : Nat}
/-- keys(), of any keys -/
theorem rk_iter {v : Addr} {Q : Value → Shared → Prop} (hv : KdlKeysView s.heap v d) (hm : RawAt s.heap d es ep)
    (hQ : Q (.ref s.heap.objs.size) { s with heap := s.heap.push { cls := .type "dict_keyiterator", data := .fields #[.ref d, .int 0 0, .int es.size 0, .int ep 0] } }) :
    wpAny (model prog w) A (pyIter (.ref v)) Q E s := by
  obtain ⟨ov, hov, hcv, hdv⟩ := id hv
  obtain ⟨o, ho, hdat⟩ := id hm
  refine wpAny_pyIter_slot hv.typeIs kdl_slot_keys_iter (wpAny_call_entry kdl_slot_keys_iter hv.typeIs kdl_entry_keys_iter ?_ (kdl_args_keys_iter _))
  unfold Builtin.«dict_keys.__iter__»
  refine wpAny_bind (wpAny_pure (wpAny_bind ?_))
  unfold Builtin.Dict_items.dictOf
  refine wpAny_bind (wpAny_field hov hdv (x := .ref d) rfl (wpAny_pure (wpAny_bind ?_)))
  unfold Builtin.Dict_items.newIterator
  refine wpAny_bind (wpAny_dictEntries ho hdat (wpAny_bind (wpAny_dictEpoch ho hdat ?_)))
  simp only [show Builtin.Dict_items.ownsTuple "dict_keyiterator" = false by decide, Bool.false_eq_true, if_false]
  refine wpAny_newObj_type (wpAny_pure ⟨_, rfl, "dict_keyiterator", _, ⟨_, Heap.get?_push_size _ rfl, rfl⟩, PySem.F.slot_dict_keyiterator_next.lookup, ?_⟩)
  simpa [rawInt] using hQ
theorem rk_item {e : DictEntry} {Q : Option Value → Shared → Prop} (hit : s.heap.IsKeyIter it d i es.size ep) (hm : RawAt s.heap d es ep) (hx : es[i]? = some e)
    (hQ : ∀ h', h'.IsKeyIter it d (i + 1) es.size ep → Heap.SameBut it s.heap h' → Q (some e.key) { s with heap := h' }) :
    wpAny (model prog w) A (pyNext (.ref it)) Q E s := by
  obtain ⟨o, ho, hc, hd⟩ := id hit
  obtain ⟨od, hod, hdd⟩ := id hm
  unfold pyNext
  refine wpAny_bind (wpAny_attempt (wpAny_callSpecial?_slot (name := Str.ofString "__next__") hit.typeIs F.slot_dict_keyiterator_next
    (wpAny_call_entry F.slot_dict_keyiterator_next hit.typeIs F.entry_dict_keyiterator_next ?_ (F.args_dict_keyiterator_next_1 _))))
  refine wpAny_bind (wpAny_pure (wpAny_bind (wpAny_bind (wpAny_bind (wpAny_typeNameOfWhole_keyiter hit.typeIs (wpAny_pure (wpAny_bind (wpAny_fieldsOf ho hd ?_))))))))
  simp only [show Builtin.Dict_items.ownsTuple "dict_keyiterator" = false by decide, Bool.false_eq_true, if_false]
  show wpAny _ _ (if (Value.ref d == Value.none) = true then _ else _) _ _ s
  rw [if_neg (show ¬ ((Value.ref d == Value.none) = true) from Bool.false_ne_true)]
  refine wpAny_bind (wpAny_pure (wpAny_bind (wpAny_dictEntries hod hdd ?_)))
  rw [if_neg (by simp)]
  refine wpAny_bind (wpAny_pure (wpAny_bind (wpAny_dictEpoch hod hdd ?_)))
  rw [if_neg (by simp)]
  refine wpAny_pure ?_
  simp only [show ¬ ((i : Int) < 0) from by omega, if_false, Int.toNat_natCast, hx]
  refine wpAny_bind (wpAny_bind (wpAny_typeNameOfWhole_keyiter hit.typeIs (wpAny_pure ?_)))
  refine wpAny_bind (wpAny_isOneOf_keyiter hit.typeIs ?_)
  show wpAny _ _ (setField (.ref it) 1 (rawInt ((i : Int) + 1)) >>= _) _ _ s
  refine wpAny_bind (wpAny_setField ho hd (by simp) ?_)
  have hit' : (s.heap.update it (Obj.mapFields (·.setIfInBounds 1 (rawInt ((i : Int) + 1))))).IsKeyIter it d (i + 1) es.size ep :=
    ⟨_, Heap.get?_update_self _ ho (Obj.isFreed_of_fields (Obj.data_mapFields hd _)), (Obj.cls_mapFields ..).trans hc, by rw [Obj.data_mapFields hd]; simp [rawInt]⟩
  refine wpAny_bind (wpAny_holding (wpAny_bind (wpAny_isOneOf_keyiter (s := { s with heap := s.heap.update it (Obj.mapFields (·.setIfInBounds 1 (rawInt ((i : Int) + 1)))) }) hit'.typeIs ?_)))
  show wpAny _ _ (pure e.key) _ _ _
  exact wpAny_pure (wpAny_pure ⟨_, rfl, wpAny_pure (hQ _ hit' (Heap.SameBut.update ..))⟩)
theorem rk_end {Q : Option Value → Shared → Prop} (hh : A.handled = none) (hit : s.heap.IsKeyIter it d i es.size ep) (hm : RawAt s.heap d es ep) (hx : es[i]? = none)
    (hQ : ∀ h', Heap.ExtBut it s.heap h' → Q none { s with heap := h' }) : wpAny (model prog w) A (pyNext (.ref it)) Q E s := by
  obtain ⟨o, ho, hc, hd⟩ := id hit
  obtain ⟨od, hod, hdd⟩ := id hm
  unfold pyNext
  refine wpAny_bind (wpAny_attempt (wpAny_callSpecial?_slot (name := Str.ofString "__next__") hit.typeIs F.slot_dict_keyiterator_next
    (wpAny_call_entry F.slot_dict_keyiterator_next hit.typeIs F.entry_dict_keyiterator_next ?_ (F.args_dict_keyiterator_next_1 _))))
  refine wpAny_bind (wpAny_pure (wpAny_bind (wpAny_bind (wpAny_bind (wpAny_typeNameOfWhole_keyiter hit.typeIs (wpAny_pure (wpAny_bind (wpAny_fieldsOf ho hd ?_))))))))
  simp only [show Builtin.Dict_items.ownsTuple "dict_keyiterator" = false by decide, Bool.false_eq_true, if_false]
  show wpAny _ _ (if (Value.ref d == Value.none) = true then _ else _) _ _ s
  rw [if_neg (show ¬ ((Value.ref d == Value.none) = true) from Bool.false_ne_true)]
  refine wpAny_bind (wpAny_pure (wpAny_bind (wpAny_dictEntries hod hdd ?_)))
  rw [if_neg (by simp)]
  refine wpAny_bind (wpAny_pure (wpAny_bind (wpAny_dictEpoch hod hdd ?_)))
  rw [if_neg (by simp)]
  refine wpAny_pure ?_
  simp only [show ¬ ((i : Int) < 0) from by omega, if_false, Int.toNat_natCast, hx]
  refine wpAny_bind (wpAny_bind (wpAny_typeNameOfWhole_keyiter hit.typeIs (wpAny_pure ?_)))
  show wpAny _ _ (setField (.ref it) 0 .none >>= _) _ _ s
  refine wpAny_bind (wpAny_setField ho hd (by simp) ?_)
  show wpAny _ _ (newExc (.type "StopIteration") [] >>= _) _ _ _
  refine wpAny_bind ?_
  simp only [newExc, newTuple]
  refine wpAny_bind (wpAny_newObj_type ?_ (by size_fits))
  refine wpAny_bind (m := firstArgMember _ _) (wpAny_of_eq (a := Value.none) (by first | rfl | (simp only [firstArgMember]; rfl)) ?_)
  refine wpAny_newObj_type ?_ (by size_fits)
  simp only [raiseNew]
  refine wpAny_bind (wpAny_handled ?_)
  rw [show A.in1.handled = none from hh]
  refine wpAny_bind (wpAny_pure (wpAny_throw ?_))
  refine wpAny_bind (wpAny_isInstance (T := "StopIteration") (b := true) ⟨_, Heap.get?_push_size _ rfl, rfl⟩ isSubtype_stop ?_)
  exact wpAny_pure (hQ _ (((Heap.SameBut.update ..).extBut.push _).push _))
theorem Walks.rawKeys (hh : A.handled = none) (I d : Addr) (hne : d ≠ I) (es : Array DictEntry) (ep : Nat) :
    Walks prog w A I [I, d] [I] es.size (fun i v => ∃ e, es[i]? = some e ∧ v = e.key) (fun i h => h.IsKeyIter I d i es.size ep ∧ RawAt h d es ep) where
  sub := fun b hb => by simp at hb; simp [hb]
  frame := fun _ _ _ st hk => ⟨st.1.at fun o e => hk I (by simp) o e, st.2.keep fun o e => hk d (by simp) o e⟩
  item := fun i s Q E hi st hQ => by
    obtain ⟨e, hx⟩ : ∃ e, es[i]? = some e := ⟨es[i], by simp [hi]⟩
    refine rk_item st.1 st.2 hx fun h' hit' hs' => ?_
    exact hQ e.key h' s.toks ⟨e, hx, rfl⟩ ⟨hit', st.2.keep fun o e => hs'.extBut _ _ hne e⟩ fun b o hb e => hs'.extBut b o (fun h => hb (by simp [h])) e
  done := fun s Q E st hQ => rk_end hh st.1 st.2 (by simp) fun h' he' => hQ h' s.toks fun b o hb e => he' b o (fun h => hb (by simp [h])) e
  self := fun _ _ _ _ st hQ => wpAny_pyIter_keyiter st.1 hQ
end
section
open PySem PySem.W PyProof.Rows PySem.Calls PySem.SeqAt
section
variable {prog : Program} {w : World} {K : Frag} {Ky : Type} [DecidableEq Ky] {T : DT prog w K Ky} {A : Around} {E : Value → Shared → Prop} {s : Shared} {a b : Addr} {oa ob : Obj} {kvs kvs2 : List (Ky × Value)}
/-- two dicts of the same pairs -/
theorem same_pairs {id : String} {Q : Bool → Shared → Prop} (X : K.In s.heap) (hu : A.units + 8 < cLine) (ha : s.heap.get? a = some oa) (hb : s.heap.get? b = some ob) (da : OD T oa kvs) (db : OD T ob kvs2) (hp : kvs.Perm kvs2)
    (sa : (a == sysModules) = false) (sb : (b == sysModules) = false) (q : Q true s) : wpAny (model prog w) A (Builtin.Dict.samePairs id a b) Q E s := by
  obtain ⟨_, es, ep, hda, hea, hna⟩ := da
  obtain ⟨_, es2, ep2, hdb, heb, hnb⟩ := db
  have z1 : es.size = kvs.length := by rw [← hea.length]; simp
  have z2 : es2.size = kvs2.length := by rw [← heb.length]; simp
  unfold Builtin.Dict.samePairs Builtin.Dict.showsAll
  rw [if_neg (by rw [sa]; exact Bool.false_ne_true), if_neg (by rw [sb]; exact Bool.false_ne_true)]
  refine wpAny_bind (wpAny_pure (wpAny_bind (wpAny_pure (wpAny_bind (wpAny_dictEntries ha hda (wpAny_bind (wpAny_dictEntries hb hdb ?_)))))))
  rw [if_neg (by rw [z1, z2, hp.length_eq, bne_self_eq_false]; exact Bool.false_ne_true)]
  refine wpAny_bind (wpAny_dictEpoch ha hda (wpAny_bind ?_))
  rw [Std.Legacy.Range.forIn_eq_forIn_range']
  simp only [Std.Legacy.Range.size, Nat.sub_zero, Nat.add_sub_cancel, Nat.div_one]
  refine wpAny_forIn_list _ (fun rest r s' => s' = s ∧ r = (none, ()) ∧ ∀ i ∈ rest, i < es.size) _ ?_ ?_ _ _ ⟨rfl, rfl, fun i hi => by rw [List.mem_range'_1] at hi; omega⟩
  · rintro i rest r s' ⟨rfl, rfl, hr⟩
    have hi := hr i (.head _)
    refine wpAny_bind (wpAny_dictEntries ha hda ?_)
    obtain ⟨⟨k, v⟩, hkv⟩ : ∃ kv, kvs[i]? = some kv := ⟨kvs[i]'(z1 ▸ hi), List.getElem?_eq_getElem _⟩
    obtain ⟨e, h1, h2, h3, h4⟩ := hea.get hkv
    rw [Array.getElem?_toList] at h1
    rw [h1]
    dsimp only
    refine wpAny_bind (wpAny_holding (wpAny_bind ?_))
    rw [h3]
    refine T.find X (by omega) h2 hb hdb heb hnb ?_
    have hv : valueAt kvs2 k = some v := valueAt_mem hnb (hp.mem_iff.mp (List.mem_of_getElem? hkv))
    cases hf : kvs2.findIdx? fun kv => decide (kv.1 = k) with
    | none => rw [valueAt_none (findIdx_none hf)] at hv; cases hv
    | some j =>
      obtain ⟨v2, h5, h6⟩ := findIdx_some hf
      rw [hv] at h6; cases h6
      obtain ⟨e2, h7, -, -, h8⟩ := heb.get h5
      rw [Array.getElem?_toList] at h7
      refine wpAny_bind (wpAny_dictEntries hb hdb ?_)
      rw [h7]
      dsimp only
      refine wpAny_holding ?_
      rw [h4, h8]
      refine EqAt.same v prog w E _ ?_
      rw [if_neg (by simp)]
      refine wpAny_bind (wpAny_dictEpoch ha hda ?_)
      rw [if_neg (by rw [bne_self_eq_false]; exact Bool.false_ne_true)]
      exact wpAny_pure ⟨rfl, rfl, fun i hi => hr i (.tail _ hi)⟩
  · rintro r s' ⟨rfl, rfl, -⟩
    exact wpAny_pure q
theorem rc_dicts {Q : Value → Shared → Prop} (X : K.In s.heap) (hu : A.units + 12 < cLine) (ha : s.heap.get? a = some oa) (hb : s.heap.get? b = some ob) (da : OD T oa kvs) (db : OD T ob kvs2) (hp : kvs.Perm kvs2)
    (sa : (a == sysModules) = false) (sb : (b == sysModules) = false) (q : Q (.bool true) s) : wpAny (model prog w) A (richCompare .Eq (.ref a) (.ref b)) Q E s := by
  have ta := da.typeIs (s := s) ha
  have tb := db.typeIs (s := s) hb
  refine wpAny_richCompare_same_room (op := .Eq) ta tb F.slot_dict_eq (wpAny_call_entry F.slot_dict_eq ta F.entry_dict_eq ?_ (F.args_dict_eq_2 _ _)) (by omega)
  unfold Builtin.«dict.__eq__»
  wp_delta
  refine wpAny_bind (wpAny_of_eq (show Builtin.Dict.dictSlotArgs "__eq__" ⟨[.ref a, .ref b], []⟩ = pure (.ref a, .ref b) by rfl) ?_)
  refine wpAny_bind (wpAny_isInstance tb (by rw [isSubtype_type]; kernel_rfl : isSubtype (.type "dict") (.type "dict") = pure true) ?_)
  rw [if_neg (by decide)]
  show wpAny _ _ (Builtin.Dict.samePairs _ a b >>= _) _ _ s
  refine wpAny_bind (same_pairs X (by simp only [Around.in1_units]; omega) ha hb da db hp sa sb ?_)
  exact wpAny_pure ⟨_, rfl, nofun, q⟩
end

end
section
variable {prog : Program} {K : Frag} {CN CL C : Addr} {w : World} {g h₀ h h' : Heap} {L : Addr} {m : Str → Option Value} {st : LS} {A : Around} {E : Value → Shared → Prop} {s : Shared} {tk tk₀ : Nat} {r : Rg} {v v2 : Value} {env : Env}
  {a : Addr} {o o' : Obj} {pre post : List (Addr × Obj)} {its : List Value} {ns : List Int} {n : Nat}

/-- what a loop is set out on: fr are objects of its own, kp stand in the ledger -/
structure SetsT (prog : Program) (w : World) (A : Around) (target : Expr) (h : Heap) (kp : List (Addr × Obj)) (n : Nat) (Pe : Nat → Value → Heap → Prop) (s : Shared) (it : Value) (s₂ : Shared) : Prop where
  go : ∃ (I : Addr) (fp wr fr : List Addr) (Md : Nat → Value → Heap → Prop) (Sw : Nat → Heap → Prop) (h2 : Heap) (tk2 : Nat), it = .ref I ∧ s₂ = up s h2 tk2 ∧ Grow h h2 ∧ KTurns prog w A target I fp wr n Pe Md Sw ∧ Sw 0 h2 ∧ (∀ b ∈ wr, b ∈ fr) ∧ (∀ b ∈ fr, h.get? b = none) ∧ fr.Nodup ∧ (∀ b ∈ fp, b ∈ fr ∨ ∃ q ∈ kp, q.1 = b) ∧ ∀ i h', Sw i h' → ∀ b ∈ fr, b ∈ fp ∧ ∃ o, h'.get? b = some o

theorem for_t {target : Expr} {pos : Pos} {iter : Expr} {body : List Stmt} {Pe : Nat → Value → Heap → Prop} {Q : Flow → Shared → Prop} (P : Nat → LS → (Str → Option Value) → Prop) (kp : List (Addr × Obj))
    (S : St CN CL w g L m st h) (hL : env.locals = L)
    (hit : wpAny (model prog w) A (eval iter env) (fun xv s₁ => wpAny (model prog w) A (pyIter xv) (SetsT prog w A target h kp n Pe s) E s₁) E (up s h tk))
    (h0 : P 0 st m) (hkp : ∀ i st' m', P i st' m' → ∀ q ∈ kp, q ∈ st'.ex)
    (turn : ∀ i v m₁ st₁ own h₁ tk₁, i < n → Pe i v h₁ → P i st₁ m₁ → St CN CL w g L m₁ (st₁.withEx (own ++ st₁.ex)) h₁ →
      wpAny (model prog w) A (assign target env v) (fun _ s₃ => wpAny (model prog w) A (execs body env) (TurnEnd CN CL w g L own (P (i + 1)) s Q) E s₃) E (up s h₁ tk₁))
    (done : ∀ m' st' h' tk', P n st' m' → St CN CL w g L m' st' h' → Q .next (up s h' tk'))
    (hs : ∀ x, foldedSetIterable iter env x = pure x) (hE : PassesOwn (model prog w) A env E) :
    wpAny (model prog w) A (exec (.For target iter body [] pos) env) Q E (up s h tk) := by
  subst hL
  refine For_turns (env := env) (h₀ := g) (m := m) S.F (wpAny_mono hit (fun xv s₁ h₁ => wpAny_mono h₁ (fun it s₂ h₂ => ?_) fun _ _ e => e) fun _ _ e => e) hs hE
  obtain ⟨I, fp, wr, fr, Md, Sw, h2, tk2, rfl, rfl, G, W, hst, hwf, hfr, hnd, hfp, hlv⟩ := h₂.go
  have Lv : ∃ o, h.get? env.locals = some o := let ⟨o, _, _, ho, _⟩ := S.F.ns; ⟨o, ho⟩
  have gfr : ∀ b ∈ fr, g.get? b = none := fun b hb => by
    cases e : g.get? b with
    | none => rfl
    | some o => have := hfr b hb; rw [S.F.keep b o e] at this; cases this
  have kpo : ∀ q ∈ kp, q.1 ≠ env.locals ∧ g.get? q.1 = none := fun q hq => by
    have := S.exGet (a := q.1) (o := q.2) (hkp 0 st m h0 q hq)
    exact ⟨this.2.1, this.2.2⟩
  have gfp : ∀ b ∈ fp, g.get? b = none := fun b hb => (hfp b hb).elim (gfr b) fun ⟨q, hq, e⟩ => e ▸ (kpo q hq).2
  have Lfp : env.locals ∉ fp := fun q => (hfp _ q).elim (fun q => by obtain ⟨o, ho⟩ := Lv; rw [hfr _ q] at ho; cases ho) fun ⟨q, hq, e⟩ => (kpo q hq).1 e
  have frA : ∀ b ∈ fr, b ∉ addrs st := fun b hb hm => by
    rw [← ledger_addrs CN CL w.params] at hm
    obtain ⟨q, hq, rfl⟩ := List.mem_map.mp hm
    have := (S.N q hq).1
    rw [hfr _ hb] at this; cases this
  have S2 := S.grow G
  have offW : ∀ st' : LS, (∀ b ∈ fr, b ∉ addrs st') → ∀ q ∈ ledger CN CL w.params st', q.1 ∉ wr := fun st' hf q hq hm =>
    hf _ (hwf _ hm) (by rw [← ledger_addrs CN CL w.params]; exact List.mem_map_of_mem hq)
  refine ⟨I, fp, wr, n, Pe, Md, Sw, m, ledger CN CL w.params st, fun i m' news' => ∃ st', news' = ledger CN CL w.params st' ∧ (addrs st').Nodup ∧ LSok st' ∧ (∀ b ∈ fr, b ∉ addrs st') ∧ P i st' m',
    rfl, W, Lfp, fun b hb => gfp b (W.sub b hb), offW st frA, hst, S2.F, S2.N, ⟨st, rfl, S.wf, S.ok, frA, h0⟩, ?_, ?_⟩
  · rintro i v m₁ news₁ h₁ tk₁ own hin hPe ⟨st₁, rfl, wf₁, ok₁, off₁, hP₁⟩ _ hsub hget hall hst₁ F₁ N₁
    have fro : ∀ q ∈ ownF fr h₁, q ∈ own := fun q hq => by
      obtain ⟨e1, e2⟩ := mem_ownF.mp hq
      exact hall q.1 (hlv _ _ hst₁ _ e1).1 (gfr _ e1) q.2 e2
    have own_or : ∀ q ∈ own, q ∈ ownF fr h₁ ∨ q ∈ kp := fun q hq => (hfp _ (hsub q hq)).elim (fun e => .inl (mem_ownF.mpr ⟨e, hget q hq⟩)) fun ⟨q', hq', e⟩ => by
      have e1 := (N₁ q' (List.mem_append_right _ (by unfold ledger; exact .tail _ (.tail _ (.tail _ (List.mem_append_right _ (hkp _ _ _ hP₁ q' hq'))))))).1
      rw [e, hget q hq] at e1
      exact .inr (by rw [show q = q' from Prod.ext e.symm (Option.some.inj e1)]; exact hq')
    have S₁ : St CN CL w g env.locals m₁ (st₁.withEx (ownF fr h₁ ++ st₁.ex)) h₁ := by
      refine ⟨F₁, fun q hq => ?_, ?_, ⟨ok₁.F, ok₁.mru, ok₁.lru, ok₁.mx, ok₁.af⟩⟩
      · unfold ledger LS.withEx at hq
        simp only [List.mem_cons, List.mem_append] at hq
        refine N₁ q ?_
        rw [List.mem_append]
        unfold ledger
        simp only [List.mem_cons, List.mem_append]
        rcases hq with h | h | h | h | h | h
        · exact .inr (.inl h)
        · exact .inr (.inr (.inl h))
        · exact .inr (.inr (.inr (.inl h)))
        · exact .inr (.inr (.inr (.inr (.inl h))))
        · exact .inl (fro q h)
        · exact .inr (.inr (.inr (.inr (.inr h))))
      · have pm : (addrs (st₁.withEx (ownF fr h₁ ++ st₁.ex))).Perm ((ownF fr h₁).map (·.1) ++ addrs st₁) := by
          unfold addrs LS.withEx
          show ([st₁.c, st₁.dc, st₁.dd] ++ (regAddrs st₁.reg ++ (ownF fr h₁ ++ st₁.ex).map (·.1))).Perm ((ownF fr h₁).map (·.1) ++ ([st₁.c, st₁.dc, st₁.dd] ++ (regAddrs st₁.reg ++ st₁.ex.map (·.1))))
          rw [List.map_append]
          generalize (ownF fr h₁).map (·.1) = X
          generalize st₁.ex.map (·.1) = Y
          generalize [st₁.c, st₁.dc, st₁.dd] = Z
          generalize regAddrs st₁.reg = R
          rw [← List.append_assoc R X Y, ← List.append_assoc Z, ← List.append_assoc Z R Y, ← List.append_assoc X]
          refine List.Perm.append_right Y ?_
          rw [← List.append_assoc Z R X]
          exact List.perm_append_comm
        rw [pm.nodup_iff, List.nodup_append]
        refine ⟨List.Nodup.sublist (ownF_sub fr) hnd, wf₁, fun b hb c hc e => ?_⟩
        obtain ⟨q, hq, rfl⟩ := List.mem_map.mp hb
        exact off₁ q.1 (mem_ownF.mp hq).1 (e ▸ hc)
    refine wpAny_mono (turn i v m₁ st₁ (ownF fr h₁) h₁ tk₁ hin hPe hP₁ S₁) (fun _ s₃ z => wpAny_mono z (fun fl s' hf => ?_) fun _ _ e => e) fun _ _ e => e
    have fin : (∃ h' tk' m' st', s' = up s h' tk' ∧ St CN CL w g env.locals m' (st'.withEx (ownF fr h₁ ++ st'.ex)) h' ∧ P (i + 1) st' m') → LoopStepU g env.locals wr own (fun m' news' => ∃ st', news' = ledger CN CL w.params st' ∧ (addrs st').Nodup ∧ LSok st' ∧ (∀ b ∈ fr, b ∉ addrs st') ∧ P (i + 1) st' m') (up s h₁ tk₁) .next s' := by
      rintro ⟨h', tk', m', st', rfl, S', hP'⟩
      have Ssub : St CN CL w g env.locals m' st' h' := S'.subEx (ex := st'.ex) (List.sublist_append_right _ _)
      have offS : ∀ b ∈ fr, b ∉ addrs st' := fun b hb hm => by
        obtain ⟨-, o, ho⟩ := hlv _ _ hst₁ b hb
        obtain ⟨l1, l2, e1⟩ := List.append_of_mem (mem_ownF.mpr ⟨hb, ho⟩ : (b, o) ∈ ownF fr h₁)
        have off := addrs_off (a := b) (o := o) (pre := l1) (post := l2 ++ st'.ex) S'.wf (by show ownF fr h₁ ++ st'.ex = _; rw [e1, List.append_assoc]; rfl)
        unfold addrs at hm
        simp only [List.mem_cons, List.mem_append] at hm
        rcases hm with e | e | e | e | e
        · exact off.1 e
        · exact off.2.1 e
        · exact off.2.2.1 e
        · exact off.2.2.2.1 e
        · obtain ⟨q, hq, e⟩ := List.mem_map.mp e
          exact off.2.2.2.2.2 q (List.mem_append_right _ hq) e
      refine ⟨rfl, h', tk', m', ledger CN CL w.params st', rfl, Ssub.F, fun q hq => ?_, offW st' offS, st', rfl, Ssub.wf, Ssub.ok, offS, hP'⟩
      rcases List.mem_append.mp hq with hq | hq
      · rcases own_or q hq with hq | hq
        · refine S'.N q ?_
          unfold ledger LS.withEx
          exact .tail _ (.tail _ (.tail _ (List.mem_append_right _ (List.mem_append_left _ hq))))
        · refine Ssub.N q ?_
          unfold ledger
          exact .tail _ (.tail _ (.tail _ (List.mem_append_right _ (hkp _ _ _ hP' q hq))))
      · exact Ssub.N q hq
    cases fl with
    | ret v => exact .ret hf
    | brk => exact .brk hf
    | next => exact .next (fin hf)
    | cont => exact .cont (fin hf)
  · rintro h' tk' m' news' F' N' _ ⟨st', rfl, wf', ok', off', hP'⟩
    exact done m' st' h' tk' hP' ⟨F', N', wf', ok'⟩

/-- over enumerate(l), the list being new -/
theorem setsT_enum {elts : List Expr} {k : Nat} {pos : Pos} {l : Addr} {items : Array Value} (hh : A.handled = none) (G0 : Grow h' h) (hl0 : h'.get? l = none) (hl : h.IsList l items) :
    wpAny (model prog w) A (call (.type "enumerate") [.ref l]) (fun xv s₁ => wpAny (model prog w) A (pyIter xv) (SetsT prog w A (.Tuple elts k pos) h' [] items.size (fun i v h => ∃ T vals, v = .ref T ∧ (∃ t x, items[i]? = some x ∧ vals = #[.int i t, x]) ∧ h.IsTuple T vals) s) E s₁) E (up s h tk) := by
  have hlt : l < h.objs.size := by obtain ⟨o, ho, _⟩ := hl; exact Heap.lt_size ho
  have gn : ∀ b, h.get? b = none → h'.get? b = none := fun b e => by
    cases e2 : h'.get? b with
    | none => rfl
    | some o => rw [G0 b o e2] at e; cases e
  refine call_enumerate_list (s := up s h tk) hl fun h1 hE hI hsz hk => ?_
  refine wpAny_pyIter_enum hE ?_
  refine ⟨h.objs.size + 1, [h.objs.size + 1, h.objs.size, l], [h.objs.size + 1, h.objs.size], [h.objs.size + 1, h.objs.size, l], _, _, h1, tk, rfl, rfl, fun b o e => hk b o (G0 b o e), KTurns.ofWalksU (WalksT.enumerate hh (h.objs.size + 1) h.objs.size l (Nat.succ_ne_self _) (Nat.ne_of_lt (Nat.lt_succ_of_lt hlt)) (Nat.ne_of_lt hlt) items).toU, ⟨⟨.none, hE⟩, hI, hl.at fun o e => hk l o e⟩, fun b hb => ?_, ?_, ?_, fun b hb => .inl hb, ?_⟩
  · simp only [List.mem_cons, List.not_mem_nil, or_false] at hb ⊢
    rcases hb with rfl | rfl
    · exact .inl rfl
    · exact .inr (.inl rfl)
  · intro b hb
    simp only [List.mem_cons, List.not_mem_nil, or_false] at hb
    rcases hb with rfl | rfl | rfl
    · exact gn _ (Heap.get?_none_of_le (Nat.le_succ _))
    · exact gn _ size_none
    · exact hl0
  · have n1 : h.objs.size ≠ l := (Nat.ne_of_lt hlt).symm
    have n2 : h.objs.size + 1 ≠ l := (Nat.ne_of_lt (Nat.lt_succ_of_lt hlt)).symm
    simp [n1, n2]
  · rintro i h2 ⟨⟨old, he⟩, ⟨oi, hoi, hic, _⟩, ⟨ol, hol, _⟩⟩ b hb
    refine ⟨hb, ?_⟩
    simp only [List.mem_cons, List.not_mem_nil, or_false] at hb
    rcases hb with rfl | rfl | rfl
    · exact ⟨_, he⟩
    · exact ⟨_, hoi⟩
    · exact ⟨_, hol⟩
theorem SetsT.mono {target : Expr} {kp : List (Addr × Obj)} {Pe Pe' : Nat → Value → Heap → Prop} {it : Value} {s₂ : Shared} (x : SetsT prog w A target h kp n Pe s it s₂) (k : ∀ i v h, Pe i v h → Pe' i v h) : SetsT prog w A target h kp n Pe' s it s₂ := by
  obtain ⟨I, fp, wr, fr, Md, Sw, h2, tk2, e1, e2, G, W, r⟩ := x.go
  exact ⟨I, fp, wr, fr, Md, Sw, h2, tk2, e1, e2, G, ⟨W.sub, W.frame, W.item, fun i v s Q E hm hQ => W.go i v s Q E hm fun h' hp => hQ h' (k _ _ _ hp), W.done⟩, r⟩
end
theorem fill : PySem.Challenge.rw_ji0029_01 = PySem.Challenge.rw_ji0029_01 ∧ K1 = K1 := by k_fill; exact ⟨rfl, rfl⟩
noncomputable abbrev CN : Addr := 39
noncomputable abbrev CL : Addr := 175

theorem pcN (P : Params) : PlainCls (K1 P) 39 := ⟨by k_is, by k_is, by k_is, by k_is, by k_is⟩
theorem pcL (P : Params) : PlainCls (K1 P) 175 := ⟨by k_is, by k_is, by k_is, by k_is, by k_is⟩
theorem aN_prev (P : Params) : Attr (K1 P) 39 "prev" := ⟨by k_is⟩
theorem aN_next (P : Params) : Attr (K1 P) 39 "next_key" := ⟨by k_is⟩
theorem aN_key (P : Params) : Attr (K1 P) 39 "key" := ⟨by k_is⟩
theorem aN_value (P : Params) : Attr (K1 P) 39 "value" := ⟨by k_is⟩
theorem aN_cln (P : Params) : Attr (K1 P) 39 "cleanup" := ⟨by k_is⟩
theorem aN_size (P : Params) : Attr (K1 P) 39 "size" := ⟨by k_is⟩
theorem aL_cache (P : Params) : Attr (K1 P) 175 "_cache" := ⟨by k_is⟩
theorem aL_mru (P : Params) : Attr (K1 P) 175 "_most_recently_used" := ⟨by k_is⟩
theorem aL_lru (P : Params) : Attr (K1 P) 175 "_least_recently_used" := ⟨by k_is⟩
theorem aL_max (P : Params) : Attr (K1 P) 175 "_max_cache" := ⟨by k_is⟩
theorem aL_after (P : Params) : Attr (K1 P) 175 "_after_cleanup_count" := ⟨by k_is⟩


local macro_rules | `(tactic| walk_at "NF") => `(tactic| first | exact nPrev (aN_prev _) | exact nNext (aN_next _) | exact nKey (aN_key _) | exact nVal (aN_value _) | exact nCln (aN_cln _))
local macro_rules | `(tactic| walk_at "CF") => `(tactic| first | exact cMru (aL_mru _) | exact cLru (aL_lru _) | exact cMx (aL_max _) | exact cAf (aL_after _))
local macro_rules | `(tactic| walk_at "pv") => `(tactic| first
  | exact Pv.nn
  | (refine' Pv.name (by assumption) ?hv ?hk ?hl ?hd; (case hv => first | exact rfl | assumption); (case hk => exact rfl); (case hl => exact rfl); (case hd => decide))
  | (refine' Pv.glob (by assumption) (by assumption) (by assumption) ?he ?hk ?hx ?hd; (case he => k_is); (case hk => exact rfl); (case hx => exact rfl); (case hd => decide))
  | (refine' Pv.dd (by assumption) (by assumption) (pcL _) ?hp (aL_cache _) ?hsh; (case hsh => exact rfl); (case hp => walk_at "pv"))
  | (refine' Pv.cache (by assumption) (by assumption) (pcL _) ?hp ?hn ?hsh; (case hn => walk_at "CF"); (case hsh => exact rfl); (case hp => walk_at "pv"))
  | (refine' Pv.node (by assumption) (by assumption) (pcN _) ?hp ?hr ?hn ?hsh; (case hn => walk_at "NF"); (case hsh => exact rfl); (case hp => walk_at "pv"); (case hr => assumption)))



section
variable {prog : Program} {w : World} {A : Around} {E : Value → Shared → Prop} {s : Shared} {h : Heap} {tk₀ : Nat} {p : Program} {loose : List Str} {mg mb : Str → Option Value} {h₀ : Heap} {st : LS} {r : Rg}
  {Ky : Type} [DecidableEq Ky] {T' : DT prog w (K1 w.params) Ky} {kvs : List (Ky × Value)}

/-- the cache had none -/
theorem c_rec0 {Q : Value → Shared → Prop} (B : Base (K1 w.params) p loose mg mb h₀ st h) (R : Rep 39 175 w st h) (hroom : A.depth < recursionLimit) (hr : r ∈ st.reg)
   (hm : st.mru = .none)
   (hQ : ∀ h' tk, Ctr 39 175 w st { st with mru := .ref r.x, lru := .ref r.x } h h' → Q .none (up s h' tk)) :
   wpAny (model prog w) A (call (.ref 135) [.ref st.c, .ref r.x]) Q E (up s h tk₀) := by
  refine' enter (binds := [("self", Value.ref st.c), ("node", Value.ref r.x)]) B R ?ho ?hcd hroom ?hb ?hl ?hco ?hgen ?hk ?hcell ?_
  ((case ho => k_dflt k_is); (case hcd => k_dflt k_is); (case hb => exact BindsTo.of_eq rfl); (case hl => exact locs rfl); (case hco => exact rfl); (case hgen => exact rfl); (case hk => exact rfl); (case hcell => decide))
  intro g L h1 tk k k' X T S
  (refine wpAny_execs_cons ?_; refine' if_is ?hpl ?hpr ?hc ?_ ?_ rfl; (case hpl => walk_at "pv"); (case hpr => walk_at "pv"))
  case hc => exact isB_plain S.ok.mru
  rotate_left
  · intro q; rw [hm] at q; cases q
  intro _ tk1
  (refine wpAny_execs_cons ?_; refine' as_cache (by assumption) (by assumption) (pcL _) ?he ?hp ?hn ?hv ?_ rfl; (case he => walk_at "pv"); (case hp => walk_at "pv"); (case hn => walk_at "CF"))
  case hv => exact Nb.ref
  intro h2 tk2 S2
  (refine wpAny_execs_cons ?_; refine' as_cache (by assumption) (by assumption) (pcL _) ?he ?hp ?hn ?hv ?_ rfl; (case he => walk_at "pv"); (case hp => walk_at "pv"); (case hn => walk_at "CF"))
  case hv => exact Nb.ref
  intro h3 tk3 S3
  refine wpAny_execs_cons (wpAny_Return_none ?_)
  exact hQ _ _ (S3.back k fun a ha => .inl ha)
/-- it is the latest -/
theorem c_rec1 {Q : Value → Shared → Prop} (B : Base (K1 w.params) p loose mg mb h₀ st h) (R : Rep 39 175 w st h) (hroom : A.depth < recursionLimit) (hr : r ∈ st.reg)
   (hm : st.mru = .ref r.x)
   (hQ : ∀ h' tk, Ctr 39 175 w st st h h' → Q .none (up s h' tk)) :
   wpAny (model prog w) A (call (.ref 135) [.ref st.c, .ref r.x]) Q E (up s h tk₀) := by
  refine' enter (binds := [("self", Value.ref st.c), ("node", Value.ref r.x)]) B R ?ho ?hcd hroom ?hb ?hl ?hco ?hgen ?hk ?hcell ?_
  ((case ho => k_dflt k_is); (case hcd => k_dflt k_is); (case hb => exact BindsTo.of_eq rfl); (case hl => exact locs rfl); (case hco => exact rfl); (case hgen => exact rfl); (case hk => exact rfl); (case hcell => decide))
  intro g L h1 tk k k' X T S
  (refine wpAny_execs_cons ?_; refine' if_is ?hpl ?hpr ?hc ?_ ?_ rfl; (case hpl => walk_at "pv"); (case hpr => walk_at "pv"))
  case hc => exact isB_plain S.ok.mru
  · intro q; rw [hm] at q; cases q
  intro _ tk1
  (refine wpAny_execs_cons ?_; refine' if_is ?hpl ?hpr ?hc ?_ ?_ rfl; (case hpl => walk_at "pv"); (case hpr => walk_at "pv"))
  case hc => rw [hm]; exact isB_self
  rotate_left
  · intro q; cases q
  intro _ tk2
  refine wpAny_execs_cons (wpAny_Return_none ?_)
  exact hQ _ _ (S.back k fun a ha => .inl ha)

theorem c_rec2 {Q : Value → Shared → Prop} (B : Base (K1 w.params) p loose mg mb h₀ st h) (R : Rep 39 175 w st h) (hroom : A.depth < recursionLimit) (hu : A.units + 16 < cLine) (hr : r ∈ st.reg)
   {mr lr : Rg} {po qo : Option Rg} (hm : st.mru = .ref mr.x) (hmr : mr ∈ st.reg) (hne : r.x ≠ mr.x) (hl : st.lru = .ref lr.x) (hlr : lr ∈ st.reg)
   (hp : (st.F r.x).prev = optV po) (hpr : ∀ p, po = some p → p ∈ st.reg ∧ r.x ≠ p.x) (hd : OD T' st.od kvs)
   (hq0 : qo = none → (st.F r.x).next = .none) (hq : ∀ q, qo = some q → q ∈ st.reg ∧ r.x ≠ q.x ∧ ∃ k, T'.isK k (st.F r.x).next ∧ valueAt kvs k = some (.ref q.x))
   (hQ : ∀ h' tk, Ctr 39 175 w st (recAcc st r mr po qo) h h' → Q .none (up s h' tk)) :
   wpAny (model prog w) A (call (.ref 135) [.ref st.c, .ref r.x]) Q E (up s h tk₀) := by
  refine' enter (binds := [("self", Value.ref st.c), ("node", Value.ref r.x)]) B R ?ho ?hcd hroom ?hb ?hl ?hco ?hgen ?hk ?hcell ?_
  ((case ho => k_dflt k_is); (case hcd => k_dflt k_is); (case hb => exact BindsTo.of_eq rfl); (case hl => exact locs rfl); (case hco => exact rfl); (case hgen => exact rfl); (case hk => exact rfl); (case hcell => decide))
  intro g L h1 tk k k' X T S
  have hu' : ∀ env, (A.deeper env).units + 8 < cLine := fun env => by simp only [Around.deeper_units]; omega
  (refine wpAny_execs_cons ?_; refine' if_is ?hpl ?hpr ?hc ?_ ?_ rfl; (case hpl => walk_at "pv"); (case hpr => walk_at "pv"))
  case hc => exact isB_plain S.ok.mru
  · intro q; rw [hm] at q; cases q
  intro _ tk1
  (refine wpAny_execs_cons ?_; refine' if_is ?hpl ?hpr ?hc ?_ ?_ rfl; (case hpl => walk_at "pv"); (case hpr => walk_at "pv"))
  case hc => rw [hm]; exact isB_refs (S.ninst hr).at_ (S.ninst hmr).at_ (fun e => nomatch e)
  · intro q; exact absurd (of_decide_eq_true q) hne
  intro _ tk2
  refine wpAny_execs_nil ?_
  refine wpAny_execs_nil ?_
  -- the least recent
  refine seqP (P := fun h => St 39 175 w g L (fun y => List.lookup y ([("self", Value.ref st.c), ("node", Value.ref r.x)] : List (Str × Value)).reverse) { st with lru := if st.lru = .ref r.x then (st.F r.x).prev else st.lru } h) ?_ ?_
  · refine' if_is ?hpl ?hpr ?hc ?_ ?_ rfl
    case hpl => walk_at "pv"
    case hpr => walk_at "pv"
    case hc => rw [hl]; exact isB_refs (S.ninst hr).at_ (S.ninst hlr).at_ (fun e => nomatch e)
    · intro q tk
      (refine wpAny_execs_cons ?_; refine' as_cache (by assumption) (by assumption) (pcL _) ?he ?hp ?hn ?hv ?_ rfl; (case he => walk_at "pv"); (case hp => walk_at "pv"); (case hn => walk_at "CF"))
      case hv => exact (S.ok.F _).prev
      intro h2 tk2 S2
      refine wpAny_execs_nil ⟨rfl, h2, tk2, rfl, ?_⟩
      rw [if_pos (by rw [hl, of_decide_eq_true q])]; exact S2
    · intro q tk
      refine wpAny_execs_nil ⟨rfl, h1, tk, rfl, ?_⟩
      rw [if_neg (by rw [hl]; intro e; exact of_decide_eq_false q (Value.ref.inj e).symm)]; exact S
  intro h2 tk2 S2
  -- the one before
  refine seqP (P := fun h => St 39 175 w g L (fun y => List.lookup y ([("self", Value.ref st.c), ("node", Value.ref r.x)] : List (Str × Value)).reverse) { st with lru := if st.lru = .ref r.x then (st.F r.x).prev else st.lru, F := fP st.F r.x po } h) ?_ ?_
  · refine' if_isNot ?hpl ?hpr ?hc ?_ ?_ rfl
    case hpl => walk_at "pv"
    case hpr => walk_at "pv"
    case hc => exact isB_plain (S.ok.F _).prev
    · intro q tk
      cases po with
      | none => rw [show (st.F r.x).prev = _ from hp] at q; cases q
      | some p =>
        refine wpAny_execs_cons ?_
        refine' as_node (r := p) S2 (by assumption) (pcN _) ?he ?hp (hpr p rfl).1 ?hn ?hv ?_ rfl
        case he => walk_at "pv"
        case hp => (refine' Pv.eq ?x ?y; (case x => walk_at "pv"); (case y => exact hp))
        case hn => walk_at "NF"
        case hv => exact (S.ok.F _).next
        intro h3 tk3 S3
        exact wpAny_execs_nil ⟨rfl, h3, tk3, rfl, S3⟩
    · intro q tk
      cases po with
      | none => exact wpAny_execs_nil ⟨rfl, h2, tk, rfl, S2⟩
      | some p => rw [show (st.F r.x).prev = _ from hp] at q; cases q
  intro h3 tk3 S3
  generalize hF2 : fP st.F r.x po = F2 at S3 ⊢
  have e2 : F2 r.x = st.F r.x := by
    subst hF2
    cases po with
    | none => rfl
    | some p => exact setF_ne (hpr p rfl).2
  -- the one behind
  refine seqP (P := fun h => ∃ m', m' "self" = some (.ref st.c) ∧ m' "node" = some (.ref r.x) ∧ St 39 175 w g L m' { st with lru := if st.lru = .ref r.x then (st.F r.x).prev else st.lru, F := fQ F2 r.x qo } h) ?_ ?_
  · refine' if_isNot ?hpl ?hpr ?hc ?_ ?_ rfl
    case hpl => walk_at "pv"
    case hpr => walk_at "pv"
    case hc => exact isB_plain (S3.ok.F _).next
    · intro q tk
      have q' : ((F2 r.x).next == Value.none) = false := q
      rw [e2] at q'
      cases qo with
      | none => rw [hq0 rfl] at q'; cases q'
      | some qr =>
        obtain ⟨hq1, hq2, ky, hq3, hq4⟩ := hq qr rfl
        refine wpAny_execs_cons ?_
        refine' as_name S3 ?he ?_ rfl rfl rfl
        case he =>
          refine' Pv.item (key := (st.F r.x).next) S3 X (hu' _) ?ho ?hi hq3 hd hq4 ?hs
          case ho => walk_at "pv"
          case hi => (refine' Pv.eq ?x ?y; (case x => walk_at "pv"); (case y => exact congrArg NF.next e2))
          case hs => with_unfolding_all rfl
        intro h4 tk4 S4
        refine wpAny_execs_cons ?_
        refine' as_node (r := qr) S4 (by assumption) (pcN _) ?he ?hp hq1 ?hn ?hv ?_ rfl
        case he => walk_at "pv"
        case hp => walk_at "pv"
        case hn => walk_at "NF"
        case hv => exact (S3.ok.F _).prev
        intro h5 tk5 S5
        exact wpAny_execs_nil ⟨rfl, h5, tk5, rfl, _, rfl, rfl, S5⟩
    · intro q tk
      have q' : ((F2 r.x).next == Value.none) = true := q
      rw [e2] at q'
      cases qo with
      | none => exact wpAny_execs_nil ⟨rfl, h3, tk, rfl, _, rfl, rfl, S3⟩
      | some qr =>
        obtain ⟨hq1, hq2, ky, hq3, hq4⟩ := hq qr rfl
        exact absurd (eq_of_beq q') (T'.notNone hq3)
  intro h4 tk4 ⟨m', hself, hnode, S4⟩
  generalize hF3 : fQ F2 r.x qo = F3 at S4
  refine wpAny_execs_cons ?_
  refine' as_node (r := r) S4 X (pcN _) ?he ?hp hr ?hn ?hv ?_ rfl
  case he =>
    refine' Pv.node (r := mr) S4 X (pcN _) ?hpx hmr ?hnx rfl
    case hpx => (refine' Pv.eq ?x ?y; (case x => walk_at "pv"); (case y => exact hm))
    case hnx => walk_at "NF"
  case hp => walk_at "pv"
  case hn => walk_at "NF"
  case hv => exact (S4.ok.F _).key
  intro h5 tk5 S5
  refine wpAny_execs_cons ?_
  refine' as_node (r := mr) S5 X (pcN _) ?he ?hp hmr ?hn ?hv ?_ rfl
  case he => walk_at "pv"
  case hp => (refine' Pv.eq ?x ?y; (case x => walk_at "pv"); (case y => exact hm))
  case hn => walk_at "NF"
  case hv => exact Nb.ref
  intro h6 tk6 S6
  (refine wpAny_execs_cons ?_; refine' as_cache (by assumption) (by assumption) (pcL _) ?he ?hp ?hn ?hv ?_ rfl; (case he => walk_at "pv"); (case hp => walk_at "pv"); (case hn => walk_at "CF"))
  case hv => exact Nb.ref
  intro h7 tk7 S7
  refine wpAny_execs_cons ?_
  refine' as_node (r := r) S7 X (pcN _) ?he ?hp hr ?hn ?hv ?_ rfl
  case he => walk_at "pv"
  case hp => walk_at "pv"
  case hn => walk_at "NF"
  case hv => exact Nb.none
  intro h8 tk8 S8
  subst hF3 hF2
  exact wpAny_execs_nil (hQ _ _ (S8.back k fun a ha => .inl ha))
end
example : PySem.Challenge.rw_ji0029_01 = PySem.Challenge.rw_ji0029_01 ∧ K1 = K1 := by k_fill; exact ⟨rfl, rfl⟩

section
variable {prog : Program} {w : World} {A : Around} {E : Value → Shared → Prop} {s : Shared} {h : Heap} {tk₀ : Nat} {p : Program} {loose : List Str} {mg mb : Str → Option Value} {h₀ : Heap} {st : LS} {r : Rg}
  {Ky : Type} [DecidableEq Ky] {T' : DT prog w (K1 w.params) Ky} {kvs : List (Ky × Value)}

/-- run_cleanup of a node -/
theorem c_runc {Q : Value → Shared → Prop} (H : Hook prog w (K1 w.params) 39 175) (B : Base (K1 w.params) p loose mg mb h₀ st h) (R : Rep 39 175 w st h) (hroom : A.depth + 1 < recursionLimit) (hu : A.units + 50 < cLine) (hr : r ∈ st.reg) (hc : Cb H (st.F r.x).cln) {b : Nat} (hok : H.ok (b + 1) st.ex)
   (hQ : ∀ h' tk ex', RunC H (st.F r.x).cln (st.F r.x).key (st.F r.x).val st.ex ex' → Ctr 39 175 w st { st with F := clnF st.F r.x, ex := ex' } h h' → Q .none (up s h' tk)) :
   wpAny (model prog w) A (call (.ref 36) [.ref r.x]) Q E (up s h tk₀) := by
  refine' enter (binds := [("self", Value.ref r.x)]) B R ?ho ?hcd (Nat.lt_of_succ_lt hroom) ?hb ?hl ?hco ?hgen ?hk ?hcell ?_
  ((case ho => k_dflt k_is); (case hcd => k_dflt k_is); (case hb => exact BindsTo.of_eq rfl); (case hl => exact locs rfl); (case hco => exact rfl); (case hgen => exact rfl); (case hk => exact rfl); (case hcell => decide))
  intro g L h1 tk k k' X T S
  have hok' := S.ok.F r.x
  refine seqP (P := fun h2 => ∃ ex', RunC H (st.F r.x).cln (st.F r.x).key (st.F r.x).val st.ex ex' ∧ Ctr 39 175 w st (st.ofEx ex') h1 h2) ?_ ?_
  · refine' if_isNot ?hpl ?hpr ?hc ?_ ?_ rfl
    case hpl => walk_at "pv"
    case hpr => walk_at "pv"
    case hc => exact isB_plain hok'.cln
    · intro q tk2
      have hcb : H.cb (st.F r.x).cln := hc.resolve_left fun e => by rw [e] at q; cases q
      obtain ⟨f, oc, od, fd, sl, ef, hm⟩ := H.fn hcb hok
      refine wpAny_execs_cons ?_
      refine' ex_ ?_ rfl rfl
      refine' ev_own2 (r := r) (q := f) (v := (st.F r.x).key) (v2 := (st.F r.x).val) S X (pcN _) (aN_cln _) hr ?hp ?he ?he2 ?hl2 ⟨oc, od, fd, sl, ?hfn⟩ ?_ rfl rfl rfl rfl
      case hp => walk_at "pv"
      case he => walk_at "pv"
      case he2 => walk_at "pv"
      case hl2 => rw [← ef]; rfl
      case hfn => exact S.rep.at_ _ (List.mem_cons_of_mem _ (List.mem_cons_of_mem _ (List.mem_cons_of_mem _ (List.mem_append_right _ hm))))
      intro tk3
      rw [← ef]
      refine H.call hcb hok (S.base X T) S.rep hroom (by simp only [Around.deeper_units]; omega) hok'.key hok'.val fun h2 tk4 ex' hr' C => ?_
      exact wpAny_execs_nil ⟨rfl, h2, tk4, rfl, ex', .yes hcb hr', C⟩
    · intro q tk2
      have hn : (st.F r.x).cln = .none := eq_of_beq q
      exact wpAny_execs_nil ⟨rfl, h1, tk2, rfl, st.ex, .no hn, Ctr.refl S.rep⟩
  rintro h2 tk2 ⟨ex', hr', C⟩
  have S1 := S.after C
  (refine wpAny_execs_cons ?_; refine' as_node (by assumption) (by assumption) (pcN _) ?he ?hp ?hr ?hn ?hv ?_ rfl; (case he => walk_at "pv"); (case hp => walk_at "pv"); (case hr => assumption); (case hn => walk_at "NF"))
  case hv => exact Nb.none
  intro h3 tk3 S2
  (refine wpAny_execs_cons ?_; refine' as_node (by assumption) (by assumption) (pcN _) ?he ?hp ?hr ?hn ?hv ?_ rfl; (case he => walk_at "pv"); (case hp => walk_at "pv"); (case hr => assumption); (case hn => walk_at "NF"))
  case hv => exact Nb.none
  intro h4 tk4 S3
  refine wpAny_execs_nil (hQ _ _ ex' hr' ?_)
  rw [← clnF_eq]
  exact S3.back k fun a ha => (C.fresh a ha).elim .inl (fresh_back k S.F)

/-- _remove_node of the least recent one -/
theorem c_rmnode {Q : Value → Shared → Prop} (H : Hook prog w (K1 w.params) 39 175) (B : Base (K1 w.params) p loose mg mb h₀ st h) (R : Rep 39 175 w st h) (hroom : A.depth + 2 < recursionLimit) (hu : A.units + 60 < cLine) (hr : r ∈ st.reg) {po : Option Rg} {k : Ky}
   (hl : st.lru = .ref r.x) (hp : (st.F r.x).prev = optV po) (hpr : ∀ p, po = some p → p ∈ st.reg ∧ r.x ≠ p.x) (hn : (st.F r.x).next = .none) (hc : Cb H (st.F r.x).cln) {b : Nat} (hok : H.ok (b + 1) st.ex)
   (hd : OD T' st.od kvs) (hz : kvs.length ≤ 100000) (hk : T'.isK k (st.F r.x).key) (hv : valueAt kvs k = some (.ref r.x))
   (hQ : ∀ h' tk o' ex', OD T' o' (without kvs k) → RunC H (st.F r.x).cln (st.F r.x).key (st.F r.x).val st.ex ex' → Ctr 39 175 w st { st with lru := optV po, mru := (if po.isNone then .none else st.mru), od := o', F := rmF st.F r.x po, ex := ex' } h h' → Q .none (up s h' tk)) :
   wpAny (model prog w) A (call (.ref 142) [.ref st.c, .ref r.x]) Q E (up s h tk₀) := by
  refine' enter (binds := [("self", Value.ref st.c), ("node", Value.ref r.x)]) B R ?ho ?hcd (by omega) ?hb ?hl ?hco ?hgen ?hk ?hcell ?_
  ((case ho => k_dflt k_is); (case hcd => k_dflt k_is); (case hb => exact BindsTo.of_eq rfl); (case hl => exact locs rfl); (case hco => exact rfl); (case hgen => exact rfl); (case hk => exact rfl); (case hcell => decide))
  intro g L h1 tk kk k' X T S
  have hu' : ∀ env, (A.deeper env).units + 8 < cLine := fun env => by simp only [Around.deeper_units]; omega
  (refine wpAny_execs_cons ?_; refine' if_is ?hpl ?hpr ?hc ?_ ?_ rfl; (case hpl => walk_at "pv"); (case hpr => walk_at "pv"))
  case hc => rw [hl]; exact isB_self
  rotate_left
  · intro q; cases q
  intro _ tk1
  (refine wpAny_execs_cons ?_; refine' as_cache (by assumption) (by assumption) (pcL _) ?he ?hp ?hn ?hv ?_ rfl; (case he => walk_at "pv"); (case hp => walk_at "pv"); (case hn => walk_at "CF"))
  case hv => exact (S.ok.F _).prev
  intro h2 tk2 S2
  refine wpAny_execs_nil ?_
  refine wpAny_execs_cons ?_
  refine' ex_ ?_ rfl rfl
  refine' ev_pop S2 X (hu' _) ?ho ?he ?hk hd hz hv ?_ rfl rfl rfl
  case ho => walk_at "pv"
  case he => walk_at "pv"
  case hk => exact hk
  intro h3 o' tk3 hd3 S3
  -- the latest
  refine seqP (P := fun h => St 39 175 w g L (fun y => List.lookup y ([("self", Value.ref st.c), ("node", Value.ref r.x)] : List (Str × Value)).reverse) { st with lru := optV po, mru := (if po.isNone then .none else st.mru), od := o' } h) ?_ ?_
  · refine' if_is ?hpl ?hpr ?hc ?_ ?_ rfl
    case hpl => walk_at "pv"
    case hpr => walk_at "pv"
    case hc => exact isB_plain (S.ok.F _).prev
    · intro q tk
      cases po with
      | some p => rw [show (st.F r.x).prev = _ from hp] at q; cases q
      | none =>
        (refine wpAny_execs_cons ?_; refine' as_cache (by assumption) (by assumption) (pcL _) ?he ?hp ?hn ?hv ?_ rfl; (case he => walk_at "pv"); (case hp => walk_at "pv"); (case hn => walk_at "CF"))
        case hv => exact Nb.none
        intro h4 tk4 S4
        refine wpAny_execs_nil ⟨rfl, h4, tk4, rfl, ?_⟩
        rw [← hp]; exact S4
    · intro q tk
      cases po with
      | none => rw [show (st.F r.x).prev = _ from hp] at q; cases q
      | some p =>
        refine wpAny_execs_nil ⟨rfl, h3, tk, rfl, ?_⟩
        rw [← hp]; exact S3
  intro h4 tk4 S4
  refine wpAny_execs_cons ?_
  refine' ex_ ?_ rfl rfl
  refine' ev_m0 (f := 36) (x := r.x) ?hpo (S4.ninst hr) (X.keeps S4.F.keep) (pcN _) ?hf ?ht ?hkp rfl ?_ rfl
  case hpo => walk_at "pv"
  case hf => k_dflt k_is
  case ht => k_dflt k_is
  case hkp => k_dflt k_is
  intro tk5
  refine c_runc H (S4.base X T) S4.rep hroom (by simp only [Around.deeper_units]; omega) hr hc hok fun h5 tk5 ex' hr5 C5 => ?_
  have S5 := S4.after C5
  have e5 : (clnF st.F r.x r.x).prev = optV po := by unfold clnF; rw [setF_self]; exact hp
  have n5 : (clnF st.F r.x r.x).next = .none := by unfold clnF; rw [setF_self]; exact hn
  -- the one before
  refine seqP (P := fun h => St 39 175 w g L (fun y => List.lookup y ([("self", Value.ref st.c), ("node", Value.ref r.x)] : List (Str × Value)).reverse) { st with lru := optV po, mru := (if po.isNone then .none else st.mru), od := o', F := fP (clnF st.F r.x) r.x po, ex := ex' } h) ?_ ?_
  · refine' if_isNot ?hpl ?hpr ?hc ?_ ?_ rfl
    case hpl => walk_at "pv"
    case hpr => walk_at "pv"
    case hc => exact isB_plain (S5.ok.F _).prev
    · intro q tk
      cases po with
      | none => have q' := q; rw [show _ = _ from e5] at q'; cases q'
      | some p =>
        refine wpAny_execs_cons ?_
        refine' as_node (r := p) S5 (by assumption) (pcN _) ?he ?hp (hpr p rfl).1 ?hn ?hv ?_ rfl
        case he => walk_at "pv"
        case hp => (refine' Pv.eq ?x ?y; (case x => walk_at "pv"); (case y => exact e5))
        case hn => walk_at "NF"
        case hv => exact (S5.ok.F _).next
        intro h6 tk6 S6
        exact wpAny_execs_nil ⟨rfl, h6, tk6, rfl, S6⟩
    · intro q tk
      cases po with
      | none => exact wpAny_execs_nil ⟨rfl, h5, tk, rfl, S5⟩
      | some p => have q' := q; rw [show _ = _ from e5] at q'; cases q'
  intro h6 tk6 S6
  have e6 : (fP (clnF st.F r.x) r.x po r.x).next = .none := by
    cases po with
    | none => exact n5
    | some p => show (setF _ _ _ _).next = _; rw [setF_ne (hpr p rfl).2]; exact n5
  -- none behind
  refine seqP (P := fun h => h = h6) ?_ ?_
  · refine' if_isNot ?hpl ?hpr ?hc ?_ ?_ rfl
    case hpl => walk_at "pv"
    case hpr => walk_at "pv"
    case hc => exact isB_plain (S6.ok.F _).next
    · intro q; have q' := q; rw [show _ = _ from e6] at q'; cases q'
    · intro _ tk; exact wpAny_execs_nil ⟨rfl, h6, tk, rfl, rfl⟩
  rintro _ tk7 rfl
  (refine wpAny_execs_cons ?_; refine' as_node (by assumption) (by assumption) (pcN _) ?he ?hp ?hr ?hn ?hv ?_ rfl; (case he => walk_at "pv"); (case hp => walk_at "pv"); (case hr => assumption); (case hn => walk_at "NF"))
  case hv => exact Nb.none
  intro h8 tk8 S8
  (refine wpAny_execs_cons ?_; refine' as_node (by assumption) (by assumption) (pcN _) ?he ?hp ?hr ?hn ?hv ?_ rfl; (case he => walk_at "pv"); (case hp => walk_at "pv"); (case hr => assumption); (case hn => walk_at "NF"))
  case hv => exact Nb.none
  intro h9 tk9 S9
  refine wpAny_execs_nil (hQ _ _ o' ex' hd3 hr5 ?_)
  rw [rmF_eq]
  exact S9.back kk fun a ha => (C5.fresh a ha).elim .inl (fresh_back kk S4.F)
end
section
variable {prog : Program} {w : World} {A : Around} {E : Value → Shared → Prop} {s : Shared} {h : Heap} {tk₀ : Nat} {p : Program} {loose : List Str} {mg mb : Str → Option Value} {h₀ : Heap} {st : LS} {r : Rg}
  {Ky : Type} [DecidableEq Ky] {T' : DT prog w (K1 w.params) Ky} {kvs : List (Ky × Value)} {k : Ky} {D : List (Ky × Rg)}

/-- _remove_lru -/
theorem c_rmlru {Q : Value → Shared → Prop} (H : Hook prog w (K1 w.params) 39 175) (B : Base (K1 w.params) p loose mg mb h₀ st h) (R : Rep 39 175 w st h) (hroom : A.depth + 3 < recursionLimit) (hu : A.units + 70 < cLine)
   (C : Cst T' st (D ++ [(k, r)]) kvs) (hz : kvs.length ≤ 100000) (hc : Cb H (st.F r.x).cln) {b : Nat} (hok : H.ok (b + 1) st.ex)
   (hQ : ∀ h' tk st' key, Ctr 39 175 w st st' h h' → Fixr st st' → Cst T' st' D (without kvs k) → vw st' D = vw st D → T'.isK k key → RunC H (st.F r.x).cln key (st.F r.x).val st.ex st'.ex → Q .none (up s h' tk)) :
   wpAny (model prog w) A (call (.ref 149) [.ref st.c]) Q E (up s h tk₀) := by
  obtain ⟨hr, hl, ⟨po, hp, hp1, hp2, hp3⟩, hn, hk, hv⟩ := C.last
  refine' enter (binds := [("self", Value.ref st.c)]) B R ?ho ?hcd (by omega) ?hb ?hl ?hco ?hgen ?hk ?hcell ?_
  ((case ho => k_dflt k_is); (case hcd => k_dflt k_is); (case hb => exact BindsTo.of_eq rfl); (case hl => exact locs rfl); (case hco => exact rfl); (case hgen => exact rfl); (case hk => exact rfl); (case hcell => decide))
  intro g L h1 tk kk k' X T S
  refine wpAny_execs_cons ?_
  refine' assert_node S X ?he hr ?hb ?hl ?_ rfl
  case he => (refine' Pv.eq ?x ?y; (case x => walk_at "pv"); (case y => exact hl))
  case hb => k_dflt k_is
  case hl => k_dflt k_is
  intro tk1
  refine wpAny_execs_cons ?_
  refine' ex_ ?_ rfl rfl
  refine' ev_m1 (f := 142) (x := st.c) (v := .ref r.x) ?hpo ?hpe S.cinst (X.keeps S.F.keep) (pcL _) ?hf ?ht ?hkp rfl ?_ rfl rfl rfl
  case hpo => walk_at "pv"
  case hpe => (refine' Pv.eq ?x ?y; (case x => walk_at "pv"); (case y => exact hl))
  case hf => k_dflt k_is
  case ht => k_dflt k_is
  case hkp => k_dflt k_is
  intro tk2
  refine c_rmnode H (S.base X T) S.rep (by show A.depth + 1 + 2 < _; omega) (by simp only [Around.deeper_units]; omega) hr hl hp (fun p e => ⟨(hp3 p e).1, (hp3 p e).2.1⟩) hn hc hok C.od hz hk hv fun h2 tk3 o' ex' ho hr' C2 => ?_
  obtain ⟨C3, e3⟩ := C.remove hp1 hp2 (fun p e => (hp3 p e).2.2) ho
  exact wpAny_execs_nil (hQ _ _ _ _ ((S.after C2).back kk fun a ha => (C2.fresh a ha).elim .inl (fresh_back kk S.F)) ⟨rfl, rfl, rfl, rfl, rfl⟩ C3.ofEx e3 hk hr')

/-- the cleanup loop, n nodes left -/
inductive CleanP {prog : Program} {Ky : Type} [DecidableEq Ky] {w : World} {T' : DT prog w (K1 w.params) Ky} (H : Hook prog w (K1 w.params) 39 175) (g : Heap) (L : Addr) (m : Str → Option Value) (st : LS) (h1 : Heap) (b : Nat) (D : List (Ky × Rg)) (a n : Nat) (h' : Heap) : Prop
  | mk (st1 : LS) (kvs1 : List (Ky × Value)) (hn : n ≤ D.length) (hd : a ≤ n ∨ n = D.length) (S : St 39 175 w g L m st1 h') (C : Ctr 39 175 w st st1 h1 h') (K : Cut H T' b D st st1 n kvs1)
inductive CleanE {prog : Program} {Ky : Type} [DecidableEq Ky] {w : World} {T' : DT prog w (K1 w.params) Ky} (H : Hook prog w (K1 w.params) 39 175) (g : Heap) (L : Addr) (m : Str → Option Value) (st : LS) (h1 : Heap) (b : Nat) (D : List (Ky × Rg)) (n : Nat) (h' : Heap) : Prop
  | mk (st1 : LS) (kvs1 : List (Ky × Value)) (S : St 39 175 w g L m st1 h') (C : Ctr 39 175 w st st1 h1 h') (K : Cut H T' b D st st1 n kvs1)
theorem Cut.over {H : Hook prog w (K1 w.params) 39 175} {st1 : LS} {b n n' : Nat} {kvs1 : List (Ky × Value)} (K : Cut H T' b D st st1 n kvs1) (h1 : D.length ≤ n) (h2 : D.length ≤ n') : Cut H T' b D st st1 n' kvs1 := by
  obtain ⟨a, x, c, d, e⟩ := K
  have l : (vw st D).length = D.length := by unfold vw; rw [List.length_map]
  rw [List.take_of_length_le h1] at x c d
  rw [List.drop_eq_nil_of_le (l ▸ h1)] at e
  exact ⟨a, by rw [List.take_of_length_le h2]; exact x, by rw [List.take_of_length_le h2]; exact c, by rw [List.take_of_length_le h2]; exact d, by rw [List.drop_eq_nil_of_le (l ▸ h2)]; exact e⟩
theorem Cb.of_vw {H : Hook prog w (K1 w.params) 39 175} {st1 : LS} {n : Nat} (hc : ∀ q ∈ D, Cb H (st.F q.2.x).cln) (e : vw st1 (D.take n) = vw st (D.take n)) : ∀ q ∈ D.take n, Cb H (st1.F q.2.x).cln := fun q hq => by
  have h1 : (q.1, (st1.F q.2.x).val, (st1.F q.2.x).cln) ∈ vw st (D.take n) := e ▸ List.mem_map.mpr ⟨q, hq, rfl⟩
  obtain ⟨a, ha, ea⟩ := List.mem_map.mp h1
  have e5 : (st.F a.2.x).cln = (st1.F q.2.x).cln := congrArg (·.2.2) ea
  rw [← e5]
  exact hc a (List.mem_of_mem_take ha)
theorem Cut.okS {H : Hook prog w (K1 w.params) 39 175} {st1 : LS} {b n : Nat} {kvs1 : List (Ky × Value)} (K : Cut H T' b D st st1 (n + 1) kvs1) {q : Ky × Rg} (et : D.take (n + 1) = D.take n ++ [q]) : H.ok ((D.take n).length + b + 1) st1.ex := by
  have := K.ok
  rw [et, List.length_append, List.length_singleton, Nat.add_right_comm] at this
  exact this
/-- one more node goes -/
theorem Cut.step {H : Hook prog w (K1 w.params) 39 175} {st1 st3 : LS} {b n : Nat} {kvs1 : List (Ky × Value)} {key : Value} (K : Cut H T' b D st st1 (n + 1) kvs1) (hD : D[n]? = some (k, r)) (et : D.take (n + 1) = D.take n ++ [(k, r)]) (F : Fixr st1 st3) (C : Cst T' st3 (D.take n) (without kvs1 k)) (e : vw st3 (D.take n) = vw st1 (D.take n))
    (hk : T'.isK k key) (x : RunC H (st1.F r.x).cln key (st1.F r.x).val st1.ex st3.ex) : Cut H T' b D st st3 n (without kvs1 k) := by
  have e1 := K.ev
  rw [et] at e1
  have e2 := e1
  unfold vw at e1 e2
  rw [List.map_append, List.map_append] at e1 e2
  obtain ⟨q1, q2⟩ := List.append_inj e1 (by rw [List.length_map, List.length_map])
  have q3 : (k, (st1.F r.x).val, (st1.F r.x).cln) = (k, (st.F r.x).val, (st.F r.x).cln) := (List.cons.inj q2).1
  have hlt : n < (vw st D).length := by
    unfold vw; rw [List.length_map]; exact (List.getElem?_eq_some_iff.mp hD).1
  have ed : (vw st D).drop n = (k, (st1.F r.x).val, (st1.F r.x).cln) :: (vw st D).drop (n + 1) := by
    rw [List.drop_eq_getElem_cons hlt, q3]
    congr 1
    have : (vw st D)[n]? = some (k, (st.F r.x).val, (st.F r.x).cln) := by unfold vw; rw [List.getElem?_map, hD]; rfl
    exact (List.getElem?_eq_some_iff.mp this).2
  refine ⟨K.fx.trans F, C, e.trans q1, x.keep (K.okS et), ?_⟩
  rw [ed]
  exact .cons K.runs hk x

/-- cleanup: the least recent ones go one by one -/
theorem c_cleanup {Q : Value → Shared → Prop} (H : Hook prog w (K1 w.params) 39 175) (B : Base (K1 w.params) p loose mg mb h₀ st h) (R : Rep 39 175 w st h) (hroom : A.depth + 4 < recursionLimit) (hu : A.units + 80 < cLine)
   (C : Cst T' st D kvs) (hz : kvs.length ≤ 100000) {a : Int} {ta : Tok} (haf : st.af = .int a ta) (ha : 0 ≤ a) (hc : ∀ q ∈ D, Cb H (st.F q.2.x).cln) {b : Nat} (hok : H.ok (D.length + b) st.ex)
   (hQ : ∀ h' tk st' kvs', Ctr 39 175 w st st' h h' → Cut H T' b D st st' a.toNat kvs' → Q .none (up s h' tk)) :
   wpAny (model prog w) A (call (.ref 121) [.ref st.c]) Q E (up s h tk₀) := by
  refine' enter (binds := [("self", Value.ref st.c)]) B R ?ho ?hcd (by omega) ?hb ?hl ?hco ?hgen ?hk ?hcell ?_
  ((case ho => k_dflt k_is); (case hcd => k_dflt k_is); (case hb => exact BindsTo.of_eq rfl); (case hl => exact locs rfl); (case hco => exact rfl); (case hgen => exact rfl); (case hk => exact rfl); (case hcell => decide))
  intro g L h1 tk kk k' X T S
  have hu' : ∀ env, (A.deeper env).units + 8 < cLine := fun env => by simp only [Around.deeper_units]; omega
  obtain ⟨m', S⟩ : ∃ m', St 39 175 w g L m' st h1 ∧ m' "self" = some (.ref st.c) := ⟨_, S, rfl⟩
  obtain ⟨S, ms⟩ := S
  refine seqP (P := CleanE (T' := T') H g L m' st h1 b D a.toNat) ?_ ?_
  · refine while_inv (P := fun n => CleanP (T' := T') H g L m' st h1 b D a.toNat n) (CleanE (T' := T') H g L m' st h1 b D a.toNat) ?_ D.length ?_
    · rintro n h' tk' ⟨st1, kvs1, hn1, hn2, S1, C1, K⟩
      have hlen : kvs1.length = n := by rw [K.C.len, List.length_take, Nat.min_eq_left hn1]
      have hz1 : kvs1.length ≤ 100000 := by rw [hlen]; have := C.len; omega
      have ms1 : m' "self" = some (.ref st1.c) := by rw [K.fx.c]; exact ms
      refine wpAny_isTrue_Compare1 ?_ (by with_unfolding_all rfl)
      refine PvE.at (PvE.len S1 X ?hfn ?hdd K.C.od K.C.ne hz1 rfl rfl rfl) fun v tk2 hv => ?_
      case hfn => refine' Pv.builtin S1 X T ?he rfl ?hn rfl rfl ?hd; (case he => k_dflt k_is); (case hn => decide); (case hd => decide)
      case hdd => walk_at "pv"
      obtain ⟨t, rfl⟩ := hv
      refine Pv.at (v := .int a ta) ?haf fun tk3 => ?_
      case haf =>
        refine Pv.eq (v := st1.af) ?_ (K.fx.af.trans haf)
        walk_at "pv"
      refine gt_int ?_
      refine wpAny_truthy_bool ?_
      rw [hlen]
      by_cases hgt : a < (n : Int)
      · refine WhlIf.yes (decide_eq_true hgt) ?_
        obtain ⟨n, rfl⟩ : ∃ n', n = n' + 1 := ⟨n - 1, by omega⟩
        have hlt : n < D.length := hn1
        have et : D.take (n + 1) = D.take n ++ [D[n]] := by rw [List.take_succ_eq_append_getElem hlt]
        have eg : D[n]? = some D[n] := List.getElem?_eq_getElem hlt
        refine gen_ (a := D[n]) fun kr hkr => ?_
        rw [hkr] at et eg
        obtain ⟨k, r⟩ := kr
        have hcr : Cb H (st1.F r.x).cln := Cb.of_vw hc K.ev (k, r) (by rw [et]; exact List.mem_append_right _ (.head _))
        have K2 := K.C
        rw [et] at K2
        refine wpAny_execs_cons ?_
        refine' ex_ ?_ rfl rfl
        refine' ev_m0 (f := 149) (x := st1.c) ?hpo S1.cinst (X.keeps S1.F.keep) (pcL _) ?hf ?ht ?hkp rfl ?_ rfl
        case hpo => walk_at "pv"
        case hf => k_dflt k_is
        case ht => k_dflt k_is
        case hkp => k_dflt k_is
        intro tk4
        refine c_rmlru H (S1.base X T) S1.rep (by show A.depth + 1 + 3 < _; omega) (by simp only [Around.deeper_units]; omega) K2 hz1 hcr (K.okS et) fun h3 tk5 st3 key C3 F3 K3 e3 hk3 r3 => ?_
        exact wpAny_execs_nil ⟨rfl, n, h3, tk5, Nat.lt_succ_self _, rfl, st3, _, Nat.le_of_lt hlt, .inl (by omega), S1.after C3, C1.trans C3, K.step eg et F3 K3 e3 hk3 r3⟩
      · refine WhlIf.no (decide_eq_false hgt) ⟨h', tk3, rfl, ?_⟩
        rcases hn2 with q | q
        · rw [show a.toNat = n by omega]; exact ⟨st1, kvs1, S1, C1, K⟩
        · exact ⟨st1, kvs1, S1, C1, K.over (by omega) (by omega)⟩
    · exact ⟨st, kvs, Nat.le_refl _, .inr rfl, S, Ctr.refl S.rep, ⟨Fixr.refl, by rw [List.take_length]; exact C, rfl, by rw [List.take_length]; exact hok, by rw [List.drop_eq_nil_of_le (by unfold vw; rw [List.length_map]; exact Nat.le_refl _)]; exact .nil⟩⟩
  · rintro h2 tk2 ⟨st', kvs', S', C', K'⟩
    exact wpAny_execs_nil (hQ _ _ _ _ (S'.back kk fun a ha => (C'.fresh a ha).elim .inl (fresh_back kk S.F)) K')
end
section
variable {prog : Program} {w : World} {A : Around} {E : Value → Shared → Prop} {s : Shared} {h : Heap} {tk₀ : Nat} {p : Program} {loose : List Str} {mg mb : Str → Option Value} {h₀ : Heap} {st : LS} {r : Rg}
  {Ky : Type} [DecidableEq Ky] {T' : DT prog w (K1 w.params) Ky} {kvs : List (Ky × Value)} {k : Ky} {D : List (Ky × Rg)}
/-- clear: all go one by one -/
theorem c_clear {Q : Value → Shared → Prop} (H : Hook prog w (K1 w.params) 39 175) (B : Base (K1 w.params) p loose mg mb h₀ st h) (R : Rep 39 175 w st h) (hroom : A.depth + 4 < recursionLimit) (hu : A.units + 80 < cLine)
   (C : Cst T' st D kvs) (hz : kvs.length ≤ 100000) (hc : ∀ q ∈ D, Cb H (st.F q.2.x).cln) {b : Nat} (hok : H.ok (D.length + b) st.ex)
   (hQ : ∀ h' tk st' kvs', Ctr 39 175 w st st' h h' → Cut H T' b D st st' 0 kvs' → Q .none (up s h' tk)) :
   wpAny (model prog w) A (call (.ref 156) [.ref st.c]) Q E (up s h tk₀) := by
  refine' enter (binds := [("self", Value.ref st.c)]) B R ?ho ?hcd (by omega) ?hb ?hl ?hco ?hgen ?hk ?hcell ?_
  ((case ho => k_dflt k_is); (case hcd => k_dflt k_is); (case hb => exact BindsTo.of_eq rfl); (case hl => exact locs rfl); (case hco => exact rfl); (case hgen => exact rfl); (case hk => exact rfl); (case hcell => decide))
  intro g L h1 tk kk k' X T S
  obtain ⟨m', S⟩ : ∃ m', St 39 175 w g L m' st h1 ∧ m' "self" = some (.ref st.c) := ⟨_, S, rfl⟩
  obtain ⟨S, ms⟩ := S
  refine seqP (P := CleanE (T' := T') H g L m' st h1 b D 0) ?_ ?_
  · refine while_inv (P := fun n => CleanP (T' := T') H g L m' st h1 b D 0 n) (CleanE (T' := T') H g L m' st h1 b D 0) ?_ D.length ?_
    · rintro n h' tk' ⟨st1, kvs1, hn1, hn2, S1, C1, K⟩
      have hlen : kvs1.length = n := by rw [K.C.len, List.length_take, Nat.min_eq_left hn1]
      have hz1 : kvs1.length ≤ 100000 := by rw [hlen]; have := C.len; omega
      have ms1 : m' "self" = some (.ref st1.c) := by rw [K.fx.c]; exact ms
      refine wpAny_isTrue_value (Pv.at (v := .ref st1.dd) ?hdd fun tk2 => K.C.od.truth (s := up s h' tk2) S1.dget K.C.ne hz1 fun tk3 => ?_) (by with_unfolding_all rfl)
      case hdd => walk_at "pv"
      by_cases h0 : n = 0
      · subst h0
        have e0 : kvs1 = [] := List.length_eq_zero_iff.mp hlen
        rw [e0]
        exact WhlIf.no rfl ⟨h', tk3, rfl, st1, _, S1, C1, e0 ▸ K⟩
      · obtain ⟨n, rfl⟩ : ∃ n', n = n' + 1 := ⟨n - 1, by omega⟩
        have e1 : kvs1.isEmpty = false := by cases kvs1 with | nil => cases hlen | cons => rfl
        rw [e1]
        refine WhlIf.yes rfl ?_
        have hlt : n < D.length := hn1
        have et : D.take (n + 1) = D.take n ++ [D[n]] := by rw [List.take_succ_eq_append_getElem hlt]
        have eg : D[n]? = some D[n] := List.getElem?_eq_getElem hlt
        refine gen_ (a := D[n]) fun kr hkr => ?_
        rw [hkr] at et eg
        obtain ⟨k, r⟩ := kr
        have hcr : Cb H (st1.F r.x).cln := Cb.of_vw hc K.ev (k, r) (by rw [et]; exact List.mem_append_right _ (.head _))
        have K2 := K.C
        rw [et] at K2
        refine wpAny_execs_cons ?_
        refine' ex_ ?_ rfl rfl
        refine' ev_m0 (f := 149) (x := st1.c) ?hpo S1.cinst (X.keeps S1.F.keep) (pcL _) ?hf ?ht ?hkp rfl ?_ rfl
        case hpo => walk_at "pv"
        case hf => k_dflt k_is
        case ht => k_dflt k_is
        case hkp => k_dflt k_is
        intro tk4
        refine c_rmlru H (S1.base X T) S1.rep (by show A.depth + 1 + 3 < _; omega) (by simp only [Around.deeper_units]; omega) K2 hz1 hcr (K.okS et) fun h3 tk5 st3 key C3 F3 K3 e3 hk3 r3 => ?_
        exact wpAny_execs_nil ⟨rfl, n, h3, tk5, Nat.lt_succ_self _, rfl, st3, _, Nat.le_of_lt hlt, .inl (Nat.zero_le _), S1.after C3, C1.trans C3, K.step eg et F3 K3 e3 hk3 r3⟩
    · exact ⟨st, kvs, Nat.le_refl _, .inr rfl, S, Ctr.refl S.rep, ⟨Fixr.refl, by rw [List.take_length]; exact C, rfl, by rw [List.take_length]; exact hok, by rw [List.drop_eq_nil_of_le (by unfold vw; rw [List.length_map]; exact Nat.le_refl _)]; exact .nil⟩⟩
  · rintro h2 tk2 ⟨st', kvs', S', C', K'⟩
    exact wpAny_execs_nil (hQ _ _ _ _ (S'.back kk fun a ha => (C'.fresh a ha).elim .inl (fresh_back kk S.F)) K')
end
section
variable {prog : Program} {w : World} {A : Around} {E : Value → Shared → Prop} {s : Shared} {h : Heap} {tk₀ : Nat} {p : Program} {loose : List Str} {mg mb : Str → Option Value} {h₀ : Heap} {st : LS} {r : Rg}
  {Ky : Type} [DecidableEq Ky] {T' : DT prog w (K1 w.params) Ky} {kvs : List (Ky × Value)} {k : Ky} {D D' : List (Ky × Rg)}

/-- _record_access of a node that is held -/
theorem c_hit {Q : Value → Shared → Prop} (B : Base (K1 w.params) p loose mg mb h₀ st h) (R : Rep 39 175 w st h) (hroom : A.depth < recursionLimit) (hu : A.units + 16 < cLine)
   (C : Cst T' st (D ++ (k, r) :: D') kvs)
   (hQ : ∀ h' tk st', Ctr 39 175 w st st' h h' → Fixd st st' → Cst T' st' ((k, r) :: (D ++ D')) kvs → (∀ y, (st'.F y).val = (st.F y).val ∧ (st'.F y).cln = (st.F y).cln ∧ (st'.F y).key = (st.F y).key) → Q .none (up s h' tk)) :
   wpAny (model prog w) A (call (.ref 135) [.ref st.c, .ref r.x]) Q E (up s h tk₀) := by
  have hm : (k, r) ∈ D ++ (k, r) :: D' := List.mem_append_right _ (.head _)
  have hr := C.sub _ hm
  cases D with
  | nil =>
    refine c_rec1 B R hroom hr (by rw [C.mru]; rfl) fun h' tk C' => ?_
    exact hQ _ _ _ C' Fixd.refl C fun y => ⟨rfl, rfl, rfl⟩
  | cons m l =>
    have nd := C.nd
    have nd0 := nd
    rw [List.map_append, List.nodup_append] at nd
    have s := C.seg
    rw [Seg.append] at s
    obtain ⟨-, s1, s2, s3⟩ := s
    have hml : m ∈ (m :: l) ++ (k, r) :: D' := .head _
    obtain ⟨A', a, hA', hla⟩ : ∃ A' a, m :: l = A' ++ [a] ∧ lastV (.none : Value) (m :: l) = .ref a.2.x := by
      rcases lastV_opt (A := m :: l) (p := .none) with ⟨q, -⟩ | q
      · cases q
      · exact q
    have haA : a ∈ m :: l := by rw [hA']; exact List.mem_append_right _ (.head _)
    have hlast : ∃ b ∈ (m :: l) ++ (k, r) :: D', st.lru = .ref b.2.x := by
      rcases lastV_opt (A := (m :: l) ++ (k, r) :: D') (p := .none) with ⟨q, -⟩ | ⟨A'', b, q, q2⟩
      · cases q
      · exact ⟨b, by rw [q]; exact List.mem_append_right _ (.head _), by rw [C.lru, q2]⟩
    obtain ⟨b, hb, hlru⟩ := hlast
    have ne : ∀ q ∈ m :: l, r.x ≠ q.2.x := fun q hq e => nd.2.2 _ (List.mem_map_of_mem (f := fun q : Ky × Rg => q.2.x) hq) r.x (.head _) e.symm
    have neB : ∀ q ∈ D', r.x ≠ q.2.x := by
      intro q hq e
      have := nd.2.1
      rw [List.map_cons, List.nodup_cons] at this
      exact this.1 (by show r.x ∈ _; rw [e]; exact List.mem_map_of_mem (f := fun q : Ky × Rg => q.2.x) hq)
    refine c_rec2 B R hroom hu hr (mr := m.2) (lr := b.2) (po := some a.2) (qo := D'.head?.map (·.2)) (by rw [C.mru]; rfl) (C.sub _ hml) (ne m (.head _)) hlru (C.sub _ hb) (s1.trans hla)
      (fun p e => by cases e; exact ⟨C.sub _ (List.mem_append_left _ haA), ne a haA⟩) C.od ?_ ?_ fun h' tk C' => ?_
    · intro q
      cases D' with
      | nil => exact s2
      | cons c D' => cases q
    · intro q e
      cases D' with
      | nil => cases e
      | cons c D' =>
        cases e
        have hc : c ∈ (m :: l) ++ (k, r) :: c :: D' := List.mem_append_right _ (.tail _ (.head _))
        refine ⟨C.sub _ hc, neB c (.head _), c.1, ?_, C.at hc⟩
        rw [s2]; exact C.key c hc
    · have mv := rec_move (F := st.F) (n := .none) (A := m :: l) (B := D') (m := m) (p := a) (r := (k, r)) (po := some a.2) (qo := D'.head?.map (·.2)) rfl hA' rfl rfl nd0 C.seg
      have pm : ((m :: l) ++ (k, r) :: D').Perm ((k, r) :: ((m :: l) ++ D')) := List.perm_middle
      refine hQ _ _ _ C' ⟨rfl, rfl, rfl, rfl, rfl, rfl⟩ ⟨fun q hq => C.sub q (pm.mem_iff.mpr hq), (pm.map _).nodup_iff.mp nd0, mv, rfl, ?_, fun q hq => ?_, C.od, C.perm.trans (pm.map _), C.ne⟩ fun y => ⟨recF_val y, recF_cln y, recF_key y⟩
      · show (if st.lru = .ref r.x then (st.F r.x).prev else st.lru) = lastV .none ((k, r) :: ((m :: l) ++ D'))
        rw [C.lru]
        show _ = lastV (.ref r.x) ((m :: l) ++ D')
        rw [lastV_append (p := .none), lastV_append (p := .none)]
        show (if lastV (.ref r.x) D' = _ then _ else _) = lastV (lastV (.ref m.2.x) l) D'
        cases D' with
        | nil => rw [if_pos (show lastV (.ref r.x) ([] : List (Ky × Rg)) = .ref r.x from rfl), s1]; rfl
        | cons c D' =>
          show (if lastV (.ref c.2.x) D' = _ then _ else _) = lastV (.ref c.2.x) D'
          refine if_neg fun e => ?_
          rcases lastV_opt (A := D') (p := .ref c.2.x) with ⟨-, q⟩ | ⟨A'', d, q, q2⟩
          · rw [q] at e; exact neB c (.head _) (Value.ref.inj e).symm
          · rw [q2] at e; exact neB d (.tail _ (by rw [q]; exact List.mem_append_right _ (.head _))) (Value.ref.inj e).symm
      · show T'.isK q.1 (recF st.F r.x m.2.x _ _ q.2.x).key
        rw [recF_key]; exact C.key q (pm.mem_iff.mpr hq)

/-- _record_access of a node just made and put into the dict -/
theorem c_fresh {Q : Value → Shared → Prop} (B : Base (K1 w.params) p loose mg mb h₀ st h) (R : Rep 39 175 w st h) (hroom : A.depth < recursionLimit) (hu : A.units + 16 < cLine)
   {kvs₀ : List (Ky × Value)} {o₀ : Obj} (C : Cst T' { st with od := o₀ } D kvs₀) (hr : r ∈ st.reg) (nr : ∀ a ∈ D, a.2.x ≠ r.x) (hk : T'.isK k (st.F r.x).key) (hn : (st.F r.x).next = .none) (hp : (st.F r.x).prev = .none)
   (ho : OD T' st.od kvs) (hkv : kvs = kvs₀ ++ [(k, .ref r.x)])
   (hQ : ∀ h' tk st', Ctr 39 175 w st st' h h' → Fixd st st' → Cst T' st' ((k, r) :: D) kvs → (∀ y, (st'.F y).val = (st.F y).val ∧ (st'.F y).cln = (st.F y).cln ∧ (st'.F y).key = (st.F y).key) → Q .none (up s h' tk)) :
   wpAny (model prog w) A (call (.ref 135) [.ref st.c, .ref r.x]) Q E (up s h tk₀) := by
  have pm : kvs.Perm (row (k, r) :: D.map row) := by
    rw [hkv]; exact (List.perm_append_singleton _ _).trans (C.perm.cons _)
  have nd : (((k, r) :: D).map (·.2.x)).Nodup := by
    rw [List.map_cons, List.nodup_cons]
    refine ⟨fun q => ?_, C.nd⟩
    obtain ⟨a, ha, e⟩ := List.mem_map.mp q
    exact nr a ha e
  cases D with
  | nil =>
    refine c_rec0 B R hroom hr C.mru fun h' tk C' => ?_
    refine hQ _ _ _ C' ⟨rfl, rfl, rfl, rfl, rfl, rfl⟩ ⟨fun q hq => by rw [List.mem_singleton.mp hq]; exact hr, nd, ⟨hp, hn, trivial⟩, rfl, rfl, fun q hq => by rw [List.mem_singleton.mp hq]; exact hk, ho, pm, C.ne⟩ fun y => ⟨rfl, rfl, rfl⟩
  | cons m l =>
    obtain ⟨b, hb, hlru⟩ : ∃ b ∈ m :: l, st.lru = .ref b.2.x := by
      rcases lastV_opt (A := m :: l) (p := .none) with ⟨q, -⟩ | ⟨A'', b, q, q2⟩
      · cases q
      · exact ⟨b, by rw [q]; exact List.mem_append_right _ (.head _), by rw [← q2]; exact C.lru⟩
    refine c_rec2 B R hroom hu hr (mr := m.2) (lr := b.2) (po := none) (qo := none) C.mru (C.sub _ (.head _)) (fun e => nr m (.head _) e.symm) hlru (C.sub _ hb) hp (fun p e => nomatch e) ho (fun _ => hn) (fun q e => nomatch e) fun h' tk C' => ?_
    refine hQ _ _ _ C' ⟨rfl, rfl, rfl, rfl, rfl, rfl⟩ ⟨fun q hq => ?_, nd, rec_new (r := (k, r)) nr C.nd C.seg, rfl, ?_, fun q hq => ?_, ho, pm, C.ne⟩ fun y => ⟨recF_val y, recF_cln y, recF_key y⟩
    · rcases List.mem_cons.mp hq with rfl | hq
      · exact hr
      · exact C.sub q hq
    · show (if st.lru = .ref r.x then (st.F r.x).prev else st.lru) = _
      rw [if_neg (by rw [hlru]; intro e; exact nr b hb (Value.ref.inj e))]
      exact C.lru
    · show T'.isK q.1 (recF st.F r.x m.2.x none none q.2.x).key
      rw [recF_key]
      rcases List.mem_cons.mp hq with rfl | hq
      · exact hk
      · exact C.key q hq
end
section
variable {prog : Program} {w : World} {A : Around} {E : Value → Shared → Prop} {s : Shared} {h : Heap} {tk₀ : Nat} {p : Program} {loose : List Str} {mg mb : Str → Option Value} {h₀ : Heap} {st : LS} {r : Rg}
  {Ky : Type} [DecidableEq Ky] {T' : DT prog w (K1 w.params) Ky} {kvs : List (Ky × Value)} {k : Ky} {D : List (Ky × Rg)} {key : Value}

/-- get(key, dflt) -/
theorem c_get {Q : Value → Shared → Prop} {pos : List Value} {dflt : Value} (B : Base (K1 w.params) p loose mg mb h₀ st h) (R : Rep 39 175 w st h) (hroom : A.depth + 1 < recursionLimit) (hu : A.units + 24 < cLine)
   (C : Cst T' st D kvs) (hk : T'.isK k key) (hpos : pos = [.ref st.c, key, dflt] ∨ (pos = [.ref st.c, key] ∧ dflt = .none))
   (hQ : ∀ h' tk st' D', Ctr 39 175 w st st' h h' → Fixd st st' → Cst T' st' D' kvs → vw st' D' = touch (vw st D) k → Q (((look (vw st D) k).map (·.1)).getD dflt) (up s h' tk)) :
   wpAny (model prog w) A (call (.ref 102) pos) Q E (up s h tk₀) := by
  refine' enter (binds := [("self", Value.ref st.c), ("key", key), ("default", dflt)]) B R ?ho ?hcd (by omega) ?hb ?hl ?hco ?hgen ?hk ?hcell ?_
  case ho => k_dflt k_is
  case hcd => k_dflt k_is
  case hb =>
    rcases hpos with rfl | ⟨rfl, rfl⟩
    · exact binds_K (show (K1 w.params).In h from B.X.keeps B.stays) rfl (by k_dflt k_is) rfl rfl rfl
    · exact binds_K (show (K1 w.params).In h from B.X.keeps B.stays) rfl (by k_dflt k_is) rfl rfl rfl
  case hl => exact locs rfl
  case hco => exact rfl
  case hgen => exact rfl
  case hk => exact rfl
  case hcell => decide
  intro g L h1 tk kk k' X T S
  have hu' : ∀ env, (A.deeper env).units + 8 < cLine := fun env => by simp only [Around.deeper_units]; omega
  refine wpAny_execs_cons ?_
  refine' as_name S ?he ?_ rfl rfl rfl
  case he =>
    refine' Pv.get2 S X (hu' _) ?ho ?hi ?hi2 hk C.od C.ne rfl rfl rfl rfl
    case ho => walk_at "pv"
    case hi => walk_at "pv"
    case hi2 => walk_at "pv"
  intro h2 tk2 S2
  by_cases hm : k ∈ D.map (·.1)
  · obtain ⟨D1, r, D2, rfl⟩ := C.split hm
    have hv := C.at (k := k) (r := r) (List.mem_append_right _ (.head _))
    have hr := C.sub (k, r) (List.mem_append_right _ (.head _))
    rw [hv] at S2
    refine seqP (P := fun h => h = h2) ?_ ?_
    · refine' if_is ?hpl ?hpr ?hc ?_ ?_ rfl
      case hpl => walk_at "pv"
      case hpr => walk_at "pv"
      case hc => exact isB_ref_none
      · intro q; cases q
      · intro _ tk; exact wpAny_execs_nil ⟨rfl, h2, tk, rfl, rfl⟩
    rintro _ tk3 rfl
    refine wpAny_execs_cons ?_
    refine' ex_ ?_ rfl rfl
    refine' ev_m1 (f := 135) (x := st.c) (v := .ref r.x) ?hpo ?hpe S2.cinst (X.keeps S2.F.keep) (pcL _) ?hf ?ht ?hkp rfl ?_ rfl rfl rfl
    case hpo => walk_at "pv"
    case hpe => walk_at "pv"
    ((case hf => k_dflt k_is); (case ht => k_dflt k_is); (case hkp => k_dflt k_is))
    intro tk4
    refine c_hit (S2.base X T) S2.rep (by show A.depth + 1 < _; omega) (by simp only [Around.deeper_units]; omega) C fun h3 tk5 st3 C3 F3 K3 e3 => ?_
    have S3 := S2.after C3
    refine wpAny_execs_cons ?_
    refine' ret_ ?hpv ?_
    case hpv =>
      refine' Pv.node (r := r) S3 X (pcN _) ?hp (by rw [F3.reg]; exact hr) (nVal (aN_value _)) rfl
      case hp => walk_at "pv"
    intro tk6
    have hq := hQ h3 tk6 st3 _ (S2.back2 kk S3 C3) F3 K3 (C.touch_hit fun y => ⟨(e3 y).1, (e3 y).2.1⟩)
    rw [C.look_hit.1] at hq
    show Q (st3.F r.x).val _
    rw [(e3 _).1]
    exact hq
  · have hv := C.notAt hm
    rw [hv] at S2
    refine wpAny_execs_cons ?_
    refine' if_is ?hpl ?hpr ?hc ?_ ?_ rfl
    case hpl => walk_at "pv"
    case hpr => walk_at "pv"
    case hc => exact isB_none
    · intro _ tk
      refine wpAny_execs_cons ?_
      refine' ret_ ?hpv ?_
      case hpv => walk_at "pv"
      intro tk6
      obtain ⟨e1, e2, -⟩ := C.look_miss hm
      have hq := hQ h2 tk6 st D (S2.back kk fun a ha => .inl ha) Fixd.refl C e2.symm
      rw [e1] at hq
      exact hq
    · intro q; cases q
end
section
variable {prog : Program} {w : World} {A : Around} {E : Value → Shared → Prop} {s : Shared} {h : Heap} {tk₀ : Nat} {p : Program} {loose : List Str} {mg mb : Str → Option Value} {h₀ : Heap} {st : LS} {r : Rg}
  {Ky : Type} [DecidableEq Ky] {T' : DT prog w (K1 w.params) Ky} {kvs : List (Ky × Value)} {k : Ky} {D D' : List (Ky × Rg)} {key : Value}

/-- __getitem__ of a key that is held -/
theorem c_item {Q : Value → Shared → Prop} (B : Base (K1 w.params) p loose mg mb h₀ st h) (R : Rep 39 175 w st h) (hroom : A.depth + 1 < recursionLimit) (hu : A.units + 24 < cLine)
   (C : Cst T' st (D ++ (k, r) :: D') kvs) (hk : T'.isK k key)
   (hQ : ∀ h' tk st', Ctr 39 175 w st st' h h' → Fixd st st' → Cst T' st' ((k, r) :: (D ++ D')) kvs → (∀ y, (st'.F y).val = (st.F y).val ∧ (st'.F y).cln = (st.F y).cln ∧ (st'.F y).key = (st.F y).key) → Q (st.F r.x).val (up s h' tk)) :
   wpAny (model prog w) A (call (.ref 72) [.ref st.c, key]) Q E (up s h tk₀) := by
  have hr : r ∈ st.reg := C.sub (k, r) (List.mem_append_right _ (.head _))
  refine' enter (binds := [("self", Value.ref st.c), ("key", key)]) B R ?ho ?hcd (by omega) ?hb ?hl ?hco ?hgen ?hk ?hcell ?_
  ((case ho => k_dflt k_is); (case hcd => k_dflt k_is); (case hb => exact BindsTo.of_eq rfl); (case hl => exact locs rfl); (case hco => exact rfl); (case hgen => exact rfl); (case hk => exact rfl); (case hcell => decide))
  intro g L h1 tk kk k' X T S
  have hu' : ∀ env, (A.deeper env).units + 8 < cLine := fun env => by simp only [Around.deeper_units]; omega
  refine wpAny_execs_cons ?_
  refine' as_name S ?he ?_ rfl rfl rfl
  case he => walk_at "pv"
  intro h2 tk2 S2
  refine wpAny_execs_cons ?_
  refine' as_name S2 ?he ?_ rfl rfl rfl
  case he =>
    refine' Pv.item S2 X (hu' _) ?ho ?hi hk C.od (C.at (List.mem_append_right _ (.head _))) ?hs
    case ho => walk_at "pv"
    case hi => walk_at "pv"
    case hs => with_unfolding_all rfl
  intro h3 tk3 S3
  cases D with
  | nil =>
    have hm : st.mru = .ref r.x := C.mru
    refine wpAny_execs_cons ?_
    refine' as_name S3 ?he ?_ rfl rfl rfl
    case he => (refine' Pv.eq ?x ?y; (case x => walk_at "pv"); (case y => exact hm))
    intro h4 tk4 S4
    refine wpAny_execs_cons ?_
    refine' if_is ?hpl ?hpr ?hc ?_ ?_ rfl
    case hpl => walk_at "pv"
    case hpr => walk_at "pv"
    case hc => exact isB_self
    rotate_left
    · intro q; cases q
    intro _ tk5
    refine wpAny_execs_cons ?_
    refine' ret_ ?hpv ?_
    case hpv =>
      refine' Pv.node (r := r) S4 X (pcN _) ?hp hr (nVal (aN_value _)) rfl
      case hp => walk_at "pv"
    intro tk6
    exact hQ h4 tk6 st (S4.back kk fun a ha => .inl ha) Fixd.refl C fun y => ⟨rfl, rfl, rfl⟩
  | cons m l =>
    obtain ⟨pr, b, H⟩ := C.hit
    refine wpAny_execs_cons ?_
    refine' as_name S3 ?he ?_ rfl rfl rfl
    case he => (refine' Pv.eq ?x ?y; (case x => walk_at "pv"); (case y => exact H.mr))
    intro h4 tk4 S4
    (refine wpAny_execs_cons ?_; refine' if_is ?hpl ?hpr ?hc ?_ ?_ rfl; (case hpl => walk_at "pv"); (case hpr => walk_at "pv"))
    case hc => exact isB_refs (S4.ninst hr).at_ (S4.ninst H.mreg).at_ (fun e => nomatch e)
    · intro q; exact absurd (of_decide_eq_true q) H.ne
    intro _ tk5
    refine wpAny_execs_nil ?_
    refine wpAny_execs_cons ?_
    refine' as_name S4 ?he ?_ rfl rfl rfl
    case he =>
      refine Pv.eq (v := (st.F r.x).prev) ?_ H.prev
      refine' Pv.node (r := r) S4 X (pcN _) ?hp hr (nPrev (aN_prev _)) rfl
      case hp => walk_at "pv"
    intro h5 tk6 S5
    refine wpAny_execs_cons ?_
    refine' as_name S5 ?he ?_ rfl rfl rfl
    case he =>
      refine' Pv.node (r := r) S5 X (pcN _) ?hp hr (nNext (aN_next _)) rfl
      case hp => walk_at "pv"
    intro h6 tk7 S6
    refine seqP (P := fun h => ∃ m', St 39 175 w g L m' { st with lru := if st.lru = .ref r.x then (st.F r.x).prev else st.lru, F := fQ st.F r.x (D'.head?.map (·.2)) } h ∧ m' "self" = some (.ref st.c) ∧ m' "node" = some (.ref r.x) ∧ m' "mru" = some (.ref m.2.x) ∧ m' "node_prev" = some (.ref pr.x) ∧ m' "next_key" = some (st.F r.x).next) ?_ ?_
    · refine' if_is ?hpl ?hpr ?hc ?_ ?_ rfl
      case hpl => walk_at "pv"
      case hpr => walk_at "pv"
      case hc => exact isB_plain (S6.ok.F _).next
      · intro q tk
        cases D' with
        | cons c D'' => exact absurd (eq_of_beq q) (T'.notNone (H.nx1 c D'' rfl).2.2.2.1)
        | nil =>
          refine wpAny_execs_cons ?_
          refine' as_cache S6 X (pcL _) ?he ?hp (cLru (aL_lru _)) ?hv ?_ rfl
          case he => (refine' Pv.eq ?x ?y; (case x => walk_at "pv"); (case y => exact H.prev.symm))
          case hp => walk_at "pv"
          case hv => exact (S6.ok.F _).prev
          intro h7 tk8 S7
          refine wpAny_execs_nil ⟨rfl, h7, tk8, rfl, _, by rw [if_pos (H.nx0 rfl).2]; exact S7, rfl, rfl, rfl, rfl, rfl⟩
      · intro q tk
        cases D' with
        | nil => rw [(H.nx0 rfl).1] at q; cases q
        | cons c D'' =>
          obtain ⟨q1, q2, q3, q4, q5, q6⟩ := H.nx1 c D'' rfl
          refine wpAny_execs_cons ?_
          refine' as_name S6 ?he ?_ rfl rfl rfl
          case he =>
            refine' Pv.item S6 X (hu' _) ?ho ?hi q4 C.od q5 ?hs
            case ho => walk_at "pv"
            case hi => walk_at "pv"
            case hs => with_unfolding_all rfl
          intro h7 tk8 S7
          refine wpAny_execs_cons ?_
          refine' as_node (r := c.2) S7 X (pcN _) ?he ?hp q1 ?hn ?hv ?_ rfl
          case he => (refine' Pv.eq ?x ?y; (case x => walk_at "pv"); (case y => exact H.prev.symm))
          case hp => walk_at "pv"
          case hn => exact nPrev (aN_prev _)
          case hv => exact (S6.ok.F _).prev
          intro h8 tk9 S8
          refine wpAny_execs_nil ⟨rfl, h8, tk9, rfl, _, by rw [if_neg q6]; exact S8, rfl, rfl, rfl, rfl, rfl⟩
    rintro h7 tk8 ⟨m', S7, e1, e2, e3, e4, e5⟩
    have eQ : fQ st.F r.x (D'.head?.map (·.2)) r.x = st.F r.x := by
      cases D' with
      | nil => rfl
      | cons c D'' => exact setF_ne (H.nx1 c D'' rfl).2.1
    have eF := fP_fQ (F := st.F) (qo := D'.head?.map (·.2)) H.pne fun q hq => by
      cases D' with
      | nil => cases hq
      | cons c D'' => cases hq; exact ⟨(H.nx1 c D'' rfl).2.1, (H.nx1 c D'' rfl).2.2.1⟩
    have Hout := H.out
    generalize hFQ : fQ st.F r.x (D'.head?.map (·.2)) = FQ at S7 eQ eF
    refine wpAny_execs_cons ?_
    refine' assert_node (r := pr) S7 X ?he H.preg ?hb ?hl ?_ rfl
    case he => walk_at "pv"
    case hb => k_dflt k_is
    case hl => k_dflt k_is
    intro tk9
    refine wpAny_execs_cons ?_
    refine' assert_node (r := m.2) S7 X ?he H.mreg ?hb ?hl ?_ rfl
    case he => walk_at "pv"
    case hb => k_dflt k_is
    case hl => k_dflt k_is
    intro tk10
    refine wpAny_execs_cons ?_
    refine' as_node (r := pr) S7 X (pcN _) ?he ?hp H.preg (nNext (aN_next _)) ?hv ?_ rfl
    case he => (refine' Pv.eq (v' := (FQ r.x).next) ?x ?y; (case x => walk_at "pv"); (case y => rw [eQ]))
    case hp => walk_at "pv"
    case hv => exact (S7.ok.F _).next
    intro h8 tk11 S8
    have S8' : St 39 175 w g L m' { st with lru := if st.lru = .ref r.x then (st.F r.x).prev else st.lru, F := fP FQ r.x (some pr) } h8 := S8
    clear S8
    rw [eF] at S8'
    generalize hFP : fQ (fP st.F r.x (some pr)) r.x (D'.head?.map (·.2)) = FP at S8'
    refine wpAny_execs_cons ?_
    refine' as_node (r := r) S8' X (pcN _) ?he ?hp hr (nNext (aN_next _)) ?hv ?_ rfl
    case he =>
      refine' Pv.node (r := m.2) S8' X (pcN _) ?hpx H.mreg (nKey (aN_key _)) rfl
      case hpx => walk_at "pv"
    case hp => walk_at "pv"
    case hv => exact (S8'.ok.F _).key
    intro h9 tk12 S9
    refine wpAny_execs_cons ?_
    refine' as_node (r := m.2) S9 X (pcN _) ?he ?hp H.mreg (nPrev (aN_prev _)) ?hv ?_ rfl
    case he => walk_at "pv"
    case hp => walk_at "pv"
    case hv => exact Nb.ref
    intro h10 tk13 S10
    refine wpAny_execs_cons ?_
    refine' as_cache S10 X (pcL _) ?he ?hp (cMru (aL_mru _)) ?hv ?_ rfl
    case he => walk_at "pv"
    case hp => walk_at "pv"
    case hv => exact Nb.ref
    intro h11 tk14 S11
    refine wpAny_execs_cons ?_
    refine' as_node (r := r) S11 X (pcN _) ?he ?hp hr (nPrev (aN_prev _)) ?hv ?_ rfl
    case he => walk_at "pv"
    case hp => walk_at "pv"
    case hv => exact Nb.none
    intro h12 tk15 S12
    subst hFP
    have S12' : St 39 175 w g L m' (recAcc st r m.2 (some pr) (D'.head?.map (·.2))) h12 := S12
    refine wpAny_execs_cons ?_
    refine' ret_ ?hpv ?_
    case hpv =>
      refine' Pv.node (r := r) S12' X (pcN _) ?hp hr (nVal (aN_value _)) rfl
      case hp => walk_at "pv"
    intro tk16
    have hq := hQ h12 tk16 _ (S12'.back kk fun a ha => .inl ha) ⟨rfl, rfl, rfl, rfl, rfl, rfl⟩ Hout fun y => ⟨recF_val y, recF_cln y, recF_key y⟩
    show Q ((recF st.F r.x m.2.x (some pr) (D'.head?.map (·.2))) r.x).val _
    rw [recF_val]; exact hq

/-- __getitem__ of a key that is not held -/
theorem c_miss {Q : Value → Shared → Prop} {outer : List Env} (B : Base (K1 w.params) p loose mg mb h₀ st h) (R : Rep 39 175 w st h) (hroom : A.depth + 1 < recursionLimit) (hu : A.units + 24 < cLine) (hh : A.handled = none)
   (C : Cst T' st D kvs) (hk : T'.isK k key) (hm : k ∉ D.map (·.1)) (BB : Below A h₀ outer h) (hfr : ∀ env ∈ outer, ∀ a ∈ addrs st, env.frame ≠ some a)
   (hE : ∀ (e : Addr) (g h' : Heap) (tk : Nat), (∀ b o, b ∉ addrs st → h.get? b = some o → g.get? b = some o) → RaisedN h₀ outer e (.type "KeyError") (ledger 39 175 w.params st) h' → g.UpToSlots h' → E (.ref e) (up s h' tk)) :
   wpAny (model prog w) A (call (.ref 72) [.ref st.c, key]) Q E (up s h tk₀) := by
  refine' enterE (binds := [("self", Value.ref st.c), ("key", key)]) B R ?ho ?hcd (by omega) ?hb ?hl ?hco ?hgen ?hk ?hcell ?_
  ((case ho => k_dflt k_is); (case hcd => k_dflt k_is); (case hb => exact BindsTo.of_eq rfl); (case hl => exact locs rfl); (case hco => exact rfl); (case hgen => exact rfl); (case hk => exact rfl); (case hcell => decide))
  intro g L h1 tk kk k' X T S
  have hu' : ∀ env, (A.deeper env).units + 8 < cLine := fun env => by simp only [Around.deeper_units]; omega
  refine wpAny_execs_cons ?_
  refine' as_name S ?he ?_ rfl rfl rfl
  case he => walk_at "pv"
  intro h2 tk2 S2
  have BG : Below A h₀ outer g := ⟨BB.stack, fun b o e => kk b o (fun q => by rw [B.off b q] at e; cases e) (B.stays b o e), frames_off kk BB.frames hfr⟩
  refine wpAny_execs_cons (wpAny_Assign_Name ?_ rfl)
  refine Subscript_ (Pv.at (v := .ref st.dd) (by walk_at "pv") fun tk3 => Pv.at (v := key) (by walk_at "pv") fun tk4 => ?_)
  refine tail_any (s := up s h2 tk4) (C.od.typeIs (s := up s h2 tk4) S2.dget) PySem.F.slot_dict_getitem.lookup ?_ (by with_unfolding_all rfl)
  refine C.od.getItemMiss (s := up s h2 tk4) (X.keeps S2.F.keep) (hu' _) hk S2.dget (C.notAt hm) C.ne hh fun h3 e tk5 hx => ?_
  exact leave_newK BG hx S2.F S2.N fun h4 hR hsm => hE e g h4 tk5 kk hR hsm
end
section
variable {prog : Program} {w : World} {A : Around} {E : Value → Shared → Prop} {s : Shared} {g h : Heap} {L : Addr} {m : Str → Option Value} {tk tk₀ : Nat} {p : Program} {loose : List Str} {mg mb : Str → Option Value} {h₀ : Heap} {st : LS} {r : Rg}
  {key val cln : Value} {cn : Str} {cs : Scope} {a : Addr} {cd : Value}

/-- _LRUNode(key, value, cleanup=cleanup) -/
theorem ev_make {Q : Value → Shared → Prop} {e1 e2 e3 : Expr} {np pos kp : Pos} (S : St 39 175 w g L m st h) (X : (K1 w.params).In g) (T : TopRead p loose mg mb g) (hroom : A.depth + 2 < recursionLimit)
   (he1 : Pv prog w A (envOf cn cs L a cd) e1 key h) (he2 : Pv prog w A (envOf cn cs L a cd) e2 val h) (he3 : Pv prog w A (envOf cn cs L a cd) e3 cln h) (nk : Nb key) (nv : Nb val) (nc : Nb cln)
   (hk : cs.kind = .function) (hx : (envOf cn cs L a cd).kindOf "_LRUNode" = some .globalImplicit)
   (h1 : starEach [e1, e2] (envOf cn cs L a cd) = (false, eval e1 (envOf cn cs L a cd)) :: starEach [e2] (envOf cn cs L a cd)) (h2 : starEach [e2] (envOf cn cs L a cd) = (false, eval e2 (envOf cn cs L a cd)) :: starEach [] (envOf cn cs L a cd))
   (hpl : ((backTo pos (starEach [e1, e2] (envOf cn cs L a cd))).any (·.1) || (backToKw pos (keywordEach [⟨some "cleanup", e3, kp⟩] (envOf cn cs L a cd))).any (·.1.isNone)) = false)
   (q : ∀ h' tk x dx t, x ∉ addrs st → dx ∉ addrs st → g.get? x = none → g.get? dx = none → St 39 175 w g L m { st with reg := ⟨x, dx, t⟩ :: st.reg, F := setF st.F x ⟨.none, .none, key, val, cln⟩ } h' → Q (.ref x) (up s h' tk)) :
   wpAny (model prog w) A (eval (.Call (.Name "_LRUNode" np) [e1, e2] [⟨some "cleanup", e3, kp⟩] pos) (envOf cn cs L a cd)) Q E (up s h tk) := by
  refine wpAny_Call_Name_kw (Pv.at (Pv.glob S X T (v := .ref 39) (by k_dflt k_is) hk hx (by decide)) fun tk1 => ?_)
  refine callWith_KW X (by k_dflt k_is) rfl (spliced_more (he1.at fun tk2 => spliced_more (he2.at fun tk3 => spliced_none ?_) h2) h1) hpl h1
  refine kws_cons (he3.at fun tk4 => kws_nil ⟨X.keeps S.F.keep, ?_⟩)
  show wpAny _ _ (call (.ref 39) [key, val] [("cleanup", cln)]) _ _ _
  refine call_cls (s := up s h tk4) S.F X S.N (by k_dflt k_is) (by k_dflt k_is) (by k_dflt k_is) fun x dx h' F' N' hd hlt => ?_
  have nd : ∀ z, dx ≤ z → z ∉ addrs st := fun z hz hm => by
    rw [← ledger_addrs 39 175 w.params] at hm
    obtain ⟨q, hq, e⟩ := List.mem_map.mp hm
    have e : q.1 = z := e
    exact Nat.lt_irrefl z (Nat.lt_of_lt_of_le (e ▸ hd q hq) hz)
  have N2 : News g L h' [(x, instObj 39 dx), (dx, dictOf [] 0)] := fun q hq => N' q (by
    rcases List.mem_cons.mp hq with rfl | hq
    · exact .head _
    · rw [List.mem_singleton.mp hq]; exact .tail _ (.head _))
  have S' : St 39 175 w g L m st h' := ⟨F', fun q hq => N' q (.tail _ (.tail _ hq)), S.wf, S.ok⟩
  have nx := N2 _ (.head _)
  have ndx := N2 _ (.tail _ (.head _))
  have ne : x ≠ dx := fun e => Nat.lt_irrefl dx (e ▸ hlt)
  refine' enterN (s := s) (h := h') (tk₀ := tk4) (l := [(x, instObj 39 dx), (dx, dictOf [] 0)]) (binds := [("self", Value.ref x), ("key", key), ("value", val), ("cleanup", cln)]) X T F'.keep ?hl0 ?ho ?hcd ?hroom ?hb ?hl ?hco ?hgen ?hk ?hcell ?_
  case hl0 => exact fun q hq => ⟨(N2 q hq).1, (N2 q hq).2.2⟩
  case ho => k_dflt k_is
  case hcd => k_dflt k_is
  case hroom => show A.depth + 1 < _; omega
  case hb => exact binds_K (show (K1 w.params).In h' from X.keeps F'.keep) rfl (by k_dflt k_is) rfl rfl rfl
  case hl => exact locs rfl
  case hco => exact rfl
  case hgen => exact rfl
  case hk => exact rfl
  case hcell => decide
  intro g2 L2 h2 tk5 kk X2 T2 F2 N3
  have I2 : Ini 39 g2 L2 (fun y => List.lookup y ([("self", Value.ref x), ("key", key), ("value", val), ("cleanup", cln)] : List (Str × Value)).reverse) x dx [] 0 h2 := ⟨F2, N3, ne⟩
  refine wpAny_execs_cons ?_
  refine' as_init I2 X2 (pcN _) ?ha ?he ?hp rfl ?hu (Nat.le_of_ble_eq_true rfl) ?_ rfl
  case hp => (refine' Ini.pvName (by assumption) ?hv ?hk ?hl ?hd; (case hv => exact rfl); (case hk => exact rfl); (case hl => exact rfl); (case hd => decide))
  case ha => exact aN_prev _
  case hu => exact fun _ => rfl
  case he => exact Pv.nn
  intro h3 tk6 t0 I3
  (refine wpAny_execs_cons ?_; refine' as_init (by assumption) (by assumption) (pcN _) ?ha ?he ?hp rfl ?hu (Nat.le_of_ble_eq_true rfl) ?_ rfl; (case hp => (refine' Ini.pvName (by assumption) ?hv ?hk ?hl ?hd; (case hv => exact rfl); (case hk => exact rfl); (case hl => exact rfl); (case hd => decide))))
  case ha => exact aN_next _
  case hu => exact fun _ => rfl
  case he => refine' Ini.pvGlob I3 X2 T2 ?he ?hk ?hx ?hd; (case he => k_dflt k_is); (case hk => exact rfl); (case hx => exact rfl); (case hd => decide)
  intro h4 tk7 t1 I4
  (refine wpAny_execs_cons ?_; refine' as_init (by assumption) (by assumption) (pcN _) ?ha ?he ?hp rfl ?hu (Nat.le_of_ble_eq_true rfl) ?_ rfl; (case hp => (refine' Ini.pvName (by assumption) ?hv ?hk ?hl ?hd; (case hv => exact rfl); (case hk => exact rfl); (case hl => exact rfl); (case hd => decide))))
  case ha => exact aN_key _
  case hu => exact fun _ => rfl
  case he => (refine' Ini.pvName (by assumption) ?hv ?hk ?hl ?hd; (case hv => exact rfl); (case hk => exact rfl); (case hl => exact rfl); (case hd => decide))
  intro h5 tk8 t2 I5
  (refine wpAny_execs_cons ?_; refine' as_init (by assumption) (by assumption) (pcN _) ?ha ?he ?hp rfl ?hu (Nat.le_of_ble_eq_true rfl) ?_ rfl; (case hp => (refine' Ini.pvName (by assumption) ?hv ?hk ?hl ?hd; (case hv => exact rfl); (case hk => exact rfl); (case hl => exact rfl); (case hd => decide))))
  case ha => exact aN_value _
  case hu => exact fun _ => rfl
  case he => (refine' Ini.pvName (by assumption) ?hv ?hk ?hl ?hd; (case hv => exact rfl); (case hk => exact rfl); (case hl => exact rfl); (case hd => decide))
  intro h6 tk9 t3 I6
  (refine wpAny_execs_cons ?_; refine' as_init (by assumption) (by assumption) (pcN _) ?ha ?he ?hp rfl ?hu (Nat.le_of_ble_eq_true rfl) ?_ rfl; (case hp => (refine' Ini.pvName (by assumption) ?hv ?hk ?hl ?hd; (case hv => exact rfl); (case hk => exact rfl); (case hl => exact rfl); (case hd => decide))))
  case ha => exact aN_cln _
  case hu => exact fun _ => rfl
  case he => (refine' Ini.pvName (by assumption) ?hv ?hk ?hl ?hd; (case hv => exact rfl); (case hk => exact rfl); (case hl => exact rfl); (case hd => decide))
  intro h7 tk10 t4 I7
  (refine wpAny_execs_cons ?_; refine' as_init (by assumption) (by assumption) (pcN _) ?ha ?he ?hp rfl ?hu (Nat.le_of_ble_eq_true rfl) ?_ rfl; (case hp => (refine' Ini.pvName (by assumption) ?hv ?hk ?hl ?hd; (case hv => exact rfl); (case hk => exact rfl); (case hl => exact rfl); (case hd => decide))))
  case ha => exact aN_size _
  case hu => exact fun _ => rfl
  case he => exact Pv.nn
  intro h8 tk11 t5 I8
  refine wpAny_execs_nil ⟨rfl, ?_⟩
  have S8 : St 39 175 w g L m st h8 := S'.keep2 (as := [x, dx]) (fun b o n e => I8.F.keep b o (kk b o n e)) fun z hz => by
    rcases List.mem_cons.mp hz with rfl | hz
    · exact ⟨nd _ (Nat.le_of_lt hlt), nx.2⟩
    · rw [List.mem_singleton.mp hz]; exact ⟨nd _ (Nat.le_refl _), ndx.2⟩
  refine q h8 tk11 x dx (fun i => [t0, t1, t2, t3, t4, t5].getD i 0) (nd _ (Nat.le_of_lt hlt)) (nd _ (Nat.le_refl _)) nx.2.2 ndx.2.2 (S8.join (nd _ (Nat.le_of_lt hlt)) (nd _ (Nat.le_refl _)) ne ⟨Nb.none, Nb.none, nk, nv, nc⟩ fun z hz => ?_)
  rcases List.mem_cons.mp hz with rfl | hz
  · exact ⟨(I8.N _ (.head _)).1, nx.2⟩
  · rw [List.mem_singleton.mp hz]; exact ⟨(I8.N _ (.tail _ (.head _))).1, ndx.2⟩
end
section
variable {prog : Program} {w : World} {A : Around} {E : Value → Shared → Prop} {s : Shared} {h : Heap} {tk₀ : Nat} {p : Program} {loose : List Str} {mg mb : Str → Option Value} {h₀ : Heap} {st : LS} {r : Rg}
  {Ky : Type} [DecidableEq Ky] {T' : DT prog w (K1 w.params) Ky} {kvs : List (Ky × Value)} {k : Ky} {D D' : List (Ky × Rg)} {key val : Value}

inductive AddHeld {prog : Program} {w₀ : World} {K : Frag} {CN CL : Addr} {Ky : Type} [DecidableEq Ky] (H : Hook prog w₀ K CN CL) (T' : DT prog w₀ K Ky) (st st1 : LS) (D : List (Ky × Rg)) (kvs : List (Ky × Value)) (k : Ky) (val cln : Value) (r : Rg) : Prop
  | mk (D1 D2 : List (Ky × Rg)) (e : D = D1 ++ (k, r) :: D2) (C : Cst T' st1 D kvs) (h : ∀ y, (st1.F y).val = (if y = r.x then val else (st.F y).val) ∧ (st1.F y).cln = (if y = r.x then cln else (st.F y).cln)) (key : Value) (hk : T'.isK k key) (x : RunC H (st.F r.x).cln key (st.F r.x).val st.ex st1.ex)
structure AddNew {prog : Program} {w₀ : World} {K : Frag} {Ky : Type} [DecidableEq Ky] (T' : DT prog w₀ K Ky) (st st1 : LS) (D : List (Ky × Rg)) (kvs : List (Ky × Value)) (k : Ky) (val cln : Value) (r : Rg) : Prop where
  nk : k ∉ D.map (·.1)
  C : ∃ o₀, Cst T' { st1 with od := o₀ } D kvs
  hr : r ∈ st1.reg
  nr : ∀ a ∈ D, a.2.x ≠ r.x
  kk : T'.isK k (st1.F r.x).key
  nx : (st1.F r.x).next = .none
  pv : (st1.F r.x).prev = .none
  od : OD T' st1.od (kvs ++ [(k, .ref r.x)])
  v : (st1.F r.x).val = val
  c : (st1.F r.x).cln = cln
  same : ∀ a ∈ D, (st1.F a.2.x).val = (st.F a.2.x).val ∧ (st1.F a.2.x).cln = (st.F a.2.x).cln
  ex : st1.ex = st.ex
/-- after the first part of add: the node is at hand, held already or new -/
inductive AddMid {prog : Program} {w : World} {K : Frag} {CN CL : Addr} {Ky : Type} [DecidableEq Ky] (H : Hook prog w K CN CL) (T' : DT prog w K Ky) (g : Heap) (L : Addr) (b : Nat) (st : LS) (h : Heap) (D : List (Ky × Rg)) (kvs : List (Ky × Value)) (k : Ky) (val cln : Value) (h' : Heap) : Prop
  | mk (st1 : LS) (r : Rg) (m' : Str → Option Value) (S : St 39 175 w g L m' st1 h') (e1 : m' "self" = some (.ref st1.c)) (e2 : m' "node" = some (.ref r.x)) (C : Ctr 39 175 w st st1 h h') (F : FixB st st1) (ok : H.ok (D.length + 1 + b) st1.ex) (hl : AddHeld H T' st st1 D kvs k val cln r ∨ AddNew T' st st1 D kvs k val cln r)
/-- after the use of add's node -/
inductive AddUse {prog : Program} {w : World} {K : Frag} {CN CL : Addr} {Ky : Type} [DecidableEq Ky] (H : Hook prog w K CN CL) (T' : DT prog w K Ky) (g : Heap) (L : Addr) (b : Nat) (st : LS) (h : Heap) (D : List (Ky × Rg)) (k : Ky) (val cln : Value) (h' : Heap) : Prop
  | mk (st2 : LS) (m' : Str → Option Value) (D2 : List (Ky × Rg)) (kvs2 : List (Ky × Value)) (S : St 39 175 w g L m' st2 h') (e1 : m' "self" = some (.ref st2.c)) (C : Ctr 39 175 w st st2 h h') (F : FixB st st2) (ok : H.ok (D.length + 1 + b) st2.ex) (old : OldRun H T' (vw st D) k st.ex st2.ex) (K2 : Cst T' st2 D2 kvs2) (e : vw st2 D2 = ins (vw st D) k (val, cln))
/-- add(key, value, cleanup) -/
theorem c_add {Q : Value → Shared → Prop} {pos : List Value} {kw : List (Str × Value)} {cln : Value} (H : Hook prog w (K1 w.params) 39 175) (B : Base (K1 w.params) p loose mg mb h₀ st h) (R : Rep 39 175 w st h) (hroom : A.depth + 6 < recursionLimit) (hu : A.units + 100 < cLine)
   (hb : ∀ oc od fd sl, (K1 w.params).lookup 87 = some ⟨oc, od, .func fd, sl⟩ → BindsTo (up s h tk₀) fd ⟨pos, kw⟩ [("self", Value.ref st.c), ("key", key), ("value", val), ("cleanup", cln)])
   (C : Cst T' st D kvs) (hk : T'.isK k key) (nv : Nb val) (hcl : Cb H cln) (hz : kvs.length + 1 ≤ 100000) {mx af : Int} {tm ta : Tok} (hmx : st.mx = .int mx tm) (haf : st.af = .int af ta) (ha : 0 ≤ af) (hc : ∀ q ∈ D, Cb H (st.F q.2.x).cln) {b : Nat} (hok : H.ok (D.length + 1 + b + 1) st.ex)
   (hQ : ∀ h' tk st', Ctr 39 175 w st st' h h' → AddDone H T' b (vw st D) k (val, cln) mx af st st' → Q .none (up s h' tk)) :
   wpAny (model prog w) A (call (.ref 87) pos kw) Q E (up s h tk₀) := by
  refine' enter (binds := [("self", Value.ref st.c), ("key", key), ("value", val), ("cleanup", cln)]) B R ?ho ?hcd (by omega) ?hb ?hl ?hco ?hgen ?hk ?hcell ?_
  case ho => k_dflt k_is
  case hcd => k_dflt k_is
  case hb => exact hb _ _ _ _ (by k_dflt k_is)
  case hl => exact locs rfl
  case hco => exact rfl
  case hgen => exact rfl
  case hk => exact rfl
  case hcell => decide
  intro g L h1 tk kk k' X T S
  have hu' : ∀ env, (A.deeper env).units + 8 < cLine := fun env => by simp only [Around.deeper_units]; omega
  refine seqP (P := fun h => h = h1) ?_ ?_
  · refine' if_is ?hpl ?hpr ?hc ?_ ?_ rfl
    case hpl => walk_at "pv"
    case hpr => walk_at "pv"
    case hc => exact isB_plain (T'.nb hk)
    · intro q; exact absurd (eq_of_beq q) (T'.notNone hk)
    · intro _ tk; exact wpAny_execs_nil ⟨rfl, h1, tk, rfl, rfl⟩
  rintro h1 tk1 rfl
  -- held or new
  refine seqP (P := AddMid H T' g L b st h D kvs k val cln) ?_ ?_
  · refine' if_in S X (hu' _) ?hpl ?hpr hk C.od C.ne ?_ ?_ (by with_unfolding_all rfl)
    case hpl => walk_at "pv"
    case hpr => walk_at "pv"
    · intro hin tk2
      have hm : k ∈ D.map (·.1) := by
        by_cases q : k ∈ D.map (·.1)
        · exact q
        · rw [C.notAt q] at hin; cases hin
      obtain ⟨D1, r, D2, rfl⟩ := C.split hm
      have hr : r ∈ st.reg := C.sub (k, r) (List.mem_append_right _ (.head _))
      refine wpAny_execs_cons ?_
      refine' as_name S ?he ?_ rfl rfl rfl
      case he =>
        refine' Pv.item S X (hu' _) ?ho ?hi hk C.od (C.at (List.mem_append_right _ (.head _))) ?hs
        case ho => walk_at "pv"
        case hi => walk_at "pv"
        case hs => with_unfolding_all rfl
      intro h2 tk3 S2
      refine wpAny_execs_cons ?_
      refine' ex_ ?_ rfl rfl
      refine' ev_m0 (f := 36) (x := r.x) ?hpo (S2.ninst hr) (X.keeps S2.F.keep) (pcN _) ?hf ?ht ?hkp rfl ?_ rfl
      case hpo => walk_at "pv"
      ((case hf => k_dflt k_is); (case ht => k_dflt k_is); (case hkp => k_dflt k_is))
      intro tk4
      refine c_runc H (S2.base X T) S2.rep (by show A.depth + 1 + 1 < _; omega) (by simp only [Around.deeper_units]; omega) hr (hc _ (List.mem_append_right _ (.head _))) hok fun h3 tk5 ex' hr3 C3 => ?_
      have S3 := S2.after C3
      refine wpAny_execs_cons ?_
      refine' as_node (r := r) S3 X (pcN _) ?he ?hp hr (nVal (aN_value _)) ?hv ?_ rfl
      case he => walk_at "pv"
      case hp => walk_at "pv"
      case hv => exact nv
      intro h4 tk6 S4
      refine wpAny_execs_cons ?_
      refine' as_node (r := r) S4 X (pcN _) ?he ?hp hr (nCln (aN_cln _)) ?hv ?_ rfl
      case he => walk_at "pv"
      case hp => walk_at "pv"
      case hv => exact hcl.nb
      intro h5 tk7 S5
      simp only [clnF, setF_setF, setF_self] at S5
      refine wpAny_execs_nil ⟨rfl, h5, tk7, rfl, _, r, _, S5, rfl, rfl, S5.back kk fun a ha => (C3.fresh a ha).elim .inl (fresh_back kk S2.F), ⟨rfl, rfl, rfl, rfl⟩, hr3.keep hok, .inl ⟨D1, D2, rfl, Cst.congr (Cst.ofEx (ex := ex') C) fun y => ?_, fun y => ?_, _, C.key _ (List.mem_append_right _ (.head _)), hr3⟩⟩
      · show (setF _ _ _ _).prev = _ ∧ (setF _ _ _ _).next = _ ∧ (setF _ _ _ _).key = _
        by_cases hy : y = r.x
        · subst hy; rw [setF_self]; exact ⟨rfl, rfl, rfl⟩
        · rw [setF_ne hy]; exact ⟨rfl, rfl, rfl⟩
      · by_cases hy : y = r.x
        · subst hy; rw [if_pos rfl, if_pos rfl]; show (setF _ _ _ _).val = _ ∧ (setF _ _ _ _).cln = _; rw [setF_self]; exact ⟨rfl, rfl⟩
        · rw [if_neg hy, if_neg hy]; show (setF _ _ _ _).val = _ ∧ (setF _ _ _ _).cln = _; rw [setF_ne hy]; exact ⟨rfl, rfl⟩
    · intro hin tk2
      have hm : k ∉ D.map (·.1) := fun q => by
        obtain ⟨D1, r, D2, rfl⟩ := C.split q
        rw [C.at (List.mem_append_right _ (.head _))] at hin; cases hin
      refine wpAny_execs_cons (wpAny_Assign_Name ?_ rfl)
      refine' ev_make S X T (by show A.depth + 1 + 2 < _; omega) ?he1 ?he2 ?he3 (T'.nb hk) nv hcl.nb rfl rfl rfl rfl rfl ?_
      case he1 => walk_at "pv"
      case he2 => walk_at "pv"
      case he3 => walk_at "pv"
      intro h2 tk3 x dx t nx ndx gx gdx S2
      refine store_ (s := up s h2 tk3) S2 (fun h3 tk4 S3 => ?_) rfl rfl
      show wpAny _ _ (execs _ _) _ _ (up s h3 tk4)
      refine wpAny_execs_cons ?_
      refine' as_item S3 X (hu' _) ?he ?ho ?hi hk C.od (by omega) ?_ rfl
      case he => walk_at "pv"
      case ho => walk_at "pv"
      case hi => walk_at "pv"
      intro h4 o' tk5 ho' S4
      have hst : stored kvs k (.ref x) = kvs ++ [(k, .ref x)] := by
        unfold stored
        rw [if_neg]
        rw [List.any_eq_true]
        rintro ⟨kv, hkv, he⟩
        have : k ∈ (D.map row).map (·.1) := (C.perm.map _).mem_iff.mp (List.mem_map.mpr ⟨kv, hkv, of_decide_eq_true he⟩)
        rw [row_keys] at this
        exact hm this
      rw [hst] at ho'
      have ax : ∀ a ∈ D, a.2.x ≠ x := fun a ha e => nx (by
        rw [← e]
        exact List.mem_cons_of_mem _ (List.mem_cons_of_mem _ (List.mem_cons_of_mem _ (List.mem_append_left _ (mem_regAddrs (C.sub a ha)).1))))
      refine wpAny_execs_nil ⟨rfl, h4, tk5, rfl, _, ⟨x, dx, t⟩, _, S4, rfl, rfl, S4.back kk fun a ha => ?_, ⟨rfl, rfl, rfl, rfl⟩, H.mono hok, .inr ⟨hm, ⟨st.od, ?_⟩, .head _, ax, ?_, ?_, ?_, ho', ?_, ?_, fun a ha => ?_, rfl⟩⟩
      · have none_of : ∀ z, z ∉ addrs st → g.get? z = none → h.get? z = none := fun z hz gz => by
          cases q : h.get? z with
          | none => rfl
          | some o => rw [kk z o hz q] at gz; cases gz
        simp only [addrs, regAddrs, List.mem_cons, List.cons_append, List.mem_append] at ha ⊢
        rcases ha with ha | ha | ha | rfl | rfl | ha
        · exact .inl (.inl ha)
        · exact .inl (.inr (.inl ha))
        · exact .inl (.inr (.inr (.inl ha)))
        · exact .inr (none_of _ nx gx)
        · exact .inr (none_of _ ndx gdx)
        · exact .inl (.inr (.inr (.inr ha)))
      · refine ⟨fun a ha => .tail _ (C.sub a ha), C.nd, ?_, C.mru, C.lru, fun a ha => ?_, C.od, C.perm, C.ne⟩
        · exact seg_off ax C.seg
        · show T'.isK a.1 (setF st.F x _ a.2.x).key
          rw [setF_ne (ax a ha)]; exact C.key a ha
      · show T'.isK k (setF st.F x _ x).key
        rw [setF_self]; exact hk
      · show (setF st.F x _ x).next = _; rw [setF_self]
      · show (setF st.F x _ x).prev = _; rw [setF_self]
      · show (setF st.F x _ x).val = _; rw [setF_self]
      · show (setF st.F x _ x).cln = _; rw [setF_self]
      · show (setF st.F x _ a.2.x).val = _ ∧ (setF st.F x _ a.2.x).cln = _
        rw [setF_ne (ax a ha)]; exact ⟨rfl, rfl⟩
  rintro h2 tk2 ⟨st1, r, m', S1, e1, e2, C1, F1, ok1, hl⟩
  have kf : ∀ {h3 : Heap} {st3 : LS}, Ctr 39 175 w st1 st3 h2 h3 → Ctr 39 175 w st st3 h h3 := fun C3 => C1.trans C3
  -- the use
  refine seqP (P := AddUse H T' g L b st h D k val cln) ?_ ?_
  · refine' ex_ ?_ rfl rfl
    refine' ev_m1 (f := 135) (x := st1.c) (v := .ref r.x) ?hpo ?hpe S1.cinst (X.keeps S1.F.keep) (pcL _) ?hf ?ht ?hkp rfl ?_ rfl rfl rfl
    case hpo => walk_at "pv"
    case hpe => walk_at "pv"
    ((case hf => k_dflt k_is); (case ht => k_dflt k_is); (case hkp => k_dflt k_is))
    intro tk3
    rcases hl with ⟨D1, D2, rfl, K1, hv, key', hk', hx'⟩ | N1
    · refine c_hit (S1.base X T) S1.rep (by show A.depth + 1 < _; omega) (by simp only [Around.deeper_units]; omega) K1 fun h3 tk4 st3 C3 F3 K3 e3 => ?_
      refine ⟨rfl, h3, tk4, rfl, st3, m', _, kvs, S1.after C3, by rw [F3.c]; exact e1, kf C3, F1.trans F3.b, by rw [F3.ex]; exact ok1, ?_, K3, ?_⟩
      · unfold OldRun; rw [C.look_hit.1, F3.ex]; exact ⟨key', hk', hx'⟩
      have hnd := K1.nd
      rw [List.map_append, List.nodup_append] at hnd
      have hnd2 := hnd.2.1
      rw [List.map_cons, List.nodup_cons] at hnd2
      rw [vw_cons]
      unfold ins
      rw [C.look_hit.2, (e3 r.x).1, (e3 r.x).2.1, (hv r.x).1, (hv r.x).2, if_pos rfl, if_pos rfl]
      refine congrArg _ (vw_congr fun a ha => ?_)
      have hne : a.2.x ≠ r.x := by
        rcases List.mem_append.mp ha with q | q
        · exact hnd.2.2 _ (List.mem_map_of_mem (f := fun q : Ky × Rg => q.2.x) q) _ (.head _)
        · exact fun e => hnd2.1 (by show r.x ∈ _; rw [← e]; exact List.mem_map_of_mem (f := fun q : Ky × Rg => q.2.x) q)
      rw [(e3 a.2.x).1, (e3 a.2.x).2.1, (hv a.2.x).1, (hv a.2.x).2, if_neg hne, if_neg hne]
      exact ⟨rfl, rfl⟩
    · obtain ⟨o₀, K1⟩ := N1.C
      refine c_fresh (S1.base X T) S1.rep (by show A.depth + 1 < _; omega) (by simp only [Around.deeper_units]; omega) K1 N1.hr N1.nr N1.kk N1.nx N1.pv N1.od rfl fun h3 tk4 st3 C3 F3 K3 e3 => ?_
      refine ⟨rfl, h3, tk4, rfl, st3, m', _, _, S1.after C3, by rw [F3.c]; exact e1, kf C3, F1.trans F3.b, by rw [F3.ex]; exact ok1, ?_, K3, ?_⟩
      · unfold OldRun; rw [(C.look_miss N1.nk).1, F3.ex]; exact N1.ex
      rw [vw_cons]
      unfold ins
      rw [(C.look_miss N1.nk).2.2, (e3 r.x).1, (e3 r.x).2.1, N1.v, N1.c]
      refine congrArg _ (vw_congr fun a ha => ?_)
      rw [(e3 a.2.x).1, (e3 a.2.x).2.1]; exact N1.same a ha
  rintro h3 tk3 ⟨st2, m2, D2, kvs2, S2, e1, C2, F2, ok2, old2, K2, e3⟩
  refine gen_ (a := ins (vw st D) k (val, cln)) fun W hW => ?_
  have hWc : ∀ e ∈ W, Cb H e.2.2 := by
    rw [← hW]
    intro e he
    rcases List.mem_cons.mp he with rfl | he
    · exact hcl
    · obtain ⟨a, ha, rfl⟩ := List.mem_map.mp (List.mem_filter.mp he).1
      exact hc a ha
  have hlen : kvs2.length = W.length := by rw [← hW, ← e3, K2.len]; unfold vw; rw [List.length_map]
  have hD2 : D2.length ≤ D.length + 1 := by
    have h1 : (rest (vw st D) k).length ≤ (vw st D).length := List.length_filter_le _ _
    have h2 : (vw st D).length = D.length := by unfold vw; rw [List.length_map]
    rw [← K2.len, hlen, ← hW]
    exact Nat.succ_le_succ (h2 ▸ h1)
  have hz2 : kvs2.length ≤ 100000 := by
    have h1 : (rest (vw st D) k).length ≤ (vw st D).length := List.length_filter_le _ _
    have h2 : (vw st D).length = D.length := by unfold vw; rw [List.length_map]
    have h3 := C.len
    rw [hlen, ← hW]; show (_ :: rest (vw st D) k).length ≤ _
    rw [List.length_cons]; omega
  rw [hW] at e3
  refine wpAny_execs_cons ?_
  refine' if_gt (a := (kvs2.length : Int)) (b := mx) (tb := tm) ?hpl ?hpr ?_ ?_ (by with_unfolding_all rfl)
  case hpl =>
    refine PvE.len S2 X ?hfn ?hdd K2.od K2.ne hz2 rfl rfl rfl
    case hfn => refine' Pv.builtin S2 X T ?he rfl ?hn rfl rfl ?hd; (case he => k_dflt k_is); (case hn => decide); (case hd => decide)
    case hdd => walk_at "pv"
  case hpr =>
    refine Pv.eq (v := st2.mx) ?_ (F2.mx.trans hmx)
    walk_at "pv"
  · intro hgt tk4
    refine wpAny_execs_cons ?_
    refine' ex_ ?_ rfl rfl
    refine' ev_m0 (f := 121) (x := st2.c) ?hpo S2.cinst (X.keeps S2.F.keep) (pcL _) ?hf ?ht ?hkp rfl ?_ rfl
    case hpo => walk_at "pv"
    ((case hf => k_dflt k_is); (case ht => k_dflt k_is); (case hkp => k_dflt k_is))
    intro tk5
    refine c_cleanup H (S2.base X T) S2.rep (by show A.depth + 1 + 4 < _; omega) (by simp only [Around.deeper_units]; omega) K2 hz2 (F2.af.trans haf) ha (fun q hq => hWc _ (e3 ▸ List.mem_map.mpr ⟨q, hq, rfl⟩ : (q.1, (st2.F q.2.x).val, (st2.F q.2.x).cln) ∈ W)) (H.le (Nat.add_le_add_right hD2 b) ok2) fun h4 tk6 st4 kvs4 C4 K4 => ?_
    have S4 := S2.after C4
    refine wpAny_execs_nil (wpAny_execs_nil ?_)
    show Q .none (up s h4 tk6)
    refine hQ h4 tk6 st4 (S4.back kk (C2.trans C4).fresh) ⟨st2.ex, _, kvs4, F2.trans K4.fx.b, K4.C, H.le (Nat.le_add_left _ _) K4.ok, old2, .inl ⟨?_, ?_, ?_⟩⟩
    · rw [hW, ← hlen]; exact hgt
    · rw [hW, K4.ev, ← e3]; unfold vw; rw [List.map_take]
    · rw [hW, ← e3]; exact K4.runs
  · intro hgt tk4
    refine wpAny_execs_nil (wpAny_execs_nil ?_)
    show Q .none (up s h3 tk4)
    refine hQ h3 tk4 st2 (S2.back kk C2.fresh) ⟨st2.ex, D2, kvs2, F2, K2, H.le (Nat.le_add_left _ _) ok2, old2, .inr ⟨?_, ?_, rfl⟩⟩
    · rw [hW, ← hlen]; exact hgt
    · rw [hW]; exact e3
end
section
variable {prog : Program} {w : World} {A : Around} {E : Value → Shared → Prop} {s : Shared} {h : Heap} {tk₀ : Nat} {p : Program} {loose : List Str} {mg mb : Str → Option Value} {h₀ : Heap} {st : LS} {r : Rg}
  {Ky : Type} [DecidableEq Ky] {T' : DT prog w (K1 w.params) Ky} {kvs : List (Ky × Value)} {k : Ky} {D D' : List (Ky × Rg)} {key val : Value}

theorem Cst.isSome (C : Cst T' st D kvs) : (valueAt kvs k).isSome = (look (vw st D) k).isSome := by
  by_cases hm : k ∈ D.map (·.1)
  · obtain ⟨D1, r, D2, rfl⟩ := C.split hm
    rw [C.at (k := k) (r := r) (List.mem_append_right _ (.head _)), C.look_hit.1]; rfl
  · rw [C.notAt hm, (C.look_miss hm).1]; rfl

/-- key in cache -/
theorem c_in {Q : Value → Shared → Prop} (B : Base (K1 w.params) p loose mg mb h₀ st h) (R : Rep 39 175 w st h) (hroom : A.depth < recursionLimit) (hu : A.units + 16 < cLine)
   (C : Cst T' st D kvs) (hk : T'.isK k key)
   (hQ : ∀ h' tk, Ctr 39 175 w st st h h' → Q (.bool (look (vw st D) k).isSome) (up s h' tk)) :
   wpAny (model prog w) A (call (.ref 65) [.ref st.c, key]) Q E (up s h tk₀) := by
  refine' enter (binds := [("self", Value.ref st.c), ("key", key)]) B R ?ho ?hcd (by omega) ?hb ?hl ?hco ?hgen ?hk ?hcell ?_
  ((case ho => k_dflt k_is); (case hcd => k_dflt k_is); (case hb => exact BindsTo.of_eq rfl); (case hl => exact locs rfl); (case hco => exact rfl); (case hgen => exact rfl); (case hk => exact rfl); (case hcell => decide))
  intro g L h1 tk kk k' X T S
  have hu' : ∀ env, (A.deeper env).units + 8 < cLine := fun env => by simp only [Around.deeper_units]; omega
  refine wpAny_execs_cons ?_
  refine' ret_ ?hp ?_
  case hp =>
    refine' Pv.isIn S X (hu' _) ?hl ?hr hk C.od C.ne (by with_unfolding_all rfl)
    case hl => walk_at "pv"
    case hr => walk_at "pv"
  intro tk2
  show Q (.bool (valueAt kvs k).isSome) _
  rw [C.isSome]
  exact hQ _ _ (S.back kk fun a ha => .inl ha)
/-- len(cache) -/
theorem c_len {Q : Value → Shared → Prop} (B : Base (K1 w.params) p loose mg mb h₀ st h) (R : Rep 39 175 w st h) (hroom : A.depth < recursionLimit) (hu : A.units + 16 < cLine)
   (C : Cst T' st D kvs) (hz : kvs.length ≤ 100000)
   (hQ : ∀ h' tk t, Ctr 39 175 w st st h h' → Q (.int D.length t) (up s h' tk)) :
   wpAny (model prog w) A (call (.ref 79) [.ref st.c]) Q E (up s h tk₀) := by
  refine' enter (binds := [("self", Value.ref st.c)]) B R ?ho ?hcd (by omega) ?hb ?hl ?hco ?hgen ?hk ?hcell ?_
  ((case ho => k_dflt k_is); (case hcd => k_dflt k_is); (case hb => exact BindsTo.of_eq rfl); (case hl => exact locs rfl); (case hco => exact rfl); (case hgen => exact rfl); (case hk => exact rfl); (case hcell => decide))
  intro g L h1 tk kk k' X T S
  refine wpAny_execs_cons ?_
  refine' ret_E (P := fun v => ∃ t, v = .int kvs.length t) ?hp ?_
  case hp =>
    refine PvE.len S X ?hfn ?hdd C.od C.ne hz rfl rfl rfl
    case hfn => refine' Pv.builtin S X T ?he rfl ?hn rfl rfl ?hd; (case he => k_dflt k_is); (case hn => decide); (case hd => decide)
    case hdd => walk_at "pv"
  rintro v tk2 ⟨t, rfl⟩
  show Q (.int (kvs.length : Nat) t) _
  rw [C.len]
  exact hQ _ _ _ (S.back kk fun a ha => .inl ha)
/-- cache_size() -/
theorem c_size {Q : Value → Shared → Prop} (B : Base (K1 w.params) p loose mg mb h₀ st h) (R : Rep 39 175 w st h) (hroom : A.depth < recursionLimit)
   (hQ : ∀ h' tk, Ctr 39 175 w st st h h' → Q st.mx (up s h' tk)) :
   wpAny (model prog w) A (call (.ref 94) [.ref st.c]) Q E (up s h tk₀) := by
  refine' enter (binds := [("self", Value.ref st.c)]) B R ?ho ?hcd (by omega) ?hb ?hl ?hco ?hgen ?hk ?hcell ?_
  ((case ho => k_dflt k_is); (case hcd => k_dflt k_is); (case hb => exact BindsTo.of_eq rfl); (case hl => exact locs rfl); (case hco => exact rfl); (case hgen => exact rfl); (case hk => exact rfl); (case hcell => decide))
  intro g L h1 tk kk k' X T S
  refine wpAny_execs_cons ?_
  refine' ret_ ?hp ?_
  case hp => walk_at "pv"
  intro tk2
  exact hQ _ _ (S.back kk fun a ha => .inl ha)

/-- what a resize leaves -/
structure ResD (H : Hook prog w (K1 w.params) 39 175) (T' : DT prog w (K1 w.params) Ky) (b : Nat) (D : List (Ky × Rg)) (st st' : LS) (n : Int) (a : Option Int) (tn : Tok) (kvs' : List (Ky × Value)) : Prop where
  c : st'.c = st.c
  mx : st'.mx = .int n tn
  af : IsI (keepOf n a) st'.af
  C : Cst T' st' (D.take (keepOf n a).toNat) kvs'
  ev : vw st' (D.take (keepOf n a).toNat) = vw st (D.take (keepOf n a).toNat)
  ok : H.ok b st'.ex
  runs : Runs H T' ((vw st D).drop (keepOf n a).toNat) st.ex st'.ex
inductive UpdP (T' : DT prog w (K1 w.params) Ky) (g : Heap) (L : Addr) (m' : Str → Option Value) (st : LS) (D : List (Ky × Rg)) (kvs : List (Ky × Value)) (n : Int) (a : Option Int) (tn : Tok) (h' : Heap) : Prop
  | mk (st1 : LS) (S : St 39 175 w g L m' st1 h') (mx : st1.mx = .int n tn) (af : IsI (keepOf n a) st1.af) (c : st1.c = st.c) (C : Cst T' st1 D kvs) (ex : st1.ex = st.ex) (F : st1.F = st.F) (ad : addrs st1 = addrs st)
/-- _update_max_cache(n, after) -/
theorem c_upd {Q : Value → Shared → Prop} {pos : List Value} {kw : List (Str × Value)} {a : Option Int} {va : Value} (H : Hook prog w (K1 w.params) 39 175) (B : Base (K1 w.params) p loose mg mb h₀ st h) (R : Rep 39 175 w st h) (hroom : A.depth + 5 < recursionLimit) (hu : A.units + 90 < cLine) (hh : A.handled = none)
   {n : Int} {tn : Tok} (hb : ∀ oc od fd sl, (K1 w.params).lookup 172 = some ⟨oc, od, .func fd, sl⟩ → BindsTo (up s h tk₀) fd ⟨pos, kw⟩ [("self", Value.ref st.c), ("max_cache", .int n tn), ("after_cleanup_count", va)])
   (C : Cst T' st D kvs) (hz : kvs.length ≤ 100000) (hn0 : 0 ≤ n) (hva : IsO a va) (ha0 : ∀ i, a = some i → 0 ≤ i) (hc : ∀ q ∈ D, Cb H (st.F q.2.x).cln) {b : Nat} (hok : H.ok (D.length + b) st.ex)
   (hQ : ∀ h' tk st' kvs', Ctr 39 175 w st st' h h' → ResD H T' b D st st' n a tn kvs' → Q .none (up s h' tk)) :
   wpAny (model prog w) A (call (.ref 172) pos kw) Q E (up s h tk₀) := by
  refine' enter (binds := [("self", Value.ref st.c), ("max_cache", .int n tn), ("after_cleanup_count", va)]) B R ?ho ?hcd (by omega) ?hb ?hl ?hco ?hgen ?hk ?hcell ?_
  case ho => k_dflt k_is
  case hcd => k_dflt k_is
  case hb => exact hb _ _ _ _ (by k_dflt k_is)
  case hl => exact locs rfl
  case hco => exact rfl
  case hgen => exact rfl
  case hk => exact rfl
  case hcell => decide
  intro g L h1 tk kk k' X T S
  obtain ⟨m', S, ms, mm, ma⟩ : ∃ m', St 39 175 w g L m' st h1 ∧ m' "self" = some (.ref st.c) ∧ m' "max_cache" = some (.int n tn) ∧ m' "after_cleanup_count" = some va := ⟨_, S, rfl, rfl, rfl⟩
  (refine wpAny_execs_cons ?_; refine' as_cache (by assumption) (by assumption) (pcL _) ?he ?hp ?hn ?hv ?_ rfl; (case he => walk_at "pv"); (case hp => walk_at "pv"); (case hn => walk_at "CF"))
  case hv => exact Nb.int
  intro h2 tk2 S2
  refine seqP (P := UpdP T' g L m' st D kvs n a tn) ?_ ?_
  · refine' if_is ?hpl ?hpr ?hc ?_ ?_ rfl
    case hpl => walk_at "pv"
    case hpr => walk_at "pv"
    case hc => exact isB_plain hva.nb
    · intro q tk3
      cases a with
      | some i => obtain ⟨t, rfl⟩ := hva; cases q
      | none =>
        refine wpAny_execs_cons ?_
        refine' as_cacheE (P := IsI ((n * 8).fdiv 10)) S2 X (pcL _) ?he ?hp (cAf (aL_after _)) (fun v hv => hv.nb) ?_ rfl
        case he =>
          refine PvI.fdiv (PvI.mul (PvI.of (t := tn) ?hm) PvI.const ?hmul) PvI.const (by decide) (by decide)
          case hm => (refine' Pv.eq ?x ?y; (case x => walk_at "pv"); (case y => rfl))
          case hmul => exact IntMulOk.of_right (by decide)
        case hp => walk_at "pv"
        intro v hv h3 tk4 S3
        exact wpAny_execs_nil ⟨rfl, h3, tk4, rfl, _, S3, rfl, hv, rfl, ⟨C.sub, C.nd, C.seg, C.mru, C.lru, C.key, C.od, C.perm, C.ne⟩, rfl, rfl, rfl⟩
    · intro q tk3
      cases a with
      | none => rw [show va = .none from hva] at q; cases q
      | some i =>
        obtain ⟨t, rfl⟩ := hva
        refine wpAny_execs_cons ?_
        refine' as_cacheW (P := IsI (min i n)) S2 X (pcL _) (fun Q' q' => ?he) (fun h' S' => ?hp) (cAf (aL_after _)) (fun v hv => hv.nb) ?_ rfl
        case he =>
          refine ev_min ?hfn (PvI.of (t := t) ?h1) (PvI.of (t := tn) ?h2) hh q' rfl rfl rfl rfl
          case hfn => refine' Pv.builtin S2 X T ?he rfl ?hn rfl rfl ?hd; (case he => k_dflt k_is); (case hn => decide); (case hd => decide)
          case h1 => walk_at "pv"
          case h2 => (refine' Pv.eq ?x ?y; (case x => walk_at "pv"); (case y => rfl))
        case hp => walk_at "pv"
        intro v hv h3 tk4 S3
        exact wpAny_execs_nil ⟨rfl, h3, tk4, rfl, _, S3, rfl, hv, rfl, ⟨C.sub, C.nd, C.seg, C.mru, C.lru, C.key, C.od, C.perm, C.ne⟩, rfl, rfl, rfl⟩
  rintro h3 tk3 ⟨st1, S3, e1, ⟨ta, hta⟩, e3, C3, e4, e5, e6⟩
  rw [← e3] at ms
  refine wpAny_execs_cons ?_
  refine' ex_ ?_ rfl rfl
  refine' ev_m0 (f := 121) (x := st1.c) ?hpo S3.cinst (X.keeps S3.F.keep) (pcL _) ?hf ?ht ?hkp rfl ?_ rfl
  case hpo => walk_at "pv"
  ((case hf => k_dflt k_is); (case ht => k_dflt k_is); (case hkp => k_dflt k_is))
  intro tk4
  have e7 : ∀ D : List (Ky × Rg), vw st1 D = vw st D := fun D => by unfold vw; rw [e5]
  refine c_cleanup H (S3.base X T) S3.rep (by show A.depth + 1 + 4 < _; omega) (by simp only [Around.deeper_units]; omega) C3 hz hta (keepOf_nonneg hn0 ha0) (fun q hq => by rw [e5]; exact hc q hq) (e4 ▸ hok) fun h4 tk5 st4 kvs4 C4 K4 => ?_
  have S4 := S3.after C4
  refine wpAny_execs_nil (hQ h4 tk5 st4 kvs4 (S4.back kk fun a ha => ?_) ⟨K4.fx.c.trans e3, K4.fx.mx.trans e1, ⟨ta, K4.fx.af.trans hta⟩, K4.C, K4.ev.trans (e7 _), H.le (Nat.le_add_left _ _) K4.ok, ?_⟩)
  · exact (C4.fresh a ha).elim (fun q => .inl (e6 ▸ q)) (fresh_back kk S3.F)
  · rw [← e4, ← e7]; exact K4.runs
/-- resize(n, after) -/
theorem c_resize {Q : Value → Shared → Prop} {a : Option Int} {va : Value} (H : Hook prog w (K1 w.params) 39 175) (B : Base (K1 w.params) p loose mg mb h₀ st h) (R : Rep 39 175 w st h) (hroom : A.depth + 6 < recursionLimit) (hu : A.units + 100 < cLine) (hh : A.handled = none)
   {n : Int} {tn : Tok} (C : Cst T' st D kvs) (hz : kvs.length ≤ 100000) (hn0 : 0 ≤ n) (hva : IsO a va) (ha0 : ∀ i, a = some i → 0 ≤ i) (hc : ∀ q ∈ D, Cb H (st.F q.2.x).cln) {b : Nat} (hok : H.ok (D.length + b) st.ex)
   (hQ : ∀ h' tk st' kvs', Ctr 39 175 w st st' h h' → ResD H T' b D st st' n a tn kvs' → Q .none (up s h' tk)) :
   wpAny (model prog w) A (call (.ref 164) [.ref st.c, .int n tn, va]) Q E (up s h tk₀) := by
  refine' enter (binds := [("self", Value.ref st.c), ("max_cache", .int n tn), ("after_cleanup_count", va)]) B R ?ho ?hcd (by omega) ?hb ?hl ?hco ?hgen ?hk ?hcell ?_
  case ho => k_dflt k_is
  case hcd => k_dflt k_is
  case hb => exact binds_K (show (K1 w.params).In h from B.X.keeps B.stays) rfl (by k_dflt k_is) rfl rfl rfl
  case hl => exact locs rfl
  case hco => exact rfl
  case hgen => exact rfl
  case hk => exact rfl
  case hcell => decide
  intro g L h1 tk kk k' X T S
  refine wpAny_execs_cons ?_
  refine' ex_ ?_ rfl rfl
  refine' ev_mk1 (f := 172) (x := st.c) (v := .int n tn) (v2 := va) ?hpo ?hp1 ?hp2 S.cinst (X.keeps S.F.keep) (pcL _) ?hf ?ht ?hkp rfl ?_ rfl rfl rfl rfl
  case hpo => walk_at "pv"
  case hp1 => walk_at "pv"
  case hp2 => walk_at "pv"
  ((case hf => k_dflt k_is); (case ht => k_dflt k_is); (case hkp => k_dflt k_is))
  intro tk2
  refine c_upd (tn := tn) H (S.base X T) S.rep (by show A.depth + 1 + 5 < _; omega) (by simp only [Around.deeper_units]; omega) hh (fun oc od fd sl e => ?hbd) C hz hn0 hva ha0 hc hok fun h4 tk5 st4 kvs4 C4 R4 => ?_
  case hbd =>
    rw [show (K1 w.params).lookup 172 = some _ by k_dflt k_is] at e
    cases e
    exact binds_K (show (K1 w.params).In h1 from X.keeps S.F.keep) rfl (by k_dflt k_is) rfl rfl rfl
  have S4 := S.after C4
  exact wpAny_execs_nil (hQ h4 tk5 st4 kvs4 (S4.back kk fun a ha => (C4.fresh a ha).elim .inl (fresh_back kk S.F)) R4)
end
section
variable {prog : Program} {w : World} {A : Around} {E : Value → Shared → Prop} {s : Shared} {g h : Heap} {L : Addr} {m : Str → Option Value} {tk tk₀ : Nat} {p : Program} {loose : List Str} {mg mb : Str → Option Value} {h₀ : Heap} {st : LS} {r : Rg}
  {Ky : Type} [DecidableEq Ky] {T' : DT prog w (K1 w.params) Ky} 

inductive NewP (w : World) (g : Heap) (L : Addr) (m : Str → Option Value) (x dx dd : Addr) (t0 t1 t2 t3 tn : Tok) (n : Int) (a : Option Int) (h' : Heap) : Prop
  | mk (v : Value) (t4 : Tok) (hv : IsI (keepOf n a) v) (I : IniX 175 g L m x dx (cacheEs w.params (fun i => [t0, t1, t2, t3, t4].getD i 0) dd .none .none (.int n tn) v) 5 [(dd, dictOf [] 0)] h')
/-- LRUCache(n, after) -/
theorem c_new {Q : Value → Shared → Prop} {n : Int} {tn : Tok} {a : Option Int} {va : Value} {news : List (Addr × Obj)} (F : Fr g L h m) (N : News g L h news) (hnd : (news.map (·.1)).Nodup) (X : (K1 w.params).In g) (T : TopRead p loose mg mb g) (hroom : A.depth + 8 < recursionLimit) (hu : A.units + 100 < cLine) (hh : A.handled = none)
   (hn0 : 0 ≤ n) (hva : IsO a va) (ha0 : ∀ i, a = some i → 0 ≤ i)
   (hQ : ∀ h' tk st, St 39 175 w g L m st h' → Cst T' st [] [] → st.ex = news → st.mx = .int n tn → IsI (keepOf n a) st.af → Q (.ref st.c) (up s h' tk)) :
   wpAny (model prog w) A (call (.ref 175) [.int n tn, va] []) Q E (up s h tk₀) := by
  refine call_cls (s := up s h tk₀) (news := news) F X N (by k_dflt k_is) (by k_dflt k_is) (by k_dflt k_is) fun x dx h' F' N' hd hlt => ?_
  have ne : x ≠ dx := fun e => Nat.lt_irrefl dx (e ▸ hlt)
  refine' enterN (s := s) (h := h') (tk₀ := tk₀) (l := [(x, instObj 175 dx), (dx, dictOf [] 0)]) (binds := [("self", Value.ref x), ("max_cache", .int n tn), ("after_cleanup_count", va)]) X T F'.keep ?hl0 ?ho ?hcd ?hroom ?hb ?hl ?hco ?hgen ?hk ?hcell ?_
  case hl0 =>
    intro q hq
    have hq' : q ∈ (x, instObj 175 dx) :: (dx, dictOf [] 0) :: news := by
      rcases List.mem_cons.mp hq with rfl | hq
      · exact .head _
      · rw [List.mem_singleton.mp hq]; exact .tail _ (.head _)
    exact ⟨(N' q hq').1, (N' q hq').2.2⟩
  case ho => k_dflt k_is
  case hcd => k_dflt k_is
  case hroom => show A.depth + 1 < _; omega
  case hb =>
    exact binds_K (show (K1 w.params).In h' from X.keeps F'.keep) rfl (by k_dflt k_is) rfl rfl rfl
  case hl => exact locs rfl
  case hco => exact rfl
  case hgen => exact rfl
  case hk => exact rfl
  case hcell => decide
  intro g2 L2 h2 tk5 kk X2 T2 F2 N3
  have I2 : IniX 175 g2 L2 (fun y => List.lookup y ([("self", Value.ref x), ("max_cache", .int n tn), ("after_cleanup_count", va)] : List (Str × Value)).reverse) x dx [] 0 [] h2 := ⟨F2, N3, ne, fun q hq => nomatch hq⟩
  refine wpAny_execs_cons ?_
  refine' as_iniD I2 X2 (pcL _) ?ha ?hp rfl ?hu (Nat.le_of_ble_eq_true rfl) ?_ rfl
  case hp => intro h I; (refine' IniX.pvName (by assumption) ?hv ?hk ?hl ?hd; (case hv => exact rfl); (case hk => exact rfl); (case hl => exact rfl); (case hd => decide))
  case ha => exact aL_cache _
  case hu => exact fun _ _ => rfl
  intro h3 tk6 t0 dd ddL0 I3
  have c1 : g2.get? dd = none := (I3.N _ (.tail _ (.tail _ (.head _)))).2.2
  refine wpAny_execs_cons ?_
  refine' as_iniX I3 X2 (pcL _) ?ha ?he ?hp rfl ?hu (Nat.le_of_ble_eq_true rfl) ?_ rfl
  case hp => (refine' IniX.pvName (by assumption) ?hv ?hk ?hl ?hd; (case hv => exact rfl); (case hk => exact rfl); (case hl => exact rfl); (case hd => decide))
  case ha => exact aL_mru _
  case hu => exact fun _ => rfl
  case he => exact Pv.nn
  intro h4 tk7 t1 I4
  refine wpAny_execs_cons ?_
  refine' as_iniX I4 X2 (pcL _) ?ha ?he ?hp rfl ?hu (Nat.le_of_ble_eq_true rfl) ?_ rfl
  case hp => (refine' IniX.pvName (by assumption) ?hv ?hk ?hl ?hd; (case hv => exact rfl); (case hk => exact rfl); (case hl => exact rfl); (case hd => decide))
  case ha => exact aL_lru _
  case hu => exact fun _ => rfl
  case he => exact Pv.nn
  intro h5 tk8 t2 I5
  refine wpAny_execs_cons ?_
  refine' ex_ ?_ rfl rfl
  refine' ev_m2 (f := 172) (x := x) (v := .int n tn) (v2 := va) ?hpo ?hp1 ?hp2 (W.InstAt.of_news I5.N (.head _) (.tail _ (.head _))) (X2.keeps I5.F.keep) (pcL _) ?hf ?ht ?hkp rfl ?_ rfl rfl rfl rfl
  case hpo => (refine' IniX.pvName (by assumption) ?hv ?hk ?hl ?hd; (case hv => exact rfl); (case hk => exact rfl); (case hl => exact rfl); (case hd => decide))
  case hp1 => (refine' IniX.pvName (by assumption) ?hv ?hk ?hl ?hd; (case hv => exact rfl); (case hk => exact rfl); (case hl => exact rfl); (case hd => decide))
  case hp2 => (refine' IniX.pvName (by assumption) ?hv ?hk ?hl ?hd; (case hv => exact rfl); (case hk => exact rfl); (case hl => exact rfl); (case hd => decide))
  ((case hf => k_dflt k_is); (case ht => k_dflt k_is); (case hkp => k_dflt k_is))
  intro tk9
  refine wpAny_call ?_
  refine' enterN (s := s) (h := h5) (tk₀ := tk9) (h₀ := g2) (binds := [("self", Value.ref x), ("max_cache", .int n tn), ("after_cleanup_count", va)]) X2 T2 I5.F.keep (fun q hq => ⟨(I5.N q hq).1, (I5.N q hq).2.2⟩) ?ho ?hcd ?hroom ?hb ?hl ?hco ?hgen ?hk ?hcell ?_
  case ho => k_dflt k_is
  case hcd => k_dflt k_is
  case hroom => show A.depth + 1 + 1 < _; omega
  case hb => exact binds_K (show (K1 w.params).In h5 from X2.keeps I5.F.keep) rfl (by k_dflt k_is) rfl rfl rfl
  case hl => exact locs rfl
  case hco => exact rfl
  case hgen => exact rfl
  case hk => exact rfl
  case hcell => decide
  intro g6 L6 h6 tk10 kk6 X6 T6 F6 N6
  have I6 : IniX 175 g6 L6 (fun y => List.lookup y ([("self", Value.ref x), ("max_cache", .int n tn), ("after_cleanup_count", va)] : List (Str × Value)).reverse) x dx _ _ [(dd, dictOf [] 0)] h6 := ⟨F6, N6, ne, I5.off⟩
  refine wpAny_execs_cons ?_
  refine' as_iniX I6 X6 (pcL _) ?ha ?he ?hp rfl ?hu (Nat.le_of_ble_eq_true rfl) ?_ rfl
  case hp => (refine' IniX.pvName (by assumption) ?hv ?hk ?hl ?hd; (case hv => exact rfl); (case hk => exact rfl); (case hl => exact rfl); (case hd => decide))
  case ha => exact aL_max _
  case hu => exact fun _ => rfl
  case he => (refine' IniX.pvName (by assumption) ?hv ?hk ?hl ?hd; (case hv => exact rfl); (case hk => exact rfl); (case hl => exact rfl); (case hd => decide))
  intro h7 tk11 t3 I7
  obtain ⟨m6, J7, ms, mm, ma⟩ : ∃ m6, IniX 175 g6 L6 m6 x dx _ _ [(dd, dictOf [] 0)] h7 ∧ m6 "self" = some (.ref x) ∧ m6 "max_cache" = some (.int n tn) ∧ m6 "after_cleanup_count" = some va := ⟨_, I7, rfl, rfl, rfl⟩
  refine seqP (P := NewP w g6 L6 m6 x dx dd t0 t1 t2 t3 tn n a) ?_ ?_
  · refine' if_is ?hpl ?hpr ?hc ?_ ?_ rfl
    case hpl => refine' IniX.pvName J7 ma rfl rfl ?hd; (case hd => decide)
    case hpr => exact Pv.nn
    case hc => exact isB_plain hva.nb
    · intro q tk12
      cases a with
      | some i => obtain ⟨t, rfl⟩ := hva; cases q
      | none =>
        refine wpAny_execs_cons ?_
        refine' as_iniE (P := IsI ((n * 8).fdiv 10)) J7 X6 (pcL _) ?ha ?he ?hp rfl ?hu (Nat.le_of_ble_eq_true rfl) ?_ rfl
        case hp => refine' IniX.pvName J7 ms rfl rfl ?hd; (case hd => decide)
        case ha => exact aL_after _
        case hu => exact fun _ _ => rfl
        case he =>
          refine PvI.fdiv (PvI.mul (PvI.of (t := tn) ?hm) PvI.const ?hmul) PvI.const (by decide) (by decide)
          case hm =>
            refine IniX.attr J7 X6 (pcL _) ?hp1 (aL_max _) rfl Nb.int rfl
            case hp1 => refine' IniX.pvName J7 ms rfl rfl ?hd; (case hd => decide)
          case hmul => exact IntMulOk.of_right (by decide)
        intro v hv h8 tk13 t4 I8
        exact wpAny_execs_nil ⟨rfl, h8, tk13, rfl, v, t4, hv, I8⟩
    · intro q tk12
      cases a with
      | none => rw [show va = .none from hva] at q; cases q
      | some i =>
        obtain ⟨t, rfl⟩ := hva
        refine wpAny_execs_cons ?_
        refine' as_iniW (P := IsI (min i n)) J7 X6 (pcL _) ?ha (fun Q' q' => ?he) (fun h' I' => ?hp) rfl ?hu (Nat.le_of_ble_eq_true rfl) ?_ rfl
        case hp => refine' IniX.pvName I' ms rfl rfl ?hd; (case hd => decide)
        case ha => exact aL_after _
        case hu => exact fun _ _ => rfl
        case he =>
          refine ev_min ?hfn (PvI.of (t := t) ?h1) (PvI.of (t := tn) ?h2) hh q' rfl rfl rfl rfl
          case hfn => exact fun s Q E hs q => by subst hs; exact name_B J7.F X6 T6 (by k_dflt k_is) (by decide +kernel) (by decide) (q s.toks) rfl rfl (by decide)
          case h1 => refine' IniX.pvName J7 ma rfl rfl ?hd; (case hd => decide)
          case h2 =>
            refine IniX.attr J7 X6 (pcL _) ?hp1 (aL_max _) rfl Nb.int rfl
            case hp1 => refine' IniX.pvName J7 ms rfl rfl ?hd; (case hd => decide)
        intro v hv h8 tk13 t4 I8
        exact wpAny_execs_nil ⟨rfl, h8, tk13, rfl, v, t4, hv, I8⟩
  rintro h8 tk12 ⟨v, t4, ⟨ta, rfl⟩, I8⟩
  obtain ⟨st, rfl⟩ : ∃ st : LS, st = ⟨x, dx, dd, fun i => [t0, t1, t2, t3, t4].getD i 0, .none, .none, .int n tn, .int (keepOf n a) ta, dictOf [] 0, [], fun _ => ⟨.none, .none, .none, .none, .none⟩, []⟩ := ⟨_, rfl⟩
  have off := I8.off (dd, dictOf [] 0) (.head _)
  have gx := (N' (x, instObj 175 dx) (.head _)).2
  have gdx := (N' (dx, dictOf [] 0) (.tail _ (.head _))).2
  have up2 : ∀ b o, b ∉ [x, dx] → h'.get? b = some o → g2.get? b = some o := fun b o hb e => kk b o hb e
  have up6 : ∀ b o, b ∉ [x, dx] → h'.get? b = some o → g6.get? b = some o := fun b o hb e => kk6 b o (fun q => by
    simp only [List.map_cons, List.map_nil, List.mem_cons, List.not_mem_nil, or_false, not_or] at q hb
    rcases q with q | q | q
    · exact hb.1 q
    · exact hb.2 q
    · have := up2 b o (by simpa using hb) e
      rw [q, c1] at this; cases this) (I5.F.keep b o (up2 b o hb e))
  have nIn : ∀ b o, g.get? b = some o → b ∉ [x, dx] := fun b o e q => by
    simp only [List.mem_cons, List.not_mem_nil, or_false] at q
    rcases q with q | q
    · rw [q, gx.2] at e; cases e
    · rw [q, gdx.2] at e; cases e
  have gdd : g.get? dd = none := by
    cases e : g.get? dd with
    | none => rfl
    | some o => have := up2 dd o (nIn dd o e) (F'.keep dd o e); rw [c1] at this; cases this
  have nL : L ∉ [x, dx] := by simp only [List.mem_cons, List.not_mem_nil, or_false, not_or]; exact ⟨Ne.symm gx.1, Ne.symm gdx.1⟩
  obtain ⟨oL, esL, epL, hoL, rL⟩ := F'.ns
  have ddL : dd ≠ L := fun e => by have := up2 L oL nL hoL; rw [← e, c1] at this; cases this
  have S8 : St 39 175 w g6 L6 m6 ⟨x, dx, dd, fun i => [t0, t1, t2, t3, t4].getD i 0, .none, .none, .int n tn, .int (keepOf n a) ta, dictOf [] 0, [], fun _ => ⟨.none, .none, .none, .none, .none⟩, []⟩ h8 :=
    ⟨I8.F, I8.N, by
      show [x, dx, dd].Nodup
      simp only [List.nodup_cons, List.mem_cons, List.not_mem_nil, or_false, not_or, not_false_eq_true, List.nodup_nil, and_true]
      exact ⟨⟨ne, Ne.symm off.2⟩, Ne.symm off.1⟩, ⟨fun _ => ⟨Nb.none, Nb.none, Nb.none, Nb.none, Nb.none⟩, Nb.none, Nb.none, Nb.int, Nb.int⟩⟩
  generalize hst : (⟨x, dx, dd, fun i => [t0, t1, t2, t3, t4].getD i 0, .none, .none, .int n tn, .int (keepOf n a) ta, dictOf [] 0, [], fun _ => ⟨.none, .none, .none, .none, .none⟩, []⟩ : LS) = st at S8
  have ec : st.c = x := by rw [← hst]
  have edd : st.dd = dd := by rw [← hst]
  have C0 : Cst T' st [] [] := by
    rw [← hst]
    exact ⟨fun a ha => (by cases ha), List.nodup_nil, trivial, rfl, rfl, fun a ha => (by cases ha), OD.new, List.Perm.nil, beq_eq_false_iff_ne.mpr (Nat.ne_of_gt (Nat.lt_trans (Nat.lt_of_lt_of_le (modules_low T2.nolimit) F2.above) ddL0))⟩
  refine wpAny_execs_cons ?_
  refine' ex_ ?_ rfl rfl
  refine' ev_m0 (f := 121) (x := st.c) ?hpo S8.cinst (X6.keeps S8.F.keep) (pcL _) ?hf ?ht ?hkp rfl ?_ rfl
  case hpo => exact Pv.eq (v := .ref x) (by refine' Pv.name S8 ms rfl rfl ?hd; (case hd => decide)) (by rw [ec])
  ((case hf => k_dflt k_is); (case ht => k_dflt k_is); (case hkp => k_dflt k_is))
  intro tk14
  refine c_cleanup (b := 0) (hook0 prog w _ _ _) (S8.base X6 T6) S8.rep (by show A.depth + 1 + 1 + 1 + 4 < _; omega) (by simp only [Around.deeper_units]; rw [show (A.under (.builtin "type.__call__" ⟨.ref 175 :: [.int n tn, va], []⟩)).units = A.units + 1 from rfl]; omega) C0 (Nat.zero_le _) (by rw [← hst]) (keepOf_nonneg hn0 ha0) (fun q hq => by cases hq) trivial fun h4 tk5 st4 kvs4 C4 K4 => ?_
  have S4 := S8.after C4
  refine wpAny_execs_nil ?_
  have fr : ∀ a ∈ addrs st4, a ≠ L ∧ g.get? a = none := fun a ha => by
    rcases C4.fresh a ha with q | q
    · rw [← hst] at q
      have q : a ∈ [x, dx, dd] := q
      simp only [List.mem_cons, List.not_mem_nil, or_false] at q
      rcases q with rfl | rfl | rfl
      · exact gx
      · exact gdx
      · exact ⟨ddL, gdd⟩
    · refine ⟨fun e => ?_, ?_⟩
      · rw [e, S8.F.keep L oL (up6 L oL nL hoL)] at q; cases q
      · cases z : g.get? a with
        | none => rfl
        | some o => rw [S8.F.keep a o (up6 a o (nIn a o z) (F'.keep a o z))] at q; cases q
  have ec4 : st4.c = x := K4.fx.c.trans ec
  have SF : St 39 175 w g L m st4 h4 := ⟨⟨⟨oL, esL, epL, S4.F.keep L oL (up6 L oL nL hoL), rL⟩, fun b o e => S4.F.keep b o (up6 b o (nIn b o e) (F'.keep b o e)), F'.above⟩, fun q hq => ⟨(S4.N q hq).1, fr q.1 (by rw [← ledger_addrs 39 175 w.params]; exact List.mem_map_of_mem hq)⟩, S4.wf, S4.ok⟩
  have e0 : st4.ex = [] := by
    have r := K4.runs
    have e : (vw st ([] : List (Ky × Rg))).drop (keepOf n a).toNat = [] := by simp [vw]
    rw [e] at r
    have e2 : st.ex = [] := by rw [← hst]
    rw [e2] at r
    generalize st4.ex = y at r
    cases r
    rfl
  have kn : ∀ q ∈ news, h4.get? q.1 = some q.2 ∧ q.1 ∉ addrs st4 := fun q hq => by
    have l1 := hd q hq
    have nq : q.1 ∉ [x, dx] := by
      simp only [List.mem_cons, List.not_mem_nil, or_false, not_or]
      exact ⟨Nat.ne_of_lt (Nat.lt_trans l1 hlt), Nat.ne_of_lt l1⟩
    have e6 := up6 q.1 q.2 nq (N' q (.tail _ (.tail _ hq))).1
    exact ⟨S4.F.keep _ _ e6, fun ha => by rw [(S4.off q.1 ha).2] at e6; cases e6⟩
  have SG : St 39 175 w g L m (st4.withEx news) h4 := by
    refine ⟨SF.F, fun q hq => ?_, ?_, ⟨SF.ok.F, SF.ok.mru, SF.ok.lru, SF.ok.mx, SF.ok.af⟩⟩
    · unfold ledger LS.withEx at hq
      simp only [List.mem_cons, List.mem_append] at hq
      have N0 : ∀ q, (q = (st4.c, instObj 175 st4.dc) ∨ q = (st4.dc, dictOf (cacheEs w.params st4.ct st4.dd st4.mru st4.lru st4.mx st4.af) 5) ∨ q = (st4.dd, st4.od) ∨ q ∈ nodeL 39 w.params st4.F st4.reg) → q ∈ ledger 39 175 w.params st4 := fun q hq => by
        unfold ledger
        simp only [List.mem_cons, List.mem_append]
        rcases hq with z | z | z | z
        · exact .inl z
        · exact .inr (.inl z)
        · exact .inr (.inr (.inl z))
        · exact .inr (.inr (.inr (.inl z)))
      rcases hq with z | z | z | z | z
      · exact SF.N q (N0 q (.inl z))
      · exact SF.N q (N0 q (.inr (.inl z)))
      · exact SF.N q (N0 q (.inr (.inr (.inl z))))
      · exact SF.N q (N0 q (.inr (.inr (.inr z))))
      · exact ⟨(kn q z).1, (N q z).2⟩
    · have ea : addrs st4 = st4.c :: st4.dc :: st4.dd :: regAddrs st4.reg := by unfold addrs; rw [e0]; simp
      have wf := SF.wf
      rw [ea] at wf
      show (st4.c :: st4.dc :: st4.dd :: (regAddrs st4.reg ++ news.map (·.1))).Nodup
      have e : st4.c :: st4.dc :: st4.dd :: (regAddrs st4.reg ++ news.map (·.1)) = (st4.c :: st4.dc :: st4.dd :: regAddrs st4.reg) ++ news.map (·.1) := rfl
      rw [e, List.nodup_append]
      refine ⟨wf, hnd, fun b hb b2 hb2 e => ?_⟩
      obtain ⟨q, hq, rfl⟩ := List.mem_map.mp hb2
      exact (kn q hq).2 (by rw [ea, ← e]; exact hb)
  have fin := hQ h4 tk5 (st4.withEx news) SG (by have C5 := K4.C; have e : kvs4 = [] := List.length_eq_zero_iff.mp (C5.len.trans (by simp)); rw [e] at C5; exact (by simpa using C5 : Cst T' st4 [] []).ofEx) rfl (K4.fx.mx.trans (by rw [← hst])) ⟨ta, K4.fx.af.trans (by rw [← hst])⟩
  rw [show (st4.withEx news).c = x from ec4] at fin
  exact wpAny_execs_nil ⟨rfl, fin⟩
end
section
variable {prog : Program} {w : World} {A : Around} {E : Value → Shared → Prop} {s : Shared} {h : Heap} {tk₀ : Nat} {p : Program} {loose : List Str} {mg mb : Str → Option Value} {h₀ : Heap} {st : LS} {r : Rg}
  {Ky : Type} [DecidableEq Ky] {T' : DT prog w (K1 w.params) Ky} {kvs : List (Ky × Value)} {D : List (Ky × Rg)}

/-- cache.items() -/
theorem c_items {Q : Value → Shared → Prop} (B : Base (K1 w.params) p loose mg mb h₀ st h) (R : Rep 39 175 w st h) (hroom : A.depth < recursionLimit) (hu : A.units + 16 < cLine) (hh : A.handled = none)
   (C : Cst T' st D kvs) (hz : kvs.length ≤ 100000)
   (hQ : ∀ h' tk a o', Ctr 39 175 w st st h h' → (a == sysModules) = false → h.get? a = none → h'.get? a = some o' → OD T' o' (kvs.map fun kv => (kv.1, nodeVal st kv.2)) → Q (.ref a) (up s h' tk)) :
   wpAny (model prog w) A (call (.ref 114) [.ref st.c]) Q E (up s h tk₀) := by
  refine' enter (binds := [("self", Value.ref st.c)]) B R ?ho ?hcd (by omega) ?hb ?hl ?hco ?hgen ?hk ?hcell ?_
  ((case ho => k_dflt k_is); (case hcd => k_dflt k_is); (case hb => exact BindsTo.of_eq rfl); (case hl => exact locs rfl); (case hco => exact rfl); (case hgen => exact rfl); (case hk => exact rfl); (case hcell => decide))
  intro g L h1 tk kk k' X T S
  refine wpAny_execs_cons (wpAny_Return_some ?_)
  refine' comp_itemsR S X (pcN _) (aN_value _) C hh (by simp only [Around.deeper_units]; omega) hz ?hiter (by rfl) ?hcell ?hkind ?hnames ?hxa ?hxb ?hab ?hda ?hdb ?hs ?hsh ?_
  case hiter =>
    intro Q q
    refine MethodCall_ (Pv.at (by walk_at "pv") fun tk => ?_) rfl
    refine C.od.method PySem.F.slot_dict_items PySem.F.type_dict_items (s := up s h1 tk) S.dget ?_
    refine callWith_method0 ?_
    have hD := C.od.typeIs (s := up s h1 tk) S.dget
    exact call_meetsIn PySem.F.slot_dict_items hD PySem.F.entry_dict_items (PySem.F.args_dict_items_1 _) (raw_items _ C.ne) ⟨hD, q _ _ _ Grow.push ⟨_, Heap.get?_push_size _ rfl, rfl, rfl⟩⟩
  case hcell => decide
  case hkind => exact rfl
  case hnames => decide
  case hxa => exact rfl
  case hxb => exact rfl
  case hab => decide
  case hda => decide
  case hdb => decide
  case hs => intro _; rfl
  case hsh => intro env; rfl
  intro h' tk2 a o' G La ha ho' hod
  have S' := S.grow G
  refine hQ h' tk2 a o' (S'.back kk fun a ha => .inl ha) (beq_eq_false_iff_ne.mpr (Nat.ne_of_gt (Nat.lt_trans (Nat.lt_of_lt_of_le (modules_low T.nolimit) S.F.above) La))) ?_ ho' hod
  cases e : h.get? a with
  | none => rfl
  | some o =>
    by_cases hm : a ∈ addrs st
    · obtain ⟨q, hq, rfl⟩ := List.mem_map.mp ((ledger_addrs 39 175 w.params st).symm ▸ hm)
      rw [(S.N q hq).1] at ha; cases ha
    · rw [S.F.keep a o (kk a o hm e)] at ha; cases ha
/-- cache.keys() -/
theorem c_keys {Q : Value → Shared → Prop} (B : Base (K1 w.params) p loose mg mb h₀ st h) (R : Rep 39 175 w st h) (hroom : A.depth < recursionLimit) (hu : A.units + 16 < cLine) (hh : A.handled = none)
   (C : Cst T' st D kvs) (hz : kvs.length ≤ 100000)
   (hQ : ∀ h' tk a, Ctr 39 175 w st st h h' → h.get? a = none → h'.get? a = some { cls := .type "dict_keys", data := .fields #[.ref st.dd] } → Q (.ref a) (up s h' tk)) :
   wpAny (model prog w) A (call (.ref 109) [.ref st.c]) Q E (up s h tk₀) := by
  refine' enter (binds := [("self", Value.ref st.c)]) B R ?ho ?hcd (by omega) ?hb ?hl ?hco ?hgen ?hk ?hcell ?_
  ((case ho => k_dflt k_is); (case hcd => k_dflt k_is); (case hb => exact BindsTo.of_eq rfl); (case hl => exact locs rfl); (case hco => exact rfl); (case hgen => exact rfl); (case hk => exact rfl); (case hcell => decide))
  intro g L h1 tk kk k' X T S
  refine wpAny_execs_cons (wpAny_Return_some ?_)
  refine MethodCall_ (Pv.at (by walk_at "pv") fun tk => ?_) rfl
  refine C.od.method PySem.F.slot_dict_keys PySem.F.type_dict_keys (s := up s h1 tk) S.dget ?_
  refine callWith_method0 ?_
  have hD := C.od.typeIs (s := up s h1 tk) S.dget
  refine call_meetsIn PySem.F.slot_dict_keys hD PySem.F.entry_dict_keys (PySem.F.args_dict_keys_1 _) (raw_keys _ C.ne) ⟨hD, ?_⟩
  have S' : St 39 175 w g L _ st (h1.push { cls := .type "dict_keys", data := .fields #[.ref st.dd] }) := S.grow Grow.push
  refine hQ _ _ h1.objs.size (S'.back kk fun a ha => .inl ha) ?_ (Heap.get?_push_size _ rfl)
  cases e : h.get? h1.objs.size with
  | none => rfl
  | some o =>
    by_cases hm : h1.objs.size ∈ addrs st
    · obtain ⟨q, hq, e⟩ := List.mem_map.mp ((ledger_addrs 39 175 w.params st).symm ▸ hm)
      have := Heap.lt_size (S.N q hq).1
      rw [show q.1 = _ from e] at this
      exact absurd this (Nat.lt_irrefl _)
    · exact absurd (Heap.lt_size (S.F.keep _ o (kk _ o hm e))) (Nat.lt_irrefl _)
end
section
variable {prog : Program} {w : World} {A : Around} {E : Value → Shared → Prop} {s : Shared} {h : Heap} {tk₀ : Nat} {p : Program} {loose : List Str} {mg mb : Str → Option Value} {h₀ : Heap} {st : LS} {r : Rg}
  {Ky : Type} [DecidableEq Ky] {T' : DT prog w (K1 w.params) Ky} {kvs : List (Ky × Value)} {k : Ky} {D : List (Ky × Rg)} {key val : Value}
/-- cache[key] = value -/
theorem c_set {Q : Value → Shared → Prop} (H : Hook prog w (K1 w.params) 39 175) (B : Base (K1 w.params) p loose mg mb h₀ st h) (R : Rep 39 175 w st h) (hroom : A.depth + 7 < recursionLimit) (hu : A.units + 110 < cLine)
   (C : Cst T' st D kvs) (hk : T'.isK k key) (nv : Nb val) (hz : kvs.length + 1 ≤ 100000) {mx af : Int} {tm ta : Tok} (hmx : st.mx = .int mx tm) (haf : st.af = .int af ta) (ha : 0 ≤ af) (hc : ∀ q ∈ D, Cb H (st.F q.2.x).cln) {b : Nat} (hok : H.ok (D.length + 1 + b + 1) st.ex)
   (hQ : ∀ h' tk st', Ctr 39 175 w st st' h h' → AddDone H T' b (vw st D) k (val, .none) mx af st st' → Q .none (up s h' tk)) :
   wpAny (model prog w) A (call (.ref 128) [.ref st.c, key, val]) Q E (up s h tk₀) := by
  refine' enter (binds := [("self", Value.ref st.c), ("key", key), ("value", val)]) B R ?ho ?hcd (by omega) ?hb ?hl ?hco ?hgen ?hk ?hcell ?_
  ((case ho => k_dflt k_is); (case hcd => k_dflt k_is); (case hb => exact BindsTo.of_eq rfl); (case hl => exact locs rfl); (case hco => exact rfl); (case hgen => exact rfl); (case hk => exact rfl); (case hcell => decide))
  intro g L h1 tk kk k' X T S
  refine wpAny_execs_cons ?_
  refine' ex_ ?_ rfl rfl
  refine' ev_mk2 (f := 87) (x := st.c) (v := key) (v3 := val) (v2 := .none) ?hpo ?hp1 ?hp3 ?hp2 S.cinst (X.keeps S.F.keep) (pcL _) ?hf ?ht ?hkp rfl ?_ rfl rfl rfl rfl rfl
  case hpo => walk_at "pv"
  case hp1 => walk_at "pv"
  case hp3 => walk_at "pv"
  case hp2 => walk_at "pv"
  ((case hf => k_dflt k_is); (case ht => k_dflt k_is); (case hkp => k_dflt k_is))
  intro tk2
  refine c_add H (S.base X T) S.rep (by show A.depth + 1 + 6 < _; omega) (by simp only [Around.deeper_units]; omega) (fun oc od fd sl e => ?hbd) C hk nv (.inl rfl) hz hmx haf ha hc hok fun h2 tk3 st' C2 D2 => ?_
  case hbd =>
    rw [show (K1 w.params).lookup 87 = some _ by k_dflt k_is] at e
    cases e
    exact binds_K (show (K1 w.params).In h1 from X.keeps S.F.keep) rfl (by k_dflt k_is) rfl rfl rfl
  exact wpAny_execs_nil (hQ h2 tk3 st' ((S.after C2).back kk fun a ha => (C2.fresh a ha).elim .inl (fresh_back kk S.F)) D2)
end
section
open PySem PySem.W PyProof.Rows PySem.Calls PySem.SeqAt
noncomputable def KL : List Value := [.int 0 406, .int 1 407, .int (-1) 409, .int 7 410, .int 1000000000000000000000000000000 411, .int (-5) 413, .str "" 414, .str "a" 415, .str "ab" 416, .bytes #[] 417, .bytes #[97] 418, .ref 180]
theorem k180 (P : Params) : (K1 P).lookup 180 = some { cls := .type "tuple", data := .seq #[.int 0 419, .int 1 420] 0 } := by k_is
theorem k181 (P : Params) : (K1 P).lookup 181 = some (listOf #[.int 0 406, .int 1 407, .int (-1) 409, .int 7 410, .int 1000000000000000000000000000000 411, .int (-5) 413, .str "" 414, .str "a" 415, .str "ab" 416, .bytes #[] 417, .bytes #[97] 418, .ref 180] 0) := by k_is

noncomputable def sameV : Value → Value → Bool
  | .int a _, .int b _ => a == b
  | .str a _, .str b _ => a == b
  | .bytes a _, .bytes b _ => decide (a.toList = b.toList)
  | .ref a, .ref b => a == b
  | _, _ => false
theorem KL_sh : ∀ v ∈ KL, shV v = true := by
  have : KL.all shV = true := by decide +kernel
  exact List.all_eq_true.mp this
theorem KL_ref : ∀ a, Value.ref a ∈ KL → a = 180 := by
  intro a h
  simp only [KL, List.mem_cons, Value.ref.injEq, reduceCtorEq, false_or, List.not_mem_nil, or_false] at h
  exact h
theorem KL_same : ∀ i, i < 12 → ∀ j, j < 12 → (match KL[i]?, KL[j]? with | some u, some v => sameV u v == decide (i = j) | _, _ => true) = true := by
  have : ((List.range 12).all fun i => (List.range 12).all fun j => (match KL[i]?, KL[j]? with | some u, some v => sameV u v == decide (i = j) | _, _ => true)) = true := by decide +kernel
  intro i hi j hj
  exact List.all_eq_true.mp (List.all_eq_true.mp this i (List.mem_range.mpr hi)) j (List.mem_range.mpr hj)
theorem KL_lt {i : Nat} {v : Value} (h : KL[i]? = some v) : i < 12 := (List.getElem?_eq_some_iff.mp h).1
theorem KL_dec {i j : Nat} {u v : Value} (hi : KL[i]? = some u) (hj : KL[j]? = some v) : sameV u v = decide (i = j) := by
  have := KL_same i (KL_lt hi) j (KL_lt hj)
  rw [hi, hj] at this
  exact eq_of_beq this
theorem sameV_self {v : Value} (h : ShV v) : sameV v v = true := by cases h <;> simp [sameV]

section
variable {prog : Program} {w : World} {A : Around} {E : Value → Shared → Prop} {s : Shared}
theorem tup180 (X : (K1 w.params).In s.heap) : s.heap.IsTuple 180 #[.int 0 419, .int 1 420] := ⟨_, X _ _ (k180 w.params), rfl, 0, rfl⟩
theorem key180 (X : (K1 w.params).In s.heap) : IsTupleKey (intKind prog w) s.heap [0, 1] 180 :=
  ⟨_, _, _, X _ _ (k180 w.params), rfl, rfl, .cons rfl (.cons rfl .nil)⟩
theorem eqAt_keys {u v : Value} (X : (K1 w.params).In s.heap) (hA : A.units < cLine) (hu : u ∈ KL) (hv : v ∈ KL) : EqAt A s u v (sameV u v) := by
  have su := shV_of (KL_sh u hu)
  have sv := shV_of (KL_sh v hv)
  have T := tup180 X
  cases su <;> cases sv
  · exact EqAt.int_int _ _ _ _
  · exact EqAt.int_str _ _ _ _
  · exact eqAt_of_rc nofun nofun (rc_int_bytes _ _ _ _)
  · rw [KL_ref _ hv]; exact EqAt.int_tuple _ _ T hA
  · exact EqAt.str_int _ _ _ _
  · exact EqAt.str_str _ _ _ _
  · exact eqAt_of_rc nofun nofun (rc_str_bytes _ _ _ _)
  · rw [KL_ref _ hv]; exact EqAt.str_tuple _ _ T hA
  · exact eqAt_of_rc nofun nofun (rc_bytes_int _ _ _ _)
  · exact eqAt_of_rc nofun nofun (rc_bytes_str _ _ _ _)
  · exact eqAt_bytes _ _ _ _
  · rw [KL_ref _ hv]; exact eqAt_of_rc nofun nofun (rc_bytes_tuple _ _ T hA)
  · rw [KL_ref _ hu]; exact EqAt.tuple_int _ _ T hA
  · rw [KL_ref _ hu]; exact EqAt.tuple_str _ _ T hA
  · rw [KL_ref _ hu]; exact eqAt_of_rc nofun nofun (rc_tuple_bytes _ _ T hA)
  · rw [KL_ref _ hu, KL_ref _ hv]; exact EqAt.same _

noncomputable def hashV (w : World) : Value → Int
  | .int n _ => hashInt n
  | .str x _ => hashStr w x
  | .bytes b _ => hashW w.params (.bytes b.toList)
  | .ref _ => reduceHash (Builtin.Tuple.tupleHashOf [hashInt 0, hashInt 1])
  | _ => 0
noncomputable def hashK (w : World) (k : Nat) : Int := ((KL[k]?).map (hashV w)).getD 0
theorem hashK_of {k : Nat} {v : Value} (h : KL[k]? = some v) : hashK w k = hashV w v := by unfold hashK; rw [h]; rfl
theorem hash_key {k : Nat} {v : Value} {Q : Int → Shared → Prop} (X : (K1 w.params).In s.heap) (hA : A.units < cLine) (h : KL[k]? = some v) (q : ∀ tk, Q (hashK w k) { s with toks := tk }) :
    wpAny (model prog w) A (PySem.pyHash v) Q E s := by
  rw [hashK_of h] at q
  have sv := shV_of (KL_sh v (List.mem_of_getElem? h))
  cases sv
  · exact wpAny_pyHash_int (q _)
  · exact wpAny_pyHash_str (q _)
  · rename_i b t
    exact (bytesKind prog w).pyHash (k := b.toList) (beq_self_eq_true b.toList) (q _)
  · rw [KL_ref _ (List.mem_of_getElem? h)] at q ⊢
    exact wpAny_pyHash_tuple (knd := intKind prog w) hA (key180 X) (q _)

theorem mkK : MK prog w (K1 w.params) KL (hashK w) where
  sh h := shV_of (KL_sh _ (List.mem_of_getElem? h))
  inj h1 h2 := by have := KL_dec h1 h2; rw [sameV_self (shV_of (KL_sh _ (List.mem_of_getElem? h1)))] at this; exact of_decide_eq_true this.symm
  stv h1 h2 := by
    have := KL_dec h2 h1
    rw [← this]
    have sv := shV_of (KL_sh _ (List.mem_of_getElem? h2))
    cases sv <;> rfl
  eq X hA h1 h2 := by rw [← KL_dec h1 h2]; exact eqAt_keys X hA (List.mem_of_getElem? h1) (List.mem_of_getElem? h2)
  quiet X h q := by
    have sv := shV_of (KL_sh _ (List.mem_of_getElem? h))
    cases sv
    · rw [eqIsQuiet_byValue _ rfl]; exact wpAny_pure q
    · rw [eqIsQuiet_byValue _ rfl]; exact wpAny_pure q
    · rw [eqIsQuiet_byValue _ rfl]; exact wpAny_pure q
    · rw [KL_ref _ (List.mem_of_getElem? h)]; exact wpAny_eqIsQuiet_tuple (knd := intKind prog w) (key180 X) q

/-- the law's twelve keys, by place -/
noncomputable def TK (prog : Program) (w : World) : DT prog w (K1 w.params) Nat where
  isK := fun k v => KL[k]? = some v
  hash := hashK w
  nb := fun h => by cases shV_of (KL_sh _ (List.mem_of_getElem? h)) <;> rfl
  notNone := fun h e => by subst e; exact absurd (KL_sh _ (List.mem_of_getElem? h)) Bool.false_ne_true
  pyHash := fun X hA h q => hash_key X (Nat.lt_of_le_of_lt (Nat.le_add_right _ _) hA) h q
  find := fun X hA h ho hd he hn q => mk_find mkK X hA h ho hd he hn q
end

end
section
variable {prog : Program} {w : World} {A : Around} {E : Value → Shared → Prop} {s : Shared} {h : Heap} {tk₀ : Nat} {p : Program} {loose : List Str} {mg mb : Str → Option Value} {h₀ : Heap} {st : LS} {r : Rg}
  {Ky : Type} [DecidableEq Ky] {T' : DT prog w (K1 w.params) Ky} {kvs : List (Ky × Value)} {k : Ky} {D : List (Ky × Rg)} {key val : Value}
noncomputable def topOf (n : Int) : Int := if (n + 5).fmod 13 == 12 then 12 + (if n < 0 then -n else n).fmod 10000000000000000000000000000000000000000 else (n + 5).fmod 13
noncomputable def aftOf (n : Int) : Option Int := if (n.fdiv 13).fmod 2 == 0 then none else some (((n.fdiv 13).fdiv 2).fmod 15)
theorem topOf_nonneg {n : Int} : 0 ≤ topOf n := by
  have h1 := Int.fmod_nonneg_of_pos (n + 5) (b := 13) (by decide)
  have h2 := Int.fmod_nonneg_of_pos (if n < 0 then -n else n) (b := 10000000000000000000000000000000000000000) (by decide)
  unfold topOf
  split
  · omega
  · exact h1
theorem aftOf_nonneg {n i : Int} (h : aftOf n = some i) : 0 ≤ i := by
  have h1 := Int.fmod_nonneg_of_pos ((n.fdiv 13).fdiv 2) (b := 15) (by decide)
  unfold aftOf at h
  split at h
  · cases h
  · cases h; exact h1
end
section
variable {prog : Program} {K : Frag} {w : World} {g h : Heap} {L : Addr} {m : Str → Option Value} {A : Around} {E : Value → Shared → Prop} {s : Shared} {tk : Nat} {v : Value} {cn : Str} {cs : Scope} {a : Addr} {cd : Value} {p : Program} {loose : List Str} {mg mb : Str → Option Value}
/-- a frame alone, no ledger -/
theorem Fr.pname {x : Str} {pos : Pos} (F : Fr g L h m) (hv : m x = some v) (hk : cs.kind = .function) (hl : (envOf cn cs L a cd).kindOf x = some .local) (hd : (x == ("__debug__" : Str)) = false) :
    Pv prog w A (envOf cn cs L a cd) (.Name x pos) v h := fun s Q E hs q => by subst hs; exact ld F hv (q s.toks) hk hl hd
theorem Fr.pbuilt {x : Str} {pos : Pos} (F : Fr g L h m) (X : K.In g) (T : TopRead p loose mg mb g) (e : nsIn K mainGlobals x = some none) (hv : bootBuiltins x = some v) (hn : x ≠ "__name__") (hk : cs.kind = .function) (hx : (envOf cn cs L a cd).kindOf x = some .globalImplicit) (hd : (x == ("__debug__" : Str)) = false) :
    Pv prog w A (envOf cn cs L a cd) (.Name x pos) v h := fun s Q E hs q => by subst hs; exact name_B F X T e hv hn (q s.toks) hk hx hd
theorem Fr.asE {Q : Flow → Shared → Prop} {P : Value → Prop} {x : Str} {pos pos' : Pos} {e : Expr} (F : Fr g L h m) (he : PvE prog w A (envOf cn cs L a cd) e P h)
    (q : ∀ v, P v → ∀ h' tk, Fr g L h' (fun y => if y = x then some v else m y) → Q .next (up s h' tk))
    (hk : cs.kind = .function) (hl : (envOf cn cs L a cd).kindOf x = some .local) (hs : swapsWith e (some (.Name x pos')) pos.line (envOf cn cs L a cd) = pure false) :
    wpAny (model prog w) A (exec (.Assign [.Name x pos'] e pos) (envOf cn cs L a cd)) Q E (up s h tk) :=
  wpAny_Assign_Name (he.at fun v tk hv => wpAny_storeName_local (s := up s h tk) hl F.ns (fun h' hn hs => q v hv h' _ (F.set hn hs)) (by show (cs.kind == .class || (cs.kind == .module && L != mainGlobals)) = false; rw [hk]; rfl)) hs
theorem Grow.none {h h' : Heap} (G : Grow h h') {a : Addr} (e : h'.get? a = Option.none) : h.get? a = Option.none := by
  cases q : h.get? a with
  | none => rfl
  | some o => rw [G a o q] at e; cases e
end
section
variable {prog : Program} {w : World} {A : Around} {E : Value → Shared → Prop} {s : Shared} {h : Heap} {tk₀ : Nat} {p : Program} {loose : List Str} {mg mb : Str → Option Value} {h₀ : Heap}
/-- _law_limits(number) -/
theorem c_lim {Q : Value → Shared → Prop} {n : Int} {tn : Tok} (X : (K1 w.params).In h₀) (T : TopRead p loose mg mb h₀) (stays : ∀ b o, h₀.get? b = some o → h.get? b = some o) (hroom : A.depth < recursionLimit) (hu : A.units + 16 < cLine) (hh : A.handled = none)
   (hQ : ∀ h' tk a t1 t2 va, Grow h h' → h.get? a = none → h'.get? a = some (tupO [.int (topOf n) t1, va, .int (keepOf (topOf n) (aftOf n)) t2]) → IsO (aftOf n) va → Q (.ref a) (up s h' tk)) :
   wpAny (model prog w) A (call (.ref 195) [.int n tn]) Q E (up s h tk₀) := by
  refine wpAny_call ?_
  refine' enterN (s := s) (h := h) (tk₀ := tk₀) (h₀ := h₀) (l := []) (binds := [("number", Value.int n tn)]) X T stays (fun q hq => nomatch hq) ?ho ?hcd hroom ?hb ?hl ?hco ?hgen ?hk ?hcell ?_
  ((case ho => k_dflt k_is); (case hcd => k_dflt k_is); (case hb => exact BindsTo.of_eq rfl); (case hl => exact locs rfl); (case hco => exact rfl); (case hgen => exact rfl); (case hk => exact rfl); (case hcell => decide))
  intro g L h1 tk kk X T S _
  have kg : Grow h g := fun b o e => kk b o List.not_mem_nil e
  obtain ⟨m1, S, mn⟩ : ∃ m', Fr g L h1 m' ∧ m' "number" = some (.int n tn) := ⟨_, S, rfl⟩
  refine wpAny_execs_cons ?_
  refine' Fr.asE (P := IsI ((n + 5).fmod 13)) S ?he ?_ rfl rfl rfl
  case he =>
    refine PvI.mod (PvI.add (PvI.of (t := tn) ?h0) PvI.const) PvI.const (by decide)
    case h0 => (refine' Fr.pname (by assumption) ?hv ?hk ?hl ?hd; (case hv => first | exact rfl | assumption); (case hk => exact rfl); (case hl => exact rfl); (case hd => decide))
  rintro _ ⟨t1, rfl⟩ h2 tk2 S2
  refine seqP (P := fun h' => ∃ m' t1, Fr g L h' m' ∧ m' "number" = some (.int n tn) ∧ m' "top" = some (.int (topOf n) t1)) ?_ ?_
  · refine if_t (b := (n + 5).fmod 13 == 12) (PvT.int .eq (PvI.of (t := t1) ?hl) PvI.const (by with_unfolding_all rfl)) ?_ ?_
    case hl => (refine' Fr.pname (by assumption) ?hv ?hk ?hl ?hd; (case hv => first | exact rfl | assumption); (case hk => exact rfl); (case hl => exact rfl); (case hd => decide))
    · intro q tk3
      refine wpAny_execs_cons ?_
      refine' Fr.asE (P := IsI (topOf n)) S2 ?he ?_ rfl rfl rfl
      case he =>
        refine PvI.eq (a := 12 + (if n < 0 then -n else n).fmod 10000000000000000000000000000000000000000) (PvI.add PvI.const (PvI.mod (PvI.abs ?hfn (PvI.of (t := tn) ?h0) rfl rfl rfl) PvI.const (by decide))) (by unfold topOf; rw [if_pos q])
        case hfn => refine' Fr.pbuilt S2 X T ?he rfl ?hn rfl rfl ?hd; (case he => k_dflt k_is); (case hn => decide); (case hd => decide)
        case h0 => (refine' Fr.pname (by assumption) ?hv ?hk ?hl ?hd; (case hv => first | exact rfl | assumption); (case hk => exact rfl); (case hl => exact rfl); (case hd => decide))
      rintro _ ⟨t2, rfl⟩ h3 tk4 S3
      exact wpAny_execs_nil ⟨rfl, h3, tk4, rfl, _, t2, S3, mn, rfl⟩
    · intro q tk3
      have e : topOf n = (n + 5).fmod 13 := by unfold topOf; rw [if_neg (by rw [q]; exact Bool.false_ne_true)]
      exact wpAny_execs_nil ⟨rfl, h2, tk3, rfl, _, t1, S2, mn, by rw [e]; rfl⟩
  rintro h3 tk3 ⟨m3, t1, S3, mn, mt⟩
  refine wpAny_execs_cons ?_
  refine' Fr.asE (P := IsI (n.fdiv 13)) S3 ?he ?_ rfl rfl rfl
  case he =>
    refine PvI.fdiv (PvI.of (t := tn) ?h0) PvI.const (by decide) (by decide)
    case h0 => (refine' Fr.pname (by assumption) ?hv ?hk ?hl ?hd; (case hv => first | exact rfl | assumption); (case hk => exact rfl); (case hl => exact rfl); (case hd => decide))
  rintro _ ⟨t2, rfl⟩ h4 tk4 S4
  obtain ⟨m4, S4, mt, mr⟩ : ∃ m', Fr g L h4 m' ∧ m' "top" = some (.int (topOf n) t1) ∧ m' "rest" = some (.int (n.fdiv 13) t2) := ⟨_, S4, mt, rfl⟩
  refine wpAny_execs_cons ?_
  refine' Fr.asE (P := IsO (aftOf n)) S4 ?he ?_ rfl rfl rfl
  case he =>
    refine PvE.ite (b := (n.fdiv 13).fmod 2 == 0) (PvT.int .eq (PvI.mod (PvI.of (t := t2) ?h0) PvI.const (by decide)) PvI.const (by with_unfolding_all rfl)) (fun q => PvE.of Pv.nn ?_) (fun q => ?_)
    case h0 => (refine' Fr.pname (by assumption) ?hv ?hk ?hl ?hd; (case hv => first | exact rfl | assumption); (case hk => exact rfl); (case hl => exact rfl); (case hd => decide))
    · unfold aftOf; rw [if_pos q]; rfl
    · unfold aftOf; rw [if_neg (by rw [q]; exact Bool.false_ne_true)]
      refine PvI.mod (PvI.fdiv (PvI.of (t := t2) ?h0) PvI.const (by decide) (by decide)) PvI.const (by decide)
      case h0 => (refine' Fr.pname (by assumption) ?hv ?hk ?hl ?hd; (case hv => first | exact rfl | assumption); (case hk => exact rfl); (case hl => exact rfl); (case hd => decide))
  intro va hva h5 tk5 S5
  obtain ⟨m5, S5, mt, ma⟩ : ∃ m', Fr g L h5 m' ∧ m' "top" = some (.int (topOf n) t1) ∧ m' "after" = some va := ⟨_, S5, mt, rfl⟩
  refine wpAny_execs_cons (wpAny_Return_some (wpAny_Tuple (spliced_more (Pv.at (v := .int (topOf n) t1) ?h1 fun tk6 => spliced_more (Pv.at (v := va) ?h2 fun tk7 => spliced_more ?h3 rfl) rfl) rfl)))
  case h1 => (refine' Fr.pname (by assumption) ?hv ?hk ?hl ?hd; (case hv => first | exact rfl | assumption); (case hk => exact rfl); (case hl => exact rfl); (case hd => decide))
  case h2 => (refine' Fr.pname (by assumption) ?hv ?hk ?hl ?hd; (case hv => first | exact rfl | assumption); (case hk => exact rfl); (case hl => exact rfl); (case hd => decide))
  case h3 =>
    refine (PvG.ite (P := fun v _ => IsI (keepOf (topOf n) (aftOf n)) v) (b := (aftOf n).isNone) (PvT.is (a := va) (b := .none) ?h1 Pv.nn ?h2 (by with_unfolding_all rfl)) ?_ ?_) s _ _ _ fun v h6 tk8 G hv => ?_
    case h1 => (refine' Fr.pname (by assumption) ?hv ?hk ?hl ?hd; (case hv => first | exact rfl | assumption); (case hk => exact rfl); (case hl => exact rfl); (case hd => decide))
    case h2 =>
      cases e : aftOf n with
      | none => rw [e] at hva; rw [show va = .none from hva]; exact isB_none
      | some i => rw [e] at hva; obtain ⟨t, rfl⟩ := hva; exact isB_plain Nb.int
    · intro q
      refine PvG.of (PvI.eq (a := (topOf n * 8).fdiv 10) (PvI.fdiv (PvI.mul (PvI.of (t := t1) ?hm) PvI.const (IntMulOk.of_right (by decide))) PvI.const (by decide) (by decide)) ?_)
      case hm => (refine' Fr.pname (by assumption) ?hv ?hk ?hl ?hd; (case hv => first | exact rfl | assumption); (case hk => exact rfl); (case hl => exact rfl); (case hd => decide))
      cases e : aftOf n with
      | none => rfl
      | some i => rw [e] at q; cases q
    · intro q
      cases e : aftOf n with
      | none => rw [e] at q; cases q
      | some i =>
        rw [e] at hva; obtain ⟨t, rfl⟩ := hva
        refine PvG.min (a := i) (b := topOf n) ?hfn (PvI.of (t := t) ?h1) (PvI.of (t := t1) ?h2) hh rfl rfl rfl rfl
        case hfn => refine' Fr.pbuilt S5 X T ?he rfl ?hn rfl rfl ?hd; (case he => k_dflt k_is); (case hn => decide); (case hd => decide)
        case h1 => (refine' Fr.pname (by assumption) ?hv ?hk ?hl ?hd; (case hv => first | exact rfl | assumption); (case hk => exact rfl); (case hl => exact rfl); (case hd => decide))
        case h2 => (refine' Fr.pname (by assumption) ?hv ?hk ?hl ?hd; (case hv => first | exact rfl | assumption); (case hk => exact rfl); (case hl => exact rfl); (case hd => decide))
    obtain ⟨t2, rfl⟩ := hv
    refine spliced_none ⟨two_le (by simp only [List.length_cons, List.length_nil]; decide), ?_⟩
    have G6 : Grow h h6 := fun b o e => G b o (S5.keep b o (kg b o e))
    exact hQ _ _ _ t1 t2 va (G6.trans Grow.push) (G6.none size_none) (Heap.get?_push_size _ rfl) hva
end
section
variable {prog : Program} {w : World} {A : Around} {E : Value → Shared → Prop} {s : Shared} {h : Heap} {tk₀ : Nat} {p : Program} {loose : List Str} {mg mb : Str → Option Value} {h₀ : Heap} {st : LS} {r : Rg}
  {Ky : Type} [DecidableEq Ky] {T' : DT prog w (K1 w.params) Ky} {kvs : List (Ky × Value)} {k : Ky} {D : List (Ky × Rg)} {key val : Value}
end
theorem withEx_withEx {st : LS} {ex ex' : List (Addr × Obj)} : (st.withEx ex).withEx ex' = st.withEx ex' := rfl
section
variable {α β : Type}
inductive All2 (R : α → β → Prop) : List α → List β → Prop
  | nil : All2 R [] []
  | cons {a b l m} (h : R a b) (t : All2 R l m) : All2 R (a :: l) (b :: m)
theorem All2.length {R : α → β → Prop} {l : List α} {m : List β} (h : All2 R l m) : l.length = m.length := by
  induction h with
  | nil => rfl
  | cons _ _ ih => rw [List.length_cons, List.length_cons, ih]
theorem All2.mono {R R' : α → β → Prop} {l : List α} {m : List β} (h : All2 R l m) (k : ∀ a b, R a b → R' a b) : All2 R' l m := by
  induction h with
  | nil => exact .nil
  | cons h _ ih => exact .cons (k _ _ h) ih
theorem All2.append {R : α → β → Prop} {l l' : List α} {m m' : List β} (h : All2 R l m) (h' : All2 R l' m') : All2 R (l ++ l') (m ++ m') := by
  induction h with
  | nil => exact h'
  | cons h _ ih => exact .cons h ih
theorem All2.one {R : α → β → Prop} {a : α} {b : β} (h : R a b) : All2 R [a] [b] := .cons h .nil
theorem All2.drop {R : α → β → Prop} {l : List α} {m : List β} (h : All2 R l m) : ∀ n, All2 R (l.drop n) (m.drop n) := by
  induction h with
  | nil => intro n; rw [List.drop_nil, List.drop_nil]; exact .nil
  | cons h t ih => intro n; cases n with
    | zero => exact .cons h t
    | succ n => exact ih n
theorem All2.get {R : α → β → Prop} {l : List α} {m : List β} (h : All2 R l m) : ∀ {i : Nat} {a : α}, l[i]? = some a → ∃ b, m[i]? = some b ∧ R a b := by
  induction h with
  | nil => intro i a e; simp at e
  | cons h t ih => intro i a e; cases i with
    | zero => simp only [List.getElem?_cons_zero, Option.some.injEq] at e ⊢; subst e; exact ⟨_, rfl, h⟩
    | succ i => simp only [List.getElem?_cons_succ] at e ⊢; exact ih e
theorem All2.split {R : α → β → Prop} {l l' : List α} : ∀ {m : List β}, All2 R (l ++ l') m → ∃ m1 m2, m = m1 ++ m2 ∧ All2 R l m1 ∧ All2 R l' m2 := by
  induction l with
  | nil => intro m h; exact ⟨[], m, rfl, .nil, h⟩
  | cons a l ih =>
    intro m h
    cases h with
    | cons h t => obtain ⟨m1, m2, rfl, h1, h2⟩ := ih t; exact ⟨_ :: m1, m2, rfl, .cons h h1, h2⟩
end
/-- the law's objects: those at D may change, others stay, new ones come at the end -/
noncomputable def Same1 (D : List Addr) (q q' : Addr × Obj) : Prop := q'.1 = q.1 ∧ (q.1 ∉ D → q' = q)
structure Ext (D : List Addr) (ex ex' : List (Addr × Obj)) : Prop where
  go : ∃ ex1 new, ex' = ex1 ++ new ∧ All2 (Same1 D) ex ex1
theorem All2.same {D : List Addr} : ∀ {ex : List (Addr × Obj)}, All2 (Same1 D) ex ex
  | [] => .nil
  | q :: l => .cons ⟨rfl, fun _ => rfl⟩ (All2.same (ex := l))
theorem Ext.refl {D : List Addr} {ex : List (Addr × Obj)} : Ext D ex ex := ⟨ex, [], (List.append_nil _).symm, .same⟩
theorem Ext.snoc {D : List Addr} {ex : List (Addr × Obj)} {q : Addr × Obj} : Ext D ex (ex ++ [q]) := ⟨ex, [q], rfl, .same⟩
theorem All2.sameT {D : List Addr} {a b : List (Addr × Obj)} (h : All2 (Same1 D) a b) : ∀ {c : List (Addr × Obj)}, All2 (Same1 D) b c → All2 (Same1 D) a c := by
  induction h with
  | nil => intro c k; cases k; exact .nil
  | cons h _ ih => intro c k; cases k with
    | cons k1 k2 => exact .cons ⟨k1.1.trans h.1, fun n => (k1.2 (h.1 ▸ n)).trans (h.2 n)⟩ (ih k2)
theorem Ext.trans {D : List Addr} {ex ex1 ex2 : List (Addr × Obj)} (x : Ext D ex ex1) (y : Ext D ex1 ex2) : Ext D ex ex2 := by
  obtain ⟨a, b, rfl, h⟩ := x
  obtain ⟨c, d, rfl, k⟩ := y
  obtain ⟨c1, c2, rfl, k1, k2⟩ := k.split
  exact ⟨c1, c2 ++ d, by rw [List.append_assoc], h.sameT k1⟩
theorem Ext.mono {D D' : List Addr} {ex ex1 : List (Addr × Obj)} (x : Ext D ex ex1) (k : ∀ a ∈ D, a ∈ D') : Ext D' ex ex1 := by
  obtain ⟨a, b, rfl, h⟩ := x
  exact ⟨a, b, rfl, h.mono fun _ _ q => ⟨q.1, fun n => q.2 fun m => n (k _ m)⟩⟩
theorem All2.memL {α β : Type} {R : α → β → Prop} {l : List α} {m : List β} (h : All2 R l m) {a : α} (ha : a ∈ l) : ∃ b ∈ m, R a b := by
  induction h with
  | nil => cases ha
  | cons h _ ih =>
    rcases List.mem_cons.mp ha with rfl | ha
    · exact ⟨_, .head _, h⟩
    · obtain ⟨b, hb, r⟩ := ih ha; exact ⟨b, .tail _ hb, r⟩
theorem Ext.chg {D : List Addr} {ex ex1 : List (Addr × Obj)} (x : Ext D ex ex1) : Chg D ex ex1 := by
  obtain ⟨a, b, rfl, h⟩ := x
  intro q hq hn
  obtain ⟨q', hq', r⟩ := h.memL hq
  rw [r.2 hn] at hq'
  exact List.mem_append_left _ hq'
theorem Ext.split {D : List Addr} {own ex ex1 : List (Addr × Obj)} (x : Ext D (own ++ ex) ex1) (hn : ∀ q ∈ own, q.1 ∉ D) : ∃ ex2, ex1 = own ++ ex2 ∧ Ext D ex ex2 := by
  obtain ⟨a, b, rfl, h⟩ := x
  obtain ⟨c1, c2, rfl, k1, k2⟩ := h.split
  have e : c1 = own := by
    clear h k2
    induction k1 with
    | nil => rfl
    | cons h _ ih => rw [h.2 (hn _ (.head _)), ih fun q hq => hn q (.tail _ hq)]
  exact ⟨c2 ++ b, by rw [e, List.append_assoc], c2, b, rfl, k2⟩
section
end
/-- one of the law's rows: place, value, way -/
inductive RowAt (ex : List (Addr × Obj)) : Value → Nat × Value × Nat → Prop
  | mk {t : Addr} {r : Nat × Value × Nat} {t1 t2 : Tok} (hm : (t, tupO [.int r.1 t1, r.2.1, .int r.2.2 t2]) ∈ ex) (hp : r.1 < 12) (nv : Nb r.2.1) : RowAt ex (.ref t) r
/-- one of the law's events: way, place, value -/
inductive EvAt (ex : List (Addr × Obj)) : Value → Nat × Nat × Value → Prop
  | mk {t : Addr} {e : Nat × Nat × Value} {t1 : Tok} {kv : Value} (hm : (t, tupO [.int e.1 t1, kv, e.2.2]) ∈ ex) (hk : KL[e.2.1]? = some kv) : EvAt ex (.ref t) e
/-- the events of rows that go -/
noncomputable def evsOf (R : List (Nat × Value × Nat)) : List (Nat × Nat × Value) := R.filterMap fun r => if 0 < r.2.2 then some (r.2.2, r.1, r.2.1) else none
/-- the tuples among the law's objects stay -/
noncomputable def TupG (ex ex' : List (Addr × Obj)) : Prop := ∀ t its, (t, tupO its) ∈ ex → (t, tupO its) ∈ ex'
theorem TupG.refl {ex : List (Addr × Obj)} : TupG ex ex := fun _ _ h => h
theorem TupG.trans {ex ex1 ex2 : List (Addr × Obj)} (a : TupG ex ex1) (b : TupG ex1 ex2) : TupG ex ex2 := fun t i h => b t i (a t i h)
theorem RowAt.keep {ex ex' : List (Addr × Obj)} {v : Value} {r : Nat × Value × Nat} (x : RowAt ex v r) (k : TupG ex ex') : RowAt ex' v r := by
  obtain ⟨hm, hp, nv⟩ := x; exact ⟨k _ _ hm, hp, nv⟩
theorem EvAt.keep {ex ex' : List (Addr × Obj)} {v : Value} {e : Nat × Nat × Value} (x : EvAt ex v e) (k : TupG ex ex') : EvAt ex' v e := by
  obtain ⟨hm, hk⟩ := x; exact ⟨k _ _ hm, hk⟩
section
variable {K : Frag} {CN CL : Addr} {w : World} {g h h' : Heap} {L : Addr} {m : Str → Option Value} {st : LS} {a : Addr} {o o' : Obj} {own : List (Addr × Obj)}
/-- a change leaves the tuples -/
theorem St.tupG (S : St CN CL w g L m st h) {its : List Value} {n : Nat} (hm : (a, listOf its.toArray n) ∈ st.ex) {ex' : List (Addr × Obj)} (c : Chg [a] st.ex ex') : TupG st.ex ex' := fun t i hi => c _ hi fun q => by
  rw [List.mem_singleton] at q
  have e1 := S.exOf hi
  rw [show t = a from q, S.exOf hm] at e1
  have e2 := congrArg Obj.cls (Option.some.inj e1)
  injection e2 with e2
  exact absurd e2 (by decide)
theorem St.setE (S : St CN CL w g L m st h) (hm : (a, o) ∈ st.ex) (hs : Heap.SameBut a h h') (ho : h'.get? a = some o') : ∃ ex', St CN CL w g L m (st.withEx ex') h' ∧ (a, o') ∈ ex' ∧ Ext [a] st.ex ex' := by
  obtain ⟨pre, post, e⟩ := List.append_of_mem hm
  refine ⟨_, S.setEx e hs ho, List.mem_append_right _ (.head _), _, [], (List.append_nil _).symm, ?_⟩
  rw [e]
  exact All2.same.append (.cons ⟨rfl, fun n => absurd (.head _) n⟩ .same)
theorem St.addE (S : St CN CL w g L m st h) (k : Grow h h') (ha : h.get? a = none) (ho : h'.get? a = some o) : St CN CL w g L m (st.withEx (st.ex ++ [(a, o)])) h' := by
  refine (S.addEx k ha ho).permEx ?_
  show (st.ex ++ [(a, o)]).Perm ((a, o) :: st.ex)
  exact List.perm_append_comm
theorem St.ownNe (S : St CN CL w g L m (st.withEx (own ++ st.ex)) h) (hm : (a, o) ∈ st.ex) : ∀ q ∈ own, q.1 ∉ [a] := fun q hq e => by
  rw [List.mem_singleton] at e
  obtain ⟨p1, p2, e1⟩ := List.append_of_mem hm
  have := addrs_off (a := a) (o := o) (pre := own ++ p1) (post := p2) S.wf (by show own ++ st.ex = _; rw [e1, List.append_assoc])
  exact this.2.2.2.2.1 q (List.mem_append_left _ hq) e
theorem St.backE {st' : LS} (S : St CN CL w g L m st' h') (kk : ∀ b o, b ∉ addrs st → h.get? b = some o → g.get? b = some o) : Ctr CN CL w st st' h h' := S.back kk fun a ha => by
  by_cases hm : a ∈ addrs st
  · exact .inl hm
  · refine .inr ?_
    cases e : h.get? a with
    | none => rfl
    | some o => have := kk a o hm e; rw [(S.off a ha).2] at this; cases this
theorem St.newOutE {D : List Addr} {ex4 : List (Addr × Obj)} {h4 : Heap} (S : St CN CL w g L m (st.withEx ex4) h4) (c : Chg D st.ex ex4) (hD : ∀ d ∈ D, ∃ o, (d, o) ∈ ex4) (kk : ∀ b o, b ∉ addrs st → h.get? b = some o → g.get? b = some o) {a : Addr} (q : h4.get? a = none) : h.get? a = none := by
  have key : a ∉ addrs st := fun ha => by
    have : a ∈ addrs (st.withEx ex4) := by
      unfold addrs at ha ⊢
      simp only [List.mem_cons, List.mem_append] at ha ⊢
      rcases ha with x | x | x | x | x
      · exact .inl x
      · exact .inr (.inl x)
      · exact .inr (.inr (.inl x))
      · exact .inr (.inr (.inr (.inl x)))
      · refine .inr (.inr (.inr (.inr ?_)))
        obtain ⟨p, hp, rfl⟩ := List.mem_map.mp x
        by_cases hd : p.1 ∈ D
        · obtain ⟨o, ho⟩ := hD _ hd; exact List.mem_map.mpr ⟨_, ho, rfl⟩
        · exact List.mem_map_of_mem (c p hp hd)
    obtain ⟨o, ho⟩ := S.held this
    rw [ho] at q; cases q
  cases e : h.get? a with
  | none => rfl
  | some o => rw [S.F.keep a o (kk a o key e)] at q; cases q
end
section
variable {prog : Program} {w : World} {A : Around} {E : Value → Shared → Prop} {s : Shared} {h : Heap} {tk₀ : Nat} {p : Program} {loose : List Str} {mg mb : Str → Option Value} {h₀ : Heap} {st : LS} {r : Rg}
  {Ky : Type} [DecidableEq Ky] {T' : DT prog w (K1 w.params) Ky} {kvs : List (Ky × Value)} {k : Ky} {D : List (Ky × Rg)} {key val : Value}
/-- the loop of _law_shrunk -/
inductive ShP (st : LS) (da b : Addr) (go : Obj) (E : List (Nat × Nat × Value)) (R : List (Nat × Value × Nat)) (rv : Value) (i : Nat) (st1 : LS) (m1 : Str → Option Value) : Prop
  | mk (ex' : List (Addr × Obj)) (es : st1 = st.withEx ex') (c : Ext [da] st.ex ex') (k : TupG st.ex ex') (ds : List Value) (dn : Nat) (hd : (da, listOf ds.toArray dn) ∈ ex') (he : All2 (EvAt ex') ds (E ++ evsOf (R.take i)))
    (hb : (b, go) ∈ ex') (md : m1 "due" = some (.ref da)) (mg : m1 "gone" = some (.ref b)) (mr : m1 "rows" = some rv)
theorem evsOf_take {R : List (Nat × Value × Nat)} {i : Nat} {r : Nat × Value × Nat} (h : R[i]? = some r) : evsOf (R.take (i + 1)) = evsOf (R.take i) ++ (if 0 < r.2.2 then [(r.2.2, r.1, r.2.1)] else []) := by
  unfold evsOf
  have hlt := (List.getElem?_eq_some_iff.mp h)
  rw [List.take_add_one, h, List.filterMap_append]
  simp only [Option.toList]
  by_cases c : 0 < r.2.2
  · simp [c]
  · simp [c]
theorem evsOf_len {R : List (Nat × Value × Nat)} : (evsOf R).length ≤ R.length := List.length_filterMap_le _ _
theorem KL_some {p : Nat} (h : p < 12) : ∃ kv, KL[p]? = some kv := ⟨KL[p], List.getElem?_eq_getElem h⟩
theorem kl181 {h : Heap} (X : (K1 w.params).In h) : h.IsList 181 KL.toArray := isList_of (X _ _ (k181 w.params))
theorem pick_take {vs : List Value} {j : Nat} : slicePick vs.toArray none (some (j : Int)) none = (vs.take j).toArray := by
  have e : sliceBounds none (some (j : Int)) none vs.toArray.size = (((0 : Nat) : Int), ((min j vs.toArray.size : Nat) : Int), 1) := by
    simp only [sliceBounds, Option.getD_none, show (1 : Int) > 0 by decide, if_true, if_neg (show ¬ ((j : Int) < 0) by omega)]
    congr 1
    congr 1
    omega
  rw [kmk_pick_nat _ e]
  show ((vs.drop 0).take (min j vs.toArray.size - 0)).toArray = _
  rw [List.drop_zero, Nat.sub_zero, List.size_toArray, kmk_take_min]
theorem pick_drop {vs : List Value} {j : Nat} : slicePick vs.toArray (some (j : Int)) none none = (vs.drop j).toArray := by
  have e : sliceBounds (some (j : Int)) none none vs.toArray.size = (((min j vs.toArray.size : Nat) : Int), ((vs.toArray.size : Nat) : Int), 1) := by
    simp only [sliceBounds, Option.getD_none, show (1 : Int) > 0 by decide, if_true, if_neg (show ¬ ((j : Int) < 0) by omega)]
    congr 1
    omega
  rw [kmk_pick_nat _ e]
  show ((vs.drop (min j vs.toArray.size)).take (vs.toArray.size - min j vs.toArray.size)).toArray = _
  rw [List.size_toArray, kmk_drop_min, List.take_of_length_le (by rw [List.length_drop]; omega)]
/-- _law_shrunk(rows, keep, due) -/
theorem c_shr {Q : Value → Shared → Prop} {n : Int} {tn : Tok} {ra da : Addr} {rs ds : List Value} {rn dn : Nat} {Rw : List (Nat × Value × Nat)} {Ev : List (Nat × Nat × Value)}
   (B : Base (K1 w.params) p loose mg mb h₀ st h) (R : Rep 39 175 w st h) (hroom : A.depth < recursionLimit) (hu : A.units + 16 < cLine) (hh : A.handled = none)
   (hr : (ra, listOf rs.toArray rn) ∈ st.ex) (hR : All2 (RowAt st.ex) rs Rw) (hd : (da, listOf ds.toArray dn) ∈ st.ex) (hE : All2 (EvAt st.ex) ds Ev) (hn : 0 ≤ n) (hz : Rw.length + Ev.length ≤ 90000) (hne : ra ≠ da)
   (hQ : ∀ h' tk ex' a ds' dn', Ctr 39 175 w st (st.withEx ex') h h' → h.get? a = none → Ext [da] st.ex ex' → TupG st.ex ex' → (a, listOf (rs.drop (Rw.length - n.toNat)).toArray 0) ∈ ex' → (da, listOf ds'.toArray dn') ∈ ex' →
     All2 (EvAt ex') ds' (Ev ++ evsOf (Rw.take (Rw.length - n.toNat))) → Q (.ref a) (up s h' tk)) :
   wpAny (model prog w) A (call (.ref 188) [.ref ra, .int n tn, .ref da]) Q E (up s h tk₀) := by
  refine' enter (binds := [("rows", Value.ref ra), ("keep", .int n tn), ("due", .ref da)]) B R ?ho ?hcd hroom ?hb ?hl ?hco ?hgen ?hk ?hcell ?_
  ((case ho => k_dflt k_is); (case hcd => k_dflt k_is); (case hb => exact BindsTo.of_eq rfl); (case hl => exact locs rfl); (case hco => exact rfl); (case hgen => exact rfl); (case hk => exact rfl); (case hcell => decide))
  intro g L h1 tk kk k' X T S
  have hlen := hR.length
  have hlen2 := hE.length
  obtain ⟨m1, S, mr, mk, md⟩ : ∃ m', St 39 175 w g L m' st h1 ∧ m' "rows" = some (.ref ra) ∧ m' "keep" = some (.int n tn) ∧ m' "due" = some (.ref da) := ⟨_, S, rfl, rfl, rfl⟩
  obtain ⟨j, hj⟩ : ∃ j, Rw.length - n.toNat = j := ⟨_, rfl⟩
  rw [hj] at hQ
  have hj2 : max 0 ((rs.length : Int) - n) = (j : Int) := by omega
  have hrl : h1.IsList ra rs.toArray := isList_of (S.exOf hr)
  have hz1 : rs.length ≤ 100000 := by omega
  -- gone
  refine wpAny_execs_cons (wpAny_Assign_Name ((PvG.slice (lo := none) (hi := some (j : Int)) hrl hz1 ?ho .none (fun hx G => .some ?hhi) (by intro _ _; rfl)) s _ _ _ fun v h2 tk2 G hv => ?_) rfl)
  case ho => walk_at "pv"
  case hhi =>
    have Sx := S.grow G
    refine PvG.eqI ?hx hj2
    case hx =>
      refine PvG.max (a := 0) (b := (rs.length : Int) - n) ?hfn PvI.const (PvI.sub (PvI.lenL (hrl.at fun o e => G _ _ e) hz1 ?hfl ?hol rfl rfl rfl) (PvI.of (t := tn) ?hk)) hh rfl rfl rfl rfl
      case hfn => refine' Pv.builtin Sx X T ?he rfl ?hn rfl rfl ?hd; (case he => k_dflt k_is); (case hn => decide); (case hd => decide)
      case hfl => refine' Pv.builtin Sx X T ?he rfl ?hn rfl rfl ?hd; (case he => k_dflt k_is); (case hn => decide); (case hd => decide)
      case hol => walk_at "pv"
      case hk => walk_at "pv"
  obtain ⟨b, rfl, hb0, hb⟩ := hv
  rw [pick_take] at hb
  have S2 := S.addE G hb0 hb
  refine store_ (s := up s h2 tk2) S2 (fun h3 tk3 S3 => ?_) rfl rfl
  show wpAny _ _ (execs _ _) _ _ (up s h3 tk3)
  have hbd : b ≠ da := fun e => by rw [e, S.exOf hd] at hb0; cases hb0
  have kA : TupG st.ex (st.ex ++ [(b, listOf (rs.take j).toArray 0)]) := fun t i h => List.mem_append_left _ h
  obtain ⟨stA, hA⟩ : ∃ stA, st.withEx (st.ex ++ [(b, listOf (rs.take j).toArray 0)]) = stA := ⟨_, rfl⟩
  have exA : stA.ex = st.ex ++ [(b, listOf (rs.take j).toArray 0)] := by rw [← hA]; rfl
  have stW : ∀ ex, stA.withEx ex = st.withEx ex := fun ex => by rw [← hA]; rfl
  rw [hA] at S3
  obtain ⟨m3, S3, mr, md, mg⟩ : ∃ m', St 39 175 w g L m' stA h3 ∧ m' "rows" = some (.ref ra) ∧ m' "due" = some (.ref da) ∧ m' "gone" = some (.ref b) := ⟨_, S3, mr, md, rfl⟩
  -- the loop
  refine seqP (P := fun h' => ∃ m' st', St 39 175 w g L m' st' h' ∧ ShP stA da b (listOf (rs.take j).toArray 0) Ev Rw (.ref ra) j st' m') ?_ ?_
  · have hbm : (b, listOf (rs.take j).toArray 0) ∈ stA.ex := by rw [exA]; exact List.mem_append_right _ (.head _)
    have hbl3 : h3.IsList b (rs.take j).toArray := isList_of (S3.exOf hbm)
    have hnz : (rs.take j).toArray.size = j := by rw [List.size_toArray, List.length_take]; omega
    refine for_k (ShP stA da b (listOf (rs.take j).toArray 0) Ev Rw (.ref ra)) [(b, listOf (rs.take j).toArray 0)] (n := (rs.take j).toArray.size) (Pe := fun i v => (rs.take j).toArray[i]? = some v) S3 rfl rfl rfl ?_ ?_ ?_ ?_ ?_ (by intro _; rfl) PassesOwn.never
    · refine Pv.at (v := .ref b) ?_ fun tk4 => ?_
      · walk_at "pv"
      · exact setsK_list hh hbl3
    · refine ⟨_, rfl, Ext.refl, TupG.refl, ds, dn, by rw [exA]; exact List.mem_append_left _ hd, ?_, hbm, md, mg, mr⟩
      rw [List.take_zero]; show All2 _ _ (Ev ++ []); rw [List.append_nil]
      exact hE.mono fun _ _ x => x.keep (by rw [exA]; exact kA)
    · rintro i st' m' ⟨_, rfl, _, _, _, _, _, _, hb, _, _, _⟩ q hq
      rw [List.mem_singleton.mp hq]; exact hb
    · rintro i v m4 st4 own h4 tk4 hi hv ⟨ex4, rfl, C4, k4, ds4, dn4, hd4, he4, hb4, md, mg, mr⟩ S4
      have hij : i < j := hnz ▸ hi
      have hvi : rs[i]? = some v := by
        rw [List.getElem?_toArray, List.getElem?_take] at hv
        rw [if_pos hij] at hv; exact hv
      obtain ⟨r, hr0, hrow⟩ := hR.get hvi
      have k5 : TupG st.ex ex4 := TupG.trans (by rw [exA]; exact kA) k4
      obtain ⟨hm, hp, nv⟩ := hrow
      rename_i t t1 t2
      have hm4 := k5 _ _ hm
      rw [withEx_withEx] at S4
      have hnd := S4.ownNe (st := stA.withEx ex4) hd4
      have hdm : (da, listOf ds4.toArray dn4) ∈ own ++ ex4 := List.mem_append_right _ hd4
      obtain ⟨kv, hkv⟩ := KL_some hp
      obtain ⟨m5, S5, mrow, md, mg, mr⟩ : ∃ m', St 39 175 w g L m' (stA.withEx (own ++ ex4)) h4 ∧ m' "row" = some (.ref t) ∧ m' "due" = some (.ref da) ∧ m' "gone" = some (.ref b) ∧ m' "rows" = some (.ref ra) := ⟨_, S4, rfl, md, mg, mr⟩
      have ht : h4.get? t = some (tupO [.int r.1 t1, r.2.1, .int r.2.2 t2]) := S5.exOf (List.mem_append_right _ hm4)
      have l3 : [Value.int r.1 t1, r.2.1, Value.int r.2.2 t2].length ≤ 16 := show 3 ≤ 16 by decide
      refine wpAny_execs_cons ?_
      refine' if_t (b := decide ((0 : Int) < r.2.2)) (PvT.int .gt (PvI.of (t := t2) (Pv.itemT (i := 2) ht ?hro rfl l3 (by intro _; with_unfolding_all rfl) (by intro _; with_unfolding_all rfl))) PvI.const (by with_unfolding_all rfl)) ?yes ?no
      case hro => walk_at "pv"
      case yes =>
        intro q tk5
        have q1 : 0 < r.2.2 := by have := of_decide_eq_true q; omega
        refine wpAny_execs_cons ?_
        refine' ex_ ?_ rfl rfl
        refine ex_append (S5.exOf hdm) ?hdo (PvG.tup3 (P1 := fun v => v = .int r.2.2 t2) (PvE.of (Pv.itemT (i := 2) ht ?hr2 rfl l3 (by intro _; with_unfolding_all rfl) (by intro _; with_unfolding_all rfl)) rfl) (Pv.itemL (its := KL) (i := r.1) (kl181 (X.keeps S5.F.keep)) ?hko (PvI.of (t := t1) (Pv.itemT (i := 0) ht ?hr0x rfl l3 (by intro _; with_unfolding_all rfl) (by intro _; with_unfolding_all rfl))) hkv (by decide) (by intro _; with_unfolding_all rfl) (by intro _; with_unfolding_all rfl)) (Pv.itemT (i := 1) ht ?hr1 rfl l3 (by intro _; with_unfolding_all rfl) (by intro _; with_unfolding_all rfl)) rfl rfl rfl) (by have := he4.length; have := evsOf_len (R := Rw.take i); have := List.length_take (i := i) (l := Rw); rw [List.length_append] at *; omega) (fun v2 h5 G5 hv2 h6 tk6 hs6 ho6 => ?_) rfl rfl rfl
        case hr2 => walk_at "pv"
        case hr0x => walk_at "pv"
        case hr1 => walk_at "pv"
        case hdo => walk_at "pv"
        case hko => refine' Pv.glob S5 X T ?he rfl ?hx rfl; (case he => k_is); (case hx => exact rfl)
        obtain ⟨c, v1, rfl, rfl, hc0, hc⟩ := hv2
        have S6 := S5.addE G5 hc0 hc
        have hdm6 : (da, listOf ds4.toArray dn4) ∈ (own ++ ex4) ++ [(c, tupO [Value.int r.2.2 t2, kv, r.2.1])] := List.mem_append_left _ hdm
        obtain ⟨ex6, S7, hd7, E7⟩ := S6.setE hdm6 hs6 ho6
        have E8 : Ext [da] (own ++ (ex4 ++ [(c, tupO [Value.int r.2.2 t2, kv, r.2.1])])) ex6 := by rw [← List.append_assoc]; exact E7
        obtain ⟨ex7, rfl, E9⟩ := E8.split hnd
        have hd8 : (da, listOf (ds4 ++ [Value.ref c]).toArray (dn4 + 1)) ∈ ex7 := (List.mem_append.mp hd7).resolve_left fun q => hnd _ q (.head _)
        have hcd : c ≠ da := fun e => by rw [e, S5.exOf hdm] at hc0; cases hc0
        have ne : ∀ t its, (t, tupO its) ∈ ex4 → t ∉ [da] := fun t its hi q => by
          rw [List.mem_singleton] at q
          have e1 := S5.exOf (List.mem_append_right own hi)
          rw [q, S5.exOf hdm] at e1
          have e2 := congrArg Obj.cls (Option.some.inj e1)
          injection e2 with e2
          exact absurd e2 (by decide)
        have k7 : TupG ex4 ex7 := fun t its hi => E9.chg _ (List.mem_append_left _ hi) (ne t its hi)
        have hcm : (c, tupO [Value.int r.2.2 t2, kv, r.2.1]) ∈ ex7 := E9.chg _ (List.mem_append_right _ (.head _)) fun q => hcd (List.mem_singleton.mp q)
        refine wpAny_execs_nil (wpAny_execs_nil ⟨h6, tk6, m5, stA.withEx ex7, rfl, S7, ex7, rfl, C4.trans (Ext.snoc.trans E9), k4.trans k7, _, _, hd8, ?_, E9.chg _ (List.mem_append_left _ hb4) fun q => hbd (List.mem_singleton.mp q), md, mg, mr⟩)
        rw [evsOf_take hr0, if_pos q1, ← List.append_assoc]
        exact (he4.mono fun _ _ x => x.keep k7).append (.one ⟨hcm, hkv⟩)
      case no =>
        intro q tk5
        have q1 : ¬ 0 < r.2.2 := by have := of_decide_eq_false q; omega
        refine wpAny_execs_nil (wpAny_execs_nil ⟨h4, tk5, m5, stA.withEx ex4, rfl, S5, ex4, rfl, C4, k4, ds4, dn4, hd4, ?_, hb4, md, mg, mr⟩)
        rw [evsOf_take hr0, if_neg q1, List.append_nil]
        exact he4
    · rintro m4 st4 h4 tk4 P4 S4
      rw [hnz] at P4
      exact ⟨rfl, h4, tk4, rfl, m4, st4, S4, P4⟩
  rintro h4 tk4 ⟨m4, st4, S4, ⟨ex4, rfl, C4, k4, ds4, dn4, hd4, he4, hb4, -, mg, mr⟩⟩
  have C5 : Ext [da] st.ex ex4 := Ext.trans (by rw [exA]; exact Ext.snoc) C4
  have k5 : TupG st.ex ex4 := TupG.trans (by rw [exA]; exact kA) k4
  have hr4 : (ra, listOf rs.toArray rn) ∈ ex4 := C5.chg _ hr fun e => hne (List.mem_singleton.mp e)
  rw [stW] at S4
  have hrl4 : h4.IsList ra rs.toArray := isList_of (S4.exOf hr4)
  have hbl4 : h4.IsList b (rs.take j).toArray := isList_of (S4.exOf hb4)
  have hz3 : (rs.take j).length = j := by rw [List.length_take]; omega
  refine wpAny_execs_cons (wpAny_Return_some ((PvG.slice (lo := some (((rs.take j).length : Nat) : Int)) (hi := none) hrl4 hz1 ?ho (.some (.of (PvI.lenL hbl4 (by omega) ?hfl ?hol rfl rfl rfl))) (fun hx G => .none) (by intro _ _; rfl)) s _ _ _ fun v h5 tk5 G5 hv => ?_))
  case ho => walk_at "pv"
  case hfl => refine' Pv.builtin S4 X T ?he rfl ?hn rfl rfl ?hd; (case he => k_dflt k_is); (case hn => decide); (case hd => decide)
  case hol => walk_at "pv"
  obtain ⟨c, rfl, hc0, hc⟩ := hv
  rw [hz3, pick_drop] at hc
  have S5 := S4.addE G5 hc0 hc
  refine hQ h5 tk5 (ex4 ++ [(c, listOf (rs.drop j).toArray 0)]) c ds4 dn4 (S5.backE kk) (S4.newOutE C5.chg (fun d hd => ?_) kk hc0) (C5.trans Ext.snoc) (k5.trans fun t i h => List.mem_append_left _ h) (List.mem_append_right _ (.head _)) (List.mem_append_left _ hd4) (he4.mono fun _ _ x => x.keep fun t i h => List.mem_append_left _ h)
  rw [List.mem_singleton.mp hd]; exact ⟨_, hd4⟩
end
section
variable {prog : Program} {w : World} {A : Around} {E : Value → Shared → Prop} {s : Shared} {h : Heap} {tk₀ : Nat} {p : Program} {loose : List Str} {mg mb : Str → Option Value} {h₀ : Heap} {st : LS} {r : Rg}
  {Ky : Type} [DecidableEq Ky] {T' : DT prog w (K1 w.params) Ky} {kvs : List (Ky × Value)} {k : Ky} {D : List (Ky × Rg)} {key val : Value}
end
/-- what a call leaves that may have caught something: the frames at fs may have turned in their slots -/
structure CtrS (CN CL : Addr) (w : World) (fs : List Addr) (st st' : LS) (h h' : Heap) : Prop where
  rep : Rep CN CL w st' h'
  keeps : ∀ b o, b ∉ addrs st → b ∉ fs → h.get? b = some o → h'.get? b = some o
  frame : ∀ b o, b ∉ addrs st → h.get? b = some o → ∃ sl, h'.get? b = some { o with slots := sl }
  fresh : ∀ a ∈ addrs st', a ∈ addrs st ∨ h.get? a = none
section
variable {K : Frag} {CN CL : Addr} {w : World} {g g' h h' : Heap} {L L' : Addr} {m m' : Str → Option Value} {st st' : LS}
theorem Ctr.toS {fs : List Addr} (C : Ctr CN CL w st st' h h') : CtrS CN CL w fs st st' h h' := ⟨C.rep, fun b o n _ e => C.keeps b o n e, fun b o n e => ⟨o.slots, C.keeps b o n e⟩, C.fresh⟩
theorem St.afterS (S : St CN CL w g L m st h) (C : CtrS CN CL w [L] st st' h h') : St CN CL w g L m st' h' := by
  have fr : ∀ a ∈ addrs st', a ≠ L ∧ g.get? a = none := fun a ha => by
    rcases C.fresh a ha with q | q
    · exact S.off a q
    · obtain ⟨o, es, ep, ho, r⟩ := S.F.ns
      refine ⟨fun e => (by rw [e, ho] at q; cases q), ?_⟩
      cases z : g.get? a with
      | none => rfl
      | some o => rw [S.F.keep a o z] at q; cases q
  have Lg : g.get? L = none := kts_self S.F
  refine ⟨⟨?_, fun b o e => C.keeps b o (fun q => (by rw [(S.off b q).2] at e; cases e)) (fun q => by rw [List.mem_singleton] at q; rw [q, Lg] at e; cases e) (S.F.keep b o e), S.F.above⟩, fun p hp => ⟨C.rep.at_ p hp, fr p.1 ?_⟩, C.rep.wf, C.rep.ok⟩
  · obtain ⟨o, es, ep, ho, r⟩ := S.F.ns
    obtain ⟨sl, hsl⟩ := C.frame L o (fun q => (S.off L q).1 rfl) ho
    exact ⟨_, es, ep, hsl, r⟩
  · rw [← ledger_addrs CN CL w.params]; exact List.mem_map_of_mem hp
theorem St.backS {fs : List Addr} {g2 : Heap} (S : St CN CL w g' L' m' st' h') (kk : ∀ b o, b ∉ addrs st → h.get? b = some o → g2.get? b = some o) (T : KtsTurn fs g2 g') : CtrS CN CL w fs st st' h h' := by
  refine ⟨S.rep, fun b o n f e => S.F.keep b o (T.other b o (kk b o n e) f), fun b o n e => ?_, fun a ha => ?_⟩
  · obtain ⟨sl, hs⟩ := T.up (kk b o n e)
    exact ⟨sl, S.F.keep _ _ hs⟩
  · by_cases hm : a ∈ addrs st
    · exact .inl hm
    · refine .inr ?_
      cases e : h.get? a with
      | none => rfl
      | some o =>
        obtain ⟨sl, hs⟩ := T.up (kk a o hm e)
        rw [(S.off a ha).2] at hs; cases hs
end
section
variable {prog : Program} {w : World} {A : Around} {E : Value → Shared → Prop} {s : Shared} {h : Heap} {tk₀ : Nat} {p : Program} {loose : List Str} {mg mb : Str → Option Value} {h₀ : Heap} {st : LS} {r : Rg}
  {Ky : Type} [DecidableEq Ky] {T' : DT prog w (K1 w.params) Ky} {kvs : List (Ky × Value)} {k : Ky} {D D' : List (Ky × Rg)} {key : Value}
/-- __getitem__ of a key that is not held, asked below other frames -/
theorem c_missS {Q : Value → Shared → Prop} {outer : List Env} (B : Base (K1 w.params) p loose mg mb h₀ st h) (R : Rep 39 175 w st h) (hroom : A.depth + 1 < recursionLimit) (hu : A.units + 24 < cLine) (hh : A.handled = none)
   (C : Cst T' st D kvs) (hk : T'.isK k key) (hm : k ∉ D.map (·.1)) {base : Heap} (hb0 : base.StaysIn h₀) (BB : Below A base outer h) (hfr : ∀ env ∈ outer, ∀ a ∈ addrs st, env.frame ≠ some a)
   (hE : ∀ (e : Addr) (g h' : Heap) (tk : Nat), (∀ b o, b ∉ addrs st → h.get? b = some o → g.get? b = some o) → RaisedSN base g outer e (.type "KeyError") (ledger 39 175 w.params st) h' → g.UpToSlots h' → E (.ref e) (up s h' tk)) :
   wpAny (model prog w) A (call (.ref 72) [.ref st.c, key]) Q E (up s h tk₀) := by
  refine' enterE (binds := [("self", Value.ref st.c), ("key", key)]) B R ?ho ?hcd (by omega) ?hb ?hl ?hco ?hgen ?hk ?hcell ?_
  ((case ho => k_dflt k_is); (case hcd => k_dflt k_is); (case hb => exact BindsTo.of_eq rfl); (case hl => exact locs rfl); (case hco => exact rfl); (case hgen => exact rfl); (case hk => exact rfl); (case hcell => decide))
  intro g L h1 tk kk k' X T S
  have hu' : ∀ env, (A.deeper env).units + 8 < cLine := fun env => by simp only [Around.deeper_units]; omega
  refine wpAny_execs_cons ?_
  refine' as_name S ?he ?_ rfl rfl rfl
  case he => walk_at "pv"
  intro h2 tk2 S2
  have BG : Below A base outer g := ⟨BB.stack, fun b o e => kk b o (fun q => by have := hb0 b o e; rw [B.off b q] at this; cases this) (BB.stays b o e), frames_off kk BB.frames hfr⟩
  refine wpAny_execs_cons (wpAny_Assign_Name ?_ rfl)
  refine Subscript_ (Pv.at (v := .ref st.dd) (by walk_at "pv") fun tk3 => Pv.at (v := key) (by walk_at "pv") fun tk4 => ?_)
  refine tail_any (s := up s h2 tk4) (C.od.typeIs (s := up s h2 tk4) S2.dget) PySem.F.slot_dict_getitem.lookup ?_ (by with_unfolding_all rfl)
  refine C.od.getItemMiss (s := up s h2 tk4) (X.keeps S2.F.keep) (hu' _) hk S2.dget (C.notAt hm) C.ne hh fun h3 e tk5 hx => ?_
  exact leave_newS BG hx S2.F S2.N fun h4 hR _ hsm => hE e g h4 tk5 kk hR hsm

theorem c_missD {Q : Value → Shared → Prop} {outer : List Env} {nm : Str} {sc : Scope} {g base : Heap} {L f : Addr} {cd : Value} {m : Str → Option Value} (S : St 39 175 w g L m st h) (X : (K1 w.params).In g) (T : TopRead p loose mg mb g) (hroom : A.depth + 2 < recursionLimit) (hu : A.units + 40 < cLine) (hh : A.handled = none)
   (C : Cst T' st D kvs) (hk : T'.isK k key) (hm : k ∉ D.map (·.1)) (BG : Below A base outer g) (hfr : ∀ env ∈ outer, ∀ a ∈ addrs st, env.frame ≠ some a) (hsc : sc.kind = .function)
   (hE : ∀ (e : Addr) (g3 h' : Heap) (tk : Nat), (∀ b o, b ∉ addrs st → h.get? b = some o → g3.get? b = some o) → RaisedSN base g3 (envOf nm sc L f cd :: outer) e (.type "KeyError") (ledger 39 175 w.params st) h' → g3.UpToSlots h' → E (.ref e) (up s h' tk)) :
   wpAny (model prog w) (A.deeper (envOf nm sc L f cd)).in1 (call (.ref 72) [.ref st.c, key]) Q E (up s h tk₀) := by
  have BP := BG.push (name := nm) (scope := sc) (a := f) (cd := cd) S.F hsc
  refine c_missS (base := base) (outer := envOf nm sc L f cd :: outer) (S.base X T) S.rep (by show A.depth + 1 + 1 < _; omega) (by simp only [Around.in1_units, Around.deeper_units]; omega) hh C hk hm BG.stays ⟨BP.stack, BP.stays, BP.frames⟩ ?_ hE
  intro env he a ha hf
  rcases List.mem_cons.mp he with rfl | he
  · exact (S.off a ha).1 (Option.some.inj hf).symm
  · exact hfr env he a ha hf
/-- what _law_looked tells -/
noncomputable def toldOf (x : Option Value) (kd : Int) (num : Value) : List Value := match x with | some v => [v] | none => if kd == 7 then [.none] else if kd == 8 then [num] else []
/-- _law_looked(cache, key, kind, number), called by the law -/
theorem c_look {Q : Value → Shared → Prop} {lawE : Env} {g₀ : Heap} {L₀ : Addr} {kd : Int} {tkd : Tok} {num : Value} {mean : ExcName → Option Value} (B : Base (K1 w.params) p loose mg mb g₀ st h) (R : Rep 39 175 w st h) (hroom : A.depth + 2 < recursionLimit) (hu : A.units + 40 < cLine) (hh : A.handled = none)
   (C : Cst T' st D kvs) (hk : T'.isK k key) (TB : Top p loose mean mg mb g₀) (BB : Below A g₀ [lawE] h) (hfr : lawE.frame = some L₀) (hL : L₀ ∉ addrs st) (hLd : ∃ o es n, h.get? L₀ = some o ∧ o.data = .dict es n)
   (hQ : ∀ h' tk st' D' a, CtrS 39 175 w [L₀] st (st'.withEx (st.ex ++ [(a, listOf (toldOf ((look (vw st D) k).map (·.1)) kd num).toArray 0)])) h h' → Fixd st st' → Cst T' st' D' kvs → vw st' D' = touch (vw st D) k → Q (.ref a) (up s h' tk)) :
   wpAny (model prog w) A (call (.ref 207) [.ref st.c, key, .int kd tkd, num]) Q E (up s h tk₀) := by
  refine' enter (binds := [("cache", Value.ref st.c), ("key", key), ("kind", .int kd tkd), ("number", num)]) B R ?ho ?hcd (by omega) ?hb ?hl ?hco ?hgen ?hk ?hcell ?_
  ((case ho => k_dflt k_is); (case hcd => k_dflt k_is); (case hb => exact BindsTo.of_eq rfl); (case hl => exact locs rfl); (case hco => exact rfl); (case hgen => exact rfl); (case hk => exact rfl); (case hcell => decide))
  intro g L h1 tk kk k' X T S
  obtain ⟨m1, S, mc, mk, mkd, mn⟩ : ∃ m', St 39 175 w g L m' st h1 ∧ m' "cache" = some (.ref st.c) ∧ m' "key" = some key ∧ m' "kind" = some (.int kd tkd) ∧ m' "number" = some num := ⟨_, S, rfl, rfl, rfl, rfl⟩
  -- cache.get(key)
  refine wpAny_execs_cons (if_t (b := kd == 7) (PvT.int .eq (PvI.of (t := tkd) ?hl) PvI.const (by with_unfolding_all rfl)) ?_ ?_)
  case hl => walk_at "pv"
  · intro q tk2
    refine wpAny_execs_cons (wpAny_Return_some (wpAny_List (spliced_more ?_ rfl)))
    refine' ev_m1 (f := 102) (x := st.c) ?hpo ?he S.cinst (X.keeps S.F.keep) (pcL _) ?hf ?ht ?hkp rfl ?_ rfl rfl rfl
    case hpo => walk_at "pv"
    case he => walk_at "pv"
    ((case hf => k_dflt k_is); (case ht => k_dflt k_is); (case hkp => k_dflt k_is))
    intro tk3
    refine c_get (dflt := .none) (S.base X T) S.rep (by show A.depth + 1 + 1 < _; omega) (by simp only [Around.deeper_units]; omega) C hk (.inr ⟨rfl, rfl⟩) fun h2 tk4 st' D2 C2 F2 K2 e2 => ?_
    refine spliced_none ⟨two_le (show 1 ≤ 16 by decide), ?_⟩
    have S3 := (S.after C2).addE Grow.push size_none (Heap.get?_push_size _ (o := listOf (toldOf ((look (vw st D) k).map (·.1)) kd num).toArray 0) rfl)
    rw [F2.ex] at S3
    have q7 : [((look (vw st D) k).map (·.1)).getD .none] = toldOf ((look (vw st D) k).map (·.1)) kd num := by
      cases (look (vw st D) k).map (·.1) with
      | some v => rfl
      | none => unfold toldOf; rw [if_pos q]; rfl
    rw [q7]
    exact hQ _ _ st' D2 _ (S3.backE kk).toS F2 K2 e2
  intro q7 tk2
  refine wpAny_execs_nil ?_
  show wpAny _ _ (execs _ _) _ _ (up s h1 tk2)
  refine wpAny_execs_cons (if_t (b := kd == 8) (PvT.int .eq (PvI.of (t := tkd) ?hl) PvI.const (by with_unfolding_all rfl)) ?_ ?_)
  case hl => walk_at "pv"
  · intro q tk3
    refine wpAny_execs_cons (wpAny_Return_some (wpAny_List (spliced_more ?_ rfl)))
    refine' ev_m2 (f := 102) (x := st.c) ?hpo ?he ?he2 S.cinst (X.keeps S.F.keep) (pcL _) ?hf ?ht ?hkp rfl ?_ rfl rfl rfl rfl
    case hpo => walk_at "pv"
    case he => walk_at "pv"
    case he2 => walk_at "pv"
    ((case hf => k_dflt k_is); (case ht => k_dflt k_is); (case hkp => k_dflt k_is))
    intro tk4
    refine c_get (dflt := num) (S.base X T) S.rep (by show A.depth + 1 + 1 < _; omega) (by simp only [Around.deeper_units]; omega) C hk (.inl rfl) fun h2 tk4 st' D2 C2 F2 K2 e2 => ?_
    refine spliced_none ⟨two_le (show 1 ≤ 16 by decide), ?_⟩
    have S3 := (S.after C2).addE Grow.push size_none (Heap.get?_push_size _ (o := listOf (toldOf ((look (vw st D) k).map (·.1)) kd num).toArray 0) rfl)
    rw [F2.ex] at S3
    have q9 : [((look (vw st D) k).map (·.1)).getD num] = toldOf ((look (vw st D) k).map (·.1)) kd num := by
      cases (look (vw st D) k).map (·.1) with
      | some v => rfl
      | none => unfold toldOf; rw [if_neg (by rw [q7]; exact Bool.false_ne_true), if_pos q]; rfl
    rw [q9]
    exact hQ _ _ st' D2 _ (S3.backE kk).toS F2 K2 e2
  intro q8 tk3
  refine wpAny_execs_nil ?_
  show wpAny _ _ (execs _ _) _ _ (up s h1 tk3)
  refine wpAny_execs_cons ?_
  refine wpAny_Try_except ?_
  refine wpAny_execs_cons (wpAny_Return_some (wpAny_List (spliced_more ?_ rfl)))
  refine Subscript_ (Pv.at (v := .ref st.c) (by walk_at "pv") fun tk4 => Pv.at (v := key) (by walk_at "pv") fun tk5 => ?_)
  refine sub_K (s := up s h1 tk5) (C := 175) (f := 72) S.F X S.cinst (by k_dflt k_is) (by k_dflt k_is) (by k_dflt k_is) ?_ (by with_unfolding_all rfl)
  by_cases hm : k ∈ D.map (·.1)
  · obtain ⟨D1, r, D2, rfl⟩ := C.split hm
    refine c_item (S.base X T) S.rep (by show A.depth + 1 + 1 < _; omega) (by simp only [Around.in1_units, Around.deeper_units]; omega) C hk fun h2 tk6 st1 C1 F1 K1 e1 => ?_
    refine spliced_none ⟨two_le (show 1 ≤ 16 by decide), ?_⟩
    have S3 := (S.after C1).addE Grow.push size_none (Heap.get?_push_size _ (o := listOf (toldOf ((look (vw st (D1 ++ (k, r) :: D2)) k).map (·.1)) kd num).toArray 0) rfl)
    rw [F1.ex] at S3
    have q9 : [(st.F r.x).val] = toldOf ((look (vw st (D1 ++ (k, r) :: D2)) k).map (·.1)) kd num := by
      rw [C.look_hit.1]; rfl
    rw [q9]
    exact hQ _ _ st1 _ _ (S3.backE kk).toS F1 K1 (C.touch_hit fun y => ⟨(e1 y).1, (e1 y).2.1⟩)
  · have BG : Below A g₀ [lawE] g := ⟨BB.stack, fun b o e => kk b o (fun q => by rw [B.off b q] at e; cases e) (B.stays b o e), frames_off kk BB.frames (fun env he a ha hf => by
      rw [List.mem_singleton.mp he, hfr] at hf; exact hL ((Option.some.inj hf) ▸ ha))⟩
    have efs : [lawE].filterMap (·.frame) = [L₀] := by simp [hfr]
    refine c_missD S X T hroom (by omega) hh C hk hm BG ?_ rfl ?_
    · intro env he a ha hf
      rw [List.mem_singleton.mp he, hfr] at hf; exact hL ((Option.some.inj hf) ▸ ha)
    ·
      intro e g3 h2 tk6 kk3 R3 hsm
      have offL : L ∉ addrs st := fun q => (S.off L q).1 rfl
      have F3 : Fr g L g3 m1 := by
        obtain ⟨oL, es, ep, hoL, rL⟩ := S.F.ns
        exact ⟨⟨oL, es, ep, kk3 L oL offL hoL, rL⟩, fun b o hb => kk3 b o (fun q => by rw [(S.off b q).2] at hb; cases hb) (S.F.keep b o hb), S.F.above⟩
      have D3 : KtsDicts ([lawE].filterMap (·.frame)) g := fun b hb => by
        rw [efs] at hb
        obtain ⟨o, es, n, ho, hd⟩ := hLd
        rw [List.mem_singleton.mp hb]
        exact ⟨o, es, n, kk _ _ hL ho, hd⟩
      refine caught_SN0 (x := "KeyError") (X := "KeyError") (T' := "KeyError") (s' := up s h2 tk6) R3 F3 BG hsm B.X TB D3 KtsTurn.refl (by k_dflt k_is) PyProof.Rows.Boot.«KeyError» (by decide) kr_isExc_KeyError kr_notTuple_KeyError (by rw [isSubtype_type]; kernel_rfl) (fun h3 g' T3 F4 N4 K4 X4 P4 D4 => ?_)
      rw [efs] at T3
      have S4 : St 39 175 w g' L m1 st h3 := ⟨F4, N4, S.wf, S.ok⟩
      show wpAny _ _ (execs _ _) _ _ (up s h3 tk6)
      refine wpAny_execs_cons (wpAny_Return_some (wpAny_List (spliced_none ⟨Nat.zero_le _, ?_⟩)))
      have S5 := S4.addE Grow.push size_none (Heap.get?_push_size _ (o := listOf (toldOf ((look (vw st D) k).map (·.1)) kd num).toArray 0) rfl)
      have q9 : ([] : List Value) = toldOf ((look (vw st D) k).map (·.1)) kd num := by
        rw [(C.look_miss hm).1]; unfold toldOf; rw [show Option.map (fun x : Value × Value => x.1) none = none from rfl, if_neg (by rw [q7]; exact Bool.false_ne_true), if_neg (by rw [q8]; exact Bool.false_ne_true)]
      rw [q9]
      exact hQ _ _ st D _ (S5.backS kk T3) Fixd.refl C (C.look_miss hm).2.1.symm
end
section
variable {prog : Program} {w : World} {A : Around} {E : Value → Shared → Prop} {s : Shared} {g h : Heap} {L : Addr} {m : Str → Option Value} {st : LS} {CN CL : Addr} {tk : Nat} {env : Env}
/-- y = [x for x in it if ..], on one line -/
theorem as_comp {x y : Str} {px p2 py : Pos} {iter : Expr} {ifs : List Expr} {scope : Scope} {cl : List (Str × Addr)} {pos spos : Pos} {n : Nat} {Pe : Nat → Value → Prop} {pz : Value → Bool} {Q : Flow → Shared → Prop}
    (S : St CN CL w g L m st h) (hL : env.locals = L)
    (hsw : swapsWith (.ListComp (.Name x p2) [⟨.Name x px, iter, ifs, 0⟩] scope pos) (some (.Name y py)) spos.line env = pure true)
    (hit : wpAny (model prog w) A (eval iter env) (fun xv s₁ => wpAny (model prog w) A (pyIter xv) (CSet prog w A h n Pe s) E s₁) E (up s h tk)) (hz : n ≤ 100000)
    (hclos : closureFor scope env = pure cl) (hcell : ∀ y ∈ scope.names, y.2 ≠ .cell) (hkind : scope.kind = .function) (hnames : ∀ y ∈ scope.names, y.2 = .local → scope.names.lookup y.1 = some .local)
    (hx : scope.names.lookup x = some .local) (hd : (x == ("__debug__" : Str)) = false) (hs : ∀ x, foldedSetIterable iter env x = pure x)
    (hy : env.kindOf y = some .local) (hp : (env.scope.kind == .class || (env.scope.kind == .module && env.locals != env.globals)) = false)
    (tests : CTest prog w A h x scope cl env ifs n Pe pz s)
    (q : ∀ (D : Addr) (h' : Heap) (tk' : Nat) (vs : List Value), vs.length = n → (∀ j v, vs[j]? = some v → Pe j v) →
      St CN CL w g L (fun z => if z = y then some (.ref D) else m z) (st.withEx (st.ex ++ [(D, listOf (vs.filter pz).toArray (vs.filter pz).length)])) h' → Q .next (up s h' tk')) :
    wpAny (model prog w) A (exec (.Assign [.Name y py] (.ListComp (.Name x p2) [⟨.Name x px, iter, ifs, 0⟩] scope pos) spos) env) Q E (up s h tk) := by
  subst hL
  rw [exec_Assign_Name_used _ _ _ _ hsw]
  refine wpAny_bind (wpAny_standAt (wpAny_bind ?_))
  show wpAny _ A (do let _ ← comprehension (.ListComp (.Name x p2) [⟨.Name x px, iter, ifs, 0⟩] scope pos) scope env _ (newList []) false (eval iter env) (some (assign (.Name y py) env))) _ _ (up s h tk)
  refine wpAny_bind (wpAny_mono (wpAny_comprehension_free (use := some (assign (.Name y py) env)) (Q := fun _ s' => Q .next s') rfl hs hclos hkind hnames
    (wpAny_mono hit (fun xv s₁ h₁ => wpAny_mono h₁ (fun it s₂ hset => ?_) fun _ _ e => e) fun _ _ e => e)) (fun _ s' hq => wpAny_pure (wpAny_pure hq)) fun _ _ e => e)
  obtain ⟨I, fp, wr, Sw, h2, tk2, rfl, rfl, G, W, hst, hfp, hwr⟩ := hset.go
  have gr : ∀ h' : Heap, (∀ b o, b ∉ wr → h2.get? b = some o → h'.get? b = some o) → Grow h h' := fun h' k b o e => k b o (fun hb => by rw [hwr b hb] at e; cases e) (G b o e)
  have none1 : ∀ b, h2.get? b = none → h.get? b = none := fun b e => by
    cases e2 : h.get? b with
    | none => rfl
    | some o => rw [G b o e2] at e; cases e
  refine comp_core (pz := pz) (x := x) W hst hfp hz hcell hkind hx hd (fun i v C mm h' tk' Q E hi hp k hn hm qq => tests i v C mm h' tk' Q E hi hp (gr h' k) hn hm qq) fun D C h' tk' mm vs k hn fC fD hCD hl hv hD => ?_
  have S1 := S.addE (gr h' k) (none1 D fD) hD
  have hCL : C ≠ env.locals := fun e => by
    obtain ⟨oL, _, _, hoL, _⟩ := S.F.ns
    rw [← e, none1 C fC] at hoL; cases hoL
  show wpAny _ A (assign (.Name y py) env (.ref D)) _ _ _
  refine wpAny_assign_Name (wpAny_storeName_local (s := up s h' tk') hy S1.F.ns (fun h3 hn3 hs3 => ?_) hp)
  refine ⟨mm, hn.sameBut hs3 hCL, fun h4 hs4 => ?_⟩
  have S3 : St CN CL w g env.locals (fun z => if z = y then some (.ref D) else m z) (st.withEx (st.ex ++ [(D, listOf (vs.filter pz).toArray (vs.filter pz).length)])) h3 := ⟨S1.F.set hn3 hs3, S1.N.set hs3, S1.wf, S1.ok⟩
  refine q D h4 _ vs hl hv ?_
  have offC : C ∉ addrs (st.withEx (st.ex ++ [(D, listOf (vs.filter pz).toArray (vs.filter pz).length)])) := fun hm => by
    have hm2 : C ∈ addrs st ∨ C = D := by
      unfold addrs LS.withEx at hm
      unfold addrs
      simp only [List.mem_cons, List.mem_append, List.map_append, List.map_cons, List.map_nil, List.not_mem_nil, or_false] at hm ⊢
      rcases hm with e | e | e | e | e | e
      · exact .inl (.inl e)
      · exact .inl (.inr (.inl e))
      · exact .inl (.inr (.inr (.inl e)))
      · exact .inl (.inr (.inr (.inr (.inl e))))
      · exact .inl (.inr (.inr (.inr (.inr e))))
      · exact .inr e
    rcases hm2 with hm2 | hm2
    · obtain ⟨o, ho⟩ := S.held hm2
      rw [none1 C fC] at ho; cases ho
    · exact hCD hm2
  have gC : g.get? C = none := by
    cases e : g.get? C with
    | none => rfl
    | some o => have := S.F.keep C o e; rw [none1 C fC] at this; cases this
  refine ⟨S3.F.change hs4 hCL gC, fun q hq => ⟨hs4.extBut _ _ (fun e => offC ?_) (S3.N q hq).1, (S3.N q hq).2⟩, S3.wf, S3.ok⟩
  rw [← e, ← ledger_addrs CN CL w.params]; exact List.mem_map_of_mem hq
end
section
variable {prog : Program} {w : World} {A : Around} {E : Value → Shared → Prop} {s : Shared} {h : Heap} {tk₀ : Nat} {p : Program} {loose : List Str} {mg mb : Str → Option Value} {h₀ : Heap} {st : LS} {r : Rg}
  {Ky : Type} [DecidableEq Ky] {T' : DT prog w (K1 w.params) Ky} {kvs : List (Ky × Value)} {k : Ky} {D : List (Ky × Rg)} {key val : Value}
end
section
variable {A : Around} {s : Shared} {ex : List (Addr × Obj)}
open PySem.SeqAt
theorem ev_eqAt {v v' : Value} {e : Nat × Nat × Value} (hx : ∀ q ∈ ex, s.heap.get? q.1 = some q.2) (hu : A.units < cLine) (x : EvAt ex v e) (y : EvAt ex v' e) : EqAt A s v v' true := by
  obtain ⟨hm, hk⟩ := x
  obtain ⟨hm2, hk2⟩ := y
  rename_i t t1 kv t' t1' kv'
  rw [hk] at hk2; cases hk2
  by_cases ht : t = t'
  · subst ht; exact EqAt.same _
  · refine eqAt_of_rc (fun q => ht (by injection q)) nofun ?_
    have h1 : s.heap.IsTuple t [Value.int e.1 t1, kv, e.2.2].toArray := ⟨_, hx _ hm, rfl, 0, rfl⟩
    have h2 : s.heap.IsTuple t' [Value.int e.1 t1', kv, e.2.2].toArray := ⟨_, hx _ hm2, rfl, 0, rfl⟩
    refine RcAt.tuples (e := fun _ => true) h1 h2 hu fun j p1 p2 => ?_
    match j, p1, p2 with
    | 0, _, _ =>
      have := EqAt.int_int (A := A.in1) (s := s) e.1 t1 e.1 t1'
      rw [beq_self_eq_true] at this; exact this
    | 1, _, _ => exact EqAt.same _
    | 2, _, _ => exact EqAt.same _
end
section
variable {prog : Program} {w : World} {A : Around} {E : Value → Shared → Prop} {s : Shared} {ex : List (Addr × Obj)} {h : Heap} {env : Env}
open PySem.SeqAt
theorem All2.both {α β γ : Type} {R : α → β → Prop} {R' : γ → β → Prop} {l : List α} {m : List β} {l' : List γ} (h : All2 R l m) (h' : All2 R' l' m) : ∀ (j : Nat) (a : α) (c : γ), l[j]? = some a → l'[j]? = some c → ∃ b, R a b ∧ R' c b := by
  induction h generalizing l' with
  | nil => intro j a c e; simp at e
  | cons h _ ih =>
    cases h' with
    | cons h2 t2 =>
      intro j a c e1 e2
      cases j with
      | zero => simp only [List.getElem?_cons_zero, Option.some.injEq] at e1 e2; subst e1 e2; exact ⟨_, h, h2⟩
      | succ j => simp only [List.getElem?_cons_succ] at e1 e2; exact ih t2 j a c e1 e2
/-- written != due is false where both tell the same events -/
theorem evs_ne {a b : Addr} {ws ds : List Value} {n1 n2 : Nat} {Ev : List (Nat × Nat × Value)} (hx : ∀ q ∈ ex, s.heap.get? q.1 = some q.2) (hu : A.units + 2 < cLine) (ha : s.heap.get? a = some (listOf ws.toArray n1)) (hb : s.heap.get? b = some (listOf ds.toArray n2))
    (x : All2 (EvAt ex) ws Ev) (y : All2 (EvAt ex) ds Ev) : RcNeAt A s (.ref a) (.ref b) false := by
  have := RcNeAt.lists (A := A) (s := s) (e := fun _ => true) (isList_of ha) (isList_of hb) (by rw [List.size_toArray, List.size_toArray, x.length, y.length]) (by omega) (fun j p1 p2 => by
    obtain ⟨e, r1, r2⟩ := x.both y j ws[j] ds[j] (List.getElem?_eq_getElem _) (List.getElem?_eq_getElem _)
    exact ev_eqAt hx (by rw [show A.in1.units = A.units + 1 from rfl]; omega) r1 r2)
  rw [show (!(List.range ws.toArray.size).all fun _ => true) = false by simp] at this
  exact this
end
section
variable {prog : Program} {K : Frag} {CN CL : Addr} {w : World} {h₀ g h h' : Heap} {L : Addr} {m : Str → Option Value} {st st' : LS} {A : Around} {E : Value → Shared → Prop} {s : Shared} {tk₀ : Nat}
  {p : Program} {loose : List Str} {mg mb : Str → Option Value}
theorem bindC_all {kindOf : Str → Option NameKind} : ∀ (binds : List (Str × Value)) {m : Str → Option Value}, (∀ y ∈ binds, kindOf y.1 = some .local) → bindC kindOf binds m = m
  | [], _, _ => rfl
  | (n, v) :: r, m, hl => by
    show bindC kindOf r (if kindOf n = some .local then m else _) = m
    rw [if_pos (hl _ (.head _))]
    exact bindC_all r fun y hy => hl y (.tail _ hy)
/-- entering a def that has one cell, its own -/
theorem enterC {name qual : Str} {params : Arguments} {body : List Stmt} {scope : Scope} {dV kV doc pm cdv ct oc : Value} {an od : Option Addr} {osl : Array (Option Value)} {f : Addr} {pos : List Value} {kw : List (Str × Value)} {binds : List (Str × Value)} {x : Str} {Q : Value → Shared → Prop}
    (B : Base K p loose mg mb h₀ st h) (R : Rep CN CL w st h)
    (ho : K.lookup f = some ⟨oc, od, .func (fnOf name qual params body scope dV kV doc pm an cdv ct), osl⟩) (hcd : codeIn K cdv qual = true) (hroom : A.depth < recursionLimit)
    (hbind : BindsTo (up s h tk₀) (fnOf name qual params body scope dV kV doc pm an cdv ct) ⟨pos, kw⟩ binds) (hloc : ∀ y ∈ binds, scope.names.lookup y.1 = some .local)
    (hco : scope.isCoroutine = false) (hgen : scope.isGenerator = false) (hk : scope.kind = .function) (hcell : ∀ n, cellsFrom n scope.names [] = [(x, n)])
    (q : ∀ g L' h₁ tk o mm, (∀ b o, b ∉ addrs st → h.get? b = some o → g.get? b = some o) → K.In g → TopRead p loose mg mb g → St CN CL w g L' mm (st.withEx (st.ex ++ [(L' + 1, o)])) h₁ → o.data = .cell none →
      mm = bindL (envX qual scope L' f cdv [(x, L' + 1)]).kindOf binds (fun _ => none) →
      wpAny (model prog w) (A.deeper (envX qual scope L' f cdv [(x, L' + 1)])) (execs body (envX qual scope L' f cdv [(x, L' + 1)]))
        (fun fl s' => Q (match fl with | .ret v => v | _ => .none) s') (fun _ _ => False) (up s h₁ tk))
 : wpAny (model prog w) A (call (.ref f) pos kw) Q E (up s h tk₀) := by
  have k0 : ∀ b o, b ∉ addrs st → h.get? b = some o → (hideAll h (addrs st)).get? b = some o := fun b o n e => hideAll_get _ e n
  have st0 : ∀ b o, h₀.get? b = some o → (hideAll h (addrs st)).get? b = some o := fun b o e => k0 b o (fun q => (by rw [B.off b q] at e; cases e)) (B.stays b o e)
  refine wpAny_call ?_
  refine codeAny_call_function (fd := fnOf name qual params body scope dV kV doc pm an cdv ct) hroom (B.stays _ _ (B.X _ _ ho)) rfl hco hgen rfl (codeRec_of (B.X.keeps B.stays) hcd) (hbind _ _ _ _ ?_)
  refine wpAny_newFunctionEnv_cells hk (fun y hy => .inl (hloc y hy)) fun env' he s' xx => ?_
  subst he
  refine ⟨(B.T.nolimit.keeps B.stays).keeps xx.toInCall.keep, codeAny_func ?_⟩
  obtain ⟨h₁, tk, rfl, hk₁⟩ := xx.done
  have ecl := hcell (h.objs.size + 1)
  have hc := xx.cell x (h.objs.size + 1) (by show (cellsFrom (h.objs.size + 1) scope.names []).lookup x = _; rw [ecl]; simp)
  obtain ⟨o, hoc, hod⟩ := hc
  rw [bindC_all binds fun y hy => hloc y hy] at hod
  have led : ∀ q ∈ ledger CN CL w.params st, q.1 < h.objs.size := fun q hq => Heap.lt_size (R.at_ q hq)
  have adl : ∀ a ∈ addrs st, a < h.objs.size := fun a ha => by
    rw [← ledger_addrs CN CL w.params] at ha
    obtain ⟨q, hq, rfl⟩ := List.mem_map.mp ha
    exact led q hq
  have gsz : (hideAll h (addrs st)).objs.size = h.objs.size := hideAll_size _ _
  have hns : h₁.Ns h.objs.size (bindL (envX qual scope h.objs.size f cdv [(x, h.objs.size + 1)]).kindOf binds fun _ => none) := xx.toInCall.ns
  have main := q (hideAll h (addrs st)) h.objs.size h₁ tk o _ k0 (B.X.keeps st0) (B.T.keeps st0) ⟨⟨hns, fun b o e => hk₁ b o (of_hideAll _ e), Nat.le_of_eq gsz⟩, fun q hq => ?_, ?_, ⟨R.ok.F, R.ok.mru, R.ok.lru, R.ok.mx, R.ok.af⟩⟩ hod rfl
  · show wpAny (model prog w) (A.deeper (envOfC qual scope h.objs.size f cdv)) (execs body (envOfC qual scope h.objs.size f cdv)) _ _ _
    rw [show envOfC qual scope h.objs.size f cdv = envX qual scope h.objs.size f cdv [(x, h.objs.size + 1)] by unfold envOfC; rw [ecl]]
    exact wpAny_mono main (fun _ _ z => z) fun _ _ z => z.elim
  · unfold ledger LS.withEx at hq
    simp only [List.mem_cons, List.mem_append, List.not_mem_nil, or_false] at hq
    have old : q ∈ ledger CN CL w.params st → h₁.get? q.1 = some q.2 ∧ q.1 ≠ h.objs.size ∧ (hideAll h (addrs st)).get? q.1 = none := fun hl =>
      ⟨hk₁ _ _ (R.at_ q hl), Nat.ne_of_lt (led q hl), hideAll_none _ (by rw [← ledger_addrs CN CL w.params]; exact List.mem_map_of_mem hl)⟩
    unfold ledger at old
    simp only [List.mem_cons, List.mem_append] at old
    rcases hq with z | z | z | z | z | z
    · exact old (.inl z)
    · exact old (.inr (.inl z))
    · exact old (.inr (.inr (.inl z)))
    · exact old (.inr (.inr (.inr (.inl z))))
    · exact old (.inr (.inr (.inr (.inr z))))
    · subst z
      refine ⟨hoc, Nat.ne_of_gt (Nat.lt_succ_self _), ?_⟩
      cases e : (hideAll h (addrs st)).get? (h.objs.size + 1) with
      | none => rfl
      | some o => have := Heap.lt_size e; rw [gsz] at this; exact absurd this (Nat.not_lt.mpr (Nat.le_succ _))
  · have : (addrs (st.withEx (st.ex ++ [(h.objs.size + 1, o)]))).Perm ((h.objs.size + 1) :: addrs st) := by
      unfold addrs LS.withEx
      show (st.c :: st.dc :: st.dd :: (regAddrs st.reg ++ (st.ex ++ [(h.objs.size + 1, o)]).map (·.1))).Perm _
      rw [List.map_append, ← List.append_assoc]
      exact (List.perm_append_comm (l₁ := st.c :: st.dc :: st.dd :: (regAddrs st.reg ++ st.ex.map (·.1))) (l₂ := [h.objs.size + 1]))
    rw [this.nodup_iff, List.nodup_cons]
    exact ⟨fun ha => absurd (adl _ ha) (Nat.not_lt.mpr (Nat.le_succ _)), R.wf⟩
end
section
open PySem PySem.W PyProof.Rows PySem.Calls PySem.SeqAt
section
variable {prog : Program} {w : World} {K : Frag} {Ky : Type} [DecidableEq Ky] {T : DT prog w K Ky} {A : Around} {E : Value → Shared → Prop} {s : Shared} {d : Addr} {o : Obj} {kvs : List (Ky × Value)} {k : Ky} {key v : Value}
  {CN CL : Addr} {g h : Heap} {L : Addr} {m : Str → Option Value} {st : LS} {tk : Nat} {env : Env}
/-- key not in d -/
theorem OD.notIn {Q : Value → Shared → Prop} (X : K.In s.heap) (hu : A.units + 8 < cLine) (hk : T.isK k key) (ho : s.heap.get? d = some o) (hd : OD T o kvs) (hs : (d == sysModules) = false)
    (h : ∀ tk, Q (.bool (!(valueAt kvs k).isSome)) { s with toks := tk }) : wpAny (model prog w) A (compareOp .NotIn key (.ref d)) Q E s := by
  have ht := hd.typeIs ho
  show wpAny _ _ (do return .bool (!(← contains (.ref d) key))) Q E s
  refine wpAny_bind ?_
  unfold contains
  refine wpAny_holding (wpAny_bind (wpAny_specialOf ht slot_dict_contains.lookup ?_))
  show wpAny _ _ (if (some (Value.builtin "dict.__contains__") == some Value.none) = true then _ else _) _ E s
  rw [if_neg (by rw [beq_builtin_none]; exact Bool.false_ne_true)]
  refine wpAny_bind (wpAny_callSpecialUnlessNone?_slot (name := Str.ofString "__contains__") ht slot_dict_contains (wpAny_call_entry slot_dict_contains ht entry_dict_contains ?_ (args_dict_contains _ _)))
  show wpAny _ _ (dictGet d key >>= _) _ _ s
  refine wpAny_bind (hd.get X (by simp only [Around.in1_units]; omega) hk ho fun tk => ?_)
  cases hf : valueAt kvs k with
  | some v =>
    show wpAny _ _ (ret (.bool true)) _ _ _
    exact wpAny_pure ⟨_, rfl, wpAny_truthy_bool (wpAny_pure (by have := h tk; rw [hf] at this; exact this))⟩
  | none =>
    show wpAny _ _ (Builtin.Dict.pendingKey? d key >>= _) _ _ _
    exact wpAny_bind (wpAny_pendingKey_other hs (wpAny_pure ⟨_, rfl, wpAny_truthy_bool (wpAny_pure (by have := h tk; rw [hf] at this; exact this))⟩))
/-- d[i] = e, of a dict among the law's objects -/
theorem ex_put {Q : Flow → Shared → Prop} {od i e : Expr} {pos pos' : Pos} (S : St CN CL w g L m st h) (X : K.In g) (hu : A.units + 8 < cLine) (hm : (d, o) ∈ st.ex) (he : Pv prog w A env e v h) (ho : Pv prog w A env od (.ref d) h) (hi : Pv prog w A env i key h) (hk : T.isK k key) (hd : OD T o kvs) (hz : kvs.length ≤ 100000)
    (q : ∀ h' o' tk ex', OD T o' (stored kvs k v) → (d, o') ∈ ex' → Ext [d] st.ex ex' → St CN CL w g L m (st.withEx ex') h' → Q .next (up s h' tk))
    (hs : swapsWith e (some (od.Subscript i pos')) pos.line env = pure false) : wpAny (model prog w) A (exec (.Assign [od.Subscript i pos'] e pos) env) Q E (up s h tk) :=
  wpAny_Assign_Subscript (he.at fun tk => ho.at fun tk' => hi.at fun tk2 => hd.setItem (s := up s h tk2) (X.keeps S.F.keep) hu hk (S.exOf hm) hz fun h' o' tk3 b c dd => by
    obtain ⟨ex', S', hm', E'⟩ := S.setE hm b c
    exact q h' o' tk3 ex' dd hm' E' S') hs
/-- len of a dict -/
theorem PvI.lenD {fn ol : Expr} {pos : Pos} (ho' : h.get? d = some o) (hd : OD T o kvs) (hs : (d == sysModules) = false) (hz : kvs.length ≤ 100000) (hfn : Pv prog w A env fn (.builtin "len") h) (ho : Pv prog w A env ol (.ref d) h)
    (hst : starEach [ol] env = (false, eval ol env) :: starEach [] env) (hpl : (backTo pos (starEach [] env)).any (·.1) = false)
    (hsh : eval (fn.Call [ol] [] pos) env = do
          let __do_lift ← eval fn env
          callWith pos __do_lift [] (backTo pos (starEach [ol] env)) (backToKw pos (keywordEach [] env))) :
    PvI prog w A env (fn.Call [ol] [] pos) kvs.length h := fun s Q E hs' q => by
  subst hs'
  refine Call_ (hfn _ _ _ rfl fun tk => callWith_builtin1 (spliced_more (ho _ _ _ rfl fun tk' => spliced_none ?_) hst) hst hpl) hsh
  exact hd.len (s := { s with toks := tk' }) ho' hs hz fun t tk2 => q _ _ ⟨t, rfl⟩
/-- {} -/
theorem PvG.dict0 {pos : Pos} : PvG prog w A env (.Dict [] [] pos) (fun v h' => ∃ b, v = .ref b ∧ h.get? b = none ∧ h'.get? b = some (dictOf [] 0)) h := fun s tk E Q q =>
  wpAny_Dict_empty (q _ _ _ Grow.push ⟨_, rfl, size_none, Heap.get?_push_size _ rfl⟩)
end

end
section
open PySem PySem.W PyProof.Rows PySem.Calls PySem.SeqAt
section
variable {prog : Program} {K : Frag} {CN CL : Addr} {w : World} {g h h' : Heap} {L : Addr} {m : Str → Option Value} {st : LS} {A : Around} {E : Value → Shared → Prop} {s : Shared} {tk : Nat} {v v2 : Value} {env : Env}
  {a c : Addr} {o o' : Obj} {cn : Str} {cs : Scope} {f : Addr} {cd : Value} {cl : List (Str × Addr)} {x : Str} {its : List Value} {n : Nat}
/-- x = e, x a cell's name -/
theorem as_cellG {P : Value → Heap → Prop} {v₀ : Option Value} {e : Expr} {pos pos' : Pos} {Q : Flow → Shared → Prop} (S : St CN CL w g L m st h) (he : PvG prog w A (envX cn cs L f cd cl) e P h) (hc : cl.lookup x = some c) (hm : (c, o) ∈ st.ex) (hd' : o.data = .cell v₀)
    (q : ∀ v h1 (tk1 : Nat), P v h1 → Grow h h1 → ∀ h2 o', Heap.SameBut c h1 h2 → h2.get? c = some o' → o'.data = .cell (some v) → Q .next (up s h2 tk1))
    (hk : cs.kind = .function) (hl : (envX cn cs L f cd cl).kindOf x = some .cell) (hs : swapsWith e (some (.Name x pos')) pos.line (envX cn cs L f cd cl) = pure false) :
    wpAny (model prog w) A (exec (.Assign [.Name x pos'] e pos) (envX cn cs L f cd cl)) Q E (up s h tk) := by
  refine wpAny_Assign_Name (he s tk E _ fun v h1 tk1 G hv => ?_) hs
  exact storeCX (S.grow G) hc hm hd' (fun h2 o2 hs2 ho2 hd2 => q v h1 tk1 hv G h2 o2 hs2 ho2 hd2) hk hl
/-- x = e, x a local's name of a frame with cells -/
theorem as_nameX {P : Value → Heap → Prop} {e : Expr} {pos pos' : Pos} {Q : Flow → Shared → Prop} (S : St CN CL w g L m st h) (he : PvG prog w A (envX cn cs L f cd cl) e P h)
    (q : ∀ v h1 (tk1 : Nat), P v h1 → Grow h h1 → ∀ h2 (tk2 : Nat), (∀ ex, St CN CL w g L m (st.withEx ex) h1 → St CN CL w g L (fun y => if y = x then some v else m y) (st.withEx ex) h2) → Q .next (up s h2 tk2))
    (hk : cs.kind = .function) (hl : (envX cn cs L f cd cl).kindOf x = some .local) (hs : swapsWith e (some (.Name x pos')) pos.line (envX cn cs L f cd cl) = pure false) :
    wpAny (model prog w) A (exec (.Assign [.Name x pos'] e pos) (envX cn cs L f cd cl)) Q E (up s h tk) := by
  refine wpAny_Assign_Name (he s tk E _ fun v h1 tk1 G hv => ?_) hs
  exact wpAny_storeName_local (s := up s h1 tk1) hl (S.grow G).F.ns (fun h2 hn hs2 => q v h1 tk1 hv G h2 _ fun ex S' => ⟨S'.F.set hn hs2, S'.N.set hs2, S'.wf, S'.ok⟩) (by show (cs.kind == .class || (cs.kind == .module && L != mainGlobals)) = false; rw [hk]; rfl)
/-- fewer of the law's objects -/
theorem St.narrow {ex' : List (Addr × Obj)} (S : St CN CL w g L m (st.withEx ex') h) (hs : ∀ q ∈ st.ex, q ∈ ex') (wf : (addrs st).Nodup) : St CN CL w g L m st h := by
  refine ⟨S.F, fun q hq => S.N q ?_, wf, ⟨S.ok.F, S.ok.mru, S.ok.lru, S.ok.mx, S.ok.af⟩⟩
  unfold ledger at hq ⊢
  simp only [List.mem_cons, List.mem_append] at hq ⊢
  rcases hq with x | x | x | x | x
  · exact .inl x
  · exact .inr (.inl x)
  · exact .inr (.inr (.inl x))
  · exact .inr (.inr (.inr (.inl x)))
  · exact .inr (.inr (.inr (.inr (hs _ x))))
/-- a call that leaves the ledger only adds -/
theorem Ctr.grow (C : Ctr CN CL w st st h h') (R : Rep CN CL w st h) : Grow h h' := fun b o e => by
  by_cases hb : b ∈ addrs st
  · rw [← ledger_addrs CN CL w.params] at hb
    obtain ⟨q, hq, rfl⟩ := List.mem_map.mp hb
    rw [R.at_ q hq] at e; cases e
    exact C.rep.at_ q hq
  · exact C.keeps b o hb e
/-- {} -/
theorem PvG.dict1 {pos : Pos} : PvG prog w A env (.Dict [] [] pos) (fun v h' => ∃ b, v = .ref b ∧ h.objs.size ≤ b ∧ h.get? b = none ∧ h'.get? b = some (dictOf [] 0)) h := fun s tk E Q q =>
  wpAny_Dict_empty (q _ _ _ Grow.push ⟨_, rfl, Nat.le_refl _, size_none, Heap.get?_push_size _ rfl⟩)
theorem St.high (S : St CN CL w g L m st h) (hm : sysModules < g.objs.size) {b : Addr} (hb : h.objs.size ≤ b) : (b == sysModules) = false :=
  beq_eq_false_iff_ne.mpr (Nat.ne_of_gt (Nat.lt_of_lt_of_le (Nat.lt_trans (Nat.lt_of_lt_of_le hm S.F.above) S.F.ns.lt) hb))
/-- the keys of keys(), one after another -/
theorem cset_keys {Ky : Type} [DecidableEq Ky] {T : DT prog w K Ky} {kvs : List (Ky × Value)} {d va : Addr} {es : Array DictEntry} {ep : Nat} {h0 : Heap} (hh : A.handled = none) (G : Grow h0 h) (hv : KdlKeysView h va d) (ha : RawAt h d es ep) (he : EOk T.isK T.hash es.toList kvs) :
    wpAny (model prog w) A (pyIter (.ref va)) (CSet prog w A h0 es.size (fun i v => ∃ kv, kvs[i]? = some kv ∧ T.isK kv.1 v) s) E (up s h tk) := by
  refine rk_iter (s := up s h tk) hv ha ?_
  have hd : d < h.objs.size := by obtain ⟨o, ho, _⟩ := ha; exact Heap.lt_size ho
  refine ⟨h.objs.size, [h.objs.size, d], [h.objs.size], (fun i h' => h'.IsKeyIter h.objs.size d i es.size ep ∧ RawAt h' d es ep), _, tk, rfl, rfl, G.trans Grow.push, ?_, ?_, ?_, ?_⟩
  · have W := Walks.rawKeys (prog := prog) (w := w) hh h.objs.size d (Nat.ne_of_lt hd) es ep
    refine ⟨W.sub, W.frame, fun i s Q E hi st hQ => W.item i s Q E hi st fun v h' tk' hP => hQ v h' tk' ?_, W.done, W.self⟩
    obtain ⟨e, h1, rfl⟩ := hP
    obtain ⟨k, v, h2, h3⟩ : ∃ k v, kvs[i]? = some (k, v) ∧ T.isK k e.key := by
      have hl := he.length
      have hi' : i < kvs.length := by rw [← hl, Array.length_toList]; exact hi
      obtain ⟨e', g1, g2, -⟩ := he.get (i := i) (List.getElem?_eq_getElem hi')
      rw [Array.getElem?_toList, h1] at g1; cases g1
      exact ⟨_, _, List.getElem?_eq_getElem hi', g2⟩
    exact ⟨_, h2, h3⟩
  · exact ⟨⟨_, Heap.get?_push_size _ rfl, rfl, rfl⟩, ha.keep fun o e => Heap.get?_push_of_some _ e⟩
  · intro b hb
    rw [Heap.size_push]
    rcases List.mem_cons.mp hb with rfl | hb
    · exact Nat.lt_succ_self _
    · rw [List.mem_singleton.mp hb]; exact Nat.lt_succ_of_lt hd
  · intro b hb
    rw [List.mem_singleton.mp hb]
    cases e : h0.get? h.objs.size with
    | none => rfl
    | some o => exact absurd (Heap.lt_size (G _ _ e)) (Nat.lt_irrefl _)
/-- the items of a list, one after another -/
theorem cset_list {l : Addr} (hh : A.handled = none) (hl : h.IsList l its.toArray) :
    wpAny (model prog w) A (pyIter (.ref l)) (CSet prog w A h its.length (fun i v => its[i]? = some v) s) E (up s h tk) := by
  have hlt : l < h.objs.size := by obtain ⟨o, ho, _⟩ := hl; exact Heap.lt_size ho
  have e1 : ∀ (i : Nat) (v : Value), (its.toArray[i]? = some v) = (its[i]? = some v) := fun i v => by rw [List.getElem?_toArray]
  refine wpAny_pyIter_list (s := up s h tk) hl ⟨h.objs.size, [h.objs.size, l], [h.objs.size], _, _, tk, rfl, rfl, Grow.push, (show Walks prog w A h.objs.size [h.objs.size, l] [h.objs.size] its.length (fun i v => its[i]? = some v) (fun i h' => h'.IsListIter h.objs.size l i ∧ h'.IsList l its.toArray) from ?_), ?_, ?_, ?_⟩
  · have W := Walks.list (prog := prog) (w := w) hh h.objs.size l (Nat.ne_of_lt hlt) its.toArray
    rw [List.size_toArray, show (fun (i : Nat) (v : Value) => its.toArray[i]? = some v) = fun i v => its[i]? = some v from funext fun i => funext fun v => by rw [List.getElem?_toArray]] at W
    exact W
  · exact ⟨⟨_, Heap.get?_push_size _ rfl, rfl, rfl⟩, hl.at fun o e => Heap.get?_push_of_some _ e⟩
  · intro b hb
    rw [Heap.size_push]
    rcases List.mem_cons.mp hb with rfl | hb
    · exact Nat.lt_succ_self _
    · rw [List.mem_singleton.mp hb]; exact Nat.lt_succ_of_lt hlt
  · intro b hb
    rw [List.mem_singleton.mp hb]
    exact size_none
end

end
section
open PySem PySem.W PyProof.Rows PySem.Calls PySem.SeqAt
section
variable {prog : Program} {K : Frag} {CN CL : Addr} {w : World} {g h h' : Heap} {L : Addr} {m : Str → Option Value} {st : LS} {A : Around} {E : Value → Shared → Prop} {s : Shared} {tk : Nat} {v v2 : Value} {env : Env}
  {a c d : Addr} {o o' : Obj} {x : Str} {its : List Value} {n : Nat} {Ky : Type} [DecidableEq Ky] {T : DT prog w K Ky} {kvs : List (Ky × Value)}
/-- a dict under way -/
inductive DictP (T : DT prog w K Ky) (st : LS) (d : Addr) (kvs : List (Ky × Value)) (m : Str → Option Value) (x : Str) (i : Nat) (st1 : LS) (m1 : Str → Option Value) : Prop
  | mk (ex1 : List (Addr × Obj)) (o : Obj) (es : st1 = st.withEx ex1) (sub : ∀ q ∈ st.ex, q ∈ ex1) (hm : (d, o) ∈ ex1) (od : OD T o (kvs.take i)) (mm : ∀ y, (y == x) = false → m1 y = m y)
theorem Pv.bool {b : Bool} {k : Nat} {pos : Pos} : Pv prog w A env (.Constant (.bool b) k pos) (.bool b) h := fun s Q E hs q => wpAny_Constant_bool (q s.toks)
/-- for x in items: d[i] = e -/
theorem for_fill {px pos pos1 pos2 : Pos} {iter od ie e : Expr} {Q : Flow → Shared → Prop} {ex0 : List (Addr × Obj)} (S : St CN CL w g L m (st.withEx ex0) h) (X : K.In g) (hL : env.locals = L) (hu : A.units + 8 < cLine) (hh : A.handled = none)
    (sub0 : ∀ q ∈ st.ex, q ∈ ex0) (hd0 : (d, dictOf [] 0) ∈ ex0) (hne : ∀ q ∈ st.ex, q.1 ≠ d) (hl : (a, listOf its.toArray n) ∈ st.ex) (hit : Pv prog w A env iter (.ref a) h)
    (hn : (kvs.map (·.1)).Nodup) (hlen : its.length = kvs.length) (hz : kvs.length ≤ 100000)
    (hkey : ∀ (i : Nat) (kv : Ky × Value) (m1 : Str → Option Value) (ex1 : List (Addr × Obj)) (h1 : Heap), kvs[i]? = some kv → ∀ v, its[i]? = some v → St CN CL w g L (fun y => if y = x then some v else m1 y) (st.withEx ex1) h1 → (∀ q ∈ st.ex, q ∈ ex1) → (∀ y, (y == x) = false → m1 y = m y) →
      ∃ key, T.isK kv.1 key ∧ Pv prog w A env e kv.2 h1 ∧ Pv prog w A env od (.ref d) h1 ∧ Pv prog w A env ie key h1)
    (done : ∀ (m1 : Str → Option Value) (ex1 : List (Addr × Obj)) (o : Obj) (h' : Heap) (tk' : Nat), St CN CL w g L m1 (st.withEx ex1) h' → (∀ q ∈ st.ex, q ∈ ex1) → (d, o) ∈ ex1 → OD T o kvs → (∀ y, (y == x) = false → m1 y = m y) → Q .next (up s h' tk'))
    (hx : env.kindOf x = some .local) (hp : (env.scope.kind == .class || (env.scope.kind == .module && env.locals != env.globals)) = false)
    (hs1 : swapsWith e (some (od.Subscript ie pos1)) pos2.line env = pure false) (hs : ∀ x, foldedSetIterable iter env x = pure x) (hE : PassesOwn (model prog w) A env E) :
    wpAny (model prog w) A (exec (.For (.Name x px) iter [.Assign [od.Subscript ie pos1] e pos2] [] pos) env) Q E (up s h tk) := by
  have hl0 : h.IsList a its.toArray := isList_of (S.exOf (sub0 _ hl))
  have hnz : its.toArray.size = kvs.length := by rw [List.size_toArray, hlen]
  refine for_k (DictP T st d kvs m x) [(a, listOf its.toArray n)] (n := its.toArray.size) (Pe := fun i v => its.toArray[i]? = some v) S hL hx hp ?_ ?_ ?_ ?_ ?_ hs hE
  · exact hit.at fun tk4 => setsK_list hh hl0
  · exact ⟨ex0, _, rfl, sub0, hd0, by rw [List.take_zero]; exact OD.new, fun _ _ => rfl⟩
  · rintro i st' m' ⟨ex1, o1, rfl, sub1, hm1, od1, mm1⟩ q hq
    rw [List.mem_singleton.mp hq]; exact sub1 _ hl
  · rintro i v m4 st4 own h4 tk4 hi hv ⟨ex4, o4, rfl, sub4, hm4, od4, mm4⟩ S4
    have S4 : St CN CL w g L (fun y => if y = x then some v else m4 y) (st.withEx (own ++ ex4)) h4 := S4
    have hik : i < kvs.length := hnz ▸ hi
    rw [List.getElem?_toArray] at hv
    obtain ⟨⟨k, u⟩, hkv⟩ : ∃ kv, kvs[i]? = some kv := ⟨kvs[i], List.getElem?_eq_getElem hik⟩
    obtain ⟨key, hk, p1, p2, p3⟩ := hkey i (k, u) m4 (own ++ ex4) h4 hkv v hv S4 (fun q hq => List.mem_append_right _ (sub4 q hq)) mm4
    have hnd := S4.ownNe (st := st.withEx ex4) hm4
    refine wpAny_execs_cons ?_
    refine ex_put (s := s) S4 X hu (List.mem_append_right _ hm4) p1 p2 p3 hk od4 (by rw [List.length_take]; omega) (fun h5 o5 tk5 ex5 od5 hm5 E5 S5 => ?_) hs1
    obtain ⟨ex6, rfl, E6⟩ := E5.split hnd
    have hm6 : (d, o5) ∈ ex6 := (List.mem_append.mp hm5).resolve_left fun q => hnd _ q (.head _)
    have hnot : k ∉ (kvs.take i).map (·.1) := by
      have e : kvs = kvs.take i ++ (k, u) :: kvs.drop (i + 1) := by
        have := List.take_append_drop i kvs
        rw [List.drop_eq_getElem_cons hik] at this
        rw [← Option.some.inj ((List.getElem?_eq_getElem hik).symm.trans hkv)]; exact this.symm
      rw [e, List.map_append, List.nodup_append] at hn
      exact fun hm => hn.2.2 k hm k (.head _) rfl
    rw [stored_new hnot] at od5
    refine wpAny_execs_nil ⟨h5, tk5, _, st.withEx ex6, rfl, S5, ex6, o5, rfl, fun q hq => E6.chg q (sub4 q hq) fun e => hne q hq (List.mem_singleton.mp e), hm6, ?_, fun y hy => ?_⟩
    · rw [List.take_succ_eq_append_getElem hik, Option.some.inj ((List.getElem?_eq_getElem hik).symm.trans hkv)]; exact od5
    · show (if y = x then _ else _) = _
      rw [if_neg (fun e => by rw [e] at hy; simp at hy)]; exact mm4 y hy
  · rintro m4 st4 h4 tk4 ⟨ex4, o4, rfl, sub4, hm4, od4, mm4⟩ S4
    rw [hnz, List.take_length] at od4
    exact done m4 ex4 o4 h4 tk4 S4 sub4 hm4 od4 mm4
end

end
local macro_rules | `(tactic| walk_at "px") => `(tactic| first
  | (refine' Pv.nameX (by assumption) ?hv ?hk ?hl ?hd; (case hv => first | exact rfl | assumption); (case hk => exact rfl); (case hl => exact rfl); (case hd => decide))
  | (refine' Pv.globX (by assumption) (by assumption) (by assumption) ?he ?hk ?hx ?hd; (case he => k_is); (case hk => exact rfl); (case hx => exact rfl); (case hd => decide)))
section
variable {prog : Program} {w : World} {A : Around} {E : Value → Shared → Prop} {s : Shared} {h : Heap} {tk₀ : Nat} {p : Program} {loose : List Str} {mg mb : Str → Option Value} {h₀ : Heap} {st : LS} {r : Rg}
  {Ky : Type} [DecidableEq Ky] {T' : DT prog w (K1 w.params) Ky} {kvs : List (Ky × Value)} {k : Ky} {D : List (Ky × Rg)} {key val : Value}
end
/-- place and value of a row -/
noncomputable def prR (r : Nat × Value × Nat) : Nat × Value := (r.1, r.2.1)
section
variable {prog : Program} {w : World} {A : Around} {E : Value → Shared → Prop} {s : Shared} {h : Heap} {tk₀ : Nat} {p : Program} {loose : List Str} {mg mb : Str → Option Value} {h₀ : Heap} {st : LS} {D : List (Nat × Rg)} {kvs : List (Nat × Value)}
theorem comp_cell {x : Str} {pos : Pos} {c : Addr} {v : Value} {cl : List (Str × Addr)} {env : Env} {C : Addr} {sc : Scope} (hc : cl.lookup x = some c) (hv : h.IsCell c (some v)) (hk : (compEnvC sc cl C env).scope.kind = .function) (hl : (compEnvC sc cl C env).kindOf x = some .cell) (hd : (x == ("__debug__" : Str)) = false) :
    Pv prog w A (compEnvC sc cl C env) (.Name x pos) v h := fun s Q E hs q => by
  subst hs
  exact ldCellK (C := C) hc hv (q s.toks) hk hl hd
theorem Rep.ne {CN CL : Addr} {a : Addr} (R : Rep CN CL w st h) (ha : h.get? a = none) : ∀ q ∈ st.ex, q.1 ≠ a := fun q hq e => by
  have := R.exOf (a := q.1) (o := q.2) hq
  rw [e, ha] at this; cases this
/-- _law_alike(cache, rows, due, written) -/
theorem c_alike {Q : Value → Shared → Prop} {ra wa da : Addr} {rs ws ds : List Value} {rn wn dn : Nat} {Rw : List (Nat × Value × Nat)} {Ev : List (Nat × Nat × Value)}
   (B : Base (K1 w.params) p loose mg mb h₀ st h) (R : Rep 39 175 w st h) (hroom : A.depth + 2 < recursionLimit) (hu : A.units + 40 < cLine) (hh : A.handled = none)
   (C : Cst (TK prog w) st D kvs) (hz : kvs.length ≤ 90000)
   (hr : (ra, listOf rs.toArray rn) ∈ st.ex) (hR : All2 (RowAt st.ex) rs Rw) (hw : (wa, listOf ws.toArray wn) ∈ st.ex) (hW : All2 (EvAt st.ex) ws Ev) (hd : (da, listOf ds.toArray dn) ∈ st.ex) (hE : All2 (EvAt st.ex) ds Ev)
   (hp : (Rw.map prR).Perm ((vw st D).map fun e => (e.1, e.2.1)))
   (hQ : ∀ h' tk, Ctr 39 175 w st st h h' → Q (.bool true) (up s h' tk)) :
   wpAny (model prog w) A (call (.ref 200) [.ref st.c, .ref ra, .ref da, .ref wa]) Q E (up s h tk₀) := by
  refine' enterC (binds := [("cache", Value.ref st.c), ("rows", .ref ra), ("due", .ref da), ("written", .ref wa)]) (x := "held") B R ?ho ?hcd (by omega) ?hb ?hl ?hco ?hgen ?hk ?hcell ?_
  case ho => k_dflt k_is
  case hcd => k_dflt k_is
  case hb => exact BindsTo.of_eq rfl
  case hl => exact locs rfl
  case hco => exact rfl
  case hgen => exact rfl
  case hk => exact rfl
  case hcell => intro n; rfl
  intro g L h1 tk o mm kk X T S hcd hmm
  obtain ⟨mc, mr, md, mw⟩ : mm "cache" = some (.ref st.c) ∧ mm "rows" = some (.ref ra) ∧ mm "due" = some (.ref da) ∧ mm "written" = some (.ref wa) := by rw [hmm]; exact ⟨rfl, rfl, rfl, rfl⟩
  clear hmm
  have cm1 : (L + 1, o) ∈ (st.withEx (st.ex ++ [(L + 1, o)])).ex := List.mem_append_right _ (.head _)
  -- held = {}
  refine wpAny_execs_cons ?_
  refine as_cellG S PvG.dict1 (c := L + 1) rfl cm1 hcd (fun v h2 tk2 hv G h3 o3 hs3 ho3 hd3 => ?_) rfl rfl rfl
  obtain ⟨ha, rfl, has, ha0, ha1⟩ := hv
  have S2 := (S.addE G ha0 ha1)
  obtain ⟨ex3, S3, cm3, E3⟩ := S2.setE (a := L + 1) (List.mem_append_left _ cm1) hs3 ho3
  have nL : ∀ q ∈ st.ex, q.1 ≠ L + 1 := fun q hq e => by
    obtain ⟨p1, p2, e1⟩ := List.append_of_mem hq
    have := addrs_off (a := q.1) (o := q.2) (pre := p1) (post := p2 ++ [(L + 1, o)]) S.wf (by show st.ex ++ _ = _; rw [e1, List.append_assoc]; rfl)
    exact this.2.2.2.2.2 (L + 1, o) (List.mem_append_right _ (.head _)) e.symm
  have hne1 : ∀ q ∈ (st.withEx (st.ex ++ [(L + 1, o)])).ex, q.1 ≠ ha := S.rep.ne ha0
  have hneA : ∀ q ∈ st.ex ++ [(L + 1, o3)], q.1 ≠ ha := fun q hq => (List.mem_append.mp hq).elim (fun hq => hne1 q (List.mem_append_left _ hq)) fun hq => by rw [List.mem_singleton.mp hq]; exact hne1 (L + 1, o) cm1
  have sub3 : ∀ q ∈ st.ex ++ [(L + 1, o3)], q ∈ ex3 := fun q hq => (List.mem_append.mp hq).elim (fun hq => E3.chg q (List.mem_append_left _ (List.mem_append_left _ hq)) fun e => nL q hq (List.mem_singleton.mp e)) fun hq => by rw [List.mem_singleton.mp hq]; exact cm3
  have hm3 : (ha, dictOf [] 0) ∈ ex3 := E3.chg _ (List.mem_append_right _ (.head _)) fun e => hne1 (L + 1, o) cm1 (List.mem_singleton.mp e).symm
  rw [withEx_withEx] at S3
  -- for row in rows
  have hRl := hR.length
  have hDl : Rw.length = D.length := by have := hp.length_eq; rw [List.length_map, List.length_map] at this; rw [this]; unfold vw; rw [List.length_map]
  have hkl := C.len
  have hkn : ((Rw.map prR).map (·.1)).Nodup := by
    rw [(hp.map _).nodup_iff, List.map_map]
    have := C.keys_nd
    rw [← vw_keys (st := st)] at this
    exact this
  have hha : (ha == sysModules) = false := S.high (modules_low T.nolimit) has
  refine wpAny_execs_cons ?_
  refine for_fill (T := TK prog w) (st := st.withEx (st.ex ++ [(L + 1, o3)])) (d := ha) (a := ra) (its := rs) (n := rn) (kvs := Rw.map prR) S3 X rfl (by simp only [Around.deeper_units]; omega) hh sub3 hm3 hneA (List.mem_append_left _ hr) ?hit hkn (by rw [List.length_map, hRl]) (by rw [List.length_map]; omega) ?hkey ?_ rfl rfl rfl (by intro _; rfl) PassesOwn.never
  case hit => walk_at "px"
  case hkey =>
    intro i kv m4 ex4 h4 hkv v hv S4 sub4 mm4
    obtain ⟨r, hr0, hrow⟩ := hR.get hv
    rw [List.getElem?_map, hr0] at hkv; cases hkv
    obtain ⟨hmt, hpl, nv⟩ := hrow
    rename_i t t1 t2
    have ht : h4.get? t = some (tupO [.int r.1 t1, r.2.1, .int r.2.2 t2]) := S4.exOf (sub4 _ (List.mem_append_left _ hmt))
    have l3 : [Value.int r.1 t1, r.2.1, Value.int r.2.2 t2].length ≤ 16 := show 3 ≤ 16 by decide
    obtain ⟨kv, hkv⟩ := KL_some hpl
    refine ⟨kv, hkv, Pv.itemT (i := 1) ht ?h1 rfl l3 (by intro _; with_unfolding_all rfl) (by intro _; with_unfolding_all rfl), ?h2, Pv.itemL (its := KL) (i := r.1) (kl181 (X.keeps S4.F.keep)) ?h3 (PvI.of (t := t1) (Pv.itemT (i := 0) ht ?h4 rfl l3 (by intro _; with_unfolding_all rfl) (by intro _; with_unfolding_all rfl))) hkv (by decide) (by intro _; with_unfolding_all rfl) (by intro _; with_unfolding_all rfl)⟩
    case h1 => walk_at "px"
    case h2 => exact Pv.cellX S4 (c := L + 1) rfl (sub4 (L + 1, o3) (List.mem_append_right _ (.head _))) hd3 rfl rfl rfl
    case h3 => walk_at "px"
    case h4 => walk_at "px"
  intro m4 ex4 ho h4 tk4 S4 sub4 hm4 od4 mm4
  have subS : ∀ q ∈ st.ex, q ∈ ex4 := fun q hq => sub4 q (List.mem_append_left _ hq)
  have cm4 : (L + 1, o3) ∈ ex4 := sub4 _ (List.mem_append_right _ (.head _))
  have C4 : Cst (TK prog w) (st.withEx ex4) D kvs := C.withEx
  have S4 : St 39 175 w g L m4 (st.withEx ex4) h4 := S4
  obtain ⟨mc, mr, md, mw⟩ : m4 "cache" = some (.ref st.c) ∧ m4 "rows" = some (.ref ra) ∧ m4 "due" = some (.ref da) ∧ m4 "written" = some (.ref wa) := ⟨(mm4 _ (by decide)).trans mc, (mm4 _ (by decide)).trans mr, (mm4 _ (by decide)).trans md, (mm4 _ (by decide)).trans mw⟩
  clear mm4 sub4 S3 S2 S hm3 sub3 E3 hneA hne1 cm1 hcd
  -- told = [key for key in cache.keys()]
  obtain ⟨-, es, ep, hdat, heok, -⟩ := id C.od
  have hesz : es.size = kvs.length := by rw [← heok.length, Array.length_toList]
  show wpAny _ _ (execs _ _) _ _ (up s h4 tk4)
  refine wpAny_execs_cons ?_
  refine as_comp (st := st.withEx ex4) (n := es.size) (Pe := fun i v => ∃ kv, kvs[i]? = some kv ∧ (TK prog w).isK kv.1 v) (pz := fun _ => true) S4 rfl rfl ?hit (by omega) rfl ?hcell rfl ?hnames rfl rfl (by intro _; rfl) rfl rfl CTest.nil ?_
  case hcell => decide
  case hnames => decide
  case hit =>
    refine' ev_m0 (f := 109) (x := st.c) ?hpo S4.cinst (X.keeps S4.F.keep) (pcL _) ?hf ?ht ?hkp rfl ?_ rfl
    case hpo => walk_at "px"
    ((case hf => k_dflt k_is); (case ht => k_dflt k_is); (case hkp => k_dflt k_is))
    intro tk5
    refine c_keys (st := st.withEx ex4) (S4.base X T) S4.rep (by show A.depth + 1 < _; omega) (by simp only [Around.deeper_units]; omega) hh C4 (by omega) fun h5 tk6 a C5 ha5 hv5 => ?_
    have G5 := C5.grow S4.rep
    exact cset_keys (T := TK prog w) (kvs := kvs) hh G5 ⟨_, hv5, rfl, rfl⟩ ⟨_, G5 _ _ S4.dget, hdat⟩ heok
  intro told h5 tk5 vs hvl hvk S5
  have hvf : vs.filter (fun _ => true) = vs := List.filter_eq_self.mpr fun _ _ => rfl
  rw [hvf] at S5
  obtain ⟨ex5, hex5, S5⟩ : ∃ ex5, ex5 = ex4 ++ [(told, listOf vs.toArray vs.length)] ∧ St 39 175 w g L (fun z => if z = "told" then some (.ref told) else m4 z) (st.withEx ex5) h5 := ⟨_, rfl, S5⟩
  have sub45 : ∀ q ∈ ex4, q ∈ ex5 := fun q hq => by rw [hex5]; exact List.mem_append_left _ hq
  have tm5 : (told, listOf vs.toArray vs.length) ∈ ex5 := by rw [hex5]; exact List.mem_append_right _ (.head _)
  clear hex5
  obtain ⟨m5, S5, mc, mr, md, mw, mt⟩ : ∃ m5, St 39 175 w g L m5 (st.withEx ex5) h5 ∧ m5 "cache" = some (.ref st.c) ∧ m5 "rows" = some (.ref ra) ∧ m5 "due" = some (.ref da) ∧ m5 "written" = some (.ref wa) ∧ m5 "told" = some (.ref told) := ⟨_, S5, mc, mr, md, mw, rfl⟩
  -- once = {}
  refine wpAny_execs_cons ?_
  refine as_nameX S5 PvG.dict1 (fun v h6 tk6 hv G6 h7 tk7 toS => ?_) rfl rfl rfl
  obtain ⟨on, rfl, ons, on0, on1⟩ := hv
  have S7 := toS _ (S5.addE G6 on0 on1)
  have hon : (on == sysModules) = false := S5.high (modules_low T.nolimit) ons
  have hvl2 : vs.length = (kvs.map fun kv => (kv.1, Value.bool true)).length := by rw [hvl, List.length_map, hesz]
  have hk2 : ((kvs.map fun kv => (kv.1, Value.bool true)).map (·.1)).Nodup := by
    rw [List.map_map]; exact C.od.nodup
  refine wpAny_execs_cons ?_
  refine for_fill (T := TK prog w) (st := st.withEx ex5) (d := on) (a := told) (its := vs) (n := vs.length) (kvs := kvs.map fun kv => (kv.1, Value.bool true)) S7 X rfl (by simp only [Around.deeper_units]; omega) hh (fun q hq => List.mem_append_left _ hq) (List.mem_append_right _ (.head _)) (S5.rep.ne on0) tm5 ?hit hk2 hvl2 (by rw [List.length_map]; omega) ?hkey ?_ rfl rfl rfl (by intro _; rfl) PassesOwn.never
  case hit => exact Pv.nameX S7 (by exact mt) rfl rfl (by decide)
  case hkey =>
    intro i kv m8 ex8 h8 hkv v hv S8 sub8 mm8
    obtain ⟨kv0, hk0, hkey⟩ := hvk i v hv
    rw [List.getElem?_map, hk0] at hkv; cases hkv
    exact ⟨v, hkey, Pv.bool, Pv.nameX S8 (by exact mm8 _ (by decide)) rfl rfl (by decide), Pv.nameX S8 rfl rfl rfl (by decide)⟩
  intro m8 ex8 oo h8 tk8 S8 sub8 hm8 od8 mm8
  have S8 : St 39 175 w g L m8 (st.withEx ex8) h8 := S8
  obtain ⟨mo, mc, mr, md, mw, mt⟩ : m8 "once" = some (.ref on) ∧ m8 "cache" = some (.ref st.c) ∧ m8 "rows" = some (.ref ra) ∧ m8 "due" = some (.ref da) ∧ m8 "written" = some (.ref wa) ∧ m8 "told" = some (.ref told) := ⟨(mm8 _ (by decide)).trans rfl, (mm8 _ (by decide)).trans mc, (mm8 _ (by decide)).trans mr, (mm8 _ (by decide)).trans md, (mm8 _ (by decide)).trans mw, (mm8 _ (by decide)).trans mt⟩
  clear mm8 S7 S5 toS
  have subS8 : ∀ q ∈ st.ex, q ∈ ex8 := fun q hq => sub8 q (sub45 q (subS q hq))
  have cm8 : (L + 1, o3) ∈ ex8 := sub8 _ (sub45 _ cm4)
  have hm48 : (ha, ho) ∈ ex8 := sub8 _ (sub45 _ hm4)
  have tm8 : (told, listOf vs.toArray vs.length) ∈ ex8 := sub8 _ tm5
  have C8 : Cst (TK prog w) (st.withEx ex8) D kvs := C.withEx
  -- the lengths, written != due
  have hu9 : (A.deeper (envX "_law_alike" (fnS (nthS txt 8)) L 200 (.ref 199) [("held", L + 1)])).units + 8 < cLine := by simp only [Around.deeper_units]; omega
  refine wpAny_execs_cons (wpAny_If (isTrue_or (wpAny_isTrue_Compare1 ?_ (by with_unfolding_all rfl))))
  refine Call_ (Pv.at (v := .builtin "len") (by (refine' Pv.builtinX (by assumption) (by assumption) (by assumption) ?heB rfl ?hnB rfl rfl ?hdB; (case heB => k_dflt k_is); (case hnB => decide); (case hdB => decide))) fun tk9 => ?_) rfl
  refine callWith_builtin1 (spliced_more (Pv.at (v := .ref st.c) (by walk_at "px") fun tk10 => spliced_none ?_) rfl) rfl rfl
  refine W.len_K (s := up s h8 tk10) (C := 175) (f := 79) S8.F X S8.cinst (by k_dflt k_is) (by k_dflt k_is) ?_
  refine c_len (st := st.withEx ex8) (S8.base X T) S8.rep (by show A.depth + 1 < _; omega) (by simp only [Around.in1_units, Around.deeper_units]; omega) C8 (by omega) fun h9 tk11 t9 C9 => ?_
  have G9 := C9.grow S8.rep
  have S9 := S8.grow G9
  clear C9
  refine ⟨⟨by omega, by omega⟩, ?_⟩
  have hr9 : h9.IsList ra rs.toArray := isList_of (S9.exOf (subS8 _ hr))
  have ht9 : h9.IsList told vs.toArray := isList_of (S9.exOf tm8)
  have lenR : ∀ {pf pl pos : Pos}, PvI prog w (A.deeper (envX "_law_alike" (fnS (nthS txt 8)) L 200 (.ref 199) [("held", L + 1)])) (envX "_law_alike" (fnS (nthS txt 8)) L 200 (.ref 199) [("held", L + 1)]) ((Expr.Name "len" pf).Call [.Name "rows" pl] [] pos) (Rw.length : Int) h9 := by
    intro pf pl pos
    refine PvI.eq (PvI.lenL hr9 (by omega) ?hfn ?ho rfl rfl rfl) (by rw [hRl])
    case hfn => (refine' Pv.builtinX (by assumption) (by assumption) (by assumption) ?heB rfl ?hnB rfl rfl ?hdB; (case heB => k_dflt k_is); (case hnB => decide); (case hdB => decide))
    case ho => walk_at "px"
  refine PvE.at (s := s) (h := h9) (tk := tk11 + 1) lenR fun v tk12 hv => ?_
  obtain ⟨t, rfl⟩ := hv
  refine ne_int (s := up s h9 tk12) (wpAny_truthy_bool ?_)
  rw [if_neg (by rw [hDl]; simp)]
  refine isTrue_or ((PvT.int ICmp.ne (a := (Rw.length : Int)) (PvI.eq (PvI.lenL ht9 (by omega) ?hfn ?ho rfl rfl rfl) ?he) lenR (by with_unfolding_all rfl)) s tk12 _ _ fun tk13 => ?_)
  case hfn => (refine' Pv.builtinX (by assumption) (by assumption) (by assumption) ?heB rfl ?hnB rfl rfl ?hdB; (case heB => k_dflt k_is); (case hnB => decide); (case hdB => decide))
  case ho => walk_at "px"
  case he => rw [hvl, hesz, hkl, hDl]
  rw [if_neg (by simp)]
  refine isTrue_or ((PvT.int ICmp.ne (a := (Rw.length : Int)) (PvI.eq (PvI.lenD (S9.exOf hm8) od8 hon (by rw [List.length_map]; omega) ?hfn ?ho rfl rfl rfl) ?he) lenR (by with_unfolding_all rfl)) s tk13 _ _ fun tk14 => ?_)
  case hfn => (refine' Pv.builtinX (by assumption) (by assumption) (by assumption) ?heB rfl ?hnB rfl rfl ?hdB; (case heB => k_dflt k_is); (case hnB => decide); (case hdB => decide))
  case ho => walk_at "px"
  case he => rw [List.length_map, hkl, hDl]
  rw [if_neg (by simp)]
  have kT : TupG st.ex ex8 := fun t its hi => subS8 _ hi
  refine isTrue_or (wpAny_isTrue_Compare1 (Pv.at (v := .ref wa) (by walk_at "px") fun tk15 => Pv.at (v := .ref da) (by walk_at "px") fun tk16 => ?_) (by with_unfolding_all rfl))
  refine evs_ne (ex := ex8) (s := up s h9 tk16) (fun q hq => S9.exOf hq) (by simp only [Around.deeper_units]; omega) (S9.exOf (subS8 _ hw)) (S9.exOf (subS8 _ hd)) (hW.mono fun _ _ x => x.keep kT) (hE.mono fun _ _ x => x.keep kT) prog w _ _ (wpAny_truthy_bool ?_)
  rw [if_neg Bool.false_ne_true]
  refine isTrue_or_nil ?_
  rw [if_neg Bool.false_ne_true]
  refine wpAny_execs_nil ?_
  show wpAny _ _ (execs _ _) _ _ (up s h9 tk16)
  -- the contents
  refine wpAny_execs_cons (wpAny_Return_some (BoolOp_and (wpAny_Compare1 ?_ (by with_unfolding_all rfl))))
  refine' ev_m0 (f := 114) (x := st.c) ?hpo S9.cinst (X.keeps S9.F.keep) (pcL _) ?hf ?ht ?hkp rfl ?_ rfl
  case hpo => walk_at "px"
  ((case hf => k_dflt k_is); (case ht => k_dflt k_is); (case hkp => k_dflt k_is))
  intro tk17
  refine c_items (st := st.withEx ex8) (S9.base X T) S9.rep (by show A.depth + 1 < _; omega) (by simp only [Around.deeper_units]; omega) hh C8 (by omega) fun h10 tk18 ia io C10 hsa ia0 ia1 iod => ?_
  have S10 := S9.grow (C10.grow S9.rep)
  refine Pv.at (v := .ref ha) (Pv.cellX S10 (c := L + 1) rfl cm8 hd3 rfl rfl rfl) fun tk19 => ?_
  have hpm : (kvs.map fun kv => (kv.1, nodeVal (st.withEx ex8) kv.2)).Perm (Rw.map prR) := by
    refine ((C.perm.map _).trans ?_).trans hp.symm
    rw [List.map_map]; unfold vw; rw [List.map_map]
    exact List.Perm.refl _
  refine rc_dicts (s := up s h10 tk19) (X.keeps S10.F.keep) (by simp only [Around.deeper_units]; omega) ia1 (S10.exOf hm48) iod od4 hpm hsa hha ?_
  refine wpAny_truthy_bool ?_
  rw [if_pos rfl]
  refine BoolOp_one (wpAny_Compare1 ?_ (by with_unfolding_all rfl))
  have ht10 : h10.IsList told vs.toArray := isList_of (S10.exOf tm8)
  refine ev_comp (s := s) (h := h10) (tk := tk19) (n := vs.length) (Pe := fun i v => vs[i]? = some v) (pz := fun _ => false) (cl := [("held", L + 1)]) (Pv.at (v := .ref told) (by walk_at "px") fun tk20 => cset_list hh ht10) (by omega) rfl ?hcell rfl ?hnames rfl rfl (by intro _; rfl) ?tests ?_
  case hcell => decide
  case hnames => decide
  case tests =>
    intro i v Cc mm h11 tk21 Q' E' hi hv G11 hns hx q
    obtain ⟨kv0, hk0, hkey⟩ := hvk i v hv
    refine wpAny_tests_one (wpAny_isTrue_Compare1 ((comp_name (v := v) hns hx rfl rfl rfl) _ _ _ rfl fun tk22 => (comp_cell (c := L + 1) (v := .ref ha) rfl ⟨_, G11 _ _ (S10.exOf cm8), hd3⟩ rfl rfl rfl) _ _ _ rfl fun tk23 => ?_) (by with_unfolding_all rfl))
    refine od4.notIn (s := up s h11 tk23) (fun a o e => G11 _ _ (X.keeps S10.F.keep _ _ e)) (by simp only [Around.deeper_units]; omega) hkey (G11 _ _ (S10.exOf hm48)) hha fun tk24 => wpAny_truthy_bool ?_
    have hsome : (valueAt (Rw.map prR) kv0.1).isSome = true := by
      rw [valueAt_mem hkn (hpm.mem_iff.mp (List.mem_map.mpr ⟨_, List.mem_of_getElem? hk0, rfl⟩))]; rfl
    rw [hsome]
    exact q _
  intro Dn h11 tk20 vs2 G11 Dn0 Dn1 hvl2 hvk2
  have S11 := S10.grow G11
  refine wpAny_List (spliced_none ⟨Nat.zero_le _, ?_⟩)
  have hD2 : (h11.push { cls := .type "list", data := .seq ([] : List Value).toArray }).IsList Dn (#[] : Array Value) := by
    have e : vs2.filter (fun _ => false) = [] := by simp
    rw [e] at Dn1
    exact isList_of (its := []) (n := 0) (Heap.get?_push_of_some _ Dn1)
  refine SeqAt.RcAt.lists (s := up s (h11.push { cls := .type "list", data := .seq ([] : List Value).toArray }) tk20) (e := fun _ => true) hD2 ⟨_, Heap.get?_push_size _ rfl, rfl, 0, rfl⟩ rfl (by simp only [Around.deeper_units]; omega) (fun j p1 => absurd p1 (Nat.not_lt_zero _)) prog w _ _ ?_
  have S12 := S11.grow (Grow.push (o := { cls := .type "list", data := .seq ([] : List Value).toArray }))
  exact hQ _ _ ((S12.narrow subS8 R.wf).back kk fun a ha => .inl ha)
end
section
variable {prog : Program} {K : Frag} {CN CL : Addr} {w : World} {h₀ g h h' : Heap} {L : Addr} {m : Str → Option Value} {st st' : LS} {A : Around} {E : Value → Shared → Prop} {s : Shared} {tk₀ tk : Nat} {v : Value}
  {p : Program} {loose : List Str} {mg mb : Str → Option Value} {a : Addr} {o o' : Obj} {own : List (Addr × Obj)}
/-- the loops' own objects beside the law's -/
theorem St.repO (S : St CN CL w g L m (st.withEx (own ++ st.ex)) h) : Rep CN CL w st h := by
  have S' : St CN CL w g L m st h := S.subEx (ex := st.ex) (List.sublist_append_right _ _)
  exact S'.rep
theorem St.subO (S : St CN CL w g L m (st.withEx (own ++ st.ex)) h) : St CN CL w g L m st h := S.subEx (ex := st.ex) (List.sublist_append_right _ _)
theorem St.baseO (S : St CN CL w g L m (st.withEx (own ++ st.ex)) h) (X : K.In g) (T : TopRead p loose mg mb g) : Base K p loose mg mb g st h := S.subO.base X T
theorem St.ownOff (S : St CN CL w g L m (st.withEx (own ++ st.ex)) h) {q : Addr × Obj} (hq : q ∈ own) : q.1 ∉ addrs st := fun hm => by
  obtain ⟨p1, p2, e1⟩ := List.append_of_mem hq
  have := addrs_off (a := q.1) (o := q.2) (pre := p1) (post := p2 ++ st.ex) S.wf (by show own ++ st.ex = _; rw [e1, List.append_assoc]; rfl)
  unfold addrs at hm
  simp only [List.mem_cons, List.mem_append] at hm
  rcases hm with e | e | e | e | e
  · exact this.1 e
  · exact this.2.1 e
  · exact this.2.2.1 e
  · exact this.2.2.2.1 e
  · obtain ⟨z, hz, e⟩ := List.mem_map.mp e
    exact this.2.2.2.2.2 z (List.mem_append_right _ hz) e
/-- the objects beside, put back -/
theorem St.putO (S : St CN CL w g L m st' h') (hk : ∀ q ∈ own, h'.get? q.1 = some q.2 ∧ q.1 ≠ L ∧ g.get? q.1 = none) (nd : (own.map (·.1)).Nodup) (off : ∀ q ∈ own, q.1 ∉ addrs st') : St CN CL w g L m (st'.withEx (own ++ st'.ex)) h' := by
  refine ⟨S.F, fun q hq => ?_, ?_, ⟨S.ok.F, S.ok.mru, S.ok.lru, S.ok.mx, S.ok.af⟩⟩
  · have old : q ∈ ledger CN CL w.params st' → h'.get? q.1 = some q.2 ∧ q.1 ≠ L ∧ g.get? q.1 = none := S.N q
    unfold ledger LS.withEx at hq
    unfold ledger at old
    simp only [List.mem_cons, List.mem_append] at hq old
    rcases hq with z | z | z | z | z | z
    · exact old (.inl z)
    · exact old (.inr (.inl z))
    · exact old (.inr (.inr (.inl z)))
    · exact old (.inr (.inr (.inr (.inl z))))
    · exact hk q z
    · exact old (.inr (.inr (.inr (.inr z))))
  · have pm : (addrs (st'.withEx (own ++ st'.ex))).Perm (own.map (·.1) ++ addrs st') := by
      unfold addrs LS.withEx
      show ([st'.c, st'.dc, st'.dd] ++ (regAddrs st'.reg ++ (own ++ st'.ex).map (·.1))).Perm (own.map (·.1) ++ ([st'.c, st'.dc, st'.dd] ++ (regAddrs st'.reg ++ st'.ex.map (·.1))))
      rw [List.map_append]
      generalize own.map (·.1) = X
      generalize st'.ex.map (·.1) = Y
      generalize [st'.c, st'.dc, st'.dd] = Z
      generalize regAddrs st'.reg = R
      rw [← List.append_assoc R X Y, ← List.append_assoc Z, ← List.append_assoc Z R Y, ← List.append_assoc X]
      refine List.Perm.append_right Y ?_
      rw [← List.append_assoc Z R X]
      exact List.perm_append_comm
    rw [pm.nodup_iff, List.nodup_append]
    refine ⟨nd, S.wf, fun b hb c hc e => ?_⟩
    obtain ⟨q, hq, rfl⟩ := List.mem_map.mp hb
    exact off q hq (e ▸ hc)
theorem St.ownNd (S : St CN CL w g L m (st.withEx (own ++ st.ex)) h) : (own.map (·.1)).Nodup := by
  have wf := S.wf
  unfold addrs LS.withEx at wf
  simp only [List.nodup_cons, List.nodup_append, List.map_append] at wf
  exact wf.2.2.2.2.1.1
theorem St.afterOS (S : St CN CL w g L m (st.withEx (own ++ st.ex)) h) (C : CtrS CN CL w [L] st st' h h') : St CN CL w g L m (st'.withEx (own ++ st'.ex)) h' := by
  refine (S.subO.afterS C).putO (fun q hq => ?_) S.ownNd fun q hq hm => ?_
  · have e := S.exGet (a := q.1) (o := q.2) (List.mem_append_left _ hq)
    exact ⟨C.keeps _ _ (S.ownOff hq) (fun z => e.2.1 (List.mem_singleton.mp z)) e.1, e.2⟩
  · rcases C.fresh _ hm with z | z
    · exact S.ownOff hq z
    · rw [(S.exGet (a := q.1) (o := q.2) (List.mem_append_left _ hq)).1] at z; cases z
theorem St.afterO (S : St CN CL w g L m (st.withEx (own ++ st.ex)) h) (C : Ctr CN CL w st st' h h') : St CN CL w g L m (st'.withEx (own ++ st'.ex)) h' := S.afterOS C.toS
theorem St.addO (S : St CN CL w g L m (st.withEx (own ++ st.ex)) h) (k : Grow h h') (ha : h.get? a = none) (ho : h'.get? a = some o) : St CN CL w g L m ((st.withEx (st.ex ++ [(a, o)])).withEx (own ++ (st.ex ++ [(a, o)]))) h' := by
  have := S.addE k ha ho
  rw [show (st.withEx (own ++ st.ex)).ex ++ [(a, o)] = own ++ (st.ex ++ [(a, o)]) from List.append_assoc ..] at this
  exact this
theorem St.setO (S : St CN CL w g L m (st.withEx (own ++ st.ex)) h) (hm : (a, o) ∈ st.ex) (hs : Heap.SameBut a h h') (ho : h'.get? a = some o') :
    ∃ ex', St CN CL w g L m ((st.withEx ex').withEx (own ++ ex')) h' ∧ (a, o') ∈ ex' ∧ Ext [a] st.ex ex' := by
  obtain ⟨pre, post, e⟩ := List.append_of_mem hm
  refine ⟨pre ++ (a, o') :: post, ?_, List.mem_append_right _ (.head _), _, [], (List.append_nil _).symm, ?_⟩
  · have := S.setEx (pre := own ++ pre) (post := post) (o' := o') (by show own ++ st.ex = _; rw [e, List.append_assoc]) hs ho
    rw [List.append_assoc] at this
    exact this
  · rw [e]
    exact All2.same.append (.cons ⟨rfl, fun n => absurd (.head _) n⟩ .same)
/-- entering a def that stands among the law's objects, with what it closes over -/
theorem enterF {name qual : Str} {params : Arguments} {body : List Stmt} {scope : Scope} {clos : List (Str × Addr)} {doc pm ctv : Value} {f c' : Addr} {oc : Obj} {vs : Array Value} {t : Tok} {pos : List Value} {kw : List (Str × Value)} {binds : List (Str × Value)} {Q : Value → Shared → Prop}
    (B : Base K p loose mg mb h₀ st h) (R : Rep CN CL w st h)
    (hf : (f, fnMade name qual params body scope clos doc pm c' ctv) ∈ st.ex) (hc : (c', oc) ∈ st.ex) (hd : oc.data = .fields vs) (hv : vs[1]? = some (.str qual t)) (hroom : A.depth < recursionLimit)
    (hbind : BindsTo (up s h tk₀) (fnX name qual params body scope clos .none .none doc pm none (.ref c') ctv) ⟨pos, kw⟩ binds) (hloc : ∀ y ∈ binds, scope.names.lookup y.1 = some .local)
    (hco : scope.isCoroutine = false) (hgen : scope.isGenerator = false) (hk : scope.kind = .function) (hcell : ∀ x ∈ scope.names, x.2 ≠ .cell)
    (q : ∀ g L' h₁ tk, (∀ b o, b ∉ addrs st → h.get? b = some o → g.get? b = some o) → K.In g → TopRead p loose mg mb g → St CN CL w g L' (fun y => binds.reverse.lookup y) st h₁ →
      wpAny (model prog w) (A.deeper (envX qual scope L' f (.ref c') clos)) (execs body (envX qual scope L' f (.ref c') clos))
        (fun fl s' => Q (match fl with | .ret v => v | _ => .none) s') (fun _ _ => False) (up s h₁ tk))
 : wpAny (model prog w) A (call (.ref f) pos kw) Q E (up s h tk₀) := by
  have k0 : ∀ b o, b ∉ addrs st → h.get? b = some o → (hideAll h (addrs st)).get? b = some o := fun b o n e => hideAll_get _ e n
  have st0 : ∀ b o, h₀.get? b = some o → (hideAll h (addrs st)).get? b = some o := fun b o e => k0 b o (fun q => (by rw [B.off b q] at e; cases e)) (B.stays b o e)
  refine wpAny_call ?_
  refine codeAny_call_def (fd := fnX name qual params body scope clos .none .none doc pm none (.ref c') ctv) (body := body) (binds := binds) hroom (R.exOf hf) rfl (B.T.nolimit.keeps B.stays) ⟨c', oc, vs, t, rfl, R.exOf hc, hd, hv⟩ rfl hbind hcell hloc (fun h₁ hns hk₁ => ?_) hco hgen hk
  have led : ∀ q ∈ ledger CN CL w.params st, h₁.get? q.1 = some q.2 ∧ q.1 ≠ h.objs.size ∧ (hideAll h (addrs st)).get? q.1 = none := fun q hq =>
    ⟨hk₁ _ _ (R.at_ q hq), Nat.ne_of_lt (Heap.lt_size (R.at_ q hq)), hideAll_none _ (by rw [← ledger_addrs CN CL w.params]; exact List.mem_map_of_mem hq)⟩
  exact wpAny_mono (q (hideAll h (addrs st)) h.objs.size h₁ _ k0 (B.X.keeps st0) (B.T.keeps st0) ⟨⟨hns, fun b o e => hk₁ b o (of_hideAll _ e), Nat.le_of_eq (hideAll_size _ _)⟩, led, R.wf, R.ok⟩) (fun _ _ x => x) fun _ _ x => x.elim
end
section
variable {prog : Program} {w : World} {A : Around} {E : Value → Shared → Prop} {s : Shared} {h : Heap} {tk₀ : Nat} {p : Program} {loose : List Str} {mg mb : Str → Option Value} {h₀ : Heap} {st : LS} {r : Rg}
  {Ky : Type} [DecidableEq Ky] {T' : DT prog w (K1 w.params) Ky} {kvs : List (Ky × Value)} {k : Ky} {D : List (Ky × Rg)} {key val : Value}
end
noncomputable def lawB : List Stmt := fnB (nthS txt 10)
noncomputable def lawS : Scope := fnS (nthS txt 10)
/-- the law's own lasting objects: the cell of written, its two clean-ups; da, wa: the lists due and written -/
structure HA where
  L : Addr
  da : Addr
  wa : Addr
  f1 : Addr
  c1 : Addr
  f2 : Addr
  c2 : Addr
  ow : Obj
  o1 : Obj
  k1 : Obj
  o2 : Obj
  k2 : Obj
  xs : List (Addr × Obj)
noncomputable def HA.kept (H : HA) : List (Addr × Obj) := (H.L + 3, H.ow) :: (H.f1, H.o1) :: (H.c1, H.k1) :: (H.f2, H.o2) :: (H.c2, H.k2) :: H.xs
/-- a def of the law's own -/
inductive IsNest (i : Nat) (nm qual : Str) (cw c : Addr) (o k : Obj) : Prop
  | mk (doc pm ctv : Value) (vs : Array Value) (t : Tok) (e : o = fnMade nm qual (fnP (nthS lawB i)) (fnB (nthS lawB i)) (fnS (nthS lawB i)) [("written", cw)] doc pm c ctv) (hd : k.data = .fields vs) (hv : vs[1]? = some (.str qual t))
structure HA.Ok (H : HA) : Prop where
  ow : H.ow.data = .cell (some (.ref H.wa))
  n1 : IsNest 6 "first" "law.<locals>.first" (H.L + 3) H.c1 H.o1 H.k1
  n2 : IsNest 7 "second" "law.<locals>.second" (H.L + 3) H.c2 H.o2 H.k2
  kd : ∀ q ∈ H.kept, q.1 ≠ H.da ∧ q.1 ≠ H.wa ∧ q.1 ≠ H.L + 1 ∧ q.1 ≠ H.L + 2
  dw : H.da ≠ H.wa
  d1 : H.da ≠ H.L + 1 ∧ H.da ≠ H.L + 2
  w1 : H.wa ≠ H.L + 1 ∧ H.wa ≠ H.L + 2
  f12 : H.f1 ≠ H.f2
/-- the way of a clean-up -/
noncomputable def HA.wayOf (H : HA) (c : Value) : Nat := if c = .ref H.f1 then 1 else 2
/-- what a clean-up writes down -/
structure HRun (H : HA) (c k v : Value) (ex ex' : List (Addr × Obj)) : Prop where
  e : Ext [H.wa] ex ex'
  t : TupG ex ex'
  w : ∀ (ws : List Value) (wn : Nat), (H.wa, listOf ws.toArray wn) ∈ ex → ∃ (t : Addr) (t1 : Tok), (H.wa, listOf (ws ++ [Value.ref t]).toArray (wn + 1)) ∈ ex' ∧ (t, tupO [.int (H.wayOf c) t1, k, v]) ∈ ex'
structure HOk (H : HA) (n : Nat) (ex : List (Addr × Obj)) : Prop where
  k : ∀ q ∈ H.kept, q ∈ ex
  w : ∃ (ws : List Value) (wn : Nat), (H.wa, listOf ws.toArray wn) ∈ ex ∧ ws.length + n ≤ 90000
section
variable {prog : Program} {w : World} {A : Around} {E : Value → Shared → Prop} {s : Shared} {g h h' : Heap} {L : Addr} {m : Str → Option Value} {tk₀ tk : Nat} {p : Program} {loose : List Str} {mg mb : Str → Option Value} {h₀ : Heap} {st : LS} {key val : Value} {H : HA}
theorem list_inj {ws ws' : List Value} {n n' : Nat} (e : listOf ws.toArray n = listOf ws'.toArray n') : ws = ws' ∧ n = n' := by
  have e2 := congrArg Obj.data e
  injection e2 with e3 e4
  exact ⟨by simpa using congrArg Array.toList e3, e4⟩
/-- the end of a clean-up's body -/
theorem nest_end {way : Nat} {c : Value} {ws : List Value} {wn : Nat} {Q : Value → Shared → Prop} {h1 h2 h3 : Heap} {v2 : Value} (S : St 39 175 w g L m st h1) (kk : ∀ b o, b ∉ addrs st → h.get? b = some o → g.get? b = some o) (hway : H.wayOf c = way) (hw : (H.wa, listOf ws.toArray wn) ∈ st.ex)
    (q : ∀ h' tk' ex', HRun H c key val st.ex ex' → Ctr 39 175 w st (st.ofEx ex') h h' → Q .none (up s h' tk')) (G : Grow h1 h2) (hv : ∃ (b : Addr) (v1 : Value), v2 = Value.ref b ∧ IsI way v1 ∧ h1.get? b = none ∧ h2.get? b = some (tupO [v1, key, val]))
    (hs : Heap.SameBut H.wa h2 h3) (ho : h3.get? H.wa = some (listOf (ws ++ [v2]).toArray (wn + 1))) : Q .none (up s h3 tk) := by
  obtain ⟨b, v1, rfl, ⟨t1, rfl⟩, hb0, hb⟩ := hv
  have S6 := S.addE G hb0 hb
  have hwm : (H.wa, listOf ws.toArray wn) ∈ st.ex ++ [(b, tupO [.int way t1, key, val])] := List.mem_append_left _ hw
  have hbw : b ≠ H.wa := fun e => by rw [e, S.exOf hw] at hb0; cases hb0
  obtain ⟨ex6, S7, hm7, E7⟩ := S6.setE hwm hs ho
  refine q h3 tk ex6 ⟨Ext.snoc.trans E7, fun t i hi => S6.tupG hwm E7.chg t i (List.mem_append_left _ hi), fun ws' wn' hw' => ?_⟩ (S7.backE kk)
  have e := S.exOf hw
  rw [S.exOf hw'] at e
  obtain ⟨rfl, rfl⟩ := list_inj (Option.some.inj e)
  refine ⟨b, t1, hm7, ?_⟩
  rw [hway]
  exact E7.chg _ (List.mem_append_right _ (.head _)) fun e => hbw (List.mem_singleton.mp e)
theorem nest_call1 {Q : Value → Shared → Prop} (ok : H.Ok) (hk : HOk H 1 st.ex) (B : Base (K1 w.params) p loose mg mb h₀ st h) (R : Rep 39 175 w st h) (hroom : A.depth < recursionLimit) (hu : A.units + 40 < cLine)
    (q : ∀ h' tk' ex', HRun H (.ref H.f1) key val st.ex ex' → Ctr 39 175 w st (st.ofEx ex') h h' → Q .none (up s h' tk')) : wpAny (model prog w) A (PySem.call (.ref H.f1) [key, val]) Q E (up s h tk) := by
  obtain ⟨hkp, ws, wn, hw, hz⟩ := hk
  obtain ⟨doc, pm, ctv, vs, t, eo, hd, hv⟩ := ok.n1
  refine' enterF (binds := [("key", key), ("value", val)]) B R (eo ▸ hkp (H.f1, H.o1) (.tail _ (.head _))) (hkp (H.c1, H.k1) (.tail _ (.tail _ (.head _)))) hd hv hroom ?hb ?hl ?hco ?hgen ?hk ?hcell ?_
  case hb => exact BindsTo.of_eq rfl
  case hl => exact locs rfl
  case hco => exact rfl
  case hgen => exact rfl
  case hk => exact rfl
  case hcell => decide
  intro g L h1 tk kk X T S
  obtain ⟨m1, S, mk, mv⟩ : ∃ m', St 39 175 w g L m' st h1 ∧ m' "key" = some key ∧ m' "value" = some val := ⟨_, S, rfl, rfl⟩
  refine wpAny_execs_cons ?_
  refine' ex_ ?_ rfl rfl
  refine ex_append (S.exOf hw) (Pv.freeX S (c := H.L + 3) rfl (hkp _ (.head _)) ok.ow rfl rfl rfl rfl) (PvG.tup3 (P1 := IsI ((1 : Nat) : Int)) (v2 := key) (v3 := val) PvI.const ?h2 ?h3 rfl rfl rfl) (by omega) (fun v2 h2 G hv2 h3 tk3 hs ho => ?_) rfl rfl rfl
  case h2 => walk_at "px"
  case h3 => walk_at "px"
  exact wpAny_execs_nil (nest_end S kk (by unfold HA.wayOf; rw [if_pos rfl]) hw q G hv2 hs ho)
theorem nest_call2 {Q : Value → Shared → Prop} (ok : H.Ok) (hk : HOk H 1 st.ex) (B : Base (K1 w.params) p loose mg mb h₀ st h) (R : Rep 39 175 w st h) (hroom : A.depth < recursionLimit) (hu : A.units + 40 < cLine)
    (q : ∀ h' tk' ex', HRun H (.ref H.f2) key val st.ex ex' → Ctr 39 175 w st (st.ofEx ex') h h' → Q .none (up s h' tk')) : wpAny (model prog w) A (PySem.call (.ref H.f2) [key, val]) Q E (up s h tk) := by
  obtain ⟨hkp, ws, wn, hw, hz⟩ := hk
  obtain ⟨doc, pm, ctv, vs, t, eo, hd, hv⟩ := ok.n2
  refine' enterF (binds := [("key", key), ("value", val)]) B R (eo ▸ hkp (H.f2, H.o2) (.tail _ (.tail _ (.tail _ (.head _))))) (hkp (H.c2, H.k2) (.tail _ (.tail _ (.tail _ (.tail _ (.head _)))))) hd hv hroom ?hb ?hl ?hco ?hgen ?hk ?hcell ?_
  case hb => exact BindsTo.of_eq rfl
  case hl => exact locs rfl
  case hco => exact rfl
  case hgen => exact rfl
  case hk => exact rfl
  case hcell => decide
  intro g L h1 tk kk X T S
  obtain ⟨m1, S, mk, mv⟩ : ∃ m', St 39 175 w g L m' st h1 ∧ m' "key" = some key ∧ m' "value" = some val := ⟨_, S, rfl, rfl⟩
  refine wpAny_execs_cons ?_
  refine' ex_ ?_ rfl rfl
  refine ex_append (S.exOf hw) (Pv.freeX S (c := H.L + 3) rfl (hkp _ (.head _)) ok.ow rfl rfl rfl rfl) (PvG.tup3 (P1 := IsI ((2 : Nat) : Int)) (v2 := key) (v3 := val) PvI.const ?h2 ?h3 rfl rfl rfl) (by omega) (fun v2 h2 G hv2 h3 tk3 hs ho => ?_) rfl rfl rfl
  case h2 => walk_at "px"
  case h3 => walk_at "px"
  exact wpAny_execs_nil (nest_end S kk (by unfold HA.wayOf; rw [if_neg (fun e => ok.f12 (by injection e with e; exact e.symm))]) hw q G hv2 hs ho)
end
/-- the law's clean-ups -/
noncomputable def lawHook (prog : Program) (w : World) (H : HA) (ok : H.Ok) : Hook prog w (K1 w.params) 39 175 where
  ok := HOk H
  cb := fun c => c = .ref H.f1 ∨ c = .ref H.f2
  Run := HRun H
  nb := fun h => by rcases h with rfl | rfl <;> exact Nb.ref
  ne := fun h => by rcases h with rfl | rfl <;> exact fun e => nomatch e
  fn := fun h x => by
    obtain ⟨doc, pm, ctv, vs, t, eo, hd, hv⟩ := ok.n1
    obtain ⟨doc2, pm2, ctv2, vs2, t2, eo2, hd2, hv2⟩ := ok.n2
    rcases h with rfl | rfl
    · exact ⟨_, _, _, _, _, rfl, eo ▸ x.k (H.f1, H.o1) (.tail _ (.head _))⟩
    · exact ⟨_, _, _, _, _, rfl, eo2 ▸ x.k (H.f2, H.o2) (.tail _ (.tail _ (.tail _ (.head _))))⟩
  mono := fun x => ⟨x.k, let ⟨ws, wn, a, b⟩ := x.w; ⟨ws, wn, a, by omega⟩⟩
  keep := fun h x r => by
    obtain ⟨ws, wn, a, b⟩ := x.w
    obtain ⟨t, t1, c, d⟩ := r.w ws wn a
    exact ⟨fun q hq => r.e.chg q (x.k q hq) fun e => (ok.kd q hq).2.1 (List.mem_singleton.mp e), _, _, c, by rw [List.length_append]; show ws.length + 1 + _ ≤ _; omega⟩
  call := fun h x B R hroom hu nk nv q => by
    have x1 : HOk H 1 _ := ⟨x.k, let ⟨ws, wn, a, b⟩ := x.w; ⟨ws, wn, a, by omega⟩⟩
    rcases h with rfl | rfl
    · exact nest_call1 ok x1 B R hroom hu q
    · exact nest_call2 ok x1 B R hroom hu q
section
variable {prog : Program} {w : World} {A : Around} {E : Value → Shared → Prop} {s : Shared} {h : Heap} {tk₀ : Nat} {p : Program} {loose : List Str} {mg mb : Str → Option Value} {h₀ : Heap} {st : LS} {r : Rg}
  {Ky : Type} [DecidableEq Ky] {T' : DT prog w (K1 w.params) Ky} {kvs : List (Ky × Value)} {k : Ky} {D : List (Ky × Rg)} {key val : Value}
end
noncomputable def HA.clnOf (H : HA) (n : Nat) : Value := if n = 0 then .none else if n = 1 then .ref H.f1 else .ref H.f2
noncomputable def HA.enc (H : HA) (r : Nat × Value × Nat) : Nat × Value × Value := (r.1, r.2.1, H.clnOf r.2.2)
theorem HA.Ok.way {H : HA} (ok : H.Ok) {n : Nat} (h : n ≤ 2) (h0 : n ≠ 0) : H.wayOf (H.clnOf n) = n := by
  unfold HA.wayOf HA.clnOf
  rw [if_neg h0]
  by_cases h1 : n = 1
  · rw [if_pos h1, if_pos rfl, h1]
  · rw [if_neg h1, if_neg (fun e => ok.f12 (by injection e with e; exact e.symm))]; omega
theorem evsOf_app {R R' : List (Nat × Value × Nat)} : evsOf (R ++ R') = evsOf R ++ evsOf R' := List.filterMap_append
theorem HA.cb {H : HA} {n : Nat} : H.clnOf n = .none ∨ (H.clnOf n = .ref H.f1 ∨ H.clnOf n = .ref H.f2) := by
  unfold HA.clnOf
  by_cases h0 : n = 0
  · rw [if_pos h0]; exact .inl rfl
  · rw [if_neg h0]
    by_cases h1 : n = 1
    · rw [if_pos h1]; exact .inr (.inl rfl)
    · rw [if_neg h1]; exact .inr (.inr rfl)
theorem HA.cln_none {H : HA} {n : Nat} : H.clnOf n = .none ↔ n = 0 := by
  unfold HA.clnOf
  by_cases h0 : n = 0
  · rw [if_pos h0]; exact ⟨fun _ => h0, fun _ => rfl⟩
  · rw [if_neg h0]
    refine ⟨fun e => ?_, fun e => absurd e h0⟩
    by_cases h1 : n = 1
    · rw [if_pos h1] at e; cases e
    · rw [if_neg h1] at e; cases e
/-- written, after the clean-ups of the rows R -/
inductive Wrote (H : HA) (Ev : List (Nat × Nat × Value)) (ex ex' : List (Addr × Obj)) : Prop
  | mk (ws : List Value) (wn : Nat) (hw : (H.wa, listOf ws.toArray wn) ∈ ex') (hW : All2 (EvAt ex') ws Ev) (e : Ext [H.wa] ex ex') (t : TupG ex ex')
section
variable {prog : Program} {w : World} {H : HA} {ex ex' : List (Addr × Obj)}
theorem one_ev {ok : H.Ok} {r : Nat × Value × Nat} {key : Value} {ws : List Value} {wn : Nat} {Ev : List (Nat × Nat × Value)} (hr : r.2.2 ≤ 2) (hk : KL[r.1]? = some key) (x : RunC (lawHook prog w H ok) (H.clnOf r.2.2) key r.2.1 ex ex')
    (hw : (H.wa, listOf ws.toArray wn) ∈ ex) (hW : All2 (EvAt ex) ws Ev) : Wrote H (Ev ++ evsOf [r]) ex ex' := by
  cases x with
  | no e =>
    have h0 : r.2.2 = 0 := HA.cln_none.mp e
    have : evsOf [r] = [] := by unfold evsOf; simp [h0]
    rw [this, List.append_nil]
    exact ⟨ws, wn, hw, hW, Ext.refl, TupG.refl⟩
  | yes hc z =>
    have z : HRun H (H.clnOf r.2.2) key r.2.1 ex ex' := z
    have h0 : r.2.2 ≠ 0 := fun e => by
      have hc : H.clnOf r.2.2 = .ref H.f1 ∨ H.clnOf r.2.2 = .ref H.f2 := hc
      rw [HA.cln_none.mpr e] at hc
      rcases hc with q | q <;> cases q
    obtain ⟨t, t1, a, b⟩ := z.w ws wn hw
    rw [ok.way hr h0] at b
    have : evsOf [r] = [(r.2.2, r.1, r.2.1)] := by unfold evsOf; simp [Nat.pos_of_ne_zero h0]
    rw [this]
    exact ⟨_, _, a, (hW.mono fun _ _ q => q.keep z.t).append (.one ⟨b, hk⟩), z.e, z.t⟩
theorem runs_ev {ok : H.Ok} {l : List (Nat × Value × Value)} (x : Runs (lawHook prog w H ok) (TK prog w) l ex ex') : ∀ {R : List (Nat × Value × Nat)} {ws : List Value} {wn : Nat} {Ev : List (Nat × Nat × Value)}, l = R.reverse.map H.enc → (∀ r ∈ R, r.2.2 ≤ 2) →
    (H.wa, listOf ws.toArray wn) ∈ ex → All2 (EvAt ex) ws Ev → Wrote H (Ev ++ evsOf R) ex ex' := by
  induction x with
  | nil =>
    intro R ws wn Ev e hR hw hW
    have : R = [] := by simpa using e.symm
    subst this
    rw [show evsOf [] = [] from rfl, List.append_nil]
    exact ⟨ws, wn, hw, hW, Ext.refl, TupG.refl⟩
  | cons r hk x ih =>
    intro R ws wn Ev e hR hw hW
    rename_i k v c key l ex ex1 ex2
    obtain ⟨R0, rfl⟩ : ∃ R0, R = R0.reverse := ⟨R.reverse, by simp⟩
    rw [List.reverse_reverse] at e
    cases R0 with
    | nil => cases e
    | cons r0 R0 =>
      rw [List.map_cons] at e
      injection e with e1 e2
      obtain ⟨rfl, rfl, rfl⟩ : k = r0.1 ∧ v = r0.2.1 ∧ c = H.clnOf r0.2.2 := by simpa [HA.enc] using e1
      obtain ⟨ws1, wn1, hw1, hW1, e3, t3⟩ := ih (R := R0.reverse) (by rw [List.reverse_reverse]; exact e2) (fun r hr => hR r (by rw [List.reverse_cons]; exact List.mem_append_left _ hr)) hw hW
      obtain ⟨ws2, wn2, hw2, hW2, e4, t4⟩ := one_ev (r := r0) (hR r0 (by simp)) hk x hw1 hW1
      refine ⟨ws2, wn2, hw2, ?_, e3.trans e4, t3.trans t4⟩
      rw [List.reverse_cons, evsOf_app, ← List.append_assoc]; exact hW2
theorem All2.filter {α β : Type} {R : α → β → Prop} {l : List α} {m : List β} {p : α → Bool} {q : β → Bool} (h : All2 R l m) (k : ∀ a b, R a b → p a = q b) : All2 R (l.filter p) (m.filter q) := by
  induction h with
  | nil => exact .nil
  | cons h _ ih =>
    rw [List.filter_cons, List.filter_cons, k _ _ h]
    split
    · exact .cons h ih
    · exact ih
/-- a row's place, read off the heap -/
noncomputable def pzOf (h : Heap) (k : Nat) (v : Value) : Bool := match v with
  | .ref t => (match h.get? t with
    | some ⟨_, _, .seq its _, _⟩ => (match (its[0]? : Option Value) with
      | some (.int i _) => i == (k : Int)
      | _ => false)
    | _ => false)
  | _ => false
theorem pz_tup {h : Heap} {k n : Nat} {t : Addr} {t1 : Tok} {l : List Value} (e : h.get? t = some (tupO (.int n t1 :: l))) : pzOf h k (.ref t) = (n == k) := by
  have : ((n : Int) == (k : Int)) = (n == k) := by
    rw [Bool.eq_iff_iff, beq_iff_eq, beq_iff_eq]; omega
  unfold pzOf
  simp [e, this]
end
section
variable {α : Type} {V : List (Nat × Value × Value)} {H : HA} {Rw : List (Nat × Value × Nat)} {k n : Nat}
theorem enc_take (hV : V = Rw.reverse.map H.enc) : V.take n = (Rw.drop (Rw.length - n)).reverse.map H.enc := by
  rw [hV, ← List.map_take, List.take_reverse]
theorem enc_drop (hV : V = Rw.reverse.map H.enc) : V.drop n = (Rw.take (Rw.length - n)).reverse.map H.enc := by
  rw [hV, ← List.map_drop, List.drop_reverse]
theorem enc_rest (hV : V = Rw.reverse.map H.enc) : rest V k = (Rw.filter fun r => !(r.1 == k)).reverse.map H.enc := by
  rw [hV]
  unfold rest
  rw [List.filter_map, List.filter_reverse]
  congr 3
  funext r
  show decide (r.1 ≠ k) = _
  by_cases h : r.1 = k <;> simp [h]
theorem enc_keys (hV : V = Rw.reverse.map H.enc) : V.map (·.1) = (Rw.map (·.1)).reverse := by
  rw [hV, List.map_map, List.map_reverse]; rfl
/-- the row of a place: none, or one -/
theorem held_or (hn : (Rw.map (·.1)).Nodup) : (Rw.filter (fun r => r.1 == k) = [] ∧ k ∉ Rw.map (·.1)) ∨ ∃ r, Rw.filter (fun r => r.1 == k) = [r] ∧ r.1 = k ∧ r ∈ Rw := by
  induction Rw with
  | nil => exact .inl ⟨rfl, List.not_mem_nil⟩
  | cons r Rw ih =>
    rw [List.map_cons, List.nodup_cons] at hn
    rw [List.filter_cons]
    by_cases h : r.1 = k
    · right
      refine ⟨r, ?_, h, .head _⟩
      rw [if_pos (by simpa using h)]
      rcases ih hn.2 with ⟨e, _⟩ | ⟨r2, e, e2, e3⟩
      · rw [e]
      · exact absurd (List.mem_map_of_mem (f := (·.1)) e3) (by rw [e2, ← h]; exact hn.1)
    · rw [if_neg (by simpa using h)]
      rcases ih hn.2 with ⟨e, e2⟩ | ⟨r2, e, e2, e3⟩
      · exact .inl ⟨e, by rw [List.map_cons]; exact fun q => (List.mem_cons.mp q).elim (fun q => h q.symm) e2⟩
      · exact .inr ⟨r2, e, e2, .tail _ e3⟩
theorem look_enc (hV : V = Rw.reverse.map H.enc) (hn : (Rw.map (·.1)).Nodup) : look V k = ((Rw.filter fun r => r.1 == k).head?).map fun r => (r.2.1, H.clnOf r.2.2) := by
  rcases held_or (k := k) hn with ⟨e, e2⟩ | ⟨r, e, e2, e3⟩
  · rw [e, look_none (by rw [enc_keys hV]; simpa using e2)]; rfl
  · rw [e]
    have hm : (H.enc r) ∈ V := by rw [hV]; exact List.mem_map_of_mem (by simpa using e3)
    obtain ⟨A, B, e4⟩ := List.append_of_mem hm
    have hn2 : (V.map (·.1)).Nodup := by rw [enc_keys hV]; exact (List.reverse_perm _).nodup_iff.mpr hn
    have h5 : H.enc r = (k, (r.2.1, H.clnOf r.2.2)) := by rw [← e2]; rfl
    rw [h5] at e4
    rw [e4] at hn2 ⊢
    exact look_mid (mid_keys hn2).1
end
section
variable {prog : Program} {w : World} {A : Around} {E : Value → Shared → Prop} {s : Shared} {h : Heap} {tk₀ : Nat} {p : Program} {loose : List Str} {mg mb : Str → Option Value} {h₀ : Heap} {st : LS} {r : Rg}
  {Ky : Type} [DecidableEq Ky] {T' : DT prog w (K1 w.params) Ky} {kvs : List (Ky × Value)} {k : Ky} {D : List (Ky × Rg)} {key val : Value}
end
/-- what the law's lists tell -/
structure LD where
  ra : Addr
  rs : List Value
  rn : Nat
  ds : List Value
  dn : Nat
  ws : List Value
  wn : Nat
  R : List (Nat × Value × Nat)
  Ed : List (Nat × Nat × Value)
  Ew : List (Nat × Nat × Value)
structure LX (H : HA) (ex : List (Addr × Obj)) (d : LD) : Prop where
  hr : (d.ra, listOf d.rs.toArray d.rn) ∈ ex
  hR : All2 (RowAt ex) d.rs d.R
  hd : (H.da, listOf d.ds.toArray d.dn) ∈ ex
  hE : All2 (EvAt ex) d.ds d.Ed
  hw : (H.wa, listOf d.ws.toArray d.wn) ∈ ex
  hW : All2 (EvAt ex) d.ws d.Ew
  kept : ∀ q ∈ H.kept, q ∈ ex
  n1 : d.ra ≠ H.da
  n2 : d.ra ≠ H.wa
  n3 : d.ra ≠ H.L + 1
  n4 : d.ra ≠ H.L + 2
  pl : ∃ (o : Obj) (v : Option Value), (H.L + 1, o) ∈ ex ∧ o.data = .cell v
  sp : ∃ (o : Obj) (v : Option Value), (H.L + 2, o) ∈ ex ∧ o.data = .cell v
section
variable {H : HA} {ex ex' : List (Addr × Obj)} {d : LD}
theorem LX.sub (x : LX H ex d) (h : ∀ q ∈ ex, q ∈ ex') : LX H ex' d := by
  have t : TupG ex ex' := fun _ _ hi => h _ hi
  obtain ⟨op, vp, p1, p2⟩ := x.pl
  obtain ⟨os, vs, s1, s2⟩ := x.sp
  exact ⟨h _ x.hr, x.hR.mono fun _ _ q => q.keep t, h _ x.hd, x.hE.mono fun _ _ q => q.keep t, h _ x.hw, x.hW.mono fun _ _ q => q.keep t, fun q hq => h _ (x.kept q hq), x.n1, x.n2, x.n3, x.n4, ⟨op, vp, h _ p1, p2⟩, ⟨os, vs, h _ s1, s2⟩⟩
theorem LX.place (x : LX H ex d) (ok : H.Ok) {o : Obj} {v : Option Value} (e : Ext [H.L + 1] ex ex') (t : TupG ex ex') (hm : (H.L + 1, o) ∈ ex') (hd : o.data = .cell v) : LX H ex' d := by
  have k : ∀ q ∈ ex, q.1 ≠ H.L + 1 → q ∈ ex' := fun q hq n => e.chg q hq fun z => n (List.mem_singleton.mp z)
  obtain ⟨os, vs, s1, s2⟩ := x.sp
  exact ⟨k _ x.hr x.n3, x.hR.mono fun _ _ q => q.keep t, k _ x.hd ok.d1.1, x.hE.mono fun _ _ q => q.keep t, k _ x.hw ok.w1.1, x.hW.mono fun _ _ q => q.keep t, fun q hq => k _ (x.kept q hq) (ok.kd q hq).2.2.1, x.n1, x.n2, x.n3, x.n4, ⟨o, v, hm, hd⟩, ⟨os, vs, k _ s1 (fun e => absurd (Nat.add_left_cancel (show (H.L : Nat) + 2 = H.L + 1 from e)) (by decide)), s2⟩⟩
theorem LX.spot (x : LX H ex d) (ok : H.Ok) {o : Obj} {v : Option Value} (e : Ext [H.L + 2] ex ex') (t : TupG ex ex') (hm : (H.L + 2, o) ∈ ex') (hd : o.data = .cell v) : LX H ex' d := by
  have k : ∀ q ∈ ex, q.1 ≠ H.L + 2 → q ∈ ex' := fun q hq n => e.chg q hq fun z => n (List.mem_singleton.mp z)
  obtain ⟨op, vp, p1, p2⟩ := x.pl
  exact ⟨k _ x.hr x.n4, x.hR.mono fun _ _ q => q.keep t, k _ x.hd ok.d1.2, x.hE.mono fun _ _ q => q.keep t, k _ x.hw ok.w1.2, x.hW.mono fun _ _ q => q.keep t, fun q hq => k _ (x.kept q hq) (ok.kd q hq).2.2.2, x.n1, x.n2, x.n3, x.n4, ⟨op, vp, k _ p1 (fun e => absurd (Nat.add_left_cancel (show (H.L : Nat) + 1 = H.L + 2 from e)) (by decide)), p2⟩, ⟨o, v, hm, hd⟩⟩
theorem LX.wrote (x : LX H ex d) (ok : H.Ok) {Ew : List (Nat × Nat × Value)} (y : Wrote H Ew ex ex') : ∃ (ws : List Value) (wn : Nat), LX H ex' { d with ws := ws, wn := wn, Ew := Ew } := by
  obtain ⟨ws, wn, hw, hW, e, t⟩ := y
  have k : ∀ q ∈ ex, q.1 ≠ H.wa → q ∈ ex' := fun q hq n => e.chg q hq fun z => n (List.mem_singleton.mp z)
  obtain ⟨op, vp, p1, p2⟩ := x.pl
  obtain ⟨os, vs, s1, s2⟩ := x.sp
  exact ⟨ws, wn, k _ x.hr x.n2, x.hR.mono fun _ _ q => q.keep t, k _ x.hd ok.dw, x.hE.mono fun _ _ q => q.keep t, hw, hW, fun q hq => k _ (x.kept q hq) (ok.kd q hq).2.1, x.n1, x.n2, x.n3, x.n4, ⟨op, vp, k _ p1 ok.w1.1.symm, p2⟩, ⟨os, vs, k _ s1 ok.w1.2.symm, s2⟩⟩
theorem LX.due (x : LX H ex d) (ok : H.Ok) {ds : List Value} {dn : Nat} {Ed : List (Nat × Nat × Value)} (e : Ext [H.da] ex ex') (t : TupG ex ex') (hd : (H.da, listOf ds.toArray dn) ∈ ex') (hE : All2 (EvAt ex') ds Ed) : LX H ex' { d with ds := ds, dn := dn, Ed := Ed } := by
  have k : ∀ q ∈ ex, q.1 ≠ H.da → q ∈ ex' := fun q hq n => e.chg q hq fun z => n (List.mem_singleton.mp z)
  obtain ⟨op, vp, p1, p2⟩ := x.pl
  obtain ⟨os, vs, s1, s2⟩ := x.sp
  exact ⟨k _ x.hr x.n1, x.hR.mono fun _ _ q => q.keep t, hd, hE, k _ x.hw ok.dw.symm, x.hW.mono fun _ _ q => q.keep t, fun q hq => k _ (x.kept q hq) (ok.kd q hq).1, x.n1, x.n2, x.n3, x.n4, ⟨op, vp, k _ p1 ok.d1.1.symm, p2⟩, ⟨os, vs, k _ s1 ok.d1.2.symm, s2⟩⟩
theorem LX.rows (x : LX H ex d) {a : Addr} {rs : List Value} {rn : Nat} {R : List (Nat × Value × Nat)} (hr : (a, listOf rs.toArray rn) ∈ ex) (hR : All2 (RowAt ex) rs R) (n1 : a ≠ H.da) (n2 : a ≠ H.wa) (n3 : a ≠ H.L + 1) (n4 : a ≠ H.L + 2) :
    LX H ex { d with ra := a, rs := rs, rn := rn, R := R } := ⟨hr, hR, x.hd, x.hE, x.hw, x.hW, x.kept, n1, n2, n3, n4, x.pl, x.sp⟩
/-- what is new is none of the law's lasting ones -/
theorem LX.new {CN CL : Addr} {w : World} {st : LS} {h : Heap} (x : LX H st.ex d) (R : Rep CN CL w st h) {a : Addr} (ha : h.get? a = none) : a ≠ H.da ∧ a ≠ H.wa ∧ a ≠ H.L + 1 ∧ a ≠ H.L + 2 := by
  obtain ⟨op, vp, p1, p2⟩ := x.pl
  obtain ⟨os, vs, s1, s2⟩ := x.sp
  have k : ∀ (b : Addr) (o : Obj), (b, o) ∈ st.ex → a ≠ b := fun b o hb e => by rw [e, R.exOf hb] at ha; cases ha
  exact ⟨k _ _ x.hd, k _ _ x.hw, k _ _ p1, k _ _ s1⟩
end
/-- a change of a cell leaves the tuples -/
theorem St.tupC {CN CL : Addr} {w : World} {g h : Heap} {L : Addr} {m : Str → Option Value} {st : LS} {own : List (Addr × Obj)} {a : Addr} {o : Obj} (S : St CN CL w g L m (st.withEx (own ++ st.ex)) h) {v : Option Value} (hm : (a, o) ∈ st.ex) (ho : o.data = .cell v) {ex' : List (Addr × Obj)} (c : Chg [a] st.ex ex') : TupG st.ex ex' := fun t i hi => c _ hi fun q => by
  rw [List.mem_singleton] at q
  have e1 := S.subO.exOf hi
  rw [show t = a from q, S.subO.exOf hm] at e1
  have e2 := congrArg Obj.data (Option.some.inj e1)
  rw [ho] at e2; cases e2
/-- the frame's cells -/
noncomputable abbrev lawC (L : Addr) : List (Str × Addr) := cellsFrom (L + 1) lawS.names []
example (L : Addr) : (lawC L).lookup ("place" : Str) = some (L + 1) ∧ (lawC L).lookup ("spot" : Str) = some (L + 2) ∧ (lawC L).lookup ("written" : Str) = some (L + 3) := ⟨rfl, rfl, rfl⟩
section
variable {prog : Program} {w : World} {A : Around} {E : Value → Shared → Prop} {s : Shared} {g h h' : Heap} {L : Addr} {m : Str → Option Value} {tk₀ tk : Nat} {p : Program} {loose : List Str} {mg mb : Str → Option Value} {h₀ : Heap} {st : LS} {H : HA} {own : List (Addr × Obj)} {f : Addr} {cd : Value} {d : LD} {Q : Flow → Shared → Prop}
/-- a cell of the law's is set -/
theorem St.setC {c : Addr} {o : Obj} {v₀ : Option Value} {P : Value → Prop} {x : Str} {pos pos' : Pos} {e : Expr} (S : St 39 175 w g L m (st.withEx (own ++ st.ex)) h) (he : PvE prog w A (envX "law" lawS L f cd (lawC L)) e P h) (hc : (lawC L).lookup x = some c) (hm : (c, o) ∈ st.ex) (hd : o.data = .cell v₀)
    (q : ∀ v, P v → ∀ ex' h' (tk' : Nat) o', St 39 175 w g L m ((st.withEx ex').withEx (own ++ ex')) h' → (c, o') ∈ ex' → o'.data = .cell (some v) → Ext [c] st.ex ex' → TupG st.ex ex' → Q .next (up s h' tk'))
    (hl : (envX "law" lawS L f cd (lawC L)).kindOf x = some .cell) (hs : swapsWith e (some (.Name x pos')) pos.line (envX "law" lawS L f cd (lawC L)) = pure false) :
    wpAny (model prog w) A (exec (.Assign [.Name x pos'] e pos) (envX "law" lawS L f cd (lawC L))) Q E (up s h tk) := by
  refine as_cellG S (PvG.of he) hc (List.mem_append_right _ hm) hd (fun v h1 tk1 hv G h2 o' hs2 ho2 hd2 => ?_) rfl hl hs
  have S1 : St 39 175 w g L m (st.withEx (own ++ st.ex)) h1 := S.grow G
  obtain ⟨ex', S2, hm2, E2⟩ := S1.setO hm hs2 ho2
  exact q v hv ex' h2 tk1 o' S2 hm2 hd2 E2 (S1.tupC hm hd E2.chg)
/-- rows = _law_shrunk(rows, keep, due) -/
theorem law_shr {ke : Expr} {kv : Int} {fp rp dp cp np ap : Pos} (ok : H.Ok) (hL : H.L = L) (S : St 39 175 w g L m (st.withEx (own ++ st.ex)) h) (X : (K1 w.params).In g) (T : TopRead p loose mg mb g) (hroom : A.depth + 2 < recursionLimit) (hu : A.units + 40 < cLine) (hh : A.handled = none)
    (x : LX H st.ex d) (mr : m "rows" = some (.ref d.ra)) (md : m "due" = some (.ref H.da)) (hk : PvI prog w A (envX "law" lawS L f cd (lawC L)) ke kv h) (hk0 : 0 ≤ kv) (hz : d.R.length + d.Ed.length ≤ 9000)
    (q : ∀ ex' h' (tk' : Nat) (a : Addr) (ds : List Value) (dn : Nat), St 39 175 w g L (fun y => if y = "rows" then some (.ref a) else m y) ((st.withEx ex').withEx (own ++ ex')) h' →
      LX H ex' { d with ra := a, rs := d.rs.drop (d.R.length - kv.toNat), rn := 0, ds := ds, dn := dn, R := d.R.drop (d.R.length - kv.toNat), Ed := d.Ed ++ evsOf (d.R.take (d.R.length - kv.toNat)) } → Q .next (up s h' tk'))
    (hst : starEach [.Name "rows" rp, ke, .Name "due" dp] (envX "law" lawS L f cd (lawC L)) = (false, eval (.Name "rows" rp) (envX "law" lawS L f cd (lawC L))) :: starEach [ke, .Name "due" dp] (envX "law" lawS L f cd (lawC L)))
    (hst2 : starEach [ke, .Name "due" dp] (envX "law" lawS L f cd (lawC L)) = (false, eval ke (envX "law" lawS L f cd (lawC L))) :: starEach [.Name "due" dp] (envX "law" lawS L f cd (lawC L)))
    (hpl : (backTo cp (starEach [ke, .Name "due" dp] (envX "law" lawS L f cd (lawC L)))).any (·.1) = false) :
    wpAny (model prog w) A (exec (.Assign [.Name "rows" np] (.Call (.Name "_law_shrunk" fp) [.Name "rows" rp, ke, .Name "due" dp] [] cp) ap) (envX "law" lawS L f cd (lawC L))) Q E (up s h tk) := by
  refine wpAny_Assign_Name ?_ rfl
  refine Call_ (Pv.at (v := .ref 188) (by walk_at "px") fun tk1 => ?_) rfl
  refine callWith_K X (by k_dflt k_is) (spliced_more (Pv.at (v := .ref d.ra) (by walk_at "px") fun tk2 => spliced_more (PvE.at hk fun vk tk3 hvk => spliced_more (Pv.at (v := .ref H.da) (by walk_at "px") fun tk4 => spliced_none ⟨X.keeps S.F.keep, ?_⟩) rfl) hst2) hst) hst hpl
  obtain ⟨kt, rfl⟩ := hvk
  refine c_shr (S.baseO X T) S.repO (by omega) (by omega) hh x.hr x.hR x.hd x.hE hk0 (by omega) x.n1 fun h1 tk5 ex' a ds' dn' C1 ha E1 t1 hr1 hd1 hE1 => ?_
  have S1 := S.afterO C1
  refine storeX S1 (fun h2 tk6 S2 => ?_) rfl rfl
  obtain ⟨n1, n2, n3, n4⟩ := x.new S.repO ha
  have x1 := x.due ok E1 t1 hd1 hE1
  exact q ex' h2 tk6 a ds' dn' S2 (x1.rows hr1 ((x.hR.drop _).mono fun _ _ y => y.keep t1) n1 n2 n3 n4)
/-- a tuple is taken apart: three names -/
theorem tup3_X {x1 x2 x3 : Str} {p1 p2 p3 tp : Pos} {k : Nat} {a : Addr} {v1 v2 v3 : Value} {Q : Unit → Shared → Prop} (S : St 39 175 w g L m (st.withEx (own ++ st.ex)) h) (hh : A.handled = none) (ha : h.get? a = some (tupO [v1, v2, v3]))
    (hk1 : (envX "law" lawS L f cd (lawC L)).kindOf x1 = some .local) (hk2 : (envX "law" lawS L f cd (lawC L)).kindOf x2 = some .local) (hk3 : (envX "law" lawS L f cd (lawC L)).kindOf x3 = some .local)
    (q : ∀ h' (tk' : Nat), St 39 175 w g L (fun y => if y = x3 then some v3 else if y = x2 then some v2 else if y = x1 then some v1 else m y) (st.withEx (own ++ st.ex)) h' → Q () (up s h' tk')) :
    wpAny (model prog w) A (assign (.Tuple [.Name x1 p1, .Name x2 p2, .Name x3 p3] k tp) (envX "law" lawS L f cd (lawC L)) (.ref a)) Q E (up s h tk) := by
  refine wpAny_assign_Tuple (s := up s h tk) hh (isTup_of ha) rfl rfl fun h1 he1 => ?_
  have S1 : St 39 175 w g L m (st.withEx (own ++ st.ex)) h1 := S.grow fun c o e => he1 c o (Nat.ne_of_lt (Heap.lt_size e)) e
  show wpAny _ _ (assignInOrder [assign (.Name x1 p1) _, assign (.Name x2 p2) _, assign (.Name x3 p3) _] [v1, v2, v3]) _ _ (up s h1 tk)
  refine assignInOrder_cons (wpAny_assign_Name (storeX S1 (fun h2 tk2 S2 => ?_) rfl hk1))
  refine assignInOrder_cons (wpAny_assign_Name (storeX S2 (fun h3 tk3 S3 => ?_) rfl hk2))
  refine assignInOrder_cons (wpAny_assign_Name (storeX S3 (fun h4 tk4 S4 => ?_) rfl hk3))
  exact assignInOrder_nil (q h4 tk4 S4)
end
section
variable {prog : Program} {w : World} {A : Around} {E : Value → Shared → Prop} {s : Shared} {h : Heap} {tk₀ : Nat} {p : Program} {loose : List Str} {mg mb : Str → Option Value} {h₀ : Heap} {st : LS} {r : Rg}
  {Ky : Type} [DecidableEq Ky] {T' : DT prog w (K1 w.params) Ky} {kvs : List (Ky × Value)} {k : Ky} {D : List (Ky × Rg)} {key val : Value}
end
noncomputable def forB : Stmt → List Stmt
  | .For _ _ b _ _ => b
  | _ => []
noncomputable def ifT : Stmt → List Stmt
  | .If _ b _ _ => b
  | _ => []
noncomputable def ifE : Stmt → List Stmt
  | .If _ _ b _ => b
  | _ => []
noncomputable abbrev lawE (L f : Addr) (cd : Value) : Env := envX "law" lawS L f cd (lawC L)
/-- a deed's body -/
noncomputable def deedB : List Stmt := forB (nthS lawB 8)
/-- what the law knows between its deeds -/
structure LQ (prog : Program) (w : World) (H : HA) (st : LS) (m : Str → Option Value) (top : Int) (aft : Option Int) (d : LD) (D : List (Nat × Rg)) (kvs : List (Nat × Value)) (n : Nat) : Prop where
  C : Cst (TK prog w) st D kvs
  x : LX H st.ex d
  V : vw st D = d.R.reverse.map H.enc
  wy : ∀ r ∈ d.R, r.2.2 ≤ 2
  ev : d.Ew = d.Ed
  ln : d.Ed.length + d.R.length ≤ n
  t0 : 0 ≤ top
  a0 : ∀ i, aft = some i → 0 ≤ i
  mx : ∃ t, st.mx = .int top t
  af : IsI (keepOf top aft) st.af
  mc : m "cache" = some (.ref st.c)
  mr : m "rows" = some (.ref d.ra)
  md : m "due" = some (.ref H.da)
  m1 : m "first" = some (.ref H.f1)
  m2 : m "second" = some (.ref H.f2)
  mt : ∃ v, m "top" = some v ∧ IsI top v
  mkp : ∃ v, m "keep" = some v ∧ IsI (keepOf top aft) v
/-- a deed is done -/
inductive DeedEnd (prog : Program) (w : World) (g : Heap) (H : HA) (own : List (Addr × Obj)) (s : Shared) (n : Nat) (m : Str → Option Value) (fl : Flow) (s' : Shared) : Prop
  | mk (e : fl = .next) (h' : Heap) (tk' : Nat) (m' : Str → Option Value) (st' : LS) (top : Int) (aft : Option Int) (d : LD) (D : List (Nat × Rg)) (kvs : List (Nat × Value)) (es : s' = up s h' tk') (S : St 39 175 w g H.L m' (st'.withEx (own ++ st'.ex)) h') (Q : LQ prog w H st' m' top aft d D kvs n)
    (k1 : m' "step" = m "step") (k2 : m' "number" = m "number") (k3 : m' "kind" = m "kind") (k4 : m' "rest" = m "rest")
section
variable {prog : Program} {w : World} {A : Around} {E : Value → Shared → Prop} {s : Shared} {g h h' : Heap} {m m' : Str → Option Value} {tk₀ tk : Nat} {p : Program} {loose : List Str} {mg mb : Str → Option Value} {h₀ : Heap} {st st1 : LS} {H : HA} {own : List (Addr × Obj)} {f : Addr} {cd : Value} {d : LD}
  {top top' : Int} {aft aft' : Option Int} {D : List (Nat × Rg)} {kvs kvs1 : List (Nat × Value)} {n : Nat}
theorem LQ.dl (x : LQ prog w H st m top aft d D kvs n) : D.length = d.R.length := by
  have := congrArg List.length x.V
  simpa [vw] using this
theorem LQ.cbs (x : LQ prog w H st m top aft d D kvs n) (ok : H.Ok) : ∀ q ∈ D, Cb (lawHook prog w H ok) (st.F q.2.x).cln := fun q hq => by
  have hm : (q.1, (st.F q.2.x).val, (st.F q.2.x).cln) ∈ vw st D := List.mem_map.mpr ⟨q, hq, rfl⟩
  rw [x.V] at hm
  obtain ⟨r, hr, e⟩ := List.mem_map.mp hm
  have e : H.clnOf r.2.2 = (st.F q.2.x).cln := congrArg (fun z : Nat × Value × Value => z.2.2) e
  rw [← e]
  exact HA.cb
theorem LQ.hok (x : LQ prog w H st m top aft d D kvs n) {b : Nat} (hn : n ≤ 1000) (hb : b ≤ 1000) : HOk H (D.length + b) st.ex :=
  ⟨x.x.kept, d.ws, d.wn, x.x.hw, by have := x.x.hW.length; rw [x.ev] at this; have := x.ln; rw [x.dl]; omega⟩
theorem LQ.kz (x : LQ prog w H st m top aft d D kvs n) : kvs.length = d.R.length := x.C.len.trans x.dl
theorem vw_take {kN : Nat} : vw st (D.take kN) = (vw st D).take kN := by unfold vw; rw [List.map_take]
/-- the clean-ups of what was cut off stand in written -/
theorem LQ.cutX (x : LQ prog w H st m top aft d D kvs n) (ok : H.Ok) {kN : Nat} (runs : Runs (lawHook prog w H ok) (TK prog w) ((vw st D).drop kN) st.ex st1.ex) :
    ∃ (ws : List Value) (wn : Nat), LX H st1.ex { d with ws := ws, wn := wn, Ew := d.Ew ++ evsOf (d.R.take (d.R.length - kN)) } :=
  x.x.wrote ok (runs_ev (ok := ok) runs (enc_drop x.V) (fun r hr => x.wy r (List.mem_of_mem_take hr)) x.x.hw x.x.hW)
theorem LQ.cutQ (x : LQ prog w H st m top aft d D kvs n) {kN : Nat} {ex' : List (Addr × Obj)} {a : Addr} {ws ds : List Value} {wn dn : Nat} (C1 : Cst (TK prog w) st1 (D.take kN) kvs1) (ev : vw st1 (D.take kN) = vw st (D.take kN)) (hc : st1.c = st.c)
    (y : LX H ex' { d with ra := a, rs := d.rs.drop (d.R.length - kN), rn := 0, ds := ds, dn := dn, ws := ws, wn := wn, R := d.R.drop (d.R.length - kN), Ed := d.Ed ++ evsOf (d.R.take (d.R.length - kN)), Ew := d.Ew ++ evsOf (d.R.take (d.R.length - kN)) })
    (t0 : 0 ≤ top') (a0 : ∀ i, aft' = some i → 0 ≤ i) (mx : ∃ t, st1.mx = .int top' t) (af : IsI (keepOf top' aft') st1.af) (mr : m' "rows" = some (.ref a)) (mc : m' "cache" = m "cache") (md : m' "due" = m "due") (m1 : m' "first" = m "first") (m2 : m' "second" = m "second")
    (mt : ∃ v, m' "top" = some v ∧ IsI top' v) (mkp : ∃ v, m' "keep" = some v ∧ IsI (keepOf top' aft') v) :
    LQ prog w H (st1.withEx ex') m' top' aft' { d with ra := a, rs := d.rs.drop (d.R.length - kN), rn := 0, ds := ds, dn := dn, ws := ws, wn := wn, R := d.R.drop (d.R.length - kN), Ed := d.Ed ++ evsOf (d.R.take (d.R.length - kN)), Ew := d.Ew ++ evsOf (d.R.take (d.R.length - kN)) } (D.take kN) kvs1 n := by
  refine ⟨C1.withEx, y, ?_, fun r hr => x.wy r (List.mem_of_mem_drop hr), ?_, ?_, t0, a0, mx, af, ?_, mr, md.trans x.md, m1.trans x.m1, m2.trans x.m2, mt, mkp⟩
  · show vw st1 (D.take kN) = _
    rw [ev, vw_take]; exact enc_take x.V
  · show d.Ew ++ _ = d.Ed ++ _
    rw [x.ev]
  · show (d.Ed ++ evsOf (d.R.take (d.R.length - kN))).length + (d.R.drop (d.R.length - kN)).length ≤ n
    have := x.ln
    have := evsOf_len (R := d.R.take (d.R.length - kN))
    rw [List.length_append, List.length_drop]
    rw [List.length_take] at this
    omega
  · rw [mc, x.mc]; show _ = some (Value.ref st1.c); rw [hc]
/-- cache.cleanup() and its like, then the rows -/
theorem law_clean (ok : H.Ok) (S : St 39 175 w g H.L m (st.withEx (own ++ st.ex)) h) (X : (K1 w.params).In g) (T : TopRead p loose mg mb g) (hroom : A.depth + 20 < recursionLimit) (hu : A.units + 200 < cLine) (hh : A.handled = none) (hn : n ≤ 1000)
    (x : LQ prog w H st m top aft d D kvs n) : wpAny (model prog w) A (execs (ifT (nthS deedB 2)) (lawE H.L f cd)) (DeedEnd prog w g H own s n m) (fun _ _ => False) (up s h tk) := by
  have mc := x.mc
  have mr := x.mr
  have md := x.md
  have hln := x.ln
  obtain ⟨vk, hk, tk', rfl⟩ := x.mkp
  obtain ⟨ta, haf⟩ := x.af
  have k0 : 0 ≤ keepOf top aft := keepOf_nonneg x.t0 x.a0
  refine wpAny_execs_cons ?_
  refine' ex_ ?_ rfl rfl
  refine' ev_m0 (f := 121) (x := st.c) ?hpo S.subO.cinst (X.keeps S.F.keep) (pcL _) ?hf ?ht ?hkp rfl ?_ rfl
  case hpo => walk_at "px"
  ((case hf => k_dflt k_is); (case ht => k_dflt k_is); (case hkp => k_dflt k_is))
  intro tk1
  refine c_cleanup (b := 0) (lawHook prog w H ok) (S.baseO X T) S.repO (by omega) (by omega) x.C (by rw [x.kz]; omega) haf k0 (x.cbs ok) (x.hok hn (by omega)) fun h1 tk2 st1 kvs1 C1 K1' => ?_
  have S1 := S.afterO C1
  obtain ⟨ws, wn, y1⟩ := x.cutX ok K1'.runs
  refine wpAny_execs_cons ?_
  refine law_shr ok rfl S1 X T (by omega) (by omega) hh y1 mr md (kv := keepOf top aft) (PvI.of (t := tk') ?hke) k0 (by show d.R.length + d.Ed.length ≤ 9000; omega) (fun ex' h2 tk3 a ds dn S2 y2 => ?_) rfl rfl rfl
  case hke => walk_at "px"
  refine wpAny_execs_nil ⟨rfl, h2, tk3, _, st1.withEx ex', top, aft, _, _, _, rfl, S2, x.cutQ K1'.C K1'.ev K1'.fx.c y2 x.t0 x.a0 (let ⟨t, e⟩ := x.mx; ⟨t, K1'.fx.mx.trans e⟩) ⟨ta, K1'.fx.af.trans haf⟩ rfl rfl rfl rfl rfl x.mt ⟨_, hk, tk', rfl⟩, rfl, rfl, rfl, rfl⟩
noncomputable def resB : List Stmt := ifT (nthS (ifE (nthS deedB 2)) 0)
noncomputable def clrB : List Stmt := ifT (nthS (ifE (nthS (ifE (nthS deedB 2)) 0)) 0)
noncomputable def addsB : List Stmt := ifE (nthS (ifE (nthS (ifE (nthS deedB 2)) 0)) 0)
/-- cache.clear() -/
theorem law_clear (ok : H.Ok) (S : St 39 175 w g H.L m (st.withEx (own ++ st.ex)) h) (X : (K1 w.params).In g) (T : TopRead p loose mg mb g) (hroom : A.depth + 20 < recursionLimit) (hu : A.units + 200 < cLine) (hh : A.handled = none) (hn : n ≤ 1000)
    (x : LQ prog w H st m top aft d D kvs n) : wpAny (model prog w) A (execs clrB (lawE H.L f cd)) (DeedEnd prog w g H own s n m) (fun _ _ => False) (up s h tk) := by
  have mc := x.mc
  have mr := x.mr
  have md := x.md
  have hln := x.ln
  obtain ⟨vk, hk, tk', rfl⟩ := x.mkp
  obtain ⟨ta, haf⟩ := x.af
  refine wpAny_execs_cons ?_
  refine' ex_ ?_ rfl rfl
  refine' ev_m0 (f := 156) (x := st.c) ?hpo S.subO.cinst (X.keeps S.F.keep) (pcL _) ?hf ?ht ?hkp rfl ?_ rfl
  case hpo => walk_at "px"
  ((case hf => k_dflt k_is); (case ht => k_dflt k_is); (case hkp => k_dflt k_is))
  intro tk1
  refine c_clear (b := 0) (lawHook prog w H ok) (S.baseO X T) S.repO (by omega) (by omega) x.C (by rw [x.kz]; omega) (x.cbs ok) (x.hok hn (by omega)) fun h1 tk2 st1 kvs1 C1 K1' => ?_
  have S1 := S.afterO C1
  obtain ⟨ws, wn, y1⟩ := x.cutX ok K1'.runs
  refine wpAny_execs_cons ?_
  refine law_shr ok rfl S1 X T (by omega) (by omega) hh y1 mr md (kv := 0) PvI.const (Int.le_refl _) (by show d.R.length + d.Ed.length ≤ 9000; omega) (fun ex' h2 tk3 a ds dn S2 y2 => ?_) rfl rfl rfl
  refine wpAny_execs_nil ⟨rfl, h2, tk3, _, st1.withEx ex', top, aft, _, _, _, rfl, S2, x.cutQ (kN := 0) K1'.C K1'.ev K1'.fx.c y2 x.t0 x.a0 (let ⟨t, e⟩ := x.mx; ⟨t, K1'.fx.mx.trans e⟩) ⟨ta, K1'.fx.af.trans haf⟩ rfl rfl rfl rfl rfl x.mt ⟨_, hk, tk', rfl⟩, rfl, rfl, rfl, rfl⟩
/-- the limits are drawn anew -/
theorem law_res {rs : Int} (ok : H.Ok) (S : St 39 175 w g H.L m (st.withEx (own ++ st.ex)) h) (X : (K1 w.params).In g) (T : TopRead p loose mg mb g) (hroom : A.depth + 20 < recursionLimit) (hu : A.units + 200 < cLine) (hh : A.handled = none) (hn : n ≤ 1000)
    (x : LQ prog w H st m top aft d D kvs n) (hrest : ∃ v, m "rest" = some v ∧ IsI rs v) : wpAny (model prog w) A (execs resB (lawE H.L f cd)) (DeedEnd prog w g H own s n m) (fun _ _ => False) (up s h tk) := by
  have mc := x.mc
  have mr := x.mr
  have md := x.md
  have hln := x.ln
  obtain ⟨vr, mrest, tr, rfl⟩ := hrest
  refine wpAny_execs_cons (Assign_Tuple ?_ rfl rfl)
  refine Call_ (Pv.at (v := .ref 195) (by walk_at "px") fun tk1 => ?_) rfl
  refine callWith_K X (by k_dflt k_is) (spliced_more (Pv.at (v := .int rs tr) (by walk_at "px") fun tk2 => spliced_none ⟨X.keeps S.F.keep, ?_⟩) rfl) rfl rfl
  refine c_lim X T S.F.keep (by omega) (by omega) hh fun h1 tk3 a t1 t2 va G1 ha0 ha hva => ?_
  refine tup3_X (S.grow G1) hh ha rfl rfl rfl fun h2 tk4 S2 => ?_
  obtain ⟨m2, S2, mc2, mr2, md2, mt2, ma2, mk2, hm2⟩ : ∃ m2, St 39 175 w g H.L m2 (st.withEx (own ++ st.ex)) h2 ∧ m2 "cache" = some (.ref st.c) ∧ m2 "rows" = some (.ref d.ra) ∧ m2 "due" = some (.ref H.da) ∧ m2 "top" = some (.int (topOf rs) t1) ∧ m2 "after" = some va ∧ m2 "keep" = some (.int (keepOf (topOf rs) (aftOf rs)) t2) ∧
      (∀ y : Str, (y == "top") = false → (y == "after") = false → (y == "keep") = false → m2 y = m y) := ⟨_, S2, mc, mr, md, rfl, rfl, rfl, fun y h1 h2 h3 => by
        show (if y = _ then _ else if y = _ then _ else if y = _ then _ else _) = _
        rw [if_neg (fun e => by rw [e] at h3; simp at h3), if_neg (fun e => by rw [e] at h2; simp at h2), if_neg (fun e => by rw [e] at h1; simp at h1)]⟩
  show wpAny _ _ (execs _ _) _ _ (up s h2 tk4)
  refine wpAny_execs_cons ?_
  refine' ex_ ?_ rfl rfl
  refine' ev_m2 (f := 164) (x := st.c) (v := .int (topOf rs) t1) (v2 := va) ?hpo ?he ?he2 S2.subO.cinst (X.keeps S2.F.keep) (pcL _) ?hf ?ht ?hkp rfl ?_ rfl rfl rfl rfl
  case hpo => walk_at "px"
  case he => walk_at "px"
  case he2 => walk_at "px"
  ((case hf => k_dflt k_is); (case ht => k_dflt k_is); (case hkp => k_dflt k_is))
  intro tk5
  refine c_resize (b := 0) (lawHook prog w H ok) (S2.baseO X T) S2.repO (by omega) (by omega) hh x.C (by rw [x.kz]; omega) topOf_nonneg hva (fun i e => aftOf_nonneg e) (x.cbs ok) (x.hok hn (by omega)) fun h3 tk6 st1 kvs1 C1 RD => ?_
  have S3 := S2.afterO C1
  obtain ⟨ws, wn, y1⟩ := x.cutX ok RD.runs
  refine wpAny_execs_cons ?_
  refine law_shr ok rfl S3 X T (by omega) (by omega) hh y1 mr2 md2 (kv := keepOf (topOf rs) (aftOf rs)) (PvI.of (t := t2) ?hke) (keepOf_nonneg topOf_nonneg fun i e => aftOf_nonneg e) (by show d.R.length + d.Ed.length ≤ 9000; omega) (fun ex' h4 tk7 b ds dn S4 y2 => ?_) rfl rfl rfl
  case hke => walk_at "px"
  refine wpAny_execs_nil ⟨rfl, h4, tk7, _, st1.withEx ex', topOf rs, aftOf rs, _, _, _, rfl, S4, x.cutQ RD.C RD.ev RD.c y2 topOf_nonneg (fun i e => aftOf_nonneg e) ⟨_, RD.mx⟩ RD.af rfl (mc2.trans mc.symm) (md2.trans md.symm) (hm2 _ (by decide) (by decide) (by decide)) (hm2 _ (by decide) (by decide) (by decide)) ⟨_, mt2, t1, rfl⟩ ⟨_, mk2, t2, rfl⟩, hm2 _ (by decide) (by decide) (by decide), hm2 _ (by decide) (by decide) (by decide), hm2 _ (by decide) (by decide) (by decide), hm2 _ (by decide) (by decide) (by decide)⟩
end
section
open PySem PySem.W PyProof.Rows PySem.Calls PySem.SeqAt
section
variable {prog : Program} {w : World} {A : Around} {E : Value → Shared → Prop} {s : Shared} {h h' : Heap} {tk : Nat} {env : Env} {e : Expr} {k : Int} {Q : Bool → Shared → Prop}
noncomputable def isIn (k : Int) (v : Value) : Bool := match v with | .int i _ => i == k | _ => false
/-- k in a tuple of ints -/
theorem in_ints {l : Addr} {its : List Value} {t : Tok} {Q : Value → Shared → Prop} (hl : h.get? l = some (tupO its)) (hi : ∀ y ∈ its, ∃ i u, y = .int i u) (hq : Q (.bool (its.any (isIn k))) (up s h tk)) : wpAny (model prog w) A (compareOp .In (.int k t) (.ref l)) Q E (up s h tk) := by
  refine in_tupleAt (s := up s _ tk) (items := its.toArray) (isIn k) (isTup_of hl) (fun y hy => ?_) (by simpa using hq)
  obtain ⟨i, u, rfl⟩ := hi y (by simpa using hy)
  exact EqAt.int_int _ _ _ _
/-- e in (a, b) -/
theorem test_in2 {a b : Int} {ka kb kk : Nat} {pa pb p1 p2 : Pos} (he : PvI prog w A env e k h) (q : ∀ h' (tk' : Nat), Grow h h' → Q (a == k || b == k) (up s h' tk'))
    (h1 : starEach [.Constant (.int a) ka pa, .Constant (.int b) kb pb] env = (false, eval (.Constant (.int a) ka pa) env) :: starEach [.Constant (.int b) kb pb] env)
    (h2 : starEach [.Constant (.int b) kb pb] env = (false, eval (.Constant (.int b) kb pb) env) :: starEach [] env) (hm : behindInMarks .In (.Tuple [.Constant (.int a) ka pa, .Constant (.int b) kb pb] kk p1) = false) :
    wpAny (model prog w) A (isTrue (.Compare e [.In] [.Tuple [.Constant (.int a) ka pa, .Constant (.int b) kb pb] kk p1] p2) env (eval (.Compare e [.In] [.Tuple [.Constant (.int a) ka pa, .Constant (.int b) kb pb] kk p1] p2) env)) Q E (up s h tk) := by
  refine wpAny_isTrue_Compare1 (PvE.at he fun v tk1 hv => wpAny_Tuple (spliced_more (PvE.at PvI.const fun va tk2 hva => spliced_more (PvE.at PvI.const fun vb tk3 hvb => spliced_none ⟨two_le (show 2 ≤ 16 by decide), ?_⟩) h2) h1)) hm
  obtain ⟨t, rfl⟩ := hv
  obtain ⟨ta, rfl⟩ := hva
  obtain ⟨tb, rfl⟩ := hvb
  refine in_ints (its := [.int a ta, .int b tb]) (Heap.get?_push_size _ rfl) (fun y hy => ?_) ?_
  · simp only [List.mem_cons, List.not_mem_nil, or_false] at hy
    rcases hy with rfl | rfl <;> exact ⟨_, _, rfl⟩
  · rw [show [Value.int a ta, Value.int b tb].any (isIn k) = (a == k || b == k) by simp [isIn]]
    exact wpAny_truthy_bool (q _ _ Grow.push)
/-- e in (a, b, c, d) -/
theorem test_in4 {a b c d : Int} {ka kb kc kd kk : Nat} {pa pb pc pd p1 p2 : Pos} (he : PvI prog w A env e k h) (q : ∀ h' (tk' : Nat), Grow h h' → Q (a == k || (b == k || (c == k || d == k))) (up s h' tk'))
    (h1 : starEach [.Constant (.int a) ka pa, .Constant (.int b) kb pb, .Constant (.int c) kc pc, .Constant (.int d) kd pd] env = (false, eval (.Constant (.int a) ka pa) env) :: starEach [.Constant (.int b) kb pb, .Constant (.int c) kc pc, .Constant (.int d) kd pd] env)
    (h2 : starEach [.Constant (.int b) kb pb, .Constant (.int c) kc pc, .Constant (.int d) kd pd] env = (false, eval (.Constant (.int b) kb pb) env) :: starEach [.Constant (.int c) kc pc, .Constant (.int d) kd pd] env)
    (h3 : starEach [.Constant (.int c) kc pc, .Constant (.int d) kd pd] env = (false, eval (.Constant (.int c) kc pc) env) :: starEach [.Constant (.int d) kd pd] env)
    (h4 : starEach [.Constant (.int d) kd pd] env = (false, eval (.Constant (.int d) kd pd) env) :: starEach [] env)
    (hm : behindInMarks .In (.Tuple [.Constant (.int a) ka pa, .Constant (.int b) kb pb, .Constant (.int c) kc pc, .Constant (.int d) kd pd] kk p1) = false) :
    wpAny (model prog w) A (isTrue (.Compare e [.In] [.Tuple [.Constant (.int a) ka pa, .Constant (.int b) kb pb, .Constant (.int c) kc pc, .Constant (.int d) kd pd] kk p1] p2) env (eval (.Compare e [.In] [.Tuple [.Constant (.int a) ka pa, .Constant (.int b) kb pb, .Constant (.int c) kc pc, .Constant (.int d) kd pd] kk p1] p2) env)) Q E (up s h tk) := by
  refine wpAny_isTrue_Compare1 (PvE.at he fun v tk1 hv => wpAny_Tuple (spliced_more (PvE.at PvI.const fun va tk2 hva => spliced_more (PvE.at PvI.const fun vb tk3 hvb => spliced_more (PvE.at PvI.const fun vc tk4 hvc => spliced_more (PvE.at PvI.const fun vd tk5 hvd => spliced_none ⟨two_le (show 4 ≤ 16 by decide), ?_⟩) h4) h3) h2) h1)) hm
  obtain ⟨t, rfl⟩ := hv
  obtain ⟨ta, rfl⟩ := hva
  obtain ⟨tb, rfl⟩ := hvb
  obtain ⟨tc, rfl⟩ := hvc
  obtain ⟨td, rfl⟩ := hvd
  refine in_ints (its := [.int a ta, .int b tb, .int c tc, .int d td]) (Heap.get?_push_size _ rfl) (fun y hy => ?_) ?_
  · simp only [List.mem_cons, List.not_mem_nil, or_false] at hy
    rcases hy with rfl | rfl | rfl | rfl <;> exact ⟨_, _, rfl⟩
  · rw [show [Value.int a ta, Value.int b tb, Value.int c tc, Value.int d td].any (isIn k) = (a == k || (b == k || (c == k || d == k))) by simp [isIn]]
    exact wpAny_truthy_bool (q _ _ Grow.push)
end
section
variable {prog : Program} {w : World} {A : Around} {s : Shared} {h : Heap} {env : Env} {ex : List (Addr × Obj)}
/-- row[0] == k, row[0] != k in a comprehension -/
theorem row_test {nm : Str} {sc : Scope} {cl : List (Str × Addr)} {c : Addr} {o : Obj} {k : Nat} {kt : Tok} {k0 : Nat} {p1 p2 p3 p4 p5 : Pos} {op : CmpOp} {fc : Int → Int → Bool} {pz : Value → Bool} {rs : List Value} {R : List (Nat × Value × Nat)}
    (hx : ∀ q ∈ ex, h.get? q.1 = some q.2) (hR : All2 (RowAt ex) rs R) (ic : ICmp op fc) (hp : ∀ v r, RowAt ex v r → pz v = fc r.1 k) (hc : cl.lookup nm = some c) (ho : h.get? c = some o) (hd : o.data = .cell (some (.int k kt)))
    (hk : ∀ C, (compEnvC sc cl C env).scope.kind = .function) (hl : ∀ C, (compEnvC sc cl C env).kindOf "row" = some .local) (hl2 : ∀ C, (compEnvC sc cl C env).kindOf nm = some .cell) (hdb : (nm == ("__debug__" : Str)) = false)
    (hm : behindInMarks op (.Name nm p4) = false) :
    CTest prog w A h "row" sc cl env [.Compare (.Subscript (.Name "row" p1) (.Constant (.int 0) k0 p2) p3) [op] [.Name nm p4] p5] rs.length (fun i v => rs[i]? = some v) pz s := by
  intro i v C mm h' tk' Q E hi hv G hns hx' q
  obtain ⟨r, hr0, hrow⟩ := hR.get hv
  have e := hp v r hrow
  obtain ⟨hmt, hpl, nv⟩ := hrow
  rename_i t t1 t2
  have ht : h'.get? t = some (tupO [.int r.1 t1, r.2.1, .int r.2.2 t2]) := G _ _ (hx _ hmt)
  refine wpAny_tests_one (wpAny_isTrue_Compare1 ((Pv.itemT (v := .int r.1 t1) (i := 0) ht (comp_name (v := .ref t) hns hx' (hk C) (hl C) (by decide)) rfl (show 3 ≤ 16 by decide) (by intro _; with_unfolding_all rfl) (by intro _; with_unfolding_all rfl)) _ _ _ rfl fun tk1 => (comp_cell (v := .int k kt) hc ⟨o, G _ _ ho, hd⟩ (hk C) (hl2 C) hdb) _ _ _ rfl fun tk2 => ?_) hm)
  refine ic.wp (M := model prog w) (wpAny_truthy_bool ?_)
  rw [← e]
  exact q _
end
section
variable {h : Heap} {ex : List (Addr × Obj)} {k : Nat}
theorem pz_row {v : Value} {r : Nat × Value × Nat} (hx : ∀ q ∈ ex, h.get? q.1 = some q.2) (x : RowAt ex v r) : pzOf h k v = (r.1 == k) := by
  obtain ⟨hm, hp, nv⟩ := x
  exact pz_tup (hx _ hm)
theorem nat_beq {a b : Nat} : ((a : Int) == (b : Int)) = (a == b) := by
  rw [Bool.eq_iff_iff, beq_iff_eq, beq_iff_eq]; omega
theorem nat_bne {a b : Nat} : ((a : Int) != (b : Int)) = !(a == b) := by
  unfold bne; rw [nat_beq]
end

end
section
variable {prog : Program} {w : World} {A : Around} {E : Value → Shared → Prop} {s : Shared} {h : Heap} {tk₀ : Nat} {p : Program} {loose : List Str} {mg mb : Str → Option Value} {h₀ : Heap} {st : LS} {r : Rg}
  {Ky : Type} [DecidableEq Ky] {T' : DT prog w (K1 w.params) Ky} {kvs : List (Ky × Value)} {k : Ky} {D : List (Ky × Rg)} {key val : Value}
end
noncomputable def turnB : List Stmt := forB (nthS addsB 0)
/-- what a turn of the adding loop knows -/
structure TF (H : HA) (ex : List (Addr × Obj)) (R : List (Nat × Value × Nat)) (m : Str → Option Value) (pl : Nat) (kv : Value) (ha oa : Addr) (hs os : List Value) (hn on : Nat) : Prop where
  p12 : pl < 12
  kl : KL[pl]? = some kv
  hh : (ha, listOf hs.toArray hn) ∈ ex
  hR : All2 (RowAt ex) hs (R.filter fun r => r.1 == pl)
  oo : (oa, listOf os.toArray on) ∈ ex
  oR : All2 (RowAt ex) os (R.filter fun r => !(r.1 == pl))
  h1 : ha ≠ H.da
  h2 : ha ≠ H.wa
  o1 : oa ≠ H.da
  o2 : oa ≠ H.wa
  mky : m "key" = some kv
  mh : m "held" = some (.ref ha)
  mo : m "others" = some (.ref oa)
  pc : ∃ (o : Obj) (t : Tok), (H.L + 1, o) ∈ ex ∧ o.data = .cell (some (.int pl t))
section
variable {prog : Program} {w : World} {A : Around} {E : Value → Shared → Prop} {s : Shared} {g h h' : Heap} {m m' : Str → Option Value} {tk₀ tk : Nat} {p : Program} {loose : List Str} {mg mb : Str → Option Value} {h₀ : Heap} {st st1 : LS} {H : HA} {own : List (Addr × Obj)} {f : Addr} {cd : Value} {d : LD}
  {top top' : Int} {aft aft' : Option Int} {D : List (Nat × Rg)} {kvs kvs1 : List (Nat × Value)} {n : Nat} {L : Addr}
/-- the law's lists turn, the cache stays -/
theorem LQ.toEx {ex' : List (Addr × Obj)} (x : LQ prog w H st m top aft d D kvs n) (y : LX H ex' d) (hm : ∀ y ∈ (["cache", "rows", "due", "first", "second", "top", "keep"] : List Str), m' y = m y) : LQ prog w H (st.withEx ex') m' top aft d D kvs n := by
  simp only [List.mem_cons, List.not_mem_nil, or_false, forall_eq_or_imp, forall_eq] at hm
  obtain ⟨a1, a2, a3, a4, a5, a6, a7⟩ := hm
  exact ⟨x.C.withEx, y, x.V, x.wy, x.ev, x.ln, x.t0, x.a0, x.mx, x.af, a1.trans x.mc, a2.trans x.mr, a3.trans x.md, a4.trans x.m1, a5.trans x.m2, by rw [a6]; exact x.mt, by rw [a7]; exact x.mkp⟩
theorem St.snocO {a : Addr} {o : Obj} (S : St 39 175 w g L m ((st.withEx (own ++ st.ex)).withEx ((st.withEx (own ++ st.ex)).ex ++ [(a, o)])) h) : St 39 175 w g L m ((st.withEx (st.ex ++ [(a, o)])).withEx (own ++ (st.ex ++ [(a, o)]))) h := by
  rw [← List.append_assoc]; exact S
theorem St.lastNe {a : Addr} {o : Obj} {ex : List (Addr × Obj)} (S : St 39 175 w g L m (st.withEx (own ++ (ex ++ [(a, o)]))) h) : ∀ q ∈ ex, q.1 ≠ a := fun q hq => by
  have wf := S.wf
  unfold addrs LS.withEx at wf
  simp only [List.map_append, List.nodup_cons, List.nodup_append] at wf
  exact wf.2.2.2.2.1.2.1.2.2 q.1 (List.mem_map_of_mem hq) a (by simp)
/-- x = [row for row in rows if row[0] .. place] -/
theorem law_filt {x nm : Str} {op : CmpOp} {fc : Int → Int → Bool} {pz : Value → Bool} {ra c : Addr} {rs : List Value} {rn : Nat} {R : List (Nat × Value × Nat)} {o : Obj} {pl : Nat} {pt : Tok} {sc : Scope} {k0 : Nat} {px p1 p2 p3 p4 p5 p6 p7 p8 pos spos : Pos} {Q : Flow → Shared → Prop}
    (S : St 39 175 w g L m (st.withEx (own ++ st.ex)) h) (hh : A.handled = none) (hr : (ra, listOf rs.toArray rn) ∈ st.ex) (hR : All2 (RowAt st.ex) rs R) (hz : rs.length ≤ 9000) (mr : m "rows" = some (.ref ra)) (hc : (c, o) ∈ st.ex) (hd : o.data = .cell (some (.int pl pt)))
    (ic : ICmp op fc) (hp : ∀ v r, RowAt st.ex v r → pz v = fc r.1 pl)
    (q : ∀ b h' (tk' : Nat), St 39 175 w g L (fun z => if z = x then some (.ref b) else m z) ((st.withEx (st.ex ++ [(b, listOf (rs.filter pz).toArray (rs.filter pz).length)])).withEx (own ++ (st.ex ++ [(b, listOf (rs.filter pz).toArray (rs.filter pz).length)]))) h' → Q .next (up s h' tk'))
    (hsw : swapsWith (.ListComp (.Name "row" p2) [⟨.Name "row" p1, .Name "rows" p3, [.Compare (.Subscript (.Name "row" p4) (.Constant (.int 0) k0 p5) p6) [op] [.Name nm p7] p8], 0⟩] sc pos) (some (.Name x px)) spos.line (lawE L f cd) = pure true)
    (hclos : closureFor sc (lawE L f cd) = pure [(nm, c)]) (hcell : ∀ y ∈ sc.names, y.2 ≠ .cell) (hkind : sc.kind = .function) (hnames : ∀ y ∈ sc.names, y.2 = .local → sc.names.lookup y.1 = some .local) (hx : sc.names.lookup ("row" : Str) = some .local) (hy : (lawE L f cd).kindOf x = some .local)
    (hl : ∀ C, (compEnvC sc [(nm, c)] C (lawE L f cd)).kindOf "row" = some .local) (hl2 : ∀ C, (compEnvC sc [(nm, c)] C (lawE L f cd)).kindOf nm = some .cell) (hdb : (nm == ("__debug__" : Str)) = false) (hm : behindInMarks op (.Name nm p7) = false) :
    wpAny (model prog w) A (exec (.Assign [.Name x px] (.ListComp (.Name "row" p2) [⟨.Name "row" p1, .Name "rows" p3, [.Compare (.Subscript (.Name "row" p4) (.Constant (.int 0) k0 p5) p6) [op] [.Name nm p7] p8], 0⟩] sc pos) spos) (lawE L f cd)) Q E (up s h tk) := by
  have hrl : h.IsList ra rs.toArray := isList_of (S.subO.exOf hr)
  have hex : ∀ q ∈ st.ex, h.get? q.1 = some q.2 := fun q hq => S.subO.exOf hq
  refine as_comp (cl := [(nm, c)]) (n := rs.length) (Pe := fun i v => rs[i]? = some v) (pz := pz) S rfl hsw (Pv.at (v := .ref ra) (by walk_at "px") fun tk1 => cset_list hh hrl) (by omega) hclos hcell hkind hnames hx (by decide) (by intro _; rfl) hy rfl ?tests fun b h1 tk1 vs hvl hvk S1 => ?_
  case tests => exact row_test hex hR ic hp (by simp) (hex _ hc) hd (fun C => by simp [compEnvC, relabel, hkind]) hl hl2 hdb hm
  have e : vs = rs := List.ext_getElem? fun j => by
    by_cases hj : j < vs.length
    · rw [List.getElem?_eq_getElem hj, hvk j _ (List.getElem?_eq_getElem hj)]
    · rw [List.getElem?_eq_none (Nat.not_lt.mp hj), List.getElem?_eq_none (by omega)]
  subst e
  exact q b h1 tk1 S1.snocO
inductive PreT (prog : Program) (w : World) (g : Heap) (H : HA) (own : List (Addr × Obj)) (s : Shared) (m : Str → Option Value) (top : Int) (aft : Option Int) (d : LD) (D : List (Nat × Rg)) (kvs : List (Nat × Value)) (n pl : Nat) (h' : Heap) : Prop
  | mk (m' : Str → Option Value) (st' : LS) (kv : Value) (ha oa : Addr) (hs os : List Value) (hn on : Nat) (S : St 39 175 w g H.L m' (st'.withEx (own ++ st'.ex)) h') (x : LQ prog w H st' m' top aft d D kvs n) (t : TF H st'.ex d.R m' pl kv ha oa hs os hn on) (hm : ∀ y : Str, (y == "key") = false → (y == "held") = false → (y == "others") = false → m' y = m y)
theorem turn_pre {rs tu : Int} {pl : Nat} {Q : Flow → Shared → Prop} (ok : H.Ok) (S : St 39 175 w g H.L m (st.withEx (own ++ st.ex)) h) (X : (K1 w.params).In g) (T : TopRead p loose mg mb g) (hroom : A.depth + 20 < recursionLimit) (hu : A.units + 200 < cLine) (hh : A.handled = none) (hn : n ≤ 1000)
    (x : LQ prog w H st m top aft d D kvs n) (hrest : ∃ v, m "rest" = some v ∧ IsI rs v) (hturn : ∃ v, m "turn" = some v ∧ IsI tu v) (hpl : (rs + tu).fmod 12 = (pl : Int)) (hp12 : pl < 12)
    (q : ∀ h' (tk' : Nat), PreT prog w g H own s m top aft d D kvs n pl h' → wpAny (model prog w) A (execs (turnB.drop 4) (lawE H.L f cd)) Q E (up s h' tk')) :
    wpAny (model prog w) A (execs turnB (lawE H.L f cd)) Q E (up s h tk) := by
  have hln := x.ln
  have hlen := x.x.hR.length
  obtain ⟨vr, mrest, hvr⟩ := hrest
  obtain ⟨vt, mturn, hvt⟩ := hturn
  obtain ⟨op, vp, p1, p2⟩ := x.x.pl
  obtain ⟨kv, hkv⟩ := KL_some hp12
  refine wpAny_execs_cons ?_
  refine S.setC (c := H.L + 1) (P := IsI (pl : Int)) ?he rfl p1 p2 (fun v hv ex1 h1 tk1 o1 S1 hm1 hd1 E1 t1 => ?_) rfl rfl
  case he =>
    rw [← hpl]
    refine PvI.mod (PvI.add (PvI.ofI ?h1 hvr) (PvI.ofI ?h2 hvt)) PvI.const (by decide)
    case h1 => walk_at "px"
    case h2 => walk_at "px"
  obtain ⟨pt, rfl⟩ := hv
  have x1 := x.toEx (x.x.place ok E1 t1 hm1 hd1) (m' := m) (fun _ _ => rfl)
  refine wpAny_execs_cons ?_
  refine as_nameX S1 (PvG.of (PvE.of (P := fun u => u = kv) (Pv.itemL (its := KL) (i := pl) (kl181 (X.keeps S1.F.keep)) ?hko (PvI.of (t := pt) (Pv.cellX S1 (c := H.L + 1) rfl (List.mem_append_right _ hm1) hd1 rfl rfl rfl)) hkv (by decide) (by intro _; with_unfolding_all rfl) (by intro _; with_unfolding_all rfl)) rfl)) (fun v h2 tk2 hv G2 h3 tk3 toS => ?_) rfl rfl rfl
  case hko => walk_at "px"
  subst hv
  have S3 : St 39 175 w g H.L (fun y => if y = "key" then some v else m y) ((st.withEx ex1).withEx (own ++ ex1)) h3 := toS _ (S1.grow G2)
  clear toS
  refine wpAny_execs_cons ?_
  refine law_filt (st := st.withEx ex1) (c := H.L + 1) (pz := pzOf h3 pl) (R := d.R) S3 hh x1.x.hr x1.x.hR (by omega) x1.mr hm1 hd1 .eq (fun v r hv => by rw [pz_row (fun q hq => S3.subO.exOf (st := st.withEx ex1) hq) hv]; exact nat_beq.symm) (fun ha h4 tk4 S4 => ?_) rfl rfl ?hc1 rfl ?hc2 rfl rfl (fun _ => rfl) (fun _ => rfl) (by decide) (by with_unfolding_all rfl)
  case hc1 => decide
  case hc2 => decide
  have y4 := x1.x.sub (ex' := ex1 ++ [(ha, listOf (d.rs.filter (pzOf h3 pl)).toArray (d.rs.filter (pzOf h3 pl)).length)]) fun q hq => List.mem_append_left _ hq
  have n4 := S4.lastNe
  have hR4 : All2 (RowAt (ex1 ++ [(ha, listOf (d.rs.filter (pzOf h3 pl)).toArray (d.rs.filter (pzOf h3 pl)).length)])) (d.rs.filter (pzOf h3 pl)) (d.R.filter fun r => r.1 == pl) :=
    (x1.x.hR.filter fun v r hv => pz_row (fun q hq => S3.subO.exOf (st := st.withEx ex1) hq) hv).mono fun _ _ y => y.keep fun t i h => List.mem_append_left _ h
  obtain ⟨hs, hhn, hm4, hR4⟩ : ∃ hs hhn, (ha, listOf hs.toArray hhn) ∈ ex1 ++ [(ha, listOf (d.rs.filter (pzOf h3 pl)).toArray (d.rs.filter (pzOf h3 pl)).length)] ∧ All2 (RowAt (ex1 ++ [(ha, listOf (d.rs.filter (pzOf h3 pl)).toArray (d.rs.filter (pzOf h3 pl)).length)])) hs (d.R.filter fun r => r.1 == pl) := ⟨_, _, List.mem_append_right _ (.head _), hR4⟩
  obtain ⟨ex4, he4⟩ : ∃ ex4, ex4 = ex1 ++ [(ha, listOf (d.rs.filter (pzOf h3 pl)).toArray (d.rs.filter (pzOf h3 pl)).length)] := ⟨_, rfl⟩
  have cm4 : (H.L + 1, o1) ∈ ex4 := by rw [he4]; exact List.mem_append_left _ hm1
  have nda : H.da ≠ ha := n4 _ x1.x.hd
  have nwa : H.wa ≠ ha := n4 _ x1.x.hw
  have S4 : St 39 175 w g H.L (fun z => if z = "held" then some (.ref ha) else if z = "key" then some v else m z) ((st.withEx ex4).withEx (own ++ ex4)) h4 := by rw [he4]; exact S4
  rw [← he4] at hR4 hm4 y4
  clear he4 n4
  refine wpAny_execs_cons ?_
  refine law_filt (st := st.withEx ex4) (c := H.L + 1) (pz := fun u => !pzOf h4 pl u) (R := d.R) S4 hh y4.hr y4.hR (by omega) x1.mr cm4 hd1 .ne (fun v r hv => by show (!pzOf h4 pl v) = _; rw [pz_row (fun q hq => S4.subO.exOf (st := st.withEx ex4) hq) hv]; exact nat_bne.symm) (fun oa h5 tk5 S5 => ?_) rfl rfl ?hc3 rfl ?hc4 rfl rfl (fun _ => rfl) (fun _ => rfl) (by decide) (by with_unfolding_all rfl)
  case hc3 => decide
  case hc4 => decide
  have n5 := S5.lastNe
  have sub5 : ∀ q ∈ ex4, q ∈ ex4 ++ [(oa, listOf (d.rs.filter fun u => !pzOf h4 pl u).toArray (d.rs.filter fun u => !pzOf h4 pl u).length)] := fun q hq => List.mem_append_left _ hq
  refine q h5 tk5 ⟨_, st.withEx _, v, ha, oa, _, _, _, _, S5, x.toEx (y4.sub sub5) (fun y hy => ?_), ⟨hp12, hkv, sub5 _ hm4, hR4.mono fun _ _ y => y.keep fun t i h => sub5 _ h, List.mem_append_right _ (.head _), (y4.hR.filter fun v r hv => by rw [pz_row (fun q hq => S4.subO.exOf (st := st.withEx ex4) hq) hv]).mono fun _ _ y => y.keep fun t i h => sub5 _ h, nda.symm, nwa.symm, (n5 _ y4.hd).symm, (n5 _ y4.hw).symm, rfl, rfl, rfl, ⟨o1, pt, sub5 _ cm4, hd1⟩⟩, fun y h1 h2 h3 => ?_⟩
  · simp only [List.mem_cons, List.not_mem_nil, or_false] at hy
    rcases hy with rfl | rfl | rfl | rfl | rfl | rfl | rfl <;> rfl
  · show (if y = _ then _ else if y = _ then _ else if y = _ then _ else _) = _
    rw [if_neg (fun e => by rw [e] at h3; simp at h3), if_neg (fun e => by rw [e] at h2; simp at h2), if_neg (fun e => by rw [e] at h1; simp at h1)]
end
section
variable {prog : Program} {w : World} {A : Around} {E : Value → Shared → Prop} {s : Shared} {h : Heap} {tk₀ : Nat} {p : Program} {loose : List Str} {mg mb : Str → Option Value} {h₀ : Heap} {st : LS} {r : Rg}
  {Ky : Type} [DecidableEq Ky] {T' : DT prog w (K1 w.params) Ky} {kvs : List (Ky × Value)} {k : Ky} {D : List (Ky × Rg)} {key val : Value}
end
noncomputable def lookB : List Stmt := ifT (nthS turnB 4)
noncomputable def addB : List Stmt := ifE (nthS turnB 4)
section
variable {prog : Program} {w : World} {A : Around} {E : Value → Shared → Prop} {s : Shared} {h : Heap} {tk : Nat} {env : Env} {a b : Addr} {its its2 : List Value} {n n2 : Nat}
open PySem.SeqAt
theorem ne_same {Q : Value → Shared → Prop} (ha : h.get? a = some (listOf its.toArray n)) (hb : h.get? b = some (listOf its.toArray n2)) (hu : A.units + 2 < cLine) (q : Q (.bool false) (up s h tk)) : wpAny (model prog w) A (compareOp .NotEq (.ref a) (.ref b)) Q E (up s h tk) := by
  refine RcNeAt.lists (s := up s h tk) (e := fun _ => true) (isList_of ha) (isList_of hb) rfl (by omega) (fun j p1 p2 => EqAt.same _) prog w E Q ?_
  rw [show (!(List.range its.toArray.size).all fun _ => true) = false by simp]
  exact q
theorem ne_diff {Q : Value → Shared → Prop} (ha : h.get? a = some (listOf its.toArray n)) (hb : h.get? b = some (listOf its2.toArray n2)) (hn : its.length ≠ its2.length) (hu : A.units + 2 < cLine) (q : Q (.bool true) (up s h tk)) : wpAny (model prog w) A (compareOp .NotEq (.ref a) (.ref b)) Q E (up s h tk) :=
  RcNeAt.lists_lengths (s := up s h tk) (isList_of ha) (isList_of hb) (by simpa using hn) (by omega) prog w E Q q
theorem Pv.itemT' {v : Value} {ol : Expr} {i : Nat} {k : Nat} {pos ipos : Pos} (ht : h.get? a = some (tupO its)) (ho : Pv prog w A env ol (.ref a) h) (hi : its[i]? = some v) (hz : its.length ≤ 16)
    (hs : ∀ u, subscripted (.Constant (.int i) k ipos) false (.ref a) (.int i u) = operate [.ref a, .int i u] (getItem (.ref a) (.int i u))) :
    Pv prog w A env (.Subscript ol (.Constant (.int i) k ipos) pos) v h := fun s Q E hs' q => by
  subst hs'
  have hlt : i < its.length := (List.getElem?_eq_some_iff.mp hi).1
  refine Subscript_ (ho _ _ _ rfl fun tk => PvI.const _ _ _ rfl fun v tk' hv => ?_)
  obtain ⟨t, rfl⟩ := hv
  refine item_tupleT (s := { s with toks := tk' }) (isTup_of ht) (by omega) (by omega) (j := i) ?_ hi (q _) (hs t)
  unfold seqIndex?
  simp only [Int.ofNat_eq_natCast]
  split <;> simp_all <;> omega
theorem PvG.mono {e : Expr} {P P' : Value → Heap → Prop} (hp : PvG prog w A env e P h) (k : ∀ v h', Grow h h' → P v h' → P' v h') : PvG prog w A env e P' h := fun s tk E Q q => hp s tk E Q fun v h' tk' G hv => q v h' tk' G (k v h' G hv)
end
/-- a frame with cells on the stack -/
theorem Below.pushX {A : Around} {base h₀ h : Heap} {outer : List Env} {L a : Addr} {m : Str → Option Value} {name : Str} {scope : Scope} {cd : Value} {cl : List (Str × Addr)}
    (K : Below A base outer h₀) (F : Fr h₀ L h m) (hk : scope.kind = .function) : Below (A.deeper (envX name scope L a cd cl)) base (envX name scope L a cd cl :: outer) h := by
  have hnew : base.get? L = none := by
    cases hq : base.get? L with
    | none => rfl
    | some o => exact absurd (Nat.lt_of_lt_of_le (Heap.lt_size (K.stays L o hq)) F.above) (Nat.lt_irrefl _)
  refine ⟨Around.frames_deeper K.stack, fun b o e => F.keep b o (K.stays b o e), ?_⟩
  exact .cons (by show scope.kind ≠ .module; rw [hk]; decide) rfl F.ns hnew (K.frames.of_keeps fun b o e _ => ⟨o, F.keep b o e, rfl⟩)
section
variable {prog : Program} {w : World} {A : Around} {E : Value → Shared → Prop} {s : Shared} {g h h' : Heap} {m m' : Str → Option Value} {tk₀ tk : Nat} {p : Program} {loose : List Str} {mg mb : Str → Option Value} {h₀ : Heap} {st st1 : LS} {H : HA} {own : List (Addr × Obj)} {f : Addr} {cd : Value} {d : LD}
  {top top' : Int} {aft aft' : Option Int} {D : List (Nat × Rg)} {kvs kvs1 : List (Nat × Value)} {n : Nat} {L : Addr} {mean : ExcName → Option Value}
theorem LQ.nd (x : LQ prog w H st m top aft d D kvs n) : (d.R.map (·.1)).Nodup := by
  have := x.C.keys_nd
  rw [← vw_keys (st := st), enc_keys x.V] at this
  exact (List.reverse_perm _).nodup_iff.mp this
theorem turn_look {kd : Int} {kt : Tok} {num : Value} {pl : Nat} {kv : Value} {ha oa : Addr} {hs os : List Value} {hhn on : Nat} (ok : H.Ok) (S : St 39 175 w g H.L m (st.withEx (own ++ st.ex)) h) (X : (K1 w.params).In g) (T : TopRead p loose mg mb g) (TT : Top p loose mean mg mb g)
    (BB : ∀ h m, Fr g H.L h m → Below A g [lawE H.L f cd] h) (hroom : A.depth + 20 < recursionLimit) (hu : A.units + 200 < cLine) (hh : A.handled = none) (hn : n ≤ 1000)
    (x : LQ prog w H st m top aft d D kvs n) (t : TF H st.ex d.R m pl kv ha oa hs os hhn on) (mkd : m "kind" = some (.int kd kt)) (mnu : m "number" = some num) :
    wpAny (model prog w) A (execs lookB (lawE H.L f cd)) (DeedEnd prog w g H own s n m) (fun _ _ => False) (up s h tk) := by
  have hln := x.ln
  have mc := x.mc
  have mky := t.mky
  refine wpAny_execs_cons (wpAny_Assign_Name ?_ rfl)
  refine Call_ (Pv.at (v := .ref 207) (by walk_at "px") fun tk1 => ?_) rfl
  refine callWith_K X (by k_dflt k_is) (spliced_more (Pv.at (v := .ref st.c) (by walk_at "px") fun tk2 => spliced_more (Pv.at (v := kv) (by walk_at "px") fun tk3 => spliced_more (Pv.at (v := .int kd kt) (by walk_at "px") fun tk4 => spliced_more (Pv.at (v := num) (by walk_at "px") fun tk5 => spliced_none ⟨X.keeps S.F.keep, ?_⟩) rfl) rfl) rfl) rfl) rfl rfl
  have hLd : ∃ o es n, h.get? H.L = some o ∧ o.data = .dict es n := by
    obtain ⟨o, es, ep, ho, hd, r⟩ := S.F.ns
    exact ⟨o, es, ep, ho, hd⟩
  refine c_look (S.baseO X T) S.repO (by omega) (by omega) hh x.C t.kl TT (BB h m S.F) rfl (fun q => (S.subO.off _ q).1 rfl) hLd fun h1 tk6 st1 D1 a C1 F1 K1' e1 => ?_
  have S1 := S.afterOS C1
  obtain ⟨tl, htl⟩ : ∃ tl, toldOf ((look (vw st D) pl).map (·.1)) kd num = tl := ⟨_, rfl⟩
  rw [htl] at S1
  have sub1 : ∀ q ∈ st.ex, q ∈ st.ex ++ [(a, listOf tl.toArray 0)] := fun q hq => List.mem_append_left _ hq
  obtain ⟨ex1, he1⟩ : ∃ ex1, st.ex ++ [(a, listOf tl.toArray 0)] = ex1 := ⟨_, rfl⟩
  have tm : (a, listOf tl.toArray 0) ∈ ex1 := by rw [← he1]; exact List.mem_append_right _ (.head _)
  rw [he1] at sub1
  have S1 : St 39 175 w g H.L m ((st1.withEx ex1).withEx (own ++ ex1)) h1 := by rw [← he1]; exact S1
  clear he1
  refine storeX S1 (fun h2 tk7 S2 => ?_) rfl rfl
  have y1 := x.x.sub sub1
  obtain ⟨m2, S2, mto, mhe, mot, mkd2, mnu2, hm2⟩ : ∃ m2, St 39 175 w g H.L m2 ((st1.withEx ex1).withEx (own ++ ex1)) h2 ∧ m2 "told" = some (.ref a) ∧ m2 "held" = some (.ref ha) ∧ m2 "others" = some (.ref oa) ∧ m2 "kind" = some (.int kd kt) ∧ m2 "number" = some num ∧ (∀ y : Str, (y == "told") = false → m2 y = m y) :=
    ⟨_, S2, rfl, t.mh, t.mo, mkd, mnu, fun y h1 => by
      show (if y = _ then _ else _) = _
      rw [if_neg (fun e => by rw [e] at h1; simp at h1)]⟩
  have hx2 : ∀ q ∈ ex1, h2.get? q.1 = some q.2 := fun q hq => S2.subO.exOf (st := st1.withEx ex1) hq
  have mx1 : ∃ t, st1.mx = .int top t := by rw [F1.mx]; exact x.mx
  have af1 : IsI (keepOf top aft) st1.af := by rw [F1.af]; exact x.af
  have mc2 : m2 "cache" = some (.ref st1.c) := by rw [F1.c]; exact (hm2 _ (by decide)).trans mc
  have mt2 : ∃ v, m2 "top" = some v ∧ IsI top v := by rw [hm2 _ (by decide)]; exact x.mt
  have mk2 : ∃ v, m2 "keep" = some v ∧ IsI (keepOf top aft) v := by rw [hm2 _ (by decide)]; exact x.mkp
  have hu' : A.units + 2 < cLine := by omega
  show wpAny _ _ (execs _ _) _ _ (up s h2 tk7)
  refine wpAny_execs_cons (wpAny_If (wpAny_isTrue_Compare1 (Pv.at (v := .ref ha) (by walk_at "px") fun tk8 => PvG.list0 s tk8 _ _ fun v h3 tk9 G3 hv => ?_) (by with_unfolding_all rfl)))
  obtain ⟨eb, rfl, eb0, eb1⟩ := hv
  have S3 : St 39 175 w g H.L m2 ((st1.withEx ex1).withEx (own ++ ex1)) h3 := S2.grow G3
  have hx3 : ∀ q ∈ ex1, h3.get? q.1 = some q.2 := fun q hq => G3 _ _ (hx2 q hq)
  have hhm := hx3 _ (sub1 _ t.hh)
  have lk := look_enc (k := pl) x.V x.nd
  rcases held_or (k := pl) x.nd with ⟨e, e2⟩ | ⟨r, e, e2, e3⟩
  · -- not held
    have ht := t.hR
    rw [e] at ht lk
    cases ht
    refine ne_same (its := []) hhm eb1 hu' (wpAny_truthy_bool ?_)
    rw [if_neg Bool.false_ne_true]
    have lk : look (vw st D) pl = none := lk
    rw [lk] at htl
    have htl : toldOf none kd num = tl := htl
    refine wpAny_execs_cons (wpAny_If (wpAny_isTrue_Compare1 (Pv.at (v := .ref a) (by walk_at "px") fun tk10 => ?_) (by with_unfolding_all rfl)))
    refine PvG.ite (P := fun v h' => ∃ b, v = .ref b ∧ h'.get? b = some (listOf tl.toArray 0)) (b := kd == 7) (PvT.int .eq (PvI.of (t := kt) ?k1) PvI.const (by with_unfolding_all rfl)) (fun q7 => ?a7) (fun q7 => ?b7) s tk10 _ _ fun v h4 tk11 G4 hv => ?_
    case k1 => walk_at "px"
    case a7 =>
      refine (PvG.list1 (P1 := fun v _ => v = .none) (PvG.of (PvE.of Pv.nn rfl)) rfl).mono fun v h' G hv => ?_
      obtain ⟨b, v1, h1, rfl, _, rfl, _, _, hb⟩ := hv
      refine ⟨b, rfl, ?_⟩
      rw [← htl]; unfold toldOf; rw [if_pos q7]; exact hb
    case b7 =>
      refine PvG.ite (b := kd == 8) (PvT.int .eq (PvI.of (t := kt) ?k2) PvI.const (by with_unfolding_all rfl)) (fun q8 => ?a8) (fun q8 => ?b8)
      case k2 => walk_at "px"
      case a8 =>
        refine (PvG.list1 (P1 := fun v _ => v = num) (PvG.of (PvE.of ?k3 rfl)) rfl).mono fun v h' G hv => ?_
        case k3 => walk_at "px"
        obtain ⟨b, v1, h1, rfl, _, rfl, _, _, hb⟩ := hv
        refine ⟨b, rfl, ?_⟩
        rw [← htl]; unfold toldOf; rw [if_neg (by rw [q7]; exact Bool.false_ne_true), if_pos q8]; exact hb
      case b8 =>
        refine PvG.list0.mono fun v h' G hv => ?_
        obtain ⟨b, rfl, _, hb⟩ := hv
        refine ⟨b, rfl, ?_⟩
        rw [← htl]; unfold toldOf; rw [if_neg (by rw [q7]; exact Bool.false_ne_true), if_neg (by rw [q8]; exact Bool.false_ne_true)]; exact hb
    obtain ⟨b, rfl, hb⟩ := hv
    refine ne_same (its := tl) (G4 _ _ (hx3 _ tm)) hb hu' (wpAny_truthy_bool ?_)
    rw [if_neg Bool.false_ne_true]
    have S4 : St 39 175 w g H.L m2 ((st1.withEx ex1).withEx (own ++ ex1)) h4 := S3.grow G4
    have hV : vw (st1.withEx ex1) D1 = d.R.reverse.map H.enc := by
      show vw st1 D1 = _
      rw [e1]; unfold touch; rw [lk]; exact x.V
    exact wpAny_execs_nil (wpAny_execs_nil (wpAny_execs_nil ⟨rfl, h4, tk11, m2, st1.withEx ex1, top, aft, d, D1, kvs, rfl, S4, ⟨K1'.withEx, y1, hV, x.wy, x.ev, x.ln, x.t0, x.a0, mx1, af1, mc2, (hm2 _ (by decide)).trans x.mr, (hm2 _ (by decide)).trans x.md, (hm2 _ (by decide)).trans x.m1, (hm2 _ (by decide)).trans x.m2, mt2, mk2⟩, hm2 _ (by decide), hm2 _ (by decide), hm2 _ (by decide), hm2 _ (by decide)⟩))
  · -- held
    have ht := t.hR
    rw [e] at ht lk
    obtain ⟨t0, t1, t2, rfl, hm0⟩ : ∃ (t0 : Addr) (t1 t2 : Tok), hs = [.ref t0] ∧ (t0, tupO [.int r.1 t1, r.2.1, .int r.2.2 t2]) ∈ st.ex := by
      cases ht with
      | cons hd tl => cases tl; cases hd with | mk hm hp nv => exact ⟨_, _, _, rfl, hm⟩
    have ht0 := hx3 _ (sub1 _ hm0)
    have lk : look (vw st D) pl = some (r.2.1, H.clnOf r.2.2) := lk
    rw [lk] at htl
    have htl : [r.2.1] = tl := htl
    refine ne_diff hhm eb1 (by simp) hu' (wpAny_truthy_bool ?_)
    rw [if_pos rfl]
    have l3 : [Value.int r.1 t1, r.2.1, Value.int r.2.2 t2].length ≤ 16 := show 3 ≤ 16 by decide
    refine wpAny_execs_cons (wpAny_If (wpAny_isTrue_Compare1 (Pv.at (v := .ref a) (by walk_at "px") fun tk10 => ?_) (by with_unfolding_all rfl)))
    refine PvG.list1 (P1 := fun v _ => v = r.2.1) (PvG.of (PvE.of (Pv.itemT' (i := 1) (v := r.2.1) ht0 (Pv.itemL (its := [.ref t0]) (i := 0) (isList_of hhm) ?k1 PvI.const rfl (show 1 ≤ 100000 by decide) (by intro _; with_unfolding_all rfl) (by intro _; with_unfolding_all rfl)) rfl l3 (by intro _; with_unfolding_all rfl)) rfl)) rfl s tk10 _ _ fun v h4 tk11 G4 hv => ?_
    case k1 => walk_at "px"
    obtain ⟨b, v1, h1, rfl, _, rfl, _, _, hb⟩ := hv
    refine ne_same (its := tl) (G4 _ _ (hx3 _ tm)) (by rw [← htl]; exact hb) hu' (wpAny_truthy_bool ?_)
    rw [if_neg Bool.false_ne_true]
    refine wpAny_execs_nil ?_
    show wpAny _ _ (execs _ _) _ _ (up s h4 tk11)
    have S4 : St 39 175 w g H.L m2 ((st1.withEx ex1).withEx (own ++ ex1)) h4 := S3.grow G4
    have hx4 : ∀ q ∈ ex1, h4.get? q.1 = some q.2 := fun q hq => G4 _ _ (hx3 q hq)
    have hho := hx4 _ (sub1 _ t.oo)
    have hhm4 := hx4 _ (sub1 _ t.hh)
    have zo : os.length ≤ d.R.length := by rw [t.oR.length]; exact List.length_filter_le _ _
    refine wpAny_execs_cons ?_
    refine as_nameX S4 (PvG.addL (P2 := fun v h' => v = .ref ha ∧ h'.get? ha = some (listOf [Value.ref t0].toArray hhn)) ?k2 hho ((PvG.of (PvE.of (P := fun v => v = .ref ha) ?k3 rfl)).mono fun v h' G e => ⟨e, G _ _ hhm4⟩) ?k4) (fun v h5 tk12 hv G5 h6 tk13 toS => ?_) rfl rfl rfl
    case k2 => walk_at "px"
    case k3 => walk_at "px"
    case k4 =>
      rintro v h1 ⟨rfl, e5⟩
      exact ⟨ha, _, _, rfl, e5, by show os.length + 1 ≤ 100000; omega⟩
    obtain ⟨nb, b2, h1', its2, n2, rfl, G6, ⟨eb2, hb2⟩, hb2', _, nb0, nb1⟩ := hv
    obtain rfl : b2 = ha := by injection eb2
    rw [hb2] at hb2'
    obtain ⟨rfl, rfl⟩ := list_inj (Option.some.inj hb2')
    have nb4 : h4.get? nb = none := G6.none nb0
    have S6 := toS _ (S4.addO (st := st1.withEx ex1) G5 nb4 nb1)
    obtain ⟨n1, n2, n3, n4⟩ := y1.new (S4.repO (st := st1.withEx ex1)) nb4
    have sub6 : ∀ q ∈ ex1, q ∈ ex1 ++ [(nb, listOf (os ++ [Value.ref t0]).toArray 0)] := fun q hq => List.mem_append_left _ hq
    have hV : vw st1 D1 = (d.R.filter (fun r => !(r.1 == pl)) ++ [r]).reverse.map H.enc := by
      rw [e1]; unfold touch; rw [lk]
      show ins _ _ _ = _
      unfold ins
      rw [enc_rest x.V, List.reverse_append]
      show _ = H.enc r :: _
      unfold HA.enc
      rw [e2]; rfl
    have hlen : (d.R.filter (fun r => !(r.1 == pl)) ++ [r]).length = d.R.length := by
      have z := congrArg List.length hV
      rw [List.length_map, List.length_reverse] at z
      rw [← z]
      show (D1.map _).length = _
      rw [List.length_map, ← K1'.len, x.kz]
    refine wpAny_execs_nil (wpAny_execs_nil ⟨rfl, h6, tk13, (fun y => if y = "rows" then some (Value.ref nb) else m2 y), st1.withEx (ex1 ++ [(nb, listOf (os ++ [Value.ref t0]).toArray 0)]), top, aft, _, D1, kvs, rfl, S6, ⟨K1'.withEx, (y1.sub sub6).rows (List.mem_append_right _ (.head _)) ((t.oR.append ht).mono fun _ _ y => y.keep fun t i h => sub6 _ (sub1 _ h)) n1 n2 n3 n4, hV, ?_, x.ev, ?_, x.t0, x.a0, mx1, af1, mc2, rfl, (hm2 _ (by decide)).trans x.md, (hm2 _ (by decide)).trans x.m1, (hm2 _ (by decide)).trans x.m2, mt2, mk2⟩, hm2 _ (by decide), hm2 _ (by decide), hm2 _ (by decide), hm2 _ (by decide)⟩)
    · intro r' hr'
      rcases List.mem_append.mp hr' with hr' | hr'
      · exact x.wy r' (List.mem_filter.mp hr').1
      · rw [List.mem_singleton.mp hr']; exact x.wy r e3
    · show d.Ed.length + (d.R.filter (fun r => !(r.1 == pl)) ++ [r]).length ≤ n
      rw [hlen]; exact x.ln
end
section
variable {prog : Program} {w : World} {A : Around} {E : Value → Shared → Prop} {s : Shared} {h : Heap} {tk₀ : Nat} {p : Program} {loose : List Str} {mg mb : Str → Option Value} {h₀ : Heap} {st : LS} {r : Rg}
  {Ky : Type} [DecidableEq Ky] {T' : DT prog w (K1 w.params) Ky} {kvs : List (Ky × Value)} {k : Ky} {D : List (Ky × Rg)} {key val : Value}
end
theorem filt_len {R : List (Nat × Value × Nat)} {pl : Nat} : (R.filter fun r => r.1 == pl).length + (R.filter fun r => !(r.1 == pl)).length = R.length := by
  induction R with
  | nil => rfl
  | cons r R ih =>
    rw [List.filter_cons, List.filter_cons]
    cases h : r.1 == pl
    · simp only [Bool.false_eq_true, if_false, Bool.not_false, if_true, List.length_cons]; omega
    · simp only [if_true, Bool.not_true, Bool.false_eq_true, if_false, List.length_cons]; omega
/-- the way of an entry -/
noncomputable def wayN (kd : Int) : Nat := if kd = 0 ∨ kd = 11 then 1 else if kd = 1 ∨ kd = 2 then 2 else 0
theorem TF.keep {H : HA} {ex ex' : List (Addr × Obj)} {R : List (Nat × Value × Nat)} {m m' : Str → Option Value} {pl : Nat} {kv : Value} {ha oa : Addr} {hs os : List Value} {hn on : Nat} (t : TF H ex R m pl kv ha oa hs os hn on) (ok : H.Ok) (k : ∀ q ∈ ex, q.1 ≠ H.wa → q.1 ≠ H.da → q ∈ ex') (tg : TupG ex ex')
    (e1 : m' "key" = m "key") (e2 : m' "held" = m "held") (e3 : m' "others" = m "others") : TF H ex' R m' pl kv ha oa hs os hn on := by
  obtain ⟨o, pt, c1, c2⟩ := t.pc
  exact ⟨t.p12, t.kl, k _ t.hh t.h2 t.h1, t.hR.mono fun _ _ y => y.keep tg, k _ t.oo t.o2 t.o1, t.oR.mono fun _ _ y => y.keep tg, t.h1, t.h2, t.o1, t.o2, e1.trans t.mky, e2.trans t.mh, e3.trans t.mo, o, pt, k _ c1 ok.w1.1.symm ok.d1.1.symm, c2⟩
section
variable {prog : Program} {w : World} {A : Around} {E : Value → Shared → Prop} {s : Shared} {h : Heap} {tk : Nat} {env : Env}
/-- a test that may make objects -/
noncomputable def PvTG (prog : Program) (w : World) (A : Around) (env : Env) (e : Expr) (b : Bool) (h : Heap) : Prop :=
  ∀ (s : Shared) (tk : Nat) (E : Value → Shared → Prop) (Q : Bool → Shared → Prop), (∀ h' (tk' : Nat), Grow h h' → Q b (up s h' tk')) → wpAny (model prog w) A (isTrue e env (eval e env)) Q E (up s h tk)
theorem PvG.iteG {e x y : Expr} {b : Bool} {pos : Pos} {P : Value → Prop} (t : PvTG prog w A env e b h) (hx : b = true → ∀ h1, Grow h h1 → PvG prog w A env x (fun v _ => P v) h1) (hy : b = false → ∀ h1, Grow h h1 → PvG prog w A env y (fun v _ => P v) h1) :
    PvG prog w A env (.IfExp e x y pos) (fun v _ => P v) h := fun s tk E Q q => by
  refine wpAny_IfExp (t s tk _ _ fun h1 tk1 G => ?_)
  cases b with
  | true => rw [if_pos rfl]; exact hx rfl h1 G s _ E Q fun v h' tk' G' hv => q v h' tk' (G.trans G') hv
  | false => rw [if_neg Bool.false_ne_true]; exact hy rfl h1 G s _ E Q fun v h' tk' G' hv => q v h' tk' (G.trans G') hv
theorem Pv.ite {e x y : Expr} {b : Bool} {pos : Pos} {v : Value} (t : PvT prog w A env e b h) (hx : b = true → Pv prog w A env x v h) (hy : b = false → Pv prog w A env y v h) : Pv prog w A env (.IfExp e x y pos) v h := fun s Q E hs q => by
  subst hs
  refine wpAny_IfExp (t s s.toks _ _ fun tk1 => ?_)
  cases b with
  | true => rw [if_pos rfl]; exact (hx rfl).at q
  | false => rw [if_neg Bool.false_ne_true]; exact (hy rfl).at q
end
section
variable {prog : Program} {w : World} {A : Around} {E : Value → Shared → Prop} {s : Shared} {g h h' : Heap} {m m' : Str → Option Value} {tk₀ tk : Nat} {p : Program} {loose : List Str} {mg mb : Str → Option Value} {h₀ : Heap} {st st1 : LS} {H : HA} {own : List (Addr × Obj)} {f : Addr} {cd : Value} {d : LD}
  {top top' : Int} {aft aft' : Option Int} {D : List (Nat × Rg)} {kvs kvs1 : List (Nat × Value)} {n : Nat} {L : Addr}
/-- o.name(e, e2, e3) as an expression -/
theorem ev_m3 {prog : Program} {K : Frag} {C : Addr} {w : World} {h : Heap} {A : Around} {E : Value → Shared → Prop} {s : Shared} {tk : Nat} {v v2 v3 : Value} {env : Env} {x f : Addr} {es : List DictEntry} {n : Nat} {ox : Obj} {name : Str} {apos pos : Pos} {o e e2 e3 : Expr} {Q : Value → Shared → Prop} (hp : Pv prog w A env o (.ref x) h) (he : Pv prog w A env e v h) (he2 : Pv prog w A env e2 v2 h) (he3 : Pv prog w A env e3 v3 h) (I : W.InstAt h x ox C (some (dictOf es n))) (X : K.In h) (pc : PlainCls K C) (hf : findIn K (.ref C) name = some (some (.ref f)))
    (ht : typeIn K (.ref f) = some (.type "function")) (hkeep : keepIn K (.ref f) = true) (hl : getL name es = some none)
    (q : ∀ tk, wpAny (model prog w) A (call (.ref f) [.ref x, v, v2, v3]) Q E (up s h tk)) {pl : Sem Bool}
    (hst : starEach [e, e2, e3] env = (false, eval e env) :: starEach [e2, e3] env) (hst2 : starEach [e2, e3] env = (false, eval e2 env) :: starEach [e3] env) (hst3 : starEach [e3] env = (false, eval e3 env) :: starEach [] env) (hpl : (backTo pos (starEach [e2, e3] env)).any (·.1) = false)
    (hsh : (eval ((o.Attribute name apos).Call [e, e2, e3] [] pos) env = do
          let ov ← eval o env
          standAt apos.atName
          let __x ← holding [ov] (getMethod ov name pl)
          match __x with
            | (f, first) => callWith pos f first (backTo pos (starEach [e, e2, e3] env)) [])) :
    wpAny (model prog w) A (eval ((o.Attribute name apos).Call [e, e2, e3] [] pos) env) Q E (up s h tk) :=
  meth (f := f) (x := x) (hp.at fun tk => ⟨rfl, X, I, spliced_more (he.at fun tk' => spliced_more (he2.at fun tk'' => spliced_more (he3.at fun tk3 => spliced_none ⟨X, q tk3⟩) hst3) hst2) hst⟩) pc hf ht hkeep hl hst hpl hsh
/-- the entry is in the cache -/
inductive AddedP (prog : Program) (w : World) (g : Heap) (H : HA) (ok : H.Ok) (own : List (Addr × Obj)) (st : LS) (m : Str → Option Value) (D : List (Nat × Rg)) (pl : Nat) (val : Value) (wy : Nat) (top : Int) (aft : Option Int) (h' : Heap) : Prop
  | mk (st' : LS) (S : St 39 175 w g H.L m (st'.withEx (own ++ st'.ex)) h') (a : AddDone (lawHook prog w H ok) (TK prog w) 0 (vw st D) pl (val, H.clnOf wy) top (keepOf top aft) st st')
/-- value, way, and the entry goes in -/
theorem turn_add1 {kd rs tu : Int} {kt : Tok} {num vstep : Value} {sp : Int} {pl : Nat} {kv : Value} {ha oa : Addr} {hs os : List Value} {hhn on : Nat} {Q : Flow → Shared → Prop} (ok : H.Ok) (S : St 39 175 w g H.L m (st.withEx (own ++ st.ex)) h) (X : (K1 w.params).In g) (T : TopRead p loose mg mb g)
    (hroom : A.depth + 20 < recursionLimit) (hu : A.units + 200 < cLine) (hh : A.handled = none) (hn : n ≤ 900)
    (x : LQ prog w H st m top aft d D kvs n) (t : TF H st.ex d.R m pl kv ha oa hs os hhn on) (mkd : m "kind" = some (.int kd kt)) (mnu : m "number" = some num) (mst : m "step" = some vstep) (hst : IsI sp vstep) (hrest : ∃ v, m "rest" = some v ∧ IsI rs v) (hturn : ∃ v, m "turn" = some v ∧ IsI tu v)
    (hkd : kd = 0 ∨ kd = 1 ∨ kd = 2 ∨ kd = 3 ∨ kd = 4 ∨ kd = 11)
    (q : ∀ h' (tk' : Nat) m' val wt, Nb val → (∀ y : Str, (y == "value") = false → (y == "way") = false → m' y = m y) → m' "value" = some val → m' "way" = some (.int (wayN kd : Nat) wt) → AddedP prog w g H ok own st m' D pl val (wayN kd) top aft h' → wpAny (model prog w) A (execs (addB.drop 3) (lawE H.L f cd)) Q E (up s h' tk')) :
    wpAny (model prog w) A (execs addB (lawE H.L f cd)) Q E (up s h tk) := by
  have hln := x.ln
  have mc := x.mc
  have mky := t.mky
  obtain ⟨vr, mrest, hvr⟩ := hrest
  obtain ⟨vt, mturn, hvt⟩ := hturn
  refine wpAny_execs_cons ?_
  refine as_nameX S (PvG.ite (P := fun v _ => Nb v) (b := ((rs + tu + sp).fmod 6 == 5)) (PvT.int .eq (PvI.mod (PvI.add (PvI.add (PvI.ofI ?k1 hvr) (PvI.ofI ?k2 hvt)) (PvI.ofI ?k3 hst)) PvI.const (by decide)) PvI.const (by with_unfolding_all rfl)) (fun _ => PvG.of (PvE.of Pv.nn Nb.none)) fun _ => (PvG.tup2 (v1 := vstep) (v2 := num) ?k4 ?k5 rfl rfl).mono fun v h' G hv => ?_) (fun val h1 tk1 nv G1 h2 tk2 toS => ?_) rfl rfl rfl
  case k1 => walk_at "px"
  case k2 => walk_at "px"
  case k3 => walk_at "px"
  case k4 => walk_at "px"
  case k5 => walk_at "px"
  · obtain ⟨b, rfl, _⟩ := hv; exact Nb.ref
  have S2 : St 39 175 w g H.L (fun y => if y = "value" then some val else m y) (st.withEx (own ++ st.ex)) h2 := toS _ (S.grow G1)
  clear toS
  refine wpAny_execs_cons ?_
  refine as_nameX S2 (PvG.iteG (P := IsI (wayN kd : Nat)) (b := (0 == kd || 11 == kd)) (fun s tk E Q q => test_in2 (PvI.of (t := kt) ?k6) q rfl rfl rfl) (fun e h1 G => ?a1) fun e h1 G => PvG.iteG (b := (1 == kd || 2 == kd)) (fun s tk E Q q => test_in2 (PvI.of (t := kt) ?k7) q rfl rfl rfl) (fun e2 h1 G => ?a2) (fun e2 h1 G => ?a3)) (fun vw h3 tk3 hvw G3 h4 tk4 toS => ?_) rfl rfl rfl
  case k6 => walk_at "px"
  case k7 => exact Pv.nameX (S2.grow G) (by exact mkd) rfl rfl (by decide)
  case a1 =>
    refine PvG.of (PvI.eq PvI.const ?_)
    have : kd = 0 ∨ kd = 11 := by rcases Bool.or_eq_true_iff.mp e with e | e <;> have := eq_of_beq e <;> omega
    unfold wayN; rw [if_pos this]; rfl
  case a2 =>
    refine PvG.of (PvI.eq PvI.const ?_)
    have h1 : ¬ (kd = 0 ∨ kd = 11) := fun z => by rcases z with rfl | rfl <;> simp at e
    have : kd = 1 ∨ kd = 2 := by rcases Bool.or_eq_true_iff.mp e2 with e | e <;> have := eq_of_beq e <;> omega
    unfold wayN; rw [if_neg h1, if_pos this]; rfl
  case a3 =>
    refine PvG.of (PvI.eq PvI.const ?_)
    have h1 : ¬ (kd = 0 ∨ kd = 11) := fun z => by rcases z with rfl | rfl <;> simp at e
    have : ¬ (kd = 1 ∨ kd = 2) := fun z => by rcases z with rfl | rfl <;> simp at e2
    unfold wayN; rw [if_neg h1, if_neg this]; rfl
  obtain ⟨wt, rfl⟩ := hvw
  obtain ⟨m4, S4, mv4, mw4, mc4, mky4, mkd4, mf4, ms4, hm4⟩ : ∃ m4, St 39 175 w g H.L m4 (st.withEx (own ++ st.ex)) h4 ∧ m4 "value" = some val ∧ m4 "way" = some (.int (wayN kd : Nat) wt) ∧ m4 "cache" = some (.ref st.c) ∧ m4 "key" = some kv ∧ m4 "kind" = some (.int kd kt) ∧ m4 "first" = some (.ref H.f1) ∧ m4 "second" = some (.ref H.f2) ∧ (∀ y : Str, (y == "value") = false → (y == "way") = false → m4 y = m y) :=
    ⟨_, toS _ (S2.grow G3), rfl, rfl, mc, mky, mkd, x.m1, x.m2, fun y h1 h2 => by
      show (if y = _ then _ else if y = _ then _ else _) = _
      rw [if_neg (fun e => by rw [e] at h2; simp at h2), if_neg (fun e => by rw [e] at h1; simp at h1)]⟩
  clear toS
  obtain ⟨tm, hmx⟩ := x.mx
  obtain ⟨ta, haf⟩ := x.af
  have k0 : 0 ≤ keepOf top aft := keepOf_nonneg x.t0 x.a0
  have hz : kvs.length + 1 ≤ 100000 := by rw [x.kz]; omega
  have hok : HOk H (D.length + 1 + 0 + 1) st.ex := x.hok (b := 2) (by omega) (by omega)
  have fin : ∀ h5 (tk5 : Nat) st', Ctr 39 175 w st st' h4 h5 → AddDone (lawHook prog w H ok) (TK prog w) 0 (vw st D) pl (val, H.clnOf (wayN kd)) top (keepOf top aft) st st' → AddedP prog w g H ok own st m4 D pl val (wayN kd) top aft h5 := fun h5 tk5 st' C5 a5 => ⟨st', S4.afterO C5, a5⟩
  refine seqP (P := AddedP prog w g H ok own st m4 D pl val (wayN kd) top aft) ?_ fun h5 tk5 a5 => q h5 tk5 m4 val wt nv hm4 mv4 mw4 a5
  refine if_t (b := kd == 4) (PvT.int .eq (PvI.of (t := kt) ?c4) PvI.const (by with_unfolding_all rfl)) (fun e4 tk5 => ?b4) (fun e4 tk5 => ?n4)
  case c4 => walk_at "px"
  case b4 =>
    have e4 := eq_of_beq e4
    have hcl : H.clnOf (wayN kd) = .none := by rw [e4]; rfl
    rw [hcl] at fin
    refine wpAny_execs_cons (wpAny_Assign_Subscript (Pv.at (v := val) (by walk_at "px") fun tk6 => Pv.at (v := .ref st.c) (by walk_at "px") fun tk7 => Pv.at (v := kv) (by walk_at "px") fun tk8 => ?_) rfl)
    refine ksp_setItem (s := up s h4 tk8) (C := 175) (f := 128) S4.F X S4.subO.cinst (by k_dflt k_is) (by k_dflt k_is) (by k_dflt k_is) ?_
    refine c_set (b := 0) (lawHook prog w H ok) (S4.baseO X T) S4.repO (by omega) (by omega) x.C t.kl nv hz hmx haf k0 (x.cbs ok) hok fun h5 tk9 st' C5 a5 => ?_
    exact wpAny_execs_nil ⟨rfl, h5, tk9, rfl, fin h5 tk9 st' C5 a5⟩
  case n4 =>
    refine wpAny_execs_cons ?_
    refine if_t (b := kd == 3) (PvT.int .eq (PvI.of (t := kt) ?c3) PvI.const (by with_unfolding_all rfl)) (fun e3 tk6 => ?b3) (fun e3 tk6 => ?n3)
    case c3 => walk_at "px"
    case b3 =>
      have e3 := eq_of_beq e3
      have hcl : H.clnOf (wayN kd) = .none := by rw [e3]; rfl
      rw [hcl] at fin
      refine wpAny_execs_cons ?_
      refine' ex_ ?_ rfl rfl
      refine' ev_m2 (f := 87) (x := st.c) (v := kv) (v2 := val) ?hpo ?he ?he2 S4.subO.cinst (X.keeps S4.F.keep) (pcL _) ?hf ?ht ?hkp rfl ?_ rfl rfl rfl rfl
      case hpo => walk_at "px"
      case he => walk_at "px"
      case he2 => walk_at "px"
      ((case hf => k_dflt k_is); (case ht => k_dflt k_is); (case hkp => k_dflt k_is))
      intro tk7
      refine c_add (b := 0) (cln := .none) (lawHook prog w H ok) (S4.baseO X T) S4.repO (by omega) (by omega) (fun oc od fd sl e => ?hbd) x.C t.kl nv (.inl rfl) hz hmx haf k0 (x.cbs ok) hok fun h5 tk9 st' C5 a5 => ?_
      case hbd =>
        rw [show (K1 w.params).lookup 87 = some _ by k_dflt k_is] at e
        cases e
        exact binds_K (show (K1 w.params).In h4 from X.keeps S4.F.keep) rfl (by k_dflt k_is) rfl rfl rfl
      exact wpAny_execs_nil (wpAny_execs_nil ⟨rfl, h5, tk9, rfl, fin h5 tk9 st' C5 a5⟩)
    case n3 =>
      have n4 : kd ≠ 4 := fun e => by rw [e] at e4; simp at e4
      have n3 : kd ≠ 3 := fun e => by rw [e] at e3; simp at e3
      refine wpAny_execs_cons ?_
      refine' ex_ ?_ rfl rfl
      refine' ev_m3 (f := 87) (x := st.c) (v := kv) (v2 := val) (v3 := H.clnOf (wayN kd)) ?hpo ?he ?he2 ?he3 S4.subO.cinst (X.keeps S4.F.keep) (pcL _) ?hf ?ht ?hkp rfl ?_ rfl rfl rfl rfl rfl
      case hpo => walk_at "px"
      case he => walk_at "px"
      case he2 => walk_at "px"
      case he3 =>
        refine Pv.ite (b := ((wayN kd : Nat) : Int) == 1) (PvT.int .eq (PvI.of (t := wt) ?cw) PvI.const (by with_unfolding_all rfl)) (fun e => Pv.eq (v := .ref H.f1) ?c1 ?e1) (fun e => Pv.eq (v := .ref H.f2) ?c2 ?e2)
        case cw => walk_at "px"
        case c1 => walk_at "px"
        case c2 => walk_at "px"
        case e1 =>
          have e := eq_of_beq e
          rw [show wayN kd = 1 by omega]; rfl
        case e2 =>
          have h2 : wayN kd = 2 := by
            rcases hkd with rfl | rfl | rfl | rfl | rfl | rfl <;> first | rfl | (exact absurd rfl n3) | (exact absurd rfl n4) | (exact absurd e (by decide))
          rw [h2]; rfl
      ((case hf => k_dflt k_is); (case ht => k_dflt k_is); (case hkp => k_dflt k_is))
      intro tk7
      refine c_add (b := 0) (cln := H.clnOf (wayN kd)) (lawHook prog w H ok) (S4.baseO X T) S4.repO (by omega) (by omega) (fun oc od fd sl e => ?hbd) x.C t.kl nv HA.cb hz hmx haf k0 (x.cbs ok) hok fun h5 tk9 st' C5 a5 => ?_
      case hbd =>
        rw [show (K1 w.params).lookup 87 = some _ by k_dflt k_is] at e
        cases e
        exact binds_K (show (K1 w.params).In h4 from X.keeps S4.F.keep) rfl (by k_dflt k_is) rfl rfl rfl
      exact wpAny_execs_nil (wpAny_execs_nil ⟨rfl, h5, tk9, rfl, fin h5 tk9 st' C5 a5⟩)
end
section
variable {prog : Program} {w : World} {A : Around} {E : Value → Shared → Prop} {s : Shared} {h : Heap} {tk₀ : Nat} {p : Program} {loose : List Str} {mg mb : Str → Option Value} {h₀ : Heap} {st : LS} {r : Rg}
  {Ky : Type} [DecidableEq Ky] {T' : DT prog w (K1 w.params) Ky} {kvs : List (Ky × Value)} {k : Ky} {D : List (Ky × Rg)} {key val : Value}
end
section
variable {prog : Program} {w : World} {A : Around} {E : Value → Shared → Prop} {s : Shared} {g h h' : Heap} {m m' : Str → Option Value} {tk₀ tk : Nat} {p : Program} {loose : List Str} {mg mb : Str → Option Value} {h₀ : Heap} {st st1 : LS} {H : HA} {own : List (Addr × Obj)} {f : Addr} {cd : Value} {d : LD}
  {top top' : Int} {aft aft' : Option Int} {D : List (Nat × Rg)} {kvs kvs1 : List (Nat × Value)} {n : Nat} {L : Addr}
/-- the rows with the new one -/
noncomputable def rowsN (R : List (Nat × Value × Nat)) (r : Nat × Value × Nat) : List (Nat × Value × Nat) := (R.filter fun q => !(q.1 == r.1)) ++ [r]
theorem enc_ins {V : List (Nat × Value × Value)} {R : List (Nat × Value × Nat)} {r : Nat × Value × Nat} (hV : V = R.reverse.map H.enc) : ins V r.1 (r.2.1, H.clnOf r.2.2) = (rowsN R r).reverse.map H.enc := by
  unfold ins rowsN
  rw [enc_rest hV, List.reverse_append]; rfl
/-- what the cache did, told by rows -/
inductive AddF (prog : Program) (w : World) (H : HA) (st st' : LS) (d : LD) (D' : List (Nat × Rg)) (kvs' : List (Nat × Value)) (r : Nat × Value × Nat) (top : Int) (aft : Option Int) (j : Nat) : Prop
  | mk (F : FixB st st') (C : Cst (TK prog w) st' D' kvs') (j1 : top < ((rowsN d.R r).length : Int) → j = (rowsN d.R r).length - (keepOf top aft).toNat) (j2 : ¬ top < ((rowsN d.R r).length : Int) → j = 0) (V : vw st' D' = ((rowsN d.R r).drop j).reverse.map H.enc)
    (ws : List Value) (wn : Nat) (y : LX H st'.ex { d with ws := ws, wn := wn, Ew := d.Ew ++ evsOf (d.R.filter fun q => q.1 == r.1) ++ evsOf ((rowsN d.R r).take j) }) (e : Ext [H.wa] st.ex st'.ex) (t : TupG st.ex st'.ex)
theorem LQ.addF {ok : H.Ok} {st' : LS} {r : Nat × Value × Nat} (x : LQ prog w H st m top aft d D kvs n) (hr2 : r.2.2 ≤ 2) (a : AddDone (lawHook prog w H ok) (TK prog w) 0 (vw st D) r.1 (r.2.1, H.clnOf r.2.2) top (keepOf top aft) st st') : ∃ D' kvs' j, AddF prog w H st st' d D' kvs' r top aft j := by
  obtain ⟨ex1, D', kvs', F, C', ok', old, z⟩ := a
  have hI := enc_ins (r := r) x.V
  have W1 : Wrote H (d.Ew ++ evsOf (d.R.filter fun q => q.1 == r.1)) st.ex ex1 := by
    unfold OldRun at old
    have lk := look_enc (k := r.1) x.V x.nd
    rcases held_or (k := r.1) x.nd with ⟨e, e2⟩ | ⟨r0, e, e2, e3⟩
    · rw [e] at lk ⊢
      rw [show look (vw st D) r.1 = none from lk] at old
      rw [show evsOf [] = [] from rfl, List.append_nil, show ex1 = st.ex from old]
      exact ⟨d.ws, d.wn, x.x.hw, x.x.hW, Ext.refl, TupG.refl⟩
    · rw [e] at lk ⊢
      rw [show look (vw st D) r.1 = some (r0.2.1, H.clnOf r0.2.2) from lk] at old
      obtain ⟨key, hk, rc⟩ := old
      exact one_ev (r := r0) (x.wy r0 e3) (by rw [e2]; exact hk) rc x.x.hw x.x.hW
  have W1' := W1
  obtain ⟨ws1, wn1, hw1, hW1, e1, t1⟩ := W1'
  obtain ⟨wsa, wna, y1⟩ := x.x.wrote ok W1
  have wyN : ∀ q ∈ rowsN d.R r, q.2.2 ≤ 2 := fun q hq => by
    rcases List.mem_append.mp (show q ∈ _ ++ [_] from hq) with hq | hq
    · exact x.wy q (List.mem_filter.mp hq).1
    · rw [List.mem_singleton.mp hq]; exact hr2
  have hl : (ins (vw st D) r.1 (r.2.1, H.clnOf r.2.2)).length = (rowsN d.R r).length := by rw [hI, List.length_map, List.length_reverse]
  rw [hl] at z
  rcases z with ⟨z1, z2, z3⟩ | ⟨z1, z2, z3⟩
  · have W2 := runs_ev (ok := ok) z3 (enc_drop hI) (fun q hq => wyN q (List.mem_of_mem_take hq)) hw1 hW1
    have y0 : LX H ex1 { d with ws := ws1, wn := wn1, Ew := d.Ew ++ evsOf (d.R.filter fun q => q.1 == r.1) } := ⟨y1.hr, y1.hR, y1.hd, y1.hE, hw1, hW1, y1.kept, y1.n1, y1.n2, y1.n3, y1.n4, y1.pl, y1.sp⟩
    have W2' := W2
    obtain ⟨ws2, wn2, hw2, hW2, e2, t2⟩ := W2'
    obtain ⟨ws3, wn3, y3⟩ := y0.wrote ok W2
    exact ⟨D', kvs', _, F, C', fun _ => rfl, fun q => absurd z1 q, by rw [z2]; exact enc_take hI, ws3, wn3, y3, e1.trans e2, t1.trans t2⟩
  · refine ⟨D', kvs', 0, F, C', fun q => absurd q z1, fun _ => rfl, by rw [z2, List.drop_zero]; exact hI, wsa, wna, ?_, z3 ▸ e1, z3 ▸ t1⟩
    rw [z3, List.take_zero, show evsOf [] = [] from rfl, List.append_nil]
    exact y1
/-- the old entry's clean-up is due, the rows turn -/
theorem turn_add2 {st' : LS} {val : Value} {wt : Tok} {wy pl : Nat} {kv : Value} {ha oa : Addr} {hs os : List Value} {hhn on : Nat} {D' : List (Nat × Rg)} {kvs' : List (Nat × Value)} {j : Nat} (ok : H.Ok) (S : St 39 175 w g H.L m' (st'.withEx (own ++ st'.ex)) h) (X : (K1 w.params).In g) (T : TopRead p loose mg mb g)
    (hroom : A.depth + 20 < recursionLimit) (hu : A.units + 200 < cLine) (hh : A.handled = none) (hn : n ≤ 900)
    (x : LQ prog w H st m top aft d D kvs n) (t : TF H st.ex d.R m pl kv ha oa hs os hhn on) (nv : Nb val) (hwy : wy ≤ 2) (hm : ∀ y : Str, (y == "value") = false → (y == "way") = false → m' y = m y) (mv : m' "value" = some val) (mw : m' "way" = some (.int wy wt))
    (a : AddF prog w H st st' d D' kvs' (pl, val, wy) top aft j) :
    wpAny (model prog w) A (execs (addB.drop 3) (lawE H.L f cd)) (DeedEnd prog w g H own s (n + 1) m) (fun _ _ => False) (up s h tk) := by
  obtain ⟨F, C', j1, j2, V', ws, wn, y, e, tg⟩ := a
  have hln := x.ln
  have hfl := filt_len (R := d.R) (pl := pl)
  have k0 : 0 ≤ keepOf top aft := keepOf_nonneg x.t0 x.a0
  have t1 : TF H st'.ex d.R m' pl kv ha oa hs os hhn on := t.keep ok (fun q hq h1 h2 => e.chg q hq fun z => h1 (List.mem_singleton.mp z)) tg (hm _ (by decide) (by decide)) (hm _ (by decide) (by decide)) (hm _ (by decide) (by decide))
  have mhe := t1.mh
  have mdu : m' "due" = some (.ref H.da) := (hm _ (by decide) (by decide)).trans x.md
  -- _law_shrunk(held, 0, due)
  refine wpAny_execs_cons ?_
  refine' ex_ ?_ rfl rfl
  refine Call_ (Pv.at (v := .ref 188) (by walk_at "px") fun tk1 => ?_) rfl
  refine callWith_K X (by k_dflt k_is) (spliced_more (Pv.at (v := .ref ha) (by walk_at "px") fun tk2 => spliced_more (PvE.at (P := IsI 0) PvI.const fun vk tk3 hvk => spliced_more (Pv.at (v := .ref H.da) (by walk_at "px") fun tk4 => spliced_none ⟨X.keeps S.F.keep, ?_⟩) rfl) rfl) rfl) rfl rfl
  obtain ⟨kt, rfl⟩ := hvk
  refine c_shr (S.baseO X T) S.repO (by omega) (by omega) hh t1.hh t1.hR y.hd y.hE (Int.le_refl _) (by show (d.R.filter fun r => r.1 == pl).length + d.Ed.length ≤ 90000; omega) t1.h1 fun h1 tk5 ex3 a ds' dn' C1 ha0 E1 tg1 hr1 hd1 hE1 => ?_
  rw [show (0 : Int).toNat = 0 from rfl, Nat.sub_zero, List.take_length] at hE1
  have S1 : St 39 175 w g H.L m' ((st'.withEx ex3).withEx (own ++ ex3)) h1 := S.afterO C1
  have y1 := y.due ok E1 tg1 hd1 hE1
  have t2 : TF H ex3 d.R m' pl kv ha oa hs os hhn on := t1.keep ok (fun q hq h1 h2 => E1.chg q hq fun z => h2 (List.mem_singleton.mp z)) tg1 rfl rfl rfl
  clear y t1
  -- rows = others + [(place, value, way)]
  obtain ⟨oc, pt, pc1, pc2⟩ := t2.pc
  have mot := t2.mo
  have hx1 : ∀ q ∈ ex3, h1.get? q.1 = some q.2 := fun q hq => S1.subO.exOf (st := st'.withEx ex3) hq
  have hho := hx1 _ t2.oo
  have zo : os.length ≤ d.R.length := by rw [t2.oR.length]; exact List.length_filter_le _ _
  refine wpAny_execs_cons ?_
  refine as_nameX S1 (PvG.addL ?k2 hho (PvG.list1 (PvG.tup3 (P1 := IsI (pl : Int)) (v2 := val) (v3 := .int wy wt) (PvI.of (t := pt) (Pv.cellX S1 (c := H.L + 1) rfl (List.mem_append_right _ pc1) pc2 rfl rfl rfl)) ?k3 ?k4 rfl rfl rfl) rfl) ?k5) (fun v h2 tk6 hv G2 h3 tk7 toS => ?_) rfl rfl rfl
  case k2 => walk_at "px"
  case k3 => walk_at "px"
  case k4 => walk_at "px"
  case k5 =>
    rintro v h2 ⟨b, v1, h3, rfl, _, _, _, _, hb⟩
    exact ⟨b, _, _, rfl, hb, by show os.length + 1 ≤ 100000; omega⟩
  obtain ⟨nb, b2, hq, its2, n2, rfl, G6, ⟨lb, v1, h4, elb, G7, ⟨tb, vp, rfl, ⟨pt2, rfl⟩, tb0, tb1⟩, G8, lb0, lb1⟩, hb2, G9, nb0, nb1⟩ := hv
  obtain rfl : b2 = lb := by injection elb
  rw [lb1] at hb2
  obtain ⟨rfl, rfl⟩ := list_inj (Option.some.inj hb2)
  have S5 := S1.addO (st := st'.withEx ex3) (a := tb) (G7.trans G8) tb0 (G8 _ _ tb1)
  have S6 := toS _ (S5.addO (st := st'.withEx (ex3 ++ [(tb, tupO [.int pl pt2, val, .int wy wt])])) G9 nb0 nb1)
  obtain ⟨ex6, he6⟩ : ∃ ex6, ex3 ++ [(tb, tupO [.int pl pt2, val, .int wy wt])] ++ [(nb, listOf (os ++ [Value.ref tb]).toArray 0)] = ex6 := ⟨_, rfl⟩
  have sub6 : ∀ q ∈ ex3, q ∈ ex6 := fun q hq => by rw [← he6]; exact List.mem_append_left _ (List.mem_append_left _ hq)
  have tm6 : (tb, tupO [.int pl pt2, val, .int wy wt]) ∈ ex6 := by rw [← he6]; exact List.mem_append_left _ (List.mem_append_right _ (.head _))
  have nm6 : (nb, listOf (os ++ [Value.ref tb]).toArray 0) ∈ ex6 := by rw [← he6]; exact List.mem_append_right _ (.head _)
  have nb2 : h1.get? nb = none := G6.none nb0
  obtain ⟨n1, n2, n3, n4⟩ := y1.new (S1.repO (st := st'.withEx ex3)) nb2
  have hR6 : All2 (RowAt ex6) (os ++ [Value.ref tb]) (rowsN d.R (pl, val, wy)) := (t2.oR.mono fun _ _ z => z.keep fun t i h => sub6 _ h).append (.one ⟨tm6, t.p12, nv⟩)
  have y6 := (y1.sub sub6).rows nm6 hR6 n1 n2 n3 n4
  have hk0 : ∃ v, m' "keep" = some v ∧ IsI (keepOf top aft) v := by rw [hm _ (by decide) (by decide)]; exact x.mkp
  have ht0 : ∃ v, m' "top" = some v ∧ IsI top v := by rw [hm _ (by decide) (by decide)]; exact x.mt
  obtain ⟨m6, S6, mr6, md6, mk6, mt6, hm6⟩ : ∃ m6, St 39 175 w g H.L m6 ((st'.withEx ex6).withEx (own ++ ex6)) h3 ∧ m6 "rows" = some (.ref nb) ∧ m6 "due" = some (.ref H.da) ∧ (∃ v, m6 "keep" = some v ∧ IsI (keepOf top aft) v) ∧ (∃ v, m6 "top" = some v ∧ IsI top v) ∧ (∀ y : Str, (y == "value") = false → (y == "way") = false → (y == "rows") = false → m6 y = m y) :=
    ⟨(fun y => if y = "rows" then some (Value.ref nb) else m' y), by rw [← he6]; exact S6, rfl, mdu, hk0, ht0, fun y h1 h2 h3 => by
      show (if y = _ then _ else _) = _
      rw [if_neg (fun e => by rw [e] at h3; simp at h3)]; exact hm y h1 h2⟩
  clear he6 S5
  obtain ⟨vk, mkp6, tkk, rfl⟩ := mk6
  obtain ⟨vt, mtp6, ttt, rfl⟩ := mt6
  have hlN : (os ++ [Value.ref tb]).length = (rowsN d.R (pl, val, wy)).length := hR6.length
  have hlN2 : (rowsN d.R (pl, val, wy)).length = (d.R.filter fun r => !(r.1 == pl)).length + 1 := by show (_ ++ [_]).length = _; rw [List.length_append]; rfl
  have hev := evsOf_len (R := d.R.filter fun r => r.1 == pl)
  have hlr : h3.IsList nb (os ++ [Value.ref tb]).toArray := isList_of (S6.subO.exOf (st := st'.withEx ex6) nm6)
  have wyN : ∀ q ∈ rowsN d.R (pl, val, wy), q.2.2 ≤ 2 := fun q hq => by
    rcases List.mem_append.mp (show q ∈ _ ++ [_] from hq) with hq | hq
    · exact x.wy q (List.mem_filter.mp hq).1
    · rw [List.mem_singleton.mp hq]; exact hwy
  have mx' : ∃ t, st'.mx = .int top t := by rw [F.mx]; exact x.mx
  have af' : IsI (keepOf top aft) st'.af := by rw [F.af]; exact x.af
  show wpAny _ _ (execs _ _) _ _ (up s h3 tk7)
  refine wpAny_execs_cons ?_
  refine if_t (PvT.int .gt (a := ((rowsN d.R (pl, val, wy)).length : Int)) (b := top) (PvI.eq (PvI.lenL hlr (by omega) ?hfn ?ho rfl rfl rfl) (by rw [hlN])) (PvI.of (t := ttt) ?ht) (by with_unfolding_all rfl)) (fun q tk8 => ?yes) (fun q tk8 => ?no)
  case hfn => (refine' Pv.builtinX (by assumption) (by assumption) (by assumption) ?heB rfl ?hnB rfl rfl ?hdB; (case heB => k_dflt k_is); (case hnB => decide); (case hdB => decide))
  case ho => walk_at "px"
  case ht => walk_at "px"
  case yes =>
    have hj := j1 (of_decide_eq_true q)
    subst hj
    refine wpAny_execs_cons ?_
    refine law_shr ok rfl S6 X T (by omega) (by omega) hh y6 mr6 md6 (kv := keepOf top aft) (PvI.of (t := tkk) ?hke) k0 (by show (rowsN d.R (pl, val, wy)).length + (d.Ed ++ _).length ≤ 9000; rw [List.length_append]; omega) (fun ex7 h4 tk9 b ds dn S7 y7 => ?_) rfl rfl rfl
    case hke => walk_at "px"
    have hev2 := evsOf_len (R := (rowsN d.R (pl, val, wy)).take ((rowsN d.R (pl, val, wy)).length - (keepOf top aft).toNat))
    rw [List.length_take] at hev2
    refine wpAny_execs_nil (wpAny_execs_nil ⟨rfl, h4, tk9, _, st'.withEx ex7, top, aft, _, D', kvs', rfl, S7, ⟨C'.withEx, y7, V', fun q hq => wyN q (List.mem_of_mem_drop hq), ?_, ?_, x.t0, x.a0, mx', af', ?_, rfl, md6, (hm6 _ (by decide) (by decide) (by decide)).trans x.m1, (hm6 _ (by decide) (by decide) (by decide)).trans x.m2, ⟨_, mtp6, ttt, rfl⟩, ⟨_, mkp6, tkk, rfl⟩⟩, hm6 _ (by decide) (by decide) (by decide), hm6 _ (by decide) (by decide) (by decide), hm6 _ (by decide) (by decide) (by decide), hm6 _ (by decide) (by decide) (by decide)⟩)
    · show d.Ew ++ _ ++ _ = d.Ed ++ _ ++ _
      rw [x.ev]
    · show (d.Ed ++ evsOf (d.R.filter fun r => r.1 == pl) ++ evsOf ((rowsN d.R (pl, val, wy)).take ((rowsN d.R (pl, val, wy)).length - (keepOf top aft).toNat))).length + ((rowsN d.R (pl, val, wy)).drop ((rowsN d.R (pl, val, wy)).length - (keepOf top aft).toNat)).length ≤ n + 1
      rw [List.length_append, List.length_append, List.length_drop]
      omega
    · rw [show (st'.withEx ex7).c = st.c from F.c]; exact (hm6 _ (by decide) (by decide) (by decide)).trans x.mc
  case no =>
    have hj := j2 (of_decide_eq_false q)
    subst hj
    rw [List.drop_zero] at V'
    refine wpAny_execs_nil (wpAny_execs_nil ⟨rfl, h3, tk8, m6, st'.withEx ex6, top, aft, _, D', kvs', rfl, S6, ⟨C'.withEx, y6, V', wyN, ?_, ?_, x.t0, x.a0, mx', af', ?_, mr6, md6, (hm6 _ (by decide) (by decide) (by decide)).trans x.m1, (hm6 _ (by decide) (by decide) (by decide)).trans x.m2, ⟨_, mtp6, ttt, rfl⟩, ⟨_, mkp6, tkk, rfl⟩⟩, hm6 _ (by decide) (by decide) (by decide), hm6 _ (by decide) (by decide) (by decide), hm6 _ (by decide) (by decide) (by decide), hm6 _ (by decide) (by decide) (by decide)⟩)
    · show d.Ew ++ _ ++ evsOf (List.take 0 _) = d.Ed ++ _
      rw [x.ev, List.take_zero, show evsOf [] = [] from rfl, List.append_nil]
    · show (d.Ed ++ evsOf (d.R.filter fun r => r.1 == pl)).length + (rowsN d.R (pl, val, wy)).length ≤ n + 1
      rw [List.length_append]
      omega
    · rw [show (st'.withEx ex6).c = st.c from F.c]; exact (hm6 _ (by decide) (by decide) (by decide)).trans x.mc
end
section
variable {prog : Program} {w : World} {A : Around} {E : Value → Shared → Prop} {s : Shared} {h : Heap} {tk₀ : Nat} {p : Program} {loose : List Str} {mg mb : Str → Option Value} {h₀ : Heap} {st : LS} {r : Rg}
  {Ky : Type} [DecidableEq Ky] {T' : DT prog w (K1 w.params) Ky} {kvs : List (Ky × Value)} {k : Ky} {D : List (Ky × Rg)} {key val : Value}
end
section
variable {prog : Program} {w : World} {A : Around} {E : Value → Shared → Prop} {s : Shared} {g h h' : Heap} {m m' : Str → Option Value} {tk₀ tk : Nat} {p : Program} {loose : List Str} {mg mb : Str → Option Value} {h₀ : Heap} {st st1 : LS} {H : HA} {own : List (Addr × Obj)} {f : Addr} {cd : Value} {d : LD}
  {top top' : Int} {aft aft' : Option Int} {D : List (Nat × Rg)} {kvs kvs1 : List (Nat × Value)} {n n' : Nat} {L : Addr} {mean : ExcName → Option Value}
theorem LQ.le (x : LQ prog w H st m top aft d D kvs n) (h : n ≤ n') : LQ prog w H st m top aft d D kvs n' := ⟨x.C, x.x, x.V, x.wy, x.ev, Nat.le_trans x.ln h, x.t0, x.a0, x.mx, x.af, x.mc, x.mr, x.md, x.m1, x.m2, x.mt, x.mkp⟩
theorem LQ.names (x : LQ prog w H st m top aft d D kvs n) (hm : ∀ y ∈ (["cache", "rows", "due", "first", "second", "top", "keep"] : List Str), m' y = m y) : LQ prog w H st m' top aft d D kvs n := x.toEx x.x hm
theorem DeedEnd.le {fl : Flow} {s' : Shared} (x : DeedEnd prog w g H own s n m fl s') (h : n ≤ n') (e1 : m "step" = m' "step") (e2 : m "number" = m' "number") (e3 : m "kind" = m' "kind") (e4 : m "rest" = m' "rest") : DeedEnd prog w g H own s n' m' fl s' := by
  obtain ⟨e, h', tk', m1, st', top, aft, d, D, kvs, es, S, Q, k1, k2, k3, k4⟩ := x
  exact ⟨e, h', tk', m1, st', top, aft, d, D, kvs, es, S, Q.le h, k1.trans e1, k2.trans e2, k3.trans e3, k4.trans e4⟩
theorem DeedEnd.nx {fl : Flow} {s' : Shared} (x : DeedEnd prog w g H own s n m fl s') : fl = .next := by obtain ⟨e, _⟩ := x; exact e
/-- a turn of the adding loop -/
theorem law_turn {kd rs tu : Int} {kt nt : Tok} {num : Int} {sp : Int} (ok : H.Ok) (S : St 39 175 w g H.L m (st.withEx (own ++ st.ex)) h) (X : (K1 w.params).In g) (T : TopRead p loose mg mb g) (TT : Top p loose mean mg mb g)
    (BB : ∀ h m, Fr g H.L h m → Below A g [lawE H.L f cd] h) (hroom : A.depth + 20 < recursionLimit) (hu : A.units + 200 < cLine) (hh : A.handled = none) (hn : n ≤ 900)
    (x : LQ prog w H st m top aft d D kvs n) (mkd : m "kind" = some (.int kd kt)) (mnu : m "number" = some (.int num nt)) (mst : ∃ v, m "step" = some v ∧ IsI sp v) (hrest : ∃ v, m "rest" = some v ∧ IsI rs v) (hturn : ∃ v, m "turn" = some v ∧ IsI tu v)
    (k0 : 0 ≤ kd) (k12 : kd < 12) (k9 : kd ≠ 9) (k10 : kd ≠ 10) :
    wpAny (model prog w) A (execs turnB (lawE H.L f cd)) (DeedEnd prog w g H own s (n + 1) m) (fun _ _ => False) (up s h tk) := by
  obtain ⟨pl, hpl, hp12⟩ : ∃ pl : Nat, (rs + tu).fmod 12 = (pl : Int) ∧ pl < 12 := by
    have h1 := Int.fmod_nonneg_of_pos (rs + tu) (b := 12) (by decide)
    have h2 := Int.fmod_lt_of_pos (rs + tu) (b := 12) (by decide)
    exact ⟨((rs + tu).fmod 12).toNat, by omega, by omega⟩
  refine turn_pre ok S X T hroom hu hh (by omega) x hrest hturn hpl hp12 fun h1 tk1 P1 => ?_
  obtain ⟨m1, st1, kv, ha, oa, hs, os, hhn, on, S1, x1, t1, hm1⟩ := P1
  have mkd1 : m1 "kind" = some (.int kd kt) := (hm1 _ (by decide) (by decide) (by decide)).trans mkd
  have mnu1 : m1 "number" = some (.int num nt) := (hm1 _ (by decide) (by decide) (by decide)).trans mnu
  obtain ⟨vst, mst, hst⟩ := mst
  have mst1 : m1 "step" = some vst := (hm1 _ (by decide) (by decide) (by decide)).trans mst
  have hrest1 : ∃ v, m1 "rest" = some v ∧ IsI rs v := by rw [hm1 _ (by decide) (by decide) (by decide)]; exact hrest
  have hturn1 : ∃ v, m1 "turn" = some v ∧ IsI tu v := by rw [hm1 _ (by decide) (by decide) (by decide)]; exact hturn
  have fin : ∀ fl s' k, k ≤ n + 1 → DeedEnd prog w g H own s k m1 fl s' → DeedEnd prog w g H own s (n + 1) m fl s' := fun fl s' k hk q => q.le hk (hm1 _ (by decide) (by decide) (by decide)) (hm1 _ (by decide) (by decide) (by decide)) (hm1 _ (by decide) (by decide) (by decide)) (hm1 _ (by decide) (by decide) (by decide))
  refine wpAny_execs_cons (wpAny_If (test_in4 (k := kd) (PvI.of (t := kt) ?hk) (fun h2 tk2 G2 => ?_) rfl rfl rfl rfl rfl))
  case hk => walk_at "px"
  have S2 := S1.grow G2
  cases hb : (5 == kd || (6 == kd || (7 == kd || 8 == kd))) with
  | true =>
    rw [if_pos rfl]
    refine wpAny_mono (turn_look ok S2 X T TT BB hroom hu hh (by omega) x1 t1 mkd1 mnu1) (fun fl s' hf => ?_) fun _ _ e => e
    have hf := fin _ _ _ (by omega) hf
    obtain rfl := hf.nx
    obtain ⟨-, h', tk', m2, st', _, _, _, _, _, rfl, _⟩ := id hf
    exact wpAny_execs_nil hf
  | false =>
    rw [if_neg Bool.false_ne_true]
    have hkd : kd = 0 ∨ kd = 1 ∨ kd = 2 ∨ kd = 3 ∨ kd = 4 ∨ kd = 11 := by
      have n5 : kd ≠ 5 := fun e => by subst e; simp at hb
      have n6 : kd ≠ 6 := fun e => by subst e; simp at hb
      have n7 : kd ≠ 7 := fun e => by subst e; simp at hb
      have n8 : kd ≠ 8 := fun e => by subst e; simp at hb
      omega
    have hwy : wayN kd ≤ 2 := by unfold wayN; (repeat' split) <;> omega
    refine wpAny_mono (Q := DeedEnd prog w g H own s (n + 1) m1) (turn_add1 ok S2 X T hroom hu hh hn x1 t1 mkd1 mnu1 mst1 hst hrest1 hturn1 hkd fun h3 tk3 m3 val wt nv hm3 mv3 mw3 a3 => ?_) (fun fl s' hf => ?_) fun _ _ e => e
    · obtain ⟨st3, S3, a⟩ := a3
      obtain ⟨D', kvs', j, aF⟩ := x1.addF (r := (pl, val, wayN kd)) hwy a
      exact turn_add2 ok S3 X T hroom hu hh hn x1 t1 nv hwy hm3 mv3 mw3 aF
    · have hf := fin _ _ _ (Nat.le_refl _) hf
      obtain rfl := hf.nx
      obtain ⟨-, h', tk', m2, st', _, _, _, _, _, rfl, _⟩ := id hf
      exact wpAny_execs_nil hf
theorem Sets.toK {n : Nat} {Pe : Nat → Value → Prop} {it : Value} {s₂ : Shared} (x : Sets prog w A h n Pe s it s₂) : SetsK prog w A h [] n Pe s it s₂ := by
  obtain ⟨I, fp, Sw, h2, tk2, a1, a2, a3, a4, a5, a6, a7, a8⟩ := x.go
  exact ⟨I, fp, [I], fp, Sw, h2, tk2, a1, a2, a3, a4, a5, fun b hb => a4.sub b hb, a6, a7, fun b hb => .inl hb, fun i h' st b hb => ⟨hb, a8 i h' st b hb⟩⟩
/-- for turn in range(..): the turns -/
theorem law_adds {kd rs : Int} {kt nt : Tok} {num : Int} {sp : Int} (ok : H.Ok) (S : St 39 175 w g H.L m (st.withEx (own ++ st.ex)) h) (X : (K1 w.params).In g) (T : TopRead p loose mg mb g) (TT : Top p loose mean mg mb g)
    (BB : ∀ h m, Fr g H.L h m → Below A g [lawE H.L f cd] h) (hroom : A.depth + 20 < recursionLimit) (hu : A.units + 200 < cLine) (hh : A.handled = none) (hn : n ≤ 800)
    (x : LQ prog w H st m top aft d D kvs n) (mkd : m "kind" = some (.int kd kt)) (mnu : m "number" = some (.int num nt)) (mst : ∃ v, m "step" = some v ∧ IsI sp v) (hrest : ∃ v, m "rest" = some v ∧ IsI rs v)
    (k0 : 0 ≤ kd) (k12 : kd < 12) (k9 : kd ≠ 9) (k10 : kd ≠ 10) :
    wpAny (model prog w) A (execs addsB (lawE H.L f cd)) (DeedEnd prog w g H own s (n + 3) m) (fun _ _ => False) (up s h tk) := by
  obtain ⟨N, hN, hN3⟩ : ∃ N : Nat, (if kd == 11 then (3 : Int) else 1) = (N : Int) ∧ N ≤ 3 := by
    cases kd == 11
    · exact ⟨1, rfl, by omega⟩
    · exact ⟨3, rfl, by omega⟩
  refine wpAny_execs_cons ?_
  refine for_k (n := N) (Pe := fun i v => IsI i v) (fun i st1 m1 => ∃ st0 top aft d D kvs, st1 = st0.withEx (own ++ st0.ex) ∧ LQ prog w H st0 m1 top aft d D kvs (n + i) ∧ m1 "step" = m "step" ∧ m1 "number" = m "number" ∧ m1 "kind" = m "kind" ∧ m1 "rest" = m "rest") [] S rfl rfl rfl ?_ ⟨st, top, aft, d, D, kvs, rfl, x, rfl, rfl, rfl, rfl⟩ (fun _ _ _ _ q hq => nomatch hq) ?_ ?_ (by intro _; rfl) PassesOwn.never
  · refine Call_ (Pv.at (v := .type "range") (by (refine' Pv.builtinX (by assumption) (by assumption) (by assumption) ?heB rfl ?hnB rfl rfl ?hdB; (case heB => k_dflt k_is); (case hnB => decide); (case hdB => decide))) fun tk1 => ?_) rfl
    refine PyProof.Rows.callWith_type1 (spliced_more (PvE.at (P := IsI (N : Int)) ?hv fun v tk2 hv => spliced_none ?_) rfl) rfl rfl
    case hv =>
      refine PvE.ite (b := kd == 11) (PvT.int .eq (PvI.of (t := kt) ?hk) PvI.const (by with_unfolding_all rfl)) (fun e => PvI.eq PvI.const ?_) (fun e => PvI.eq PvI.const ?_)
      case hk => walk_at "px"
      · rw [← hN, if_pos e]
      · rw [← hN, if_neg (by rw [e]; exact Bool.false_ne_true)]
    obtain ⟨t, rfl⟩ := hv
    refine call_range_1 (s := up s h tk2) ?_
    exact wpAny_mono (sets_range (s := s) hh Grow.push (IsRange.new _ _ _ _ _ _ _) (by omega)) (fun _ _ z => z.toK) fun _ _ e => e
  · rintro i v m1 st1 own' h1 tk1 hi hv ⟨st0, top0, aft0, d0, D0, kvs0, rfl, x0, e1, e2, e3, e4⟩ S1
    have S1 : St 39 175 w g H.L (fun y => if y = "turn" then some v else m1 y) (st0.withEx ((own' ++ own) ++ st0.ex)) h1 := by rw [List.append_assoc]; exact S1
    have x1 : LQ prog w H st0 (fun y => if y = "turn" then some v else m1 y) top0 aft0 d0 D0 kvs0 (n + i) := x0.names fun y hy => by
      simp only [List.mem_cons, List.not_mem_nil, or_false] at hy
      rcases hy with rfl | rfl | rfl | rfl | rfl | rfl | rfl <;> rfl
    refine wpAny_mono (law_turn (tu := (i : Int)) ok S1 X T TT BB hroom hu hh (by omega) x1 (e3.trans mkd) (e2.trans mnu) (by show ∃ v, m1 "step" = some v ∧ _; rw [e1]; exact mst) (by show ∃ v, m1 "rest" = some v ∧ _; rw [e4]; exact hrest) ⟨v, rfl, hv⟩ k0 k12 k9 k10) (fun fl s' hf => ?_) fun _ _ e => e
    obtain ⟨rfl, h2, tk2, m2, st2, top2, aft2, d2, D2, kvs2, rfl, S2, x2, q1, q2, q3, q4⟩ := hf
    refine ⟨h2, tk2, m2, st2.withEx (own ++ st2.ex), rfl, by rw [List.append_assoc] at S2; exact S2, st2, top2, aft2, d2, D2, kvs2, rfl, x2, q1.trans e1, q2.trans e2, q3.trans e3, q4.trans e4⟩
  · rintro m1 st1 h1 tk1 ⟨st0, top0, aft0, d0, D0, kvs0, rfl, x0, e1, e2, e3, e4⟩ S1
    exact wpAny_execs_nil ⟨rfl, h1, tk1, m1, st0, top0, aft0, d0, D0, kvs0, rfl, S1, x0.le (by omega), e1, e2, e3, e4⟩
end
section
variable {prog : Program} {w : World} {A : Around} {E : Value → Shared → Prop} {s : Shared} {h : Heap} {tk₀ : Nat} {p : Program} {loose : List Str} {mg mb : Str → Option Value} {h₀ : Heap} {st : LS} {r : Rg}
  {Ky : Type} [DecidableEq Ky] {T' : DT prog w (K1 w.params) Ky} {kvs : List (Ky × Value)} {k : Ky} {D : List (Ky × Rg)} {key val : Value}
end
/-- the state between the law's statements -/
inductive BtwP (prog : Program) (w : World) (g : Heap) (H : HA) (own : List (Addr × Obj)) (n : Nat) (rs : Option Value) (h' : Heap) : Prop
  | mk (m' : Str → Option Value) (st' : LS) (top : Int) (aft : Option Int) (d : LD) (D : List (Nat × Rg)) (kvs : List (Nat × Value)) (S : St 39 175 w g H.L m' (st'.withEx (own ++ st'.ex)) h') (x : LQ prog w H st' m' top aft d D kvs n) (r : m' "rest" = rs)
section
variable {prog : Program} {w : World} {A : Around} {E : Value → Shared → Prop} {s : Shared} {g h h' : Heap} {m m' : Str → Option Value} {tk₀ tk : Nat} {p : Program} {loose : List Str} {mg mb : Str → Option Value} {h₀ : Heap} {st st1 : LS} {H : HA} {own : List (Addr × Obj)} {f : Addr} {cd : Value} {d : LD}
  {top top' : Int} {aft aft' : Option Int} {D : List (Nat × Rg)} {kvs kvs1 : List (Nat × Value)} {n n' : Nat} {L : Addr} {mean : ExcName → Option Value}
theorem DeedEnd.btw {fl : Flow} {s' : Shared} {rs : Option Value} (x : DeedEnd prog w g H own s n m fl s') (h : n ≤ n') (e : m "rest" = rs) : NextP s (BtwP prog w g H own n' rs) fl s' := by
  obtain ⟨e1, h', tk', m1, st', top, aft, d, D, kvs, es, S, Q, k1, k2, k3, k4⟩ := x
  exact ⟨e1, h', tk', es, m1, st', top, aft, d, D, kvs, S, Q.le h, k4.trans e⟩
/-- which deed -/
theorem law_deed2 {kd rs : Int} {kt nt rt : Tok} {num : Int} {sp : Int} (ok : H.Ok) (S : St 39 175 w g H.L m (st.withEx (own ++ st.ex)) h) (X : (K1 w.params).In g) (T : TopRead p loose mg mb g) (TT : Top p loose mean mg mb g)
    (BB : ∀ h m, Fr g H.L h m → Below A g [lawE H.L f cd] h) (hroom : A.depth + 20 < recursionLimit) (hu : A.units + 200 < cLine) (hh : A.handled = none) (hn : n ≤ 800)
    (x : LQ prog w H st m top aft d D kvs n) (mkd : m "kind" = some (.int kd kt)) (mnu : m "number" = some (.int num nt)) (mst : ∃ v, m "step" = some v ∧ IsI sp v) (mrs : m "rest" = some (.int rs rt))
    (k0 : 0 ≤ kd) (k12 : kd < 12) :
    wpAny (model prog w) A (exec (nthS deedB 2) (lawE H.L f cd)) (NextP s (BtwP prog w g H own (n + 3) (some (.int rs rt)))) (fun _ _ => False) (up s h tk) := by
  have hrest : ∃ v, m "rest" = some v ∧ IsI rs v := ⟨_, mrs, rt, rfl⟩
  refine if_t (b := kd == 9) (PvT.int .eq (PvI.of (t := kt) ?c9) PvI.const (by with_unfolding_all rfl)) (fun e tk1 => ?_) (fun e9 tk1 => ?_)
  case c9 => walk_at "px"
  · exact wpAny_mono (law_clean ok S X T hroom hu hh (by omega) x) (fun fl s' hf => hf.btw (by omega) mrs) fun _ _ e => e
  refine wpAny_execs_cons (if_t (b := kd == 10) (PvT.int .eq (PvI.of (t := kt) ?c10) PvI.const (by with_unfolding_all rfl)) (fun e tk2 => ?_) (fun e10 tk2 => ?_))
  case c10 => walk_at "px"
  · refine wpAny_mono (law_res (rs := rs) ok S X T hroom hu hh (by omega) x hrest) (fun fl s' hf => ?_) fun _ _ e => e
    have hf := hf.btw (n' := n + 3) (by omega) mrs
    obtain ⟨rfl, _⟩ := id hf
    exact wpAny_execs_nil hf
  have k9 : kd ≠ 9 := fun e => by subst e; simp at e9
  have k10 : kd ≠ 10 := fun e => by subst e; simp at e10
  have adds : ∀ tk, wpAny (model prog w) A (execs addsB (lawE H.L f cd)) (NextP s (BtwP prog w g H own (n + 3) (some (.int rs rt)))) (fun _ _ => False) (up s h tk) := fun tk =>
    wpAny_mono (law_adds ok S X T TT BB hroom hu hh hn x mkd mnu mst hrest k0 k12 k9 k10) (fun fl s' hf => hf.btw (Nat.le_refl _) mrs) fun _ _ e => e
  refine wpAny_execs_cons (wpAny_If (isTrue_and ((PvT.int .eq (a := kd) (b := 11) (PvI.of (t := kt) ?c11) PvI.const (by with_unfolding_all rfl)) s tk2 _ _ fun tk3 => ?_)))
  case c11 => walk_at "px"
  have nx : ∀ fl s', NextP s (BtwP prog w g H own (n + 3) (some (.int rs rt))) fl s' → fl = .next := fun fl s' hf => by obtain ⟨rfl, _⟩ := hf; rfl
  cases kd == 11 with
  | false =>
    rw [if_neg Bool.false_ne_true, if_neg Bool.false_ne_true]
    refine wpAny_mono (adds _) (fun fl s' hf => ?_) fun _ _ e => e
    obtain rfl := nx _ _ hf
    exact wpAny_execs_nil (wpAny_execs_nil hf)
  | true =>
    rw [if_pos rfl]
    refine isTrue_and ((PvT.int .eq (a := rs.fmod 4) (b := 0) (PvI.mod (PvI.of (t := rt) ?c12) PvI.const (by decide)) PvI.const (by with_unfolding_all rfl)) s tk3 _ _ fun tk4 => ?_)
    case c12 => walk_at "px"
    cases rs.fmod 4 == 0 with
    | false =>
      rw [if_neg Bool.false_ne_true, if_neg Bool.false_ne_true]
      refine wpAny_mono (adds _) (fun fl s' hf => ?_) fun _ _ e => e
      obtain rfl := nx _ _ hf
      exact wpAny_execs_nil (wpAny_execs_nil hf)
    | true =>
      rw [if_pos rfl]
      refine isTrue_and_nil ?_
      rw [if_pos rfl]
      refine wpAny_mono (law_clear ok S X T hroom hu hh (by omega) x) (fun fl s' hf => ?_) fun _ _ e => e
      have hf := hf.btw (n' := n + 3) (by omega) mrs
      obtain rfl := nx _ _ hf
      exact wpAny_execs_nil (wpAny_execs_nil hf)
/-- _law_alike(cache, rows, due, written), asked by the law -/
theorem LQ.alike {Q : Value → Shared → Prop} {fp p1 p2 p3 p4 cp : Pos} (ok : H.Ok) (S : St 39 175 w g H.L m (st.withEx (own ++ st.ex)) h) (X : (K1 w.params).In g) (T : TopRead p loose mg mb g) (hroom : A.depth + 20 < recursionLimit) (hu : A.units + 200 < cLine) (hh : A.handled = none) (hn : n ≤ 1000)
    (x : LQ prog w H st m top aft d D kvs n) (q : ∀ h' (tk' : Nat), St 39 175 w g H.L m (st.withEx (own ++ st.ex)) h' → Q (.bool true) (up s h' tk')) :
    wpAny (model prog w) A (eval (.Call (.Name "_law_alike" fp) [.Name "cache" p1, .Name "rows" p2, .Name "due" p3, .Name "written" p4] [] cp) (lawE H.L f cd)) Q E (up s h tk) := by
  have mc := x.mc
  have mr := x.mr
  have md := x.md
  have hln := x.ln
  refine Call_ (Pv.at (v := .ref 200) (by walk_at "px") fun tk1 => ?_) rfl
  refine callWith_K X (by k_dflt k_is) (spliced_more (Pv.at (v := .ref st.c) (by walk_at "px") fun tk2 => spliced_more (Pv.at (v := .ref d.ra) (by walk_at "px") fun tk3 => spliced_more (Pv.at (v := .ref H.da) (by walk_at "px") fun tk4 => spliced_more (Pv.at (v := .ref H.wa) (Pv.cellX S (c := H.L + 3) rfl (List.mem_append_right _ (x.x.kept _ (.head _))) ok.ow rfl rfl rfl) fun tk5 => spliced_none ⟨X.keeps S.F.keep, ?_⟩) rfl) rfl) rfl) rfl) rfl rfl
  refine c_alike (S.baseO X T) S.repO (by omega) (by omega) hh x.C (by rw [x.kz]; omega) x.x.hr x.x.hR x.x.hw (by rw [← x.ev]; exact x.x.hW) x.x.hd x.x.hE ?_ fun h1 tk6 C1 => q h1 tk6 (S.afterO C1)
  rw [x.V, List.map_map]
  exact ((List.reverse_perm _).map _).symm
end
section
variable {prog : Program} {w : World} {A : Around} {E : Value → Shared → Prop} {s : Shared} {h : Heap} {tk₀ : Nat} {p : Program} {loose : List Str} {mg mb : Str → Option Value} {h₀ : Heap} {st : LS} {r : Rg}
  {Ky : Type} [DecidableEq Ky] {T' : DT prog w (K1 w.params) Ky} {kvs : List (Ky × Value)} {k : Ky} {D : List (Ky × Rg)} {key val : Value}
end
section
variable {prog : Program} {w : World} {A : Around} {E : Value → Shared → Prop} {s : Shared} {g h h' : Heap} {m m' : Str → Option Value} {tk₀ tk : Nat} {p : Program} {loose : List Str} {mg mb : Str → Option Value} {h₀ : Heap} {st st1 : LS} {H : HA} {own : List (Addr × Obj)} {f : Addr} {cd : Value} {d : LD}
  {top top' : Int} {aft aft' : Option Int} {D : List (Nat × Rg)} {kvs kvs1 : List (Nat × Value)} {n n' : Nat} {L : Addr} {mean : ExcName → Option Value}
/-- the questions after a deed -/
theorem law_asked {rs : Int} {rt : Tok} (ok : H.Ok) (S : St 39 175 w g H.L m (st.withEx (own ++ st.ex)) h) (X : (K1 w.params).In g) (T : TopRead p loose mg mb g)
    (hroom : A.depth + 20 < recursionLimit) (hu : A.units + 200 < cLine) (hh : A.handled = none) (hn : n ≤ 1000)
    (x : LQ prog w H st m top aft d D kvs n) (mrs : m "rest" = some (.int rs rt)) :
    wpAny (model prog w) A (execs (deedB.drop 3) (lawE H.L f cd)) (NextP s (fun h' => ∃ r, BtwP prog w g H own n r h')) (fun _ _ => False) (up s h tk) := by
  have mc := x.mc
  have mr := x.mr
  have hln := x.ln
  have hlen := x.x.hR.length
  obtain ⟨tm, emx⟩ := x.mx
  obtain ⟨vt, mtp, ttp, rfl⟩ := x.mt
  refine wpAny_execs_cons (wpAny_If (isTrue_or (isTrue_not (isTrue_plain (x.alike ok S X T hroom hu hh hn fun h1 tk1 S1 => wpAny_truthy_bool ?_) ?hpl))))
  case hpl => with_unfolding_all rfl
  rw [Bool.not_true, if_neg Bool.false_ne_true]
  refine isTrue_or (wpAny_isTrue_Compare1 ?_ (by with_unfolding_all rfl))
  refine' ev_m0 (f := 94) (x := st.c) ?hpo S1.subO.cinst (X.keeps S1.F.keep) (pcL _) ?hf ?ht ?hkp rfl ?_ rfl
  case hpo => walk_at "px"
  ((case hf => k_dflt k_is); (case ht => k_dflt k_is); (case hkp => k_dflt k_is))
  intro tk2
  refine c_size (S1.baseO X T) S1.repO (by omega) fun h2 tk3 C2 => ?_
  have S2 := S1.afterO C2
  refine Pv.at (v := .int top ttp) (by walk_at "px") fun tk4 => ?_
  rw [emx]
  refine ne_int (s := up s h2 tk4) (wpAny_truthy_bool ?_)
  rw [if_neg (by simp)]
  refine isTrue_or_nil ?_
  rw [if_neg Bool.false_ne_true]
  refine wpAny_execs_nil ?_
  obtain ⟨pl, hpl, hp12⟩ : ∃ pl : Nat, rs.fmod 12 = (pl : Int) ∧ pl < 12 := by
    have h1 := Int.fmod_nonneg_of_pos rs (b := 12) (by decide)
    have h2 := Int.fmod_lt_of_pos rs (b := 12) (by decide)
    exact ⟨(rs.fmod 12).toNat, by omega, by omega⟩
  obtain ⟨kv, hkv⟩ := KL_some hp12
  obtain ⟨op, vp, p1, p2⟩ := x.x.sp
  refine wpAny_execs_cons ?_
  refine S2.setC (c := H.L + 2) (P := IsI (pl : Int)) ?he rfl p1 p2 (fun v hv ex1 h3 tk5 o1 S3 hm1 hd1 E1 t1 => ?_) rfl rfl
  case he =>
    rw [← hpl]
    refine PvI.mod (PvI.of (t := rt) ?h1) PvI.const (by decide)
    case h1 => walk_at "px"
  obtain ⟨pt, rfl⟩ := hv
  have x1 := x.toEx (x.x.spot ok E1 t1 hm1 hd1) (m' := m) (fun _ _ => rfl)
  have mc1 := x1.mc
  have mr1 := x1.mr
  have hsz := x1.kz
  refine wpAny_execs_cons (wpAny_If (wpAny_isTrue_Compare1 ?_ (by with_unfolding_all rfl)))
  refine wpAny_Compare1 (Pv.at (v := kv) (Pv.itemL (its := KL) (i := pl) (kl181 (X.keeps S3.F.keep)) ?hko (PvI.of (t := pt) (Pv.cellX S3 (c := H.L + 2) rfl (List.mem_append_right _ hm1) hd1 rfl rfl rfl)) hkv (by decide) (by intro _; with_unfolding_all rfl) (by intro _; with_unfolding_all rfl)) fun tk6 => Pv.at (v := .ref st.c) (by walk_at "px") fun tk7 => ?_) (by with_unfolding_all rfl)
  case hko => walk_at "px"
  refine in_K (s := up s h3 tk7) (C := 175) (f := 65) S3.F X (S3.subO (st := st.withEx ex1)).cinst (by k_dflt k_is) (by k_dflt k_is) ?_
  refine c_in (st := st.withEx ex1) (S3.baseO (st := st.withEx ex1) X T) (S3.repO (st := st.withEx ex1)) (by omega) (by omega) x1.C hkv fun h4 tk8 C4 => wpAny_truthy_bool ?_
  have S4 := S3.afterO (st := st.withEx ex1) C4
  have hx4 : ∀ q ∈ ex1, h4.get? q.1 = some q.2 := fun q hq => S4.subO.exOf (st := st.withEx ex1) hq
  have hrl : h4.IsList d.ra d.rs.toArray := isList_of (hx4 _ x1.x.hr)
  refine wpAny_Compare1 ?_ (by with_unfolding_all rfl)
  refine ev_comp (cl := [("spot", H.L + 2)]) (n := d.rs.length) (Pe := fun i v => d.rs[i]? = some v) (pz := pzOf h4 pl) (Pv.at (v := .ref d.ra) (by walk_at "px") fun tk9 => cset_list hh hrl) (by omega) rfl ?hcell rfl ?hnames rfl (by decide) (by intro _; rfl) ?tests fun b h5 tk10 vs G5 hb0 hb hvl hvk => ?_
  case tests => exact row_test hx4 x1.x.hR .eq (fun v r hv => by rw [pz_row hx4 hv]; exact nat_beq.symm) (by simp) (hx4 _ hm1) hd1 (fun C => rfl) (fun _ => rfl) (fun _ => rfl) (by decide) (by with_unfolding_all rfl)
  case hcell => decide
  case hnames => decide
  have e : vs = d.rs := List.ext_getElem? fun j => by
    by_cases hj : j < vs.length
    · rw [List.getElem?_eq_getElem hj, hvk j _ (List.getElem?_eq_getElem hj)]
    · rw [List.getElem?_eq_none (Nat.not_lt.mp hj), List.getElem?_eq_none (by omega)]
  subst e
  have S5 := S4.grow G5
  have fin : ∀ h6 (tk6 : Nat), Grow h5 h6 → NextP s (fun h' => ∃ r, BtwP prog w g H own n r h') .next (up s h6 tk6) := fun h6 tk6 G6 =>
    ⟨rfl, h6, tk6, rfl, _, m, st.withEx ex1, top, aft, d, D, kvs, S5.grow G6, x1, rfl⟩
  refine PvG.list0 s tk10 _ _ fun v h6 tk11 G6 hv => ?_
  obtain ⟨eb, rfl, eb0, eb1⟩ := hv
  have hb6 := G6 _ _ hb
  have hF : All2 (RowAt ex1) (d.rs.filter (pzOf h4 pl)) (d.R.filter fun r => r.1 == pl) := x1.x.hR.filter fun v r hv => pz_row hx4 hv
  have lk := look_enc (k := pl) x1.V x1.nd
  have hz2 := hF.length
  have hu' : A.units + 2 < cLine := by omega
  rcases held_or (k := pl) x1.nd with ⟨e, e2⟩ | ⟨r, e, e2, e3⟩
  · rw [e] at lk hz2
    have e0 : d.rs.filter (pzOf h4 pl) = [] := List.eq_nil_of_length_eq_zero hz2
    rw [e0] at hb6
    have lk : look (vw (st.withEx ex1) D) pl = none := lk
    rw [lk]
    refine ne_same (its := []) hb6 eb1 hu' ?_
    refine SeqAt.RcNeAt.bool_bool _ _ prog w _ _ (wpAny_truthy_bool ?_)
    rw [if_neg (by simp)]
    exact wpAny_execs_nil (wpAny_execs_nil (fin _ _ G6))
  · rw [e] at lk hz2
    have lk : look (vw (st.withEx ex1) D) pl = some (r.2.1, H.clnOf r.2.2) := lk
    rw [lk]
    refine ne_diff hb6 eb1 (by rw [hz2]; simp) hu' ?_
    refine SeqAt.RcNeAt.bool_bool _ _ prog w _ _ (wpAny_truthy_bool ?_)
    rw [if_neg (by simp)]
    exact wpAny_execs_nil (wpAny_execs_nil (fin _ _ G6))
/-- a deed -/
theorem law_deed {nt : Tok} {num sp : Int} (ok : H.Ok) (S : St 39 175 w g H.L m (st.withEx (own ++ st.ex)) h) (X : (K1 w.params).In g) (T : TopRead p loose mg mb g) (TT : Top p loose mean mg mb g)
    (BB : ∀ h m, Fr g H.L h m → Below A g [lawE H.L f cd] h) (hroom : A.depth + 20 < recursionLimit) (hu : A.units + 200 < cLine) (hh : A.handled = none) (hn : n ≤ 800)
    (x : LQ prog w H st m top aft d D kvs n) (mnu : m "number" = some (.int num nt)) (mst : ∃ v, m "step" = some v ∧ IsI sp v) :
    wpAny (model prog w) A (execs deedB (lawE H.L f cd)) (NextP s (fun h' => ∃ r, BtwP prog w g H own (n + 3) r h')) (fun _ _ => False) (up s h tk) := by
  have k0 := Int.fmod_nonneg_of_pos num (b := 12) (by decide)
  have k12 := Int.fmod_lt_of_pos num (b := 12) (by decide)
  refine wpAny_execs_cons ?_
  refine as_nameX S (PvG.of (PvI.mod (a := num) (b := 12) (PvI.of (t := nt) ?hk) PvI.const (by decide))) (fun v h1 tk1 hv G1 h2 tk2 toS => ?_) rfl rfl rfl
  case hk => walk_at "px"
  obtain ⟨kt, rfl⟩ := hv
  have S2 := toS _ (S.grow G1)
  clear toS
  refine wpAny_execs_cons ?_
  refine as_nameX S2 (PvG.of (PvI.fdiv (a := num) (b := 12) (PvI.of (t := nt) ?hk2) PvI.const (by decide) (by decide))) (fun v h3 tk3 hv G3 h4 tk4 toS => ?_) rfl rfl rfl
  case hk2 => walk_at "px"
  obtain ⟨rt, rfl⟩ := hv
  have S4 := toS _ (S2.grow G3)
  clear toS
  obtain ⟨m4, S4, mkd, mrs, hm4⟩ : ∃ m4, St 39 175 w g H.L m4 (st.withEx (own ++ st.ex)) h4 ∧ m4 "kind" = some (.int (num.fmod 12) kt) ∧ m4 "rest" = some (.int (num.fdiv 12) rt) ∧ (∀ y : Str, (y == "kind") = false → (y == "rest") = false → m4 y = m y) := ⟨_, S4, rfl, rfl, fun y h1 h2 => by
    show (if y = _ then _ else if y = _ then _ else _) = _
    rw [if_neg (fun e => by rw [e] at h2; simp at h2), if_neg (fun e => by rw [e] at h1; simp at h1)]⟩
  have x4 : LQ prog w H st m4 top aft d D kvs n := x.names fun y hy => by
    simp only [List.mem_cons, List.not_mem_nil, or_false] at hy
    rcases hy with rfl | rfl | rfl | rfl | rfl | rfl | rfl <;> exact hm4 _ (by decide) (by decide)
  refine seqP (law_deed2 ok S4 X T TT BB hroom hu hh hn x4 mkd ((hm4 _ (by decide) (by decide)).trans mnu) (by rw [hm4 _ (by decide) (by decide)]; exact mst) mrs k0 k12) fun h5 tk5 B5 => ?_
  obtain ⟨m5, st5, top5, aft5, d5, D5, kvs5, S5, x5, r5⟩ := B5
  exact law_asked ok S5 X T hroom hu hh (by omega) x5 r5
end
section
variable {prog : Program} {w : World} {A : Around} {E : Value → Shared → Prop} {s : Shared} {h : Heap} {tk₀ : Nat} {p : Program} {loose : List Str} {mg mb : Str → Option Value} {h₀ : Heap} {st : LS} {r : Rg}
  {Ky : Type} [DecidableEq Ky] {T' : DT prog w (K1 w.params) Ky} {kvs : List (Ky × Value)} {k : Ky} {D : List (Ky × Rg)} {key val : Value}
end
section
variable {prog : Program} {w : World} {A : Around} {E : Value → Shared → Prop} {s : Shared} {g h h' : Heap} {m m' : Str → Option Value} {tk₀ tk : Nat} {p : Program} {loose : List Str} {mg mb : Str → Option Value} {h₀ : Heap} {st st1 : LS} {H : HA} {own : List (Addr × Obj)} {f : Addr} {cd : Value} {d : LD}
  {top top' : Int} {aft aft' : Option Int} {D : List (Nat × Rg)} {kvs kvs1 : List (Nat × Value)} {n n' : Nat} {L : Addr} {mean : ExcName → Option Value}
/-- [0, 12, 24] + script[:20] -/
theorem three_more {env : Env} {i1 i2 i3 : Int} {its : List Value} {a : Addr} {c1 c2 c3 : Pos} {k1 k2 k3 : Nat} {e2 : Expr} {lp bp : Pos} {Q : Value → Shared → Prop}
    (he2 : ∀ h1, Grow h h1 → PvG prog w A env e2 (fun v h' => ∃ b, v = .ref b ∧ h1.get? b = none ∧ h'.get? b = some (listOf its.toArray 0)) h1) (hz : its.length ≤ 1000)
    (q : ∀ (b : Addr) (t1 t2 t3 : Tok) h' (tk' : Nat), Grow h h' → h.get? b = none → h'.IsList b (Value.int i1 t1 :: Value.int i2 t2 :: Value.int i3 t3 :: its).toArray → Q (.ref b) (up s h' tk'))
    (hst1 : starEach [.Constant (.int i1) k1 c1, .Constant (.int i2) k2 c2, .Constant (.int i3) k3 c3] env = (false, eval (.Constant (.int i1) k1 c1) env) :: (false, eval (.Constant (.int i2) k2 c2) env) :: (false, eval (.Constant (.int i3) k3 c3) env) :: starEach [] env) :
    wpAny (model prog w) A (eval (.BinOp (.List [.Constant (.int i1) k1 c1, .Constant (.int i2) k2 c2, .Constant (.int i3) k3 c3] lp) .Add e2 bp) env) Q E (up s h tk) := by
  refine wpAny_BinOp (wpAny_List ?_)
  rw [hst1]
  refine spliced_more (PvE.at PvI.const fun v1 tk1 hv1 => spliced_more (PvE.at PvI.const fun v2 tk2 hv2 => spliced_more (PvE.at PvI.const fun v3 tk3 hv3 => spliced_none ⟨two_le (show 3 ≤ 16 by decide), ?_⟩) rfl) rfl) rfl
  obtain ⟨t1, rfl⟩ := hv1
  obtain ⟨t2, rfl⟩ := hv2
  obtain ⟨t3, rfl⟩ := hv3
  have hb1 := Heap.get?_push_size h (o := { cls := .type "list", data := .seq [Value.int i1 t1, Value.int i2 t2, Value.int i3 t3].toArray 0 }) rfl
  refine he2 _ Grow.push s _ _ _ fun v h2 tk4 G2 hv => ?_
  obtain ⟨b2, rfl, _, hb2⟩ := hv
  refine PySem.P.add_list (s := up s h2 tk4) (G2 _ _ hb1) hb2 ?_ (by rw [List.size_toArray, List.size_toArray, sizeLine_eq]; show 3 + _ ≤ _; omega)
  refine q _ t1 t2 t3 _ _ ((Grow.push.trans G2).trans Grow.push) ?_ ?_
  · exact (Grow.push.trans G2).none size_none
  · rw [List.append_toArray]
    exact isList_of (n := 0) (Heap.get?_push_size _ rfl)
noncomputable def restB : List Stmt := [nthS lawB 8]
/-- the loop of the deeds -/
theorem law_loop {l : Addr} {vs : List Value} {ns : List Int} (ok : H.Ok) (S : St 39 175 w g H.L m (st.withEx (own ++ st.ex)) h) (X : (K1 w.params).In g) (T : TopRead p loose mg mb g) (TT : Top p loose mean mg mb g)
    (BB : ∀ h m, Fr g H.L h m → Below A g [lawE H.L f cd] h) (hroom : A.depth + 20 < recursionLimit) (hu : A.units + 200 < cLine) (hh : A.handled = none)
    (x : LQ prog w H st m top aft d D kvs 0) (hl : g.IsList l vs.toArray) (hI : IntsAre vs ns) (hz : ns.length ≤ 63) (ms : m "script" = some (.ref l)) :
    wpAny (model prog w) A (exec (nthS lawB 8) (lawE H.L f cd)) (NextP s (fun h' => ∃ r, BtwP prog w g H own 69 r h')) (fun _ _ => False) (up s h tk) := by
  have hlv := hI.length
  have gl : ∀ h, Fr g H.L h m → h.IsList l vs.toArray := fun h F => hl.at fun o e => F.keep _ _ e
  refine for_t (Pe := fun i v h => ∃ T t num nt, v = .ref T ∧ h.IsTuple T #[.int i t, .int num nt]) (n := 3 + (vs.take 20).length) (fun i st1 m1 => ∃ st0 top aft d D kvs, st1 = st0.withEx (own ++ st0.ex) ∧ LQ prog w H st0 m1 top aft d D kvs (3 * i)) [] S rfl ?_ ⟨st, top, aft, d, D, kvs, rfl, x⟩ (fun _ _ _ _ q hq => nomatch hq) ?_ ?_ (by intro _; rfl) PassesOwn.never
  · refine Call_ (Pv.at (v := .type "enumerate") (by (refine' Pv.builtinX (by assumption) (by assumption) (by assumption) ?heB rfl ?hnB rfl rfl ?hdB; (case heB => k_dflt k_is); (case hnB => decide); (case hdB => decide))) fun tk1 => ?_) rfl
    refine PyProof.Rows.callWith_type1 (spliced_more (three_more (a := l) (its := vs.take 20) (fun h1 G1 => ?hsl) ?hz (fun b t1 t2 t3 h2 tk2 G2 hb0 hb => spliced_none ?_) rfl) rfl) rfl rfl
    case hsl =>
      have S1 := S.grow G1
      rw [show listOf (vs.take 20).toArray 0 = listOf (slicePick vs.toArray none (some ((20 : Nat) : Int)) none) 0 by rw [pick_take]]
      refine PvG.slice (gl _ S1.F) (by omega) ?ho PartG.none (fun h1 G1 => PartG.some (PvG.of PvI.const)) (by intro _ _; rfl)
      case ho => walk_at "px"
    case hz => rw [List.length_take]; omega
    have hn : (Value.int 0 t1 :: Value.int 12 t2 :: Value.int 24 t3 :: vs.take 20).toArray.size = 3 + (vs.take 20).length := by rw [List.size_toArray]; show (vs.take 20).length + 3 = _; omega
    rw [← hn]
    refine wpAny_mono (setsT_enum hh G2 hb0 hb) (fun _ _ z => wpAny_mono z (fun _ _ z => z.mono ?_) fun _ _ e => e) fun _ _ e => e
    rintro i v h ⟨T, vals, rfl, ⟨t, y, hy, rfl⟩, hT⟩
    have hI3 : IntsAre (Value.int 0 t1 :: Value.int 12 t2 :: Value.int 24 t3 :: vs.take 20) (0 :: 12 :: 24 :: ns.take 20) := .cons _ _ (.cons _ _ (.cons _ _ (hI.take 20)))
    obtain ⟨num, nt, rfl⟩ := hI3.all y (List.mem_of_getElem? (by rw [← List.getElem?_toArray]; exact hy))
    exact ⟨T, t, num, nt, rfl, hT⟩
  · rintro i v m1 st1 own' h1 tk1 hi ⟨T1, ti, num, nt, rfl, hT⟩ ⟨st0, top0, aft0, d0, D0, kvs0, rfl, x0⟩ S1
    have S1 : St 39 175 w g H.L m1 (st0.withEx ((own' ++ own) ++ st0.ex)) h1 := by rw [List.append_assoc]; exact S1
    have hlt : (vs.take 20).length ≤ 20 := by rw [List.length_take]; omega
    refine wpAny_assign_Tuple (s := up s h1 tk1) hh hT rfl rfl fun h2 he2 => ?_
    have S2 : St 39 175 w g H.L m1 (st0.withEx ((own' ++ own) ++ st0.ex)) h2 := S1.grow fun c o e => he2 c o (Nat.ne_of_lt (Heap.lt_size e)) e
    show wpAny _ _ (assignInOrder [assign (.Name "step" _) _, assign (.Name "number" _) _] [.int i ti, .int num nt]) _ _ (up s h2 tk1)
    refine assignInOrder_cons (wpAny_assign_Name (storeX S2 (fun h3 tk3 S3 => ?_) rfl rfl))
    refine assignInOrder_cons (wpAny_assign_Name (storeX S3 (fun h4 tk4 S4 => ?_) rfl rfl))
    refine assignInOrder_nil ?_
    have x1 : LQ prog w H st0 (fun y => if y = "number" then some (.int num nt) else if y = "step" then some (.int i ti) else m1 y) top0 aft0 d0 D0 kvs0 (3 * i) := x0.names fun y hy => by
      simp only [List.mem_cons, List.not_mem_nil, or_false] at hy
      rcases hy with rfl | rfl | rfl | rfl | rfl | rfl | rfl <;> rfl
    refine wpAny_mono (law_deed (sp := (i : Int)) ok S4 X T TT BB hroom hu hh (by omega) x1 rfl ⟨_, rfl, ti, rfl⟩) (fun fl s' hf => ?_) fun _ _ e => e
    obtain ⟨rfl, h5, tk5, rfl, r, m5, st5, top5, aft5, d5, D5, kvs5, S5, x5, r5⟩ := hf
    refine ⟨h5, tk5, m5, st5.withEx (own ++ st5.ex), rfl, by rw [List.append_assoc] at S5; exact S5, st5, top5, aft5, d5, D5, kvs5, rfl, ?_⟩
    rw [Nat.mul_add]; exact x5
  · rintro m1 st1 h1 tk1 ⟨st0, top0, aft0, d0, D0, kvs0, rfl, x0⟩ S1
    have hlt : (vs.take 20).length ≤ 20 := by rw [List.length_take]; omega
    exact ⟨rfl, h1, tk1, rfl, _, m1, st0, top0, aft0, d0, D0, kvs0, S1, x0.le (by omega), rfl⟩
end
section
variable {prog : Program} {w : World} {A : Around} {E : Value → Shared → Prop} {s : Shared} {h : Heap} {tk₀ : Nat} {p : Program} {loose : List Str} {mg mb : Str → Option Value} {h₀ : Heap} {st : LS} {r : Rg}
  {Ky : Type} [DecidableEq Ky] {T' : DT prog w (K1 w.params) Ky} {kvs : List (Ky × Value)} {k : Ky} {D : List (Ky × Rg)} {key val : Value}
end
/-- what the law knows at its end: the names top and keep are stale -/
structure LE (prog : Program) (w : World) (H : HA) (st : LS) (m : Str → Option Value) (d : LD) (D : List (Nat × Rg)) (kvs : List (Nat × Value)) (n : Nat) : Prop where
  go : ∃ (m0 : Str → Option Value) (top : Int) (aft : Option Int), LQ prog w H st m0 top aft d D kvs n
  mc : m "cache" = some (.ref st.c)
  mr : m "rows" = some (.ref d.ra)
  md : m "due" = some (.ref H.da)
section
variable {prog : Program} {w : World} {A : Around} {E : Value → Shared → Prop} {s : Shared} {g h h' : Heap} {m m' m0 : Str → Option Value} {tk₀ tk : Nat} {p : Program} {loose : List Str} {mg mb : Str → Option Value} {h₀ : Heap} {st st1 : LS} {H : HA} {own : List (Addr × Obj)} {f : Addr} {cd : Value} {d : LD}
  {top top' : Int} {aft aft' : Option Int} {D : List (Nat × Rg)} {kvs kvs1 : List (Nat × Value)} {n n' : Nat} {L : Addr} {mean : ExcName → Option Value}
theorem LQ.toLE (x : LQ prog w H st m top aft d D kvs n) : LE prog w H st m d D kvs n := ⟨⟨m, top, aft, x⟩, x.mc, x.mr, x.md⟩
theorem LE.names (x : LE prog w H st m d D kvs n) (h1 : m' "cache" = m "cache") (h2 : m' "rows" = m "rows") (h3 : m' "due" = m "due") : LE prog w H st m' d D kvs n := ⟨x.go, h1.trans x.mc, h2.trans x.mr, h3.trans x.md⟩
/-- _law_alike(cache, rows, due, written), asked by the law -/
theorem LE.alike {Q : Value → Shared → Prop} {fp p1 p2 p3 p4 cp : Pos} (ok : H.Ok) (S : St 39 175 w g H.L m (st.withEx (own ++ st.ex)) h) (X : (K1 w.params).In g) (T : TopRead p loose mg mb g) (hroom : A.depth + 20 < recursionLimit) (hu : A.units + 200 < cLine) (hh : A.handled = none) (hn : n ≤ 1000)
    (x : LE prog w H st m d D kvs n) (q : ∀ h' (tk' : Nat), St 39 175 w g H.L m (st.withEx (own ++ st.ex)) h' → Q (.bool true) (up s h' tk')) :
    wpAny (model prog w) A (eval (.Call (.Name "_law_alike" fp) [.Name "cache" p1, .Name "rows" p2, .Name "due" p3, .Name "written" p4] [] cp) (lawE H.L f cd)) Q E (up s h tk) := by
  have mc := x.mc
  have mr := x.mr
  have md := x.md
  obtain ⟨m0, top, aft, x⟩ := x.go
  have hln := x.ln
  refine Call_ (Pv.at (v := .ref 200) (by walk_at "px") fun tk1 => ?_) rfl
  refine callWith_K X (by k_dflt k_is) (spliced_more (Pv.at (v := .ref st.c) (by walk_at "px") fun tk2 => spliced_more (Pv.at (v := .ref d.ra) (by walk_at "px") fun tk3 => spliced_more (Pv.at (v := .ref H.da) (by walk_at "px") fun tk4 => spliced_more (Pv.at (v := .ref H.wa) (Pv.cellX S (c := H.L + 3) rfl (List.mem_append_right _ (x.x.kept _ (.head _))) ok.ow rfl rfl rfl) fun tk5 => spliced_none ⟨X.keeps S.F.keep, ?_⟩) rfl) rfl) rfl) rfl) rfl rfl
  refine c_alike (S.baseO X T) S.repO (by omega) (by omega) hh x.C (by rw [x.kz]; omega) x.x.hr x.x.hR x.x.hw (by rw [← x.ev]; exact x.x.hW) x.x.hd x.x.hE ?_ fun h1 tk6 C1 => q h1 tk6 (S.afterO C1)
  rw [x.V, List.map_map]
  exact ((List.reverse_perm _).map _).symm
noncomputable def endB : List Stmt := forB (nthS lawB 9)
inductive EndP (prog : Program) (w : World) (g : Heap) (H : HA) (own : List (Addr × Obj)) (n N : Nat) (h' : Heap) : Prop
  | mk (m' : Str → Option Value) (st' : LS) (d : LD) (D : List (Nat × Rg)) (kvs : List (Nat × Value)) (S : St 39 175 w g H.L m' (st'.withEx (own ++ st'.ex)) h') (x : LE prog w H st' m' d D kvs n) (r : d.R.length = N)
/-- a turn of the last loop -/
theorem end_turn {N : Nat} (ok : H.Ok) (S : St 39 175 w g H.L m (st.withEx (own ++ st.ex)) h) (X : (K1 w.params).In g) (T : TopRead p loose mg mb g) (hroom : A.depth + 20 < recursionLimit) (hu : A.units + 200 < cLine) (hh : A.handled = none) (hn : n ≤ 1000)
    (x : LE prog w H st m d D kvs n) (hN : d.R.length = N + 1) : wpAny (model prog w) A (execs endB (lawE H.L f cd)) (NextP s (EndP prog w g H own n N)) (fun _ _ => False) (up s h tk) := by
  have mc := x.mc
  have mr := x.mr
  have md := x.md
  obtain ⟨m0, top, aft, y⟩ := x.go
  have hln := y.ln
  have hlen := y.x.hR.length
  have hlr : h.IsList d.ra d.rs.toArray := isList_of (S.subO.exOf y.x.hr)
  refine wpAny_execs_cons ?_
  refine as_nameX S (PvG.of (PvI.eq (b := (N : Int)) (PvI.sub (PvI.lenL hlr (by omega) ?hfn ?ho rfl rfl rfl) PvI.const) (by rw [hlen, hN]; omega))) (fun v h1 tk1 hv G1 h2 tk2 toS => ?_) rfl rfl rfl
  case hfn => (refine' Pv.builtinX (by assumption) (by assumption) (by assumption) ?heB rfl ?hnB rfl rfl ?hdB; (case heB => k_dflt k_is); (case hnB => decide); (case hdB => decide))
  case ho => walk_at "px"
  obtain ⟨lt, rfl⟩ := hv
  have S2 := toS _ (S.grow G1)
  clear toS
  obtain ⟨m2, S2, mc2, mr2, md2, ml2⟩ : ∃ m2, St 39 175 w g H.L m2 (st.withEx (own ++ st.ex)) h2 ∧ m2 "cache" = some (.ref st.c) ∧ m2 "rows" = some (.ref d.ra) ∧ m2 "due" = some (.ref H.da) ∧ m2 "less" = some (.int N lt) := ⟨_, S2, mc, mr, md, rfl⟩
  refine wpAny_execs_cons ?_
  refine' ex_ ?_ rfl rfl
  refine' ev_m2 (f := 164) (x := st.c) (v := .int N lt) (v2 := .int N lt) ?hpo ?he ?he2 S2.subO.cinst (X.keeps S2.F.keep) (pcL _) ?hf ?ht ?hkp rfl ?_ rfl rfl rfl rfl
  case hpo => walk_at "px"
  case he => walk_at "px"
  case he2 => walk_at "px"
  ((case hf => k_dflt k_is); (case ht => k_dflt k_is); (case hkp => k_dflt k_is))
  intro tk5
  have a0 : ∀ i, (some (N : Int)) = some i → 0 ≤ i := fun i e => by injection e with e; omega
  refine c_resize (a := some (N : Int)) (b := 0) (lawHook prog w H ok) (S2.baseO X T) S2.repO (by omega) (by omega) hh y.C (by rw [y.kz]; omega) (by omega) ⟨lt, rfl⟩ a0 (y.cbs ok) (y.hok hn (by omega)) fun h3 tk6 st1 kvs1 C1 RD => ?_
  have hk : keepOf (N : Int) (some (N : Int)) = (N : Int) := by show min (N : Int) N = N; omega
  have S3 := S2.afterO C1
  obtain ⟨ws, wn, y1⟩ := y.cutX ok RD.runs
  refine wpAny_execs_cons ?_
  refine law_shr ok rfl S3 X T (by omega) (by omega) hh y1 mr2 md2 (kv := keepOf (N : Int) (some (N : Int))) (PvI.eq (PvI.of (t := lt) ?hke) hk.symm) (by omega) (by show d.R.length + d.Ed.length ≤ 9000; omega) (fun ex' h4 tk7 b ds dn S4 y2 => ?_) rfl rfl rfl
  case hke => walk_at "px"
  have Q4 := y.cutQ (m' := fun z => if z = "top" then some (.int N lt) else if z = "keep" then some (.int N lt) else if z = "rows" then some (.ref b) else m0 z) (top' := (N : Int)) (aft' := some (N : Int)) RD.C RD.ev RD.c y2 (by omega) a0 ⟨_, RD.mx⟩ RD.af rfl rfl rfl rfl rfl ⟨_, rfl, lt, rfl⟩ ⟨_, rfl, lt, by rw [hk]⟩
  have L4 : LE prog w H (st1.withEx ex') (fun z => if z = "rows" then some (.ref b) else m2 z) _ _ _ n := ⟨⟨_, _, _, Q4⟩, by show m2 "cache" = some (.ref st1.c); rw [RD.c]; exact mc2, rfl, md2⟩
  refine wpAny_execs_cons (wpAny_If (isTrue_not (isTrue_plain (L4.alike ok S4 X T hroom hu hh hn fun h5 tk8 S5 => wpAny_truthy_bool ?_) ?hpl)))
  case hpl => with_unfolding_all rfl
  rw [Bool.not_true, if_neg Bool.false_ne_true]
  refine wpAny_execs_nil (wpAny_execs_nil ⟨rfl, h5, tk8, rfl, _, st1.withEx ex', _, _, _, S5, L4, ?_⟩)
  show (d.R.drop _).length = N
  rw [hk, List.length_drop, hN]; omega
end
section
variable {prog : Program} {w : World} {A : Around} {E : Value → Shared → Prop} {s : Shared} {h : Heap} {tk₀ : Nat} {p : Program} {loose : List Str} {mg mb : Str → Option Value} {h₀ : Heap} {st : LS} {r : Rg}
  {Ky : Type} [DecidableEq Ky] {T' : DT prog w (K1 w.params) Ky} {kvs : List (Ky × Value)} {k : Ky} {D : List (Ky × Rg)} {key val : Value}
end
inductive LawEnd (w : World) (g : Heap) (H : HA) (own : List (Addr × Obj)) (s : Shared) (fl : Flow) (s' : Shared) : Prop
  | mk (t : fl = .ret (.bool true)) (h' : Heap) (tk' : Nat) (es : s' = up s h' tk') (m' : Str → Option Value) (st' : LS) (S : St 39 175 w g H.L m' (st'.withEx (own ++ st'.ex)) h') (k : ∀ q ∈ H.kept, q ∈ st'.ex)
section
variable {prog : Program} {w : World} {A : Around} {E : Value → Shared → Prop} {s : Shared} {g h h' : Heap} {m m' m0 : Str → Option Value} {tk₀ tk : Nat} {p : Program} {loose : List Str} {mg mb : Str → Option Value} {h₀ : Heap} {st st1 : LS} {H : HA} {own : List (Addr × Obj)} {f : Addr} {cd : Value} {d : LD}
  {top top' : Int} {aft aft' : Option Int} {D : List (Nat × Rg)} {kvs kvs1 : List (Nat × Value)} {n n' : Nat} {L : Addr} {mean : ExcName → Option Value}
/-- the last loop -/
theorem end_loop {N : Nat} (ok : H.Ok) (S : St 39 175 w g H.L m (st.withEx (own ++ st.ex)) h) (X : (K1 w.params).In g) (T : TopRead p loose mg mb g) (hroom : A.depth + 20 < recursionLimit) (hu : A.units + 200 < cLine) (hh : A.handled = none) (hn : n ≤ 1000)
    (x : LE prog w H st m d D kvs n) (hN : d.R.length = N) : wpAny (model prog w) A (exec (nthS lawB 9) (lawE H.L f cd)) (NextP s (EndP prog w g H own n 0)) (fun _ _ => False) (up s h tk) := by
  have mr := x.mr
  obtain ⟨m0, top, aft, y⟩ := x.go
  have hln := y.ln
  have hlen := y.x.hR.length
  have hlr : h.IsList d.ra d.rs.toArray := isList_of (S.subO.exOf y.x.hr)
  refine for_k (n := N) (Pe := fun i v => IsI i v) (fun i st1 m1 => ∃ st0 d D kvs, st1 = st0.withEx (own ++ st0.ex) ∧ LE prog w H st0 m1 d D kvs n ∧ d.R.length = N - i) [] S rfl rfl rfl ?_ ⟨st, d, D, kvs, rfl, x, hN⟩ (fun _ _ _ _ q hq => nomatch hq) ?_ ?_ (by intro _; rfl) PassesOwn.never
  · refine Call_ (Pv.at (v := .type "range") (by (refine' Pv.builtinX (by assumption) (by assumption) (by assumption) ?heB rfl ?hnB rfl rfl ?hdB; (case heB => k_dflt k_is); (case hnB => decide); (case hdB => decide))) fun tk1 => ?_) rfl
    refine PyProof.Rows.callWith_type1 (spliced_more (PvE.at (P := IsI (N : Int)) (PvI.eq (PvI.lenL hlr (by omega) ?hfn ?ho rfl rfl rfl) (by rw [hlen, hN])) fun v tk2 hv => spliced_none ?_) rfl) rfl rfl
    case hfn => (refine' Pv.builtinX (by assumption) (by assumption) (by assumption) ?heB rfl ?hnB rfl rfl ?hdB; (case heB => k_dflt k_is); (case hnB => decide); (case hdB => decide))
    case ho => walk_at "px"
    obtain ⟨t, rfl⟩ := hv
    refine call_range_1 (s := up s h tk2) ?_
    exact wpAny_mono (sets_range (s := s) hh Grow.push (IsRange.new _ _ _ _ _ _ _) (by omega)) (fun _ _ z => z.toK) fun _ _ e => e
  · rintro i v m1 st1 own' h1 tk1 hi hv ⟨st0, d0, D0, kvs0, rfl, x0, e0⟩ S1
    have S1 : St 39 175 w g H.L (fun y => if y = "turn" then some v else m1 y) (st0.withEx ((own' ++ own) ++ st0.ex)) h1 := by rw [List.append_assoc]; exact S1
    refine wpAny_mono (end_turn (N := N - (i + 1)) ok S1 X T hroom hu hh hn (x0.names rfl rfl rfl) (by omega)) (fun fl s' hf => ?_) fun _ _ e => e
    obtain ⟨rfl, h2, tk2, rfl, m2, st2, d2, D2, kvs2, S2, x2, r2⟩ := hf
    exact ⟨h2, tk2, m2, st2.withEx (own ++ st2.ex), rfl, by rw [List.append_assoc] at S2; exact S2, st2, d2, D2, kvs2, rfl, x2, r2⟩
  · rintro m1 st1 h1 tk1 ⟨st0, d0, D0, kvs0, rfl, x0, e0⟩ S1
    exact ⟨rfl, h1, tk1, rfl, m1, st0, d0, D0, kvs0, S1, x0, by omega⟩
/-- the end of the law -/
theorem law_end (ok : H.Ok) (S : St 39 175 w g H.L m (st.withEx (own ++ st.ex)) h) (X : (K1 w.params).In g) (T : TopRead p loose mg mb g) (hroom : A.depth + 20 < recursionLimit) (hu : A.units + 200 < cLine) (hh : A.handled = none) (hn : n ≤ 1000)
    (x : LQ prog w H st m top aft d D kvs n) : wpAny (model prog w) A (execs (lawB.drop 9) (lawE H.L f cd)) (LawEnd w g H own s) (fun _ _ => False) (up s h tk) := by
  refine seqP (end_loop (N := d.R.length) ok S X T hroom hu hh hn x.toLE rfl) fun h1 tk1 P1 => ?_
  obtain ⟨m1, st1, d1, D1, kvs1, S1, x1, r1⟩ := P1
  have mc := x1.mc
  obtain ⟨m0, top, aft, y⟩ := x1.go
  have hln := y.ln
  refine wpAny_execs_cons ?_
  refine' ex_ ?_ rfl rfl
  refine' ev_m0 (f := 156) (x := st1.c) ?hpo S1.subO.cinst (X.keeps S1.F.keep) (pcL _) ?hf ?ht ?hkp rfl ?_ rfl
  case hpo => walk_at "px"
  ((case hf => k_dflt k_is); (case ht => k_dflt k_is); (case hkp => k_dflt k_is))
  intro tk2
  refine c_clear (b := 0) (lawHook prog w H ok) (S1.baseO X T) S1.repO (by omega) (by omega) y.C (by rw [y.kz]; omega) (y.cbs ok) (y.hok hn (by omega)) fun h2 tk3 st2 kvs2 C2 K2 => ?_
  have S2 := S1.afterO C2
  obtain ⟨ws, wn, y1⟩ := y.cutX ok K2.runs
  have e1 : d1.R = [] := List.eq_nil_of_length_eq_zero r1
  have Q2 : LQ prog w H st2 m0 top aft { d1 with ws := ws, wn := wn, Ew := d1.Ew ++ evsOf (d1.R.take (d1.R.length - 0)) } (D1.take 0) kvs2 n :=
    ⟨K2.C, y1, by show ([] : List _) = d1.R.reverse.map H.enc; rw [e1]; rfl, y.wy, by show d1.Ew ++ _ = d1.Ed; rw [e1, y.ev]; exact List.append_nil _, y.ln, y.t0, y.a0, (let ⟨t, e⟩ := y.mx; ⟨t, K2.fx.mx.trans e⟩), (by rw [K2.fx.af]; exact y.af), (by rw [K2.fx.c]; exact y.mc), y.mr, y.md, y.m1, y.m2, y.mt, y.mkp⟩
  have L2 : LE prog w H st2 m1 { d1 with ws := ws, wn := wn, Ew := d1.Ew ++ evsOf (d1.R.take (d1.R.length - 0)) } (D1.take 0) kvs2 n := ⟨⟨_, _, _, Q2⟩, by rw [K2.fx.c]; exact x1.mc, x1.mr, x1.md⟩
  refine wpAny_execs_cons ?_
  refine wpAny_Return_some (L2.alike ok S2 X T hroom hu hh hn fun h3 tk4 S3 => ?_)
  exact ⟨rfl, h3, tk4, rfl, m1, st2, S3, y1.kept⟩
end
section
variable {prog : Program} {w : World} {A : Around} {E : Value → Shared → Prop} {s : Shared} {h : Heap} {tk₀ : Nat} {p : Program} {loose : List Str} {mg mb : Str → Option Value} {h₀ : Heap} {st : LS} {r : Rg}
  {Ky : Type} [DecidableEq Ky] {T' : DT prog w (K1 w.params) Ky} {kvs : List (Ky × Value)} {k : Ky} {D : List (Ky × Rg)} {key val : Value}
end
section
variable {prog : Program} {CN CL : Addr} {w : World} {A : Around} {E : Value → Shared → Prop} {s : Shared} {g h h' : Heap} {L : Addr} {m : Str → Option Value} {tk₀ tk : Nat} {p : Program} {loose : List Str} {mg mb : Str → Option Value} {st : LS} {mean : ExcName → Option Value}
theorem updF_pre {d : Addr} {o : Obj} {r : List (Addr × Obj)} {gg : Obj → List (Addr × Obj)} (U : UpdF d o r gg) : ∀ {pre : List (Addr × Obj)}, (∀ q ∈ pre, q.1 ≠ d) → UpdF d o (pre ++ r) (fun o' => pre ++ gg o')
  | [], _ => U
  | q :: _, k => .tail (k q (.head _)) (updF_pre U fun q hq => k q (.tail _ hq))
theorem updF_ex {a : Addr} {o : Obj} {pre post : List (Addr × Obj)} (P : Params) (wf : (addrs st).Nodup) (hm : st.ex = pre ++ (a, o) :: post) : UpdF a o (ledger CN CL P st) (fun o' => ledger CN CL P (st.withEx (pre ++ (a, o') :: post))) := by
  obtain ⟨h1, h2, h3, h4, h5, h6⟩ := addrs_off wf hm
  have e : ledger CN CL P st = [(st.c, instObj CL st.dc), (st.dc, dictOf (cacheEs P st.ct st.dd st.mru st.lru st.mx st.af) 5), (st.dd, st.od)] ++ (nodeL CN P st.F st.reg ++ (pre ++ (a, o) :: post)) := by unfold ledger; rw [hm]; rfl
  rw [e]
  refine updF_pre (updF_pre (updF_pre (.head fun q hq => h6 q hq) fun q hq => h5 q hq) fun q hq e => h4 ?_) fun q hq => ?_
  · rw [← e, ← nodeL_addrs CN P st.F st.reg]; exact List.mem_map_of_mem hq
  · simp only [List.mem_cons, List.not_mem_nil, or_false] at hq
    rcases hq with rfl | rfl | rfl
    · exact Ne.symm h1
    · exact Ne.symm h2
    · exact Ne.symm h3
/-- a def in the frame -/
theorem St.nest {name qual cn : Str} {cs : Scope} {a c P : Addr} {ccd : Value} {cl clos : List (Str × Addr)} {params : Arguments} {body : List Stmt} {scope : Scope} {ps : Array Value} {pos : Pos} {fl : Nat} {Q : Value → Shared → Prop}
    (S : St CN CL w g L m st h) (T : Top p loose mean mg mb g) (C : CodeHd g c P) (hcd : ccd = .ref c) (hm : (P, tabObj ps) ∈ st.ex) (ht : TriplesOk ps.toList) (hnf : codeAmong pos ps.toList = none)
    (hcl : closureFor scope (envX cn cs L a ccd cl) = pure clos)
    (q : ∀ f c' oc vs t ctv doc ex' h' (tk' : Nat), St CN CL w g L m (st.withEx ((f, fnMade name qual params body scope clos doc ((mg "__name__").getD .none) c' ctv) :: (c', oc) :: ex')) h' →
      (P, tabObj (ps ++ #[rawInt pos.line, rawInt pos.col, .ref c'])) ∈ ex' → (∀ q ∈ st.ex, q.1 ≠ P → q ∈ ex') → oc.data = .fields vs → vs[1]? = some (.str qual t) → Q (.ref f) (up s h' tk')) :
    wpAny (model prog w) A (makeFunction name qual params (.stmts body) scope (envX cn cs L a ccd cl) [] [] [] pos fl) Q E (up s h tk) := by
  obtain ⟨pre, post, e⟩ := List.append_of_mem hm
  refine nest_K (s := up s h tk) S.F S.N T C hcd (updF_ex (CN := CN) (CL := CL) w.params S.wf e) ht hnf hcl fun f c' oc vs t ctv doc h1 tk1 F1 N1 hd hv hlt hlt2 => ?_
  refine q f c' oc vs t ctv doc (pre ++ (P, tabObj (ps ++ #[rawInt pos.line, rawInt pos.col, .ref c'])) :: post) h1 tk1 ⟨F1, fun q hq => N1 q ?_, ?_, ⟨S.ok.F, S.ok.mru, S.ok.lru, S.ok.mx, S.ok.af⟩⟩ (List.mem_append_right _ (.head _)) (fun q hq hne => ?_) hd hv
  · unfold ledger LS.withEx at hq
    unfold ledger LS.withEx
    simp only [List.mem_cons, List.mem_append] at hq ⊢
    rcases hq with h | h | h | h | h | h | h
    · exact .inr (.inr (.inl h))
    · exact .inr (.inr (.inr (.inl h)))
    · exact .inr (.inr (.inr (.inr (.inl h))))
    · exact .inr (.inr (.inr (.inr (.inr (.inl h)))))
    · exact .inl h
    · exact .inr (.inl h)
    · exact .inr (.inr (.inr (.inr (.inr (.inr h)))))
  · have w1 : (addrs (st.withEx (pre ++ (P, tabObj (ps ++ #[rawInt pos.line, rawInt pos.col, .ref c'])) :: post))).Nodup := wf_ex S.wf e
    have lt1 : ∀ b ∈ addrs (st.withEx (pre ++ (P, tabObj (ps ++ #[rawInt pos.line, rawInt pos.col, .ref c'])) :: post)), b < c' := fun b hb => by
      have : addrs (st.withEx (pre ++ (P, tabObj (ps ++ #[rawInt pos.line, rawInt pos.col, .ref c'])) :: post)) = addrs st := by
        unfold addrs LS.withEx; simp [e]
      rw [this, ← ledger_addrs CN CL w.params] at hb
      obtain ⟨q, hq, rfl⟩ := List.mem_map.mp hb
      exact hlt q hq
    have pm : (addrs (st.withEx ((f, fnMade name qual params body scope clos doc ((mg "__name__").getD .none) c' ctv) :: (c', oc) :: (pre ++ (P, tabObj (ps ++ #[rawInt pos.line, rawInt pos.col, .ref c'])) :: post)))).Perm (f :: c' :: addrs (st.withEx (pre ++ (P, tabObj (ps ++ #[rawInt pos.line, rawInt pos.col, .ref c'])) :: post))) := by
      unfold addrs LS.withEx
      show ([st.c, st.dc, st.dd] ++ (regAddrs st.reg ++ ([f, c'] ++ (pre ++ (P, tabObj (ps ++ #[rawInt pos.line, rawInt pos.col, .ref c'])) :: post).map (·.1)))).Perm ([f, c'] ++ ([st.c, st.dc, st.dd] ++ (regAddrs st.reg ++ (pre ++ (P, tabObj (ps ++ #[rawInt pos.line, rawInt pos.col, .ref c'])) :: post).map (·.1))))
      generalize (pre ++ (P, tabObj (ps ++ #[rawInt pos.line, rawInt pos.col, .ref c'])) :: post).map (·.1) = Y
      generalize [st.c, st.dc, st.dd] = Z
      generalize regAddrs st.reg = R
      generalize [f, c'] = X
      rw [← List.append_assoc R X Y, ← List.append_assoc Z, ← List.append_assoc Z R Y, ← List.append_assoc X]
      refine List.Perm.append_right Y ?_
      rw [← List.append_assoc Z R X]
      exact List.perm_append_comm
    rw [pm.nodup_iff, List.nodup_cons, List.nodup_cons]
    refine ⟨fun hb => ?_, fun hb => Nat.lt_irrefl _ (lt1 _ hb), w1⟩
    rcases List.mem_cons.mp hb with rfl | hb
    · exact Nat.lt_irrefl _ hlt2
    · exact Nat.lt_irrefl _ (Nat.lt_trans hlt2 (lt1 _ hb))
  · rw [e] at hq
    rcases List.mem_append.mp hq with hq | hq
    · exact List.mem_append_left _ hq
    · rcases List.mem_cons.mp hq with rfl | hq
      · exact absurd rfl hne
      · exact List.mem_append_right _ (.tail _ hq)
end
section
variable {prog : Program} {w : World} {A : Around} {E : Value → Shared → Prop} {s : Shared} {h : Heap} {tk₀ : Nat} {p : Program} {loose : List Str} {mg mb : Str → Option Value} {h₀ : Heap} {st : LS} {r : Rg}
  {Ky : Type} [DecidableEq Ky] {T' : DT prog w (K1 w.params) Ky} {kvs : List (Ky × Value)} {k : Ky} {D : List (Ky × Rg)} {key val : Value}
end
section
variable {prog : Program} {w : World} {A : Around} {E : Value → Shared → Prop} {s : Shared} {g h h' : Heap} {m m' : Str → Option Value} {tk₀ tk : Nat} {p : Program} {loose : List Str} {mg mb : Str → Option Value} {L f : Addr} {cd : Value} {news : List (Addr × Obj)}
/-- a frame's name is set, the cache not being there -/
theorem storeN {x cn : Str} {cs : Scope} {cl : List (Str × Addr)} {v : Value} {Q : Unit → Shared → Prop} (F : Fr g L h m) (N : News g L h news)
    (q : ∀ h' (tk' : Nat), Fr g L h' (fun y => if y = x then some v else m y) → News g L h' news → Q () (up s h' tk')) (hk : cs.kind = .function) (hl : (envX cn cs L f cd cl).kindOf x = some .local) :
    wpAny (model prog w) A (storeName (envX cn cs L f cd cl) x v) Q E (up s h tk) :=
  wpAny_storeName_local (s := up s h tk) hl F.ns (fun h' hn hs => q h' _ (F.set hn hs) (N.set hs)) (by show (cs.kind == .class || (cs.kind == .module && L != mainGlobals)) = false; rw [hk]; rfl)
theorem lead_of {l : Addr} {vs : List Value} {ns : List Int} {p1 p2 p3 p4 p5 p6 : Pos} {k1 k2 : Nat} (F : Fr g L h m) (ms : m "script" = some (.ref l)) (hl : h.IsList l vs.toArray) (hI : IntsAre vs ns) (hz : ns.length ≤ 63) :
    ∃ n, PvI prog w A (lawE L f cd) (.IfExp (.Name "script" p1) (.Subscript (.Name "script" p2) (.Constant (.int 0) k1 p3) p4) (.Constant (.int 0) k2 p5) p6) n h := by
  have hlen := hI.length
  have hn : ∀ p, Pv prog w A (lawE L f cd) (.Name "script" p) (.ref l) h := fun p s Q E hs q => by subst hs; exact nameX_L F ms (q s.toks) rfl rfl (by decide)
  cases vs with
  | nil =>
    refine ⟨0, fun s Q E hs q => ?_⟩
    subst hs
    refine wpAny_IfExp (isTrue_plain ((hn _).at (s := s) (tk := s.toks) fun tk1 => wpAny_truthy_list (s := up s s.heap tk1) hl (by decide) ?_) rfl)
    rw [if_neg (by decide)]
    exact wpAny_Constant_int (q _ _ ⟨_, rfl⟩)
  | cons v0 vs0 =>
    obtain ⟨a0, t0, rfl⟩ := hI.all v0 (.head _)
    refine ⟨a0, fun s Q E hs q => ?_⟩
    subst hs
    refine wpAny_IfExp (isTrue_plain ((hn _).at (s := s) (tk := s.toks) fun tk1 => wpAny_truthy_list (s := up s s.heap tk1) hl (by rw [List.size_toArray]; omega) ?_) rfl)
    rw [if_pos (by simp)]
    exact Pv.itemL (its := .int a0 t0 :: vs0) (i := 0) hl (hn _) PvI.const rfl (by omega) (by intro _; with_unfolding_all rfl) (by intro _; with_unfolding_all rfl) _ _ _ rfl fun tk => q _ _ ⟨t0, rfl⟩
end
inductive LimP (g : Heap) (L : Addr) (news : List (Addr × Obj)) (l : Addr) (h' : Heap) : Prop
  | mk (m' : Str → Option Value) (n : Int) (t1 t2 : Tok) (va : Value) (F : Fr g L h' m') (N : News g L h' news) (ms : m' "script" = some (.ref l)) (mt : m' "top" = some (.int (topOf n) t1)) (ma : m' "after" = some va) (mk' : m' "keep" = some (.int (keepOf (topOf n) (aftOf n)) t2)) (hva : IsO (aftOf n) va)
section
variable {prog : Program} {w : World} {A : Around} {E : Value → Shared → Prop} {s : Shared} {g h h' : Heap} {m m' : Str → Option Value} {tk₀ tk : Nat} {p : Program} {loose : List Str} {mg mb : Str → Option Value} {L f : Addr} {cd : Value} {news : List (Addr × Obj)}
/-- lead, then the limits -/
theorem law_lims {l : Addr} {vs : List Value} {ns : List Int} {Q : Flow → Shared → Prop} (F : Fr g L h m) (N : News g L h news) (X : (K1 w.params).In g) (T : TopRead p loose mg mb g) (hroom : A.depth + 20 < recursionLimit) (hu : A.units + 200 < cLine) (hh : A.handled = none)
    (hl : g.IsList l vs.toArray) (hI : IntsAre vs ns) (hz : ns.length ≤ 63) (ms : m "script" = some (.ref l))
    (q : ∀ h' (tk' : Nat), LimP g L news l h' → wpAny (model prog w) A (execs (lawB.drop 2) (lawE L f cd)) Q E (up s h' tk')) :
    wpAny (model prog w) A (execs lawB (lawE L f cd)) Q E (up s h tk) := by
  obtain ⟨n, hn⟩ := lead_of (prog := prog) (w := w) (A := A) (f := f) (cd := cd) (p1 := { line := 180, col := 24, endLine := 180, endCol := 30 }) F ms (hl.at fun o e => F.keep _ _ e) hI hz
  refine wpAny_execs_cons (wpAny_Assign_Name (PvE.at (hn) fun v tk1 hv => storeN F N (fun h1 tk2 F1 N1 => ?_) rfl rfl) rfl)
  obtain ⟨tl, rfl⟩ := hv
  obtain ⟨m1, F1, ml1, ms1⟩ : ∃ m1, Fr g L h1 m1 ∧ m1 "lead" = some (.int n tl) ∧ m1 "script" = some (.ref l) := ⟨_, F1, rfl, ms⟩
  refine wpAny_execs_cons (Assign_Tuple ?_ rfl rfl)
  refine Call_ (nameX_K (s := up s h1 tk2) (v := .ref 195) F1 X T (by k_is) ?_ rfl rfl (by decide)) rfl
  refine callWith_K X (by k_dflt k_is) (spliced_more (nameX_L (s := up s h1 tk2) F1 ml1 (spliced_none ⟨X.keeps F1.keep, ?_⟩) rfl rfl (by decide)) rfl) rfl rfl
  refine c_lim X T F1.keep (by omega) (by omega) hh fun h2 tk3 a t1 t2 va G2 ha0 ha hva => ?_
  have F2 := F1.keeps G2
  have N2 := N1.grown G2
  refine wpAny_assign_Tuple (s := up s h2 tk3) hh (isTup_of ha) rfl rfl fun h3 he3 => ?_
  have G3 : Grow h2 h3 := fun c o e => he3 c o (Nat.ne_of_lt (Heap.lt_size e)) e
  show wpAny _ _ (assignInOrder [assign (.Name "top" _) _, assign (.Name "after" _) _, assign (.Name "keep" _) _] [.int (topOf n) t1, va, .int (keepOf (topOf n) (aftOf n)) t2]) _ _ (up s h3 tk3)
  refine assignInOrder_cons (wpAny_assign_Name (storeN (F2.keeps G3) (N2.grown G3) (fun h4 tk4 F4 N4 => ?_) rfl rfl))
  refine assignInOrder_cons (wpAny_assign_Name (storeN F4 N4 (fun h5 tk5 F5 N5 => ?_) rfl rfl))
  refine assignInOrder_cons (wpAny_assign_Name (storeN F5 N5 (fun h6 tk6 F6 N6 => ?_) rfl rfl))
  exact assignInOrder_nil (q h6 tk6 ⟨_, n, t1, t2, va, F6, N6, ms1, rfl, rfl, rfl, hva⟩)
end
section
variable {prog : Program} {w : World} {A : Around} {E : Value → Shared → Prop} {s : Shared} {h : Heap} {tk₀ : Nat} {p : Program} {loose : List Str} {mg mb : Str → Option Value} {h₀ : Heap} {st : LS} {r : Rg}
  {Ky : Type} [DecidableEq Ky] {T' : DT prog w (K1 w.params) Ky} {kvs : List (Ky × Value)} {k : Ky} {D : List (Ky × Rg)} {key val : Value}
end
/-- the cache and the lists are made -/
inductive MadeP (prog : Program) (w : World) (g : Heap) (L : Addr) (l : Addr) (o1 o2 : Obj) (h' : Heap) : Prop
  | mk (m' : Str → Option Value) (st : LS) (n : Int) (t1 t2 tm : Tok) (va : Value) (ra da wa : Addr) (ow : Obj) (S : St 39 175 w g L m' st h') (C : Cst (TK prog w) st [] []) (mx : st.mx = .int (topOf n) tm) (af : IsI (keepOf (topOf n) (aftOf n)) st.af)
    (ms : m' "script" = some (.ref l)) (mt : m' "top" = some (.int (topOf n) t1)) (mk' : m' "keep" = some (.int (keepOf (topOf n) (aftOf n)) t2)) (mc : m' "cache" = some (.ref st.c)) (mr : m' "rows" = some (.ref ra)) (md : m' "due" = some (.ref da))
    (x1 : (L + 1, o1) ∈ st.ex) (x2 : (L + 2, o2) ∈ st.ex) (x3 : (L + 3, ow) ∈ st.ex) (xt : (209, tabObj #[]) ∈ st.ex) (xr : (ra, listOf ([] : List Value).toArray 0) ∈ st.ex) (xd : (da, listOf ([] : List Value).toArray 0) ∈ st.ex) (xw : (wa, listOf ([] : List Value).toArray 0) ∈ st.ex)
    (hw : ow.data = .cell (some (.ref wa))) (n1 : ra ≠ da) (n2 : ra ≠ wa) (n3 : da ≠ wa)
section
variable {prog : Program} {w : World} {A : Around} {E : Value → Shared → Prop} {s : Shared} {g h h' : Heap} {m m' : Str → Option Value} {tk₀ tk : Nat} {p : Program} {loose : List Str} {mg mb : Str → Option Value} {L f : Addr} {cd : Value}
theorem law_made {l : Addr} {o1 o2 o3 : Obj} {Q : Flow → Shared → Prop} (P : LimP g L [(L + 3, o3), (L + 2, o2), (L + 1, o1), (209, tabObj #[])] l h) (X : (K1 w.params).In g) (T : TopRead p loose mg mb g) (hroom : A.depth + 20 < recursionLimit) (hu : A.units + 200 < cLine) (hh : A.handled = none)
    (d1 : o1.data = .cell none) (d2 : o2.data = .cell none) (d3 : o3.data = .cell none)
    (q : ∀ h' (tk' : Nat), MadeP prog w g L l o1 o2 h' → wpAny (model prog w) A (execs (lawB.drop 6) (lawE L f cd)) Q E (up s h' tk')) :
    wpAny (model prog w) A (execs (lawB.drop 2) (lawE L f cd)) Q E (up s h tk) := by
  obtain ⟨m1, n, t1, t2, va, F1, N1, ms, mt, ma, mkp, hva⟩ := P
  have n3 : h.get? (L + 3) = some o3 := (N1 _ (.head _)).1
  have n2 : h.get? (L + 2) = some o2 := (N1 _ (.tail _ (.head _))).1
  have n1 : h.get? (L + 1) = some o1 := (N1 _ (.tail _ (.tail _ (.head _)))).1
  have n0 : h.get? 209 = some (tabObj #[]) := (N1 _ (.tail _ (.tail _ (.tail _ (.head _))))).1
  have df : ∀ (a b : Addr) (x y : Obj), h.get? a = some x → h.get? b = some y → x.data ≠ y.data → a ≠ b := fun a b x y e1 e2 hd e => by
    rw [e, e2] at e1; exact hd (by rw [Option.some.inj e1])
  have hnd : (([(L + 3, o3), (L + 2, o2), (L + 1, o1), (209, tabObj #[])] : List (Addr × Obj)).map (·.1)).Nodup := by
    have a3 := df _ _ _ _ n3 n0 (by rw [d3]; nofun)
    have a2 := df _ _ _ _ n2 n0 (by rw [d2]; nofun)
    have a1 := df _ _ _ _ n1 n0 (by rw [d1]; nofun)
    have e1 : L + 3 ≠ L + 2 := fun e => absurd (Nat.add_left_cancel (show (L : Nat) + 3 = L + 2 from e)) (by decide)
    have e2 : L + 3 ≠ L + 1 := fun e => absurd (Nat.add_left_cancel (show (L : Nat) + 3 = L + 1 from e)) (by decide)
    have e3 : L + 2 ≠ L + 1 := fun e => absurd (Nat.add_left_cancel (show (L : Nat) + 2 = L + 1 from e)) (by decide)
    simp only [List.map_cons, List.map_nil, List.nodup_cons, List.mem_cons, List.not_mem_nil, or_false, not_or]
    exact ⟨⟨e1, e2, a3⟩, ⟨e3, a2⟩, a1, fun h => h.elim, List.nodup_nil⟩
  refine wpAny_execs_cons (wpAny_Assign_Name ?_ rfl)
  refine Call_ (nameX_K (s := up s h tk) (v := .ref 175) F1 X T (by k_is) ?_ rfl rfl (by decide)) rfl
  refine callWith_K X (by k_dflt k_is) (spliced_more (nameX_L (s := up s h tk) F1 mt (spliced_more (nameX_L (s := up s h tk) F1 ma (spliced_none ⟨X.keeps F1.keep, ?_⟩) rfl rfl (by decide)) rfl) rfl rfl (by decide)) rfl) rfl rfl
  refine c_new (T' := TK prog w) F1 N1 hnd X T (by omega) (by omega) hh topOf_nonneg hva (fun i e => aftOf_nonneg e) fun h2 tk2 st S2 C2 ex2 mx2 af2 => ?_
  refine storeX S2 (fun h3 tk3 S3 => ?_) rfl rfl
  show wpAny _ _ (execs _ _) _ _ (up s h3 tk3)
  obtain ⟨m3, S3, ms3, mt3, mk3, mc3⟩ : ∃ m3, St 39 175 w g L m3 st h3 ∧ m3 "script" = some (.ref l) ∧ m3 "top" = some (.int (topOf n) t1) ∧ m3 "keep" = some (.int (keepOf (topOf n) (aftOf n)) t2) ∧ m3 "cache" = some (.ref st.c) := ⟨_, S3, ms, mt, mkp, rfl⟩
  refine wpAny_execs_cons ?_
  refine as_nameX S3 PvG.list0 (fun v h4 tk4 hv G4 h5 tk5 toS => ?_) rfl rfl rfl
  obtain ⟨ra, rfl, ra0, ra1⟩ := hv
  have S5 := toS _ (S3.addE G4 ra0 ra1)
  clear toS
  obtain ⟨ex5, e5⟩ : ∃ ex5, st.ex ++ [(ra, listOf ([] : List Value).toArray 0)] = ex5 := ⟨_, rfl⟩
  rw [e5] at S5
  refine wpAny_execs_cons ?_
  refine as_nameX S5 PvG.list0 (fun v h6 tk6 hv G6 h7 tk7 toS => ?_) rfl rfl rfl
  obtain ⟨da, rfl, da0, da1⟩ := hv
  have S7 := toS _ (S5.addE G6 da0 da1)
  clear toS
  obtain ⟨ex7, e7⟩ : ∃ ex7, ex5 ++ [(da, listOf ([] : List Value).toArray 0)] = ex7 := ⟨_, rfl⟩
  have S7 : St 39 175 w g L (fun y => if y = "due" then some (.ref da) else if y = "rows" then some (.ref ra) else m3 y) (st.withEx ex7) h7 := by rw [← e7]; exact S7
  have in7 : ∀ q ∈ ex5, q ∈ ex7 := fun q hq => by rw [← e7]; exact List.mem_append_left _ hq
  have in5 : ∀ q ∈ [(L + 3, o3), (L + 2, o2), (L + 1, o1), (209, tabObj #[])], q ∈ ex5 := fun q hq => by rw [← e5, ex2]; exact List.mem_append_left _ hq
  have mra : (ra, listOf ([] : List Value).toArray 0) ∈ ex5 := by rw [← e5]; exact List.mem_append_right _ (.head _)
  have mda : (da, listOf ([] : List Value).toArray 0) ∈ ex7 := by rw [← e7]; exact List.mem_append_right _ (.head _)
  have nrd : ra ≠ da := fun e => by
    have := S5.exOf (st := st.withEx ex5) mra
    rw [e, da0] at this; cases this
  refine wpAny_execs_cons ?_
  refine as_cellG (c := L + 3) (o := o3) S7 PvG.list0 rfl (in7 _ (in5 _ (.head _))) d3 (fun v h8 tk8 hv G8 h9 o' hs ho hd => ?_) rfl rfl rfl
  obtain ⟨wa, rfl, wa0, wa1⟩ := hv
  have S8 := S7.addE G8 wa0 wa1
  have nrw : ra ≠ wa := fun e => by
    have := S7.exOf (st := st.withEx ex7) (in7 _ mra)
    rw [e, wa0] at this; cases this
  have ndw : da ≠ wa := fun e => by
    have := S7.exOf (st := st.withEx ex7) mda
    rw [e, wa0] at this; cases this
  obtain ⟨ex9, S9, m9, E9⟩ := S8.setE (List.mem_append_left _ (in7 _ (in5 _ (.head _)))) hs ho
  have k9 : ∀ (a : Addr) (o : Obj), (a, o) ∈ ex7 ++ [(wa, listOf ([] : List Value).toArray 0)] → o.data ≠ o3.data → (a, o) ∈ ex9 := fun a o hq hdd => E9.chg _ hq fun e => by
    have e1 := S8.exOf (st := (st.withEx ex7).withEx (ex7 ++ [(wa, listOf ([] : List Value).toArray 0)])) hq
    have e2 := S8.exOf (st := (st.withEx ex7).withEx (ex7 ++ [(wa, listOf ([] : List Value).toArray 0)])) (List.mem_append_left _ (in7 _ (in5 _ (.head _))))
    rw [show a = L + 3 from List.mem_singleton.mp e, e2] at e1
    exact hdd (by rw [Option.some.inj e1])
  have in8 : ∀ q ∈ ex7, q ∈ ex7 ++ [(wa, listOf ([] : List Value).toArray 0)] := fun q hq => List.mem_append_left _ hq
  have e32 : L + 2 ≠ L + 3 := fun e => absurd (Nat.add_left_cancel (show (L : Nat) + 2 = L + 3 from e)) (by decide)
  have e31 : L + 1 ≠ L + 3 := fun e => absurd (Nat.add_left_cancel (show (L : Nat) + 1 = L + 3 from e)) (by decide)
  exact q h9 tk8 ⟨_, st.withEx ex9, n, t1, t2, t1, va, ra, da, wa, o', S9, C2.withEx, mx2, af2, ms3, mt3, mk3, mc3, rfl, rfl,
    E9.chg _ (in8 _ (in7 _ (in5 _ (.tail _ (.tail _ (.head _)))))) fun e => e31 (List.mem_singleton.mp e), E9.chg _ (in8 _ (in7 _ (in5 _ (.tail _ (.head _))))) fun e => e32 (List.mem_singleton.mp e), m9,
    k9 _ _ (in8 _ (in7 _ (in5 _ (.tail _ (.tail _ (.tail _ (.head _))))))) (by rw [d3]; nofun), k9 _ _ (in8 _ (in7 _ mra)) (by rw [d3]; nofun), k9 _ _ (in8 _ mda) (by rw [d3]; nofun), k9 _ _ (List.mem_append_right _ (.head _)) (by rw [d3]; nofun), hd, nrd, nrw, ndw⟩
end
section
variable {prog : Program} {w : World} {A : Around} {E : Value → Shared → Prop} {s : Shared} {h : Heap} {tk₀ : Nat} {p : Program} {loose : List Str} {mg mb : Str → Option Value} {h₀ : Heap} {st : LS} {r : Rg}
  {Ky : Type} [DecidableEq Ky] {T' : DT prog w (K1 w.params) Ky} {kvs : List (Ky × Value)} {k : Ky} {D : List (Ky × Rg)} {key val : Value}
end
section
variable {prog : Program} {w : World} {A : Around} {E : Value → Shared → Prop} {s : Shared} {g h h' : Heap} {m m' : Str → Option Value} {tk₀ tk : Nat} {p : Program} {loose : List Str} {mg mb : Str → Option Value} {L f : Addr} {cd : Value} {mean : ExcName → Option Value} {own : List (Addr × Obj)}
example : qualnameIn (lawE L f cd) "first" "first" = "law.<locals>.first" := rfl
inductive BegP (prog : Program) (w : World) (g : Heap) (L : Addr) (l : Addr) (h' : Heap) : Prop
  | mk (H : HA) (hL : H.L = L) (ok : H.Ok) (ps : Array Value) (hx : (209, tabObj ps) ∈ H.kept) (m' : Str → Option Value) (st : LS) (top : Int) (aft : Option Int) (d : LD) (S : St 39 175 w g L m' st h') (x : LQ prog w H st m' top aft d [] [] 0) (ms : m' "script" = some (.ref l))
theorem St.ne1 {q : Addr × Obj} {ex : List (Addr × Obj)} {CN CL : Addr} {st : LS} (S : St CN CL w g L m (st.withEx (q :: ex)) h) : ∀ r ∈ ex, r.1 ≠ q.1 := (addrs_off (st := st.withEx (q :: ex)) (pre := []) (post := ex) S.wf rfl).2.2.2.2.2
theorem St.ne2 {q r : Addr × Obj} {ex : List (Addr × Obj)} {CN CL : Addr} {st : LS} (S : St CN CL w g L m (st.withEx (q :: r :: ex)) h) : ∀ x ∈ ex, x.1 ≠ r.1 := (addrs_off (st := st.withEx (q :: r :: ex)) (pre := [q]) (post := ex) S.wf rfl).2.2.2.2.2
theorem St.neD {a b : Addr} {x y : Obj} {CN CL : Addr} {st : LS} (S : St CN CL w g L m st h) (h1 : (a, x) ∈ st.ex) (h2 : (b, y) ∈ st.ex) (hd : x.data ≠ y.data) : a ≠ b := fun e => by
  have e1 := S.exOf h1
  have e2 := S.exOf h2
  rw [e, e2] at e1
  exact hd (by rw [Option.some.inj e1])
theorem law_defs {l : Addr} {o1 o2 : Obj} {Q : Flow → Shared → Prop} (P : MadeP prog w g L l o1 o2 h) (TT : Top p loose mean mg mb g) (hcd : cd = .ref 211) (C : CodeHd g 211 209)
    (d1 : o1.data = .cell none) (d2 : o2.data = .cell none)
    (q : ∀ h' (tk' : Nat), BegP prog w g L l h' → wpAny (model prog w) A (execs (lawB.drop 8) (lawE L f cd)) Q E (up s h' tk')) :
    wpAny (model prog w) A (execs (lawB.drop 6) (lawE L f cd)) Q E (up s h tk) := by
  obtain ⟨m1, st, n, t1, t2, tm, va, ra, da, wa, ow, S, C0, mx, af, ms, mt, mkp, mc, mr, md, x1, x2, x3, xt, xr, xd, xw, hw, n1, n2, n3⟩ := P
  refine wpAny_execs_cons ?_
  refine nestDef_K rfl rfl rfl ?_
  refine S.nest TT C hcd xt True.intro rfl rfl fun f1 c1 k1 vs1 tq1 ctv1 doc1 ex1 h1 tk1 S1 xt1 ke1 hd1 hv1 => ?_
  refine storeX S1 (fun h2 tk2 S2 => ?_) rfl rfl
  show wpAny _ _ (execs _ _) _ _ (up s h2 tk2)
  refine wpAny_execs_cons ?_
  refine nestDef_K rfl rfl rfl ?_
  refine S2.nest TT C hcd (.tail _ (.tail _ xt1)) ?ht ?hn rfl fun f2 c2 k2 vs2 tq2 ctv2 doc2 ex2 h3 tk3 S3 xt2 ke2 hd2 hv2 => ?_
  case ht => simp [TriplesOk, rawInt]
  case hn => simp [codeAmong, rawInt]
  refine storeX S3 (fun h4 tk4 S4 => ?_) rfl rfl
  show wpAny _ _ (execs _ _) _ _ (up s h4 tk4)
  have b1 : ∀ (a : Addr) (o : Obj), (a, o) ∈ st.ex → o.data ≠ (tabObj #[]).data → (a, o) ∈ ex1 := fun a o hq hd => ke1 _ hq (S.neD hq xt hd)
  have b2 : ∀ (a : Addr) (o : Obj), (a, o) ∈ ex1 → a ≠ 209 → (a, o) ∈ ex2 := fun a o hq hne => ke2 _ (.tail _ (.tail _ hq)) hne
  have xt1' := xt1
  have b3 : ∀ (a : Addr) (o : Obj), (a, o) ∈ st.ex → o.data ≠ (tabObj #[]).data → (a, o) ∈ ex2 := fun a o hq hd => b2 a o (b1 a o hq hd) (S.neD hq xt hd)
  have mf1 : (f1, _) ∈ ex2 := ke2 _ (.head _) (fun e => S2.ne1 _ (.tail _ xt1) e.symm)
  have mc1 : (c1, k1) ∈ ex2 := ke2 _ (.tail _ (.head _)) (fun e => S2.ne2 _ xt1 e.symm)
  obtain ⟨O1, eO1⟩ : ∃ O1, fnMade "first" "law.<locals>.first" (fnP (nthS lawB 6)) (fnB (nthS lawB 6)) (fnS (nthS lawB 6)) [("written", L + 3)] doc1 ((mg "__name__").getD .none) c1 ctv1 = O1 := ⟨_, rfl⟩
  obtain ⟨O2, eO2⟩ : ∃ O2, fnMade "second" "law.<locals>.second" (fnP (nthS lawB 7)) (fnB (nthS lawB 7)) (fnS (nthS lawB 7)) [("written", L + 3)] doc2 ((mg "__name__").getD .none) c2 ctv2 = O2 := ⟨_, rfl⟩
  have mf1 : (f1, O1) ∈ ex2 := by rw [← eO1]; exact mf1
  have S4 : St 39 175 w g L (fun y => if y = "second" then some (.ref f2) else if y = "first" then some (.ref f1) else m1 y) (st.withEx ((f2, O2) :: (c2, k2) :: ex2)) h4 := by rw [← eO2]; exact S4
  obtain ⟨ps2, eps⟩ : ∃ ps2, (209, tabObj ps2) ∈ ex2 := ⟨_, xt2⟩
  have dO1 : ∃ fd, O1.data = .func fd := ⟨_, by rw [← eO1]⟩
  have dO2 : ∃ fd, O2.data = .func fd := ⟨_, by rw [← eO2]⟩
  obtain ⟨fd1, dO1⟩ := dO1
  obtain ⟨fd2, dO2⟩ := dO2
  have up2 : ∀ q ∈ ex2, q ∈ (f2, O2) :: (c2, k2) :: ex2 := fun q hq => .tail _ (.tail _ hq)
  have r1 := up2 _ (b3 _ _ x1 (by rw [d1]; nofun))
  have r2 := up2 _ (b3 _ _ x2 (by rw [d2]; nofun))
  have r3 := up2 _ (b3 _ _ x3 (by rw [hw]; nofun))
  have rr := up2 _ (b3 _ _ xr (by nofun))
  have rd := up2 _ (b3 _ _ xd (by nofun))
  have rw' := up2 _ (b3 _ _ xw (by nofun))
  have q1 := up2 _ mf1
  have q2 := up2 _ mc1
  have q3 := up2 _ eps
  have sq : ∀ n, (listOf ([] : List Value).toArray n).data = .seq #[] n := fun _ => rfl
  refine q h4 tk4 ⟨⟨L, da, wa, f1, c1, f2, c2, ow, O1, k1, O2, k2, [(209, tabObj ps2)]⟩, rfl, ⟨hw, ⟨doc1, _, ctv1, vs1, tq1, eO1.symm, hd1, hv1⟩, ⟨doc2, _, ctv2, vs2, tq2, eO2.symm, hd2, hv2⟩, ?kd, n3, ⟨?a1, ?a2⟩, ⟨?a3, ?a4⟩, ?f12⟩, ps2, .tail _ (.tail _ (.tail _ (.tail _ (.tail _ (.head _))))), _, _, topOf n, aftOf n, ⟨ra, [], 0, [], 0, [], 0, [], [], []⟩, S4, ⟨C0.withEx, ⟨rr, .nil, rd, .nil, rw', .nil, ?kept, n1, n2, ?a5, ?a6, ⟨o1, _, r1, d1⟩, ⟨o2, _, r2, d2⟩⟩, rfl, (fun r hr => nomatch hr), rfl, Nat.le_refl _, topOf_nonneg, (fun i e => aftOf_nonneg e), ⟨_, mx⟩, af, mc, mr, md, rfl, rfl, ⟨_, mt, t1, rfl⟩, ⟨_, mkp, t2, rfl⟩⟩, ms⟩
  case a1 => exact S4.neD rd r1 (by rw [d1]; nofun)
  case a2 => exact S4.neD rd r2 (by rw [d2]; nofun)
  case a3 => exact S4.neD rw' r1 (by rw [d1]; nofun)
  case a4 => exact S4.neD rw' r2 (by rw [d2]; nofun)
  case a5 => exact S4.neD rr r1 (by rw [d1]; nofun)
  case a6 => exact S4.neD rr r2 (by rw [d2]; nofun)
  case f12 => exact S4.ne1 _ (.tail _ mf1)
  case kept =>
    intro q hq
    simp only [HA.kept, List.mem_cons, List.not_mem_nil, or_false] at hq
    rcases hq with rfl | rfl | rfl | rfl | rfl | rfl
    · exact r3
    · exact q1
    · exact q2
    · exact .head _
    · exact .tail _ (.head _)
    · exact q3
  case kd =>
    have four : ∀ (a : Addr) (o : Obj), (a, o) ∈ (f2, O2) :: (c2, k2) :: ex2 → (∀ v n, o.data ≠ .seq v n) → o.data ≠ .cell none → a ≠ da ∧ a ≠ wa ∧ a ≠ L + 1 ∧ a ≠ L + 2 := fun a o hq e1 e2 =>
      ⟨S4.neD hq rd (e1 _ _), S4.neD hq rw' (e1 _ _), S4.neD hq r1 (by rw [d1]; exact e2), S4.neD hq r2 (by rw [d2]; exact e2)⟩
    intro q hq
    simp only [HA.kept, List.mem_cons, List.not_mem_nil, or_false] at hq
    rcases hq with rfl | rfl | rfl | rfl | rfl | rfl
    · exact four _ _ r3 (by rw [hw]; nofun) (by rw [hw]; nofun)
    · exact four _ _ q1 (by rw [dO1]; nofun) (by rw [dO1]; nofun)
    · exact four _ _ q2 (by rw [hd1]; nofun) (by rw [hd1]; nofun)
    · exact four _ _ (.head _) (by rw [dO2]; nofun) (by rw [dO2]; nofun)
    · exact four _ _ (.tail _ (.head _)) (by rw [hd2]; nofun) (by rw [hd2]; nofun)
    · exact four _ _ q3 (by nofun) (by nofun)
end
section
variable {prog : Program} {w : World} {A : Around} {E : Value → Shared → Prop} {s : Shared} {h : Heap} {tk₀ : Nat} {p : Program} {loose : List Str} {mg mb : Str → Option Value} {h₀ : Heap} {st : LS} {r : Rg}
  {Ky : Type} [DecidableEq Ky] {T' : DT prog w (K1 w.params) Ky} {kvs : List (Ky × Value)} {k : Ky} {D : List (Ky × Rg)} {key val : Value}
end
section
variable {prog : Program} {w : World} {A : Around} {s : Shared} {g h : Heap} {m : Str → Option Value} {tk : Nat} {p : Program} {loose : List Str} {mg mb : Str → Option Value} {L f : Addr} {cd : Value} {mean : ExcName → Option Value}
/-- the law -/
theorem law_main {l : Addr} {vs : List Value} {ns : List Int} {o1 o2 o3 : Obj} (F : Fr g L h m) (N : News g L h [(L + 3, o3), (L + 2, o2), (L + 1, o1), (209, tabObj #[])]) (X : (K1 w.params).In g) (TT : Top p loose mean mg mb g) (T : TopRead p loose mg mb g)
    (BB : ∀ h m, Fr g L h m → Below A g [lawE L f cd] h) (hroom : A.depth + 20 < recursionLimit) (hu : A.units + 200 < cLine) (hh : A.handled = none) (hcd : cd = .ref 211) (C : CodeHd g 211 209)
    (d1 : o1.data = .cell none) (d2 : o2.data = .cell none) (d3 : o3.data = .cell none) (hl : g.IsList l vs.toArray) (hI : IntsAre vs ns) (hz : ns.length ≤ 63) (ms : m "script" = some (.ref l)) :
    wpAny (model prog w) A (execs lawB (lawE L f cd)) (fun fl s' => fl = .ret (.bool true) ∧ ∃ h' tk' m', s' = up s h' tk' ∧ Fr g L h' m' ∧ GrownAt 209 h') (fun _ _ => False) (up s h tk) := by
  refine law_lims F N X T hroom hu hh hl hI hz ms fun h1 tk1 P1 => ?_
  refine law_made P1 X T hroom hu hh d1 d2 d3 fun h2 tk2 P2 => ?_
  refine law_defs P2 TT hcd C d1 d2 fun h3 tk3 P3 => ?_
  obtain ⟨H, rfl, ok, ps, hx, m3, st3, top3, aft3, d3, S3, x3, ms3⟩ := P3
  refine seqP (law_loop (own := []) ok S3 X T TT BB hroom hu hh x3 hl hI hz ms3) fun h4 tk4 P4 => ?_
  obtain ⟨r, m4, st4, top4, aft4, d4, D4, kvs4, S4, x4, r4⟩ := P4
  refine wpAny_mono (law_end (own := []) ok S4 X T hroom hu hh (by decide) x4) (fun fl s' hf => ?_) fun _ _ e => e
  obtain ⟨rfl, h5, tk5, rfl, m5, st5, S5, k5⟩ := hf
  exact ⟨rfl, h5, tk5, m5, rfl, S5.F, ps, S5.exOf (k5 _ hx)⟩
end
set_option maxHeartbeats 8000000
theorem whole : PySem.Challenge.rw_ji0029_01.Holds := by
  w_on; o_law
  refine holds_open (q := vwP) (loose := [Str.ofString "_law_keys"]) (Xt := fun s => xlAt vwP ([] : List (Str × WData)) s && recOk (RowW.records PySem.Challenge.rw_ji0029_01.row.toRowW) s) (XP := XL vwP ([] : List (Str × WData)))
    (Yf := Hook.obs (kmHook K1 (2 :: 3 :: 22 :: 23 :: 25 :: 26 :: 28 :: 29 :: 30 :: 32 :: 33 :: 35 :: 36 :: 37 :: 38 :: 39 :: 40 :: 41 :: 51 :: 52 :: 54 :: 55 :: 57 :: 58 :: 59 :: 61 :: 62 :: 64 :: 65 :: 66 :: 68 :: 69 :: 71 :: 72 :: 73 :: 75 :: 76 :: 78 :: 79 :: 80 :: 81 :: 83 :: 84 :: 86 :: 87 :: 88 :: 90 :: 91 :: 93 :: 94 :: 95 :: 96 :: 98 :: 99 :: 101 :: 102 :: 103 :: 105 :: 106 :: 108 :: 109 :: 110 :: 113 :: 114 :: 115 :: 117 :: 118 :: 120 :: 121 :: 122 :: 124 :: 125 :: 127 :: 128 :: 129 :: 131 :: 132 :: 134 :: 135 :: 136 :: 138 :: 139 :: 141 :: 142 :: 143 :: 145 :: 146 :: 148 :: 149 :: 150 :: 152 :: 153 :: 155 :: 156 :: 157 :: 158 :: 160 :: 161 :: 163 :: 164 :: 165 :: 166 :: 168 :: 169 :: 171 :: 172 :: 173 :: 174 :: 175 :: 176 :: 177 :: 180 :: 181 :: 182 :: 184 :: 185 :: 187 :: 188 :: 189 :: 191 :: 192 :: 194 :: 195 :: 196 :: 199 :: 200 :: 201 :: 203 :: 204 :: 206 :: 207 :: 208 :: 211 :: 212 :: []) (fun _ => by kernel_rfl) [209])) (Ya := Hook.val (kmHook K1 (2 :: 3 :: 22 :: 23 :: 25 :: 26 :: 28 :: 29 :: 30 :: 32 :: 33 :: 35 :: 36 :: 37 :: 38 :: 39 :: 40 :: 41 :: 51 :: 52 :: 54 :: 55 :: 57 :: 58 :: 59 :: 61 :: 62 :: 64 :: 65 :: 66 :: 68 :: 69 :: 71 :: 72 :: 73 :: 75 :: 76 :: 78 :: 79 :: 80 :: 81 :: 83 :: 84 :: 86 :: 87 :: 88 :: 90 :: 91 :: 93 :: 94 :: 95 :: 96 :: 98 :: 99 :: 101 :: 102 :: 103 :: 105 :: 106 :: 108 :: 109 :: 110 :: 113 :: 114 :: 115 :: 117 :: 118 :: 120 :: 121 :: 122 :: 124 :: 125 :: 127 :: 128 :: 129 :: 131 :: 132 :: 134 :: 135 :: 136 :: 138 :: 139 :: 141 :: 142 :: 143 :: 145 :: 146 :: 148 :: 149 :: 150 :: 152 :: 153 :: 155 :: 156 :: 157 :: 158 :: 160 :: 161 :: 163 :: 164 :: 165 :: 166 :: 168 :: 169 :: 171 :: 172 :: 173 :: 174 :: 175 :: 176 :: 177 :: 180 :: 181 :: 182 :: 184 :: 185 :: 187 :: 188 :: 189 :: 191 :: 192 :: 194 :: 195 :: 196 :: 199 :: 200 :: 201 :: 203 :: 204 :: 206 :: 207 :: 208 :: 211 :: 212 :: []) (fun _ => by kernel_rfl) [209])) (YP := Hook.says (kmHook K1 (2 :: 3 :: 22 :: 23 :: 25 :: 26 :: 28 :: 29 :: 30 :: 32 :: 33 :: 35 :: 36 :: 37 :: 38 :: 39 :: 40 :: 41 :: 51 :: 52 :: 54 :: 55 :: 57 :: 58 :: 59 :: 61 :: 62 :: 64 :: 65 :: 66 :: 68 :: 69 :: 71 :: 72 :: 73 :: 75 :: 76 :: 78 :: 79 :: 80 :: 81 :: 83 :: 84 :: 86 :: 87 :: 88 :: 90 :: 91 :: 93 :: 94 :: 95 :: 96 :: 98 :: 99 :: 101 :: 102 :: 103 :: 105 :: 106 :: 108 :: 109 :: 110 :: 113 :: 114 :: 115 :: 117 :: 118 :: 120 :: 121 :: 122 :: 124 :: 125 :: 127 :: 128 :: 129 :: 131 :: 132 :: 134 :: 135 :: 136 :: 138 :: 139 :: 141 :: 142 :: 143 :: 145 :: 146 :: 148 :: 149 :: 150 :: 152 :: 153 :: 155 :: 156 :: 157 :: 158 :: 160 :: 161 :: 163 :: 164 :: 165 :: 166 :: 168 :: 169 :: 171 :: 172 :: 173 :: 174 :: 175 :: 176 :: 177 :: 180 :: 181 :: 182 :: 184 :: 185 :: 187 :: 188 :: 189 :: 191 :: 192 :: 194 :: 195 :: 196 :: 199 :: 200 :: 201 :: 203 :: 204 :: 206 :: 207 :: 208 :: 211 :: 212 :: []) (fun _ => by kernel_rfl) [209])) (N := 2570) ?hl (Hook.of _) (Hook.keeps _) (fun s e => xl_of s (Bool.and_eq_true_iff.mp e).1) XL.keeps (by rfl) (by rfl) (by rfl) (fun s e => recFacts_of (Bool.and_eq_true_iff.mp e).2) (by rfl) (by first | assumption | decide +kernel) (by decide +kernel) ⟨rfl, rfl, rfl, rfl, rfl, by decide +kernel⟩ ?hw ?hc
  case hl => exact left_boot boot1 rest1
  case hw => w_witness2
  case hc =>
    k_fill
    intro w s₀ s₁ mg mb G Y fa o pm cd doc dV kV ho hd hcd hD hmg hg args vals as hpre hlay hrd hwl hlo
    have KX := km_in_of Y
    km_tabs Y
    have X := (Ground.X G).1
    have V := (Ground.X G).2
    refine Ground.open G ?_
    intro T B D TE TW
    try (refine guard_noD D (by decide +kernel) ?_; clear D)
    km_lay T hmg ho hd cd
    clear hmg
    wrow_args hpre hlay hrd hwl hlo
    all_goals (
      first | refine callC_kw (enter_call ?_) | refine enter_call ?_
      w_top on
      kn_posts
      w_call any ho hd hcd hD T F
      clear hd
      kn_ghosts F T
      k_drop
      skip)
    rename Top topProg _ _ _ _ _ => T'
    rename (K1 _).In (ghostOf _ _) => X'
    rename Below _ _ _ _ => K0'
    rename Fr _ _ _ _ => F'
    rename News _ _ _ _ => N'
    rename IntsAre _ _ => I'
    rename ¬_ < _ => hn'
    refine wpAny_mono (law_main (s := s₁) F' N' X' T' ⟨T'.g, T'.b, T'.nolimit, T'.builtins, T'.free⟩ (fun h m F => Below.pushX K0' F rfl) ?hroom ?hu rfl rfl codeHd ?d1 ?d2 ?d3 lifted I' ?hz rfl) (fun fl s' hf => ?_) fun _ _ e => e.elim
    case hroom => show callerA.depth + 1 + 20 < recursionLimit; decide +kernel
    case hu => (rw [Around.deeper_units]; decide +kernel)
    case d1 => assumption
    case d2 => assumption
    case d3 => assumption
    case hz => omega
    obtain ⟨rfl, h', tk', m', rfl, G', gr⟩ := hf
    refine ⟨?_, gr, True.intro⟩
    show GoodW _ _ _ _ { s₁ with heap := ghostOf s₁.heap [(211, 209)] } (.ok (.ret (.bool true))) { s₁ with heap := h', toks := tk' }
    refine goodW_bool (L := s₁.heap.objs.size) (m := m') (show Fr (ghostOf s₁.heap [(211, 209)]) s₁.heap.objs.size h' m' from G') hg ?h1 ?h2 rfl
    case h1 => intro cls; rfl
    case h2 => wrow_post
end Mine
theorem PySem.Challenge.cw_ji0029_01_holds : PySem.Challenge.rw_ji0029_01.Holds := by
  exact Mine.whole
