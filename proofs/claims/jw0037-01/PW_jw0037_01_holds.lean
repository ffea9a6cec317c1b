import PyProof.Rows.All
import Wide.All
import OpenK.AllK
import Wide.FinOn
import Lean
import PySem.Challenge.RW_jw0037_01
open PySem PySem.W PySem.Calls PyProof.Rows
set_option Elab.async false
set_option maxRecDepth 100000
set_option maxHeartbeats 4000000
set_option linter.unusedVariables false
set_option compiler.extract_closed false
namespace Mine
def sAt (i : Nat) : Stmt := PySem.Challenge.pw_jw0037_01.main.body.getD i (.Pass default)
def inC (i j : Nat) : Stmt := match sAt i with | .ClassDef _ _ _ b .. => b.getD j (.Pass default) | s => s
def fA : Stmt → Arguments | .FunctionDef _ a _ _ _ _ _ _ _ _ => a | _ => default
def fB : Stmt → List Stmt | .FunctionDef _ _ b _ _ _ _ _ _ _ => b | _ => []
def fS : Stmt → Scope | .FunctionDef _ _ _ _ _ _ s _ _ _ => s | _ => default
noncomputable def frag (P : Params) : Frag :=
  (nat_lit 2, ⟨Value.none, none, .dict (List.toArray [⟨PyData.keyHash P (Str.ofString "type.__subclasses__.Exception.0"), (Value.str (Str.ofString "type.__subclasses__.Exception.0") 238), (Value.int 52 0)⟩, ⟨PyData.keyHash P (Str.ofString "type.__subclasses__.Exception.n"), (Value.str (Str.ofString "type.__subclasses__.Exception.n") 239), (Value.int 1 0)⟩]) 2, #[]⟩) ::
  (nat_lit 3, ⟨(Value.type "dict"), none, .dict (List.toArray [⟨PyData.keyHash P (Str.ofString "__name__"), (Value.str (Str.ofString "__name__") 165), (Value.str (Str.ofString "law_jw0037_01") 527)⟩, ⟨PyData.keyHash P (Str.ofString "__doc__"), (Value.str (Str.ofString "__doc__") 166), Value.none⟩, ⟨PyData.keyHash P (Str.ofString "__package__"), (Value.str (Str.ofString "__package__") 167), Value.none⟩, ⟨PyData.keyHash P (Str.ofString "__loader__"), (Value.str (Str.ofString "__loader__") 168), (Value.builtin "__main__.__loader__#opaque")⟩, ⟨PyData.keyHash P (Str.ofString "__spec__"), (Value.str (Str.ofString "__spec__") 169), Value.none⟩, ⟨PyData.keyHash P (Str.ofString "__annotations__"), (Value.str (Str.ofString "__annotations__") 170), (Value.ref 6)⟩, ⟨PyData.keyHash P (Str.ofString "__builtins__"), (Value.str (Str.ofString "__builtins__") 171), (Value.ref 4)⟩, ⟨PyData.keyHash P (Str.ofString "__file__"), (Value.str (Str.ofString "__file__") 173), (Value.str (Str.ofString "/claim/cut.py") 172)⟩, ⟨PyData.keyHash P (Str.ofString "__cached__"), (Value.str (Str.ofString "__cached__") 174), Value.none⟩, ⟨PyData.keyHash P (Str.ofString "_wall"), (Value.str (Str.ofString "_wall") 193), (Value.ref 21)⟩, ⟨PyData.keyHash P (Str.ofString "Hash32"), (Value.str (Str.ofString "Hash32") 202), (Value.ref 28)⟩, ⟨PyData.keyHash P (Str.ofString "cast"), (Value.str (Str.ofString "cast") 210), (Value.ref 35)⟩, ⟨PyData.keyHash P (Str.ofString "to_int"), (Value.str (Str.ofString "to_int") 217), (Value.ref 42)⟩, ⟨PyData.keyHash P (Str.ofString "BLANK_NODE"), (Value.str (Str.ofString "BLANK_NODE") 219), (Value.bytes #[] 218)⟩, ⟨PyData.keyHash P (Str.ofString "ValidationError"), (Value.str (Str.ofString "ValidationError") 241), (Value.ref 52)⟩, ⟨PyData.keyHash P (Str.ofString "validate_is_bytes"), (Value.str (Str.ofString "validate_is_bytes") 250), (Value.ref 62)⟩, ⟨PyData.keyHash P (Str.ofString "validate_length"), (Value.str (Str.ofString "validate_length") 258), (Value.ref 69)⟩, ⟨PyData.keyHash P (Str.ofString "calc_root"), (Value.str (Str.ofString "calc_root") 275), (Value.ref 76)⟩, ⟨PyData.keyHash P (Str.ofString "SparseMerkleProof"), (Value.str (Str.ofString "SparseMerkleProof") 357), (Value.ref 132)⟩, ⟨PyData.keyHash P (Str.ofString "SparseMerkleTree"), (Value.str (Str.ofString "SparseMerkleTree") 526), (Value.ref 235)⟩, ⟨PyData.keyHash P (Str.ofString "_law_cell"), (Value.str (Str.ofString "_law_cell") 536), (Value.ref 246)⟩, ⟨PyData.keyHash P (Str.ofString "_law_hash"), (Value.str (Str.ofString "_law_hash") 544), (Value.ref 253)⟩, ⟨PyData.keyHash P (Str.ofString "_law_levels"), (Value.str (Str.ofString "_law_levels") 562), (Value.ref 260)⟩, ⟨PyData.keyHash P (Str.ofString "_law_node"), (Value.str (Str.ofString "_law_node") 573), (Value.ref 267)⟩, ⟨PyData.keyHash P (Str.ofString "_law_beside"), (Value.str (Str.ofString "_law_beside") 585), (Value.ref 274)⟩, ⟨PyData.keyHash P (Str.ofString "_law_along"), (Value.str (Str.ofString "_law_along") 596), (Value.ref 281)⟩, ⟨PyData.keyHash P (Str.ofString "_law_octets"), (Value.str (Str.ofString "_law_octets") 602), (Value.ref 286)⟩, ⟨PyData.keyHash P (Str.ofString "_law_said"), (Value.str (Str.ofString "_law_said") 610), (Value.ref 293)⟩, ⟨PyData.keyHash P (Str.ofString "_law_refuses"), (Value.str (Str.ofString "_law_refuses") 619), (Value.ref 300)⟩, ⟨PyData.keyHash P (Str.ofString "_law_sparse"), (Value.str (Str.ofString "_law_sparse") 641), (Value.ref 307)⟩, ⟨PyData.keyHash P (Str.ofString "law"), (Value.str (Str.ofString "law") 648), (Value.ref 314)⟩]) 31, #[]⟩) ::
  (nat_lit 27, ⟨(Value.type "code"), none, .fields #[(Value.str (Str.ofString "Hash32") 196), (Value.str (Str.ofString "Hash32") 197), (Value.str (Str.ofString "/claim/cut.py") 198), (Value.int 5 0), (Value.int 1 0), (Value.int 0 0), (Value.int 0 0), (Value.int 3 0), (Value.ref 22), (Value.bool true), (Value.int 181 0), (Value.ref 23), Value.none, (Value.ref 24), (Value.ref 25), (Value.ref 26), (Value.int 200 0), (Value.int 5 0), (Value.str (Str.ofString "/claim/cut.py") 201)], #[]⟩) ::
  (nat_lit 28, ⟨(Value.type "function"), none, .func { name := (Str.ofString "Hash32"), qualname := (Str.ofString "Hash32"), params := fA (sAt 2), body := .stmts (fB (sAt 2)), scope := fS (sAt 2), globals := 3, closure := [], defaults := Value.none, kwdefaults := Value.none, doc := Value.none, pyModule := (Value.str (Str.ofString "trie.others") 194), annotations := none, code := (Value.ref 27), closureTuple := Value.none, builtins := 0 }, #[]⟩) ::
  (nat_lit 34, ⟨(Value.type "code"), none, .fields #[(Value.str (Str.ofString "cast") 203), (Value.str (Str.ofString "cast") 204), (Value.str (Str.ofString "/claim/cut.py") 205), (Value.int 7 0), (Value.int 2 0), (Value.int 0 0), (Value.int 0 0), (Value.int 3 0), (Value.ref 29), (Value.bool true), (Value.int 181 0), (Value.ref 30), Value.none, (Value.ref 31), (Value.ref 32), (Value.ref 33), (Value.int 208 0), (Value.int 7 0), (Value.str (Str.ofString "/claim/cut.py") 209)], #[]⟩) ::
  (nat_lit 35, ⟨(Value.type "function"), none, .func { name := (Str.ofString "cast"), qualname := (Str.ofString "cast"), params := fA (sAt 3), body := .stmts (fB (sAt 3)), scope := fS (sAt 3), globals := 3, closure := [], defaults := Value.none, kwdefaults := Value.none, doc := Value.none, pyModule := (Value.str (Str.ofString "trie.others") 194), annotations := none, code := (Value.ref 34), closureTuple := Value.none, builtins := 0 }, #[]⟩) ::
  (nat_lit 41, ⟨(Value.type "code"), none, .fields #[(Value.str (Str.ofString "to_int") 211), (Value.str (Str.ofString "to_int") 212), (Value.str (Str.ofString "/claim/cut.py") 213), (Value.int 9 0), (Value.int 1 0), (Value.int 0 0), (Value.int 0 0), (Value.int 3 0), (Value.ref 36), (Value.bool true), (Value.int 181 0), (Value.ref 37), Value.none, (Value.ref 38), (Value.ref 39), (Value.ref 40), (Value.int 215 0), (Value.int 9 0), (Value.str (Str.ofString "/claim/cut.py") 216)], #[]⟩) ::
  (nat_lit 42, ⟨(Value.type "function"), none, .func { name := (Str.ofString "to_int"), qualname := (Str.ofString "to_int"), params := fA (sAt 4), body := .stmts (fB (sAt 4)), scope := fS (sAt 4), globals := 3, closure := [], defaults := Value.none, kwdefaults := Value.none, doc := Value.none, pyModule := (Value.str (Str.ofString "trie.others") 194), annotations := none, code := (Value.ref 41), closureTuple := Value.none, builtins := 0 }, #[]⟩) ::
  (nat_lit 43, ⟨(Value.type "tuple"), none, .seq #[(Value.type "Exception")] 0, #[]⟩) ::
  (nat_lit 51, ⟨(Value.type "dict"), none, .dict (List.toArray [⟨PyData.keyHash P (Str.ofString "__module__"), (Value.str (Str.ofString "__module__") 229), (Value.str (Str.ofString "trie.exceptions") 220)⟩, ⟨PyData.keyHash P (Str.ofString "__firstlineno__"), (Value.str (Str.ofString "__firstlineno__") 233), (Value.int 13 232)⟩, ⟨PyData.keyHash P (Str.ofString "__static_attributes__"), (Value.str (Str.ofString "__static_attributes__") 234), (Value.ref 50)⟩, ⟨PyData.keyHash P (Str.ofString "__weakref__"), (Value.str (Str.ofString "__weakref__") 236), (Value.ref 53)⟩, ⟨PyData.keyHash P (Str.ofString "__doc__"), (Value.str (Str.ofString "__doc__") 237), Value.none⟩]) 3, #[]⟩) ::
  (nat_lit 52, ⟨(Value.type "type"), none, .cls { name := (Str.ofString "ValidationError"), bases := [(Value.type "Exception")], mro := [(Value.ref 52), (Value.type "Exception"), (Value.type "BaseException"), (Value.type "object")], ns := 51, qualname := (Str.ofString "ValidationError"), hasDict := true, slotNames := [], subclasses := [], abstract := false, collection := none, hasDel := false }, #[(some (Value.ref 43)), none, (some (Value.str (Str.ofString "ValidationError") 222)), (some (Value.str (Str.ofString "ValidationError") 230)), (some (Value.builtin "Exception.__new__")), (some (Value.bool true))]⟩) ::
  (nat_lit 53, ⟨(Value.type "getset_descriptor"), none, .fields #[(Value.str (Str.ofString "__weakref__") 235), (Value.ref 52), (Value.builtin "ExceptionGroup.__weakref__"), Value.none], #[]⟩) ::
  (nat_lit 61, ⟨(Value.type "code"), none, .fields #[(Value.str (Str.ofString "validate_is_bytes") 244), (Value.str (Str.ofString "validate_is_bytes") 245), (Value.str (Str.ofString "/claim/cut.py") 246), (Value.int 16 0), (Value.int 1 0), (Value.int 0 0), (Value.int 0 0), (Value.int 3 0), (Value.ref 56), (Value.bool true), (Value.int 181 0), (Value.ref 57), Value.none, (Value.ref 58), (Value.ref 59), (Value.ref 60), (Value.int 248 0), (Value.int 16 0), (Value.str (Str.ofString "/claim/cut.py") 249)], #[]⟩) ::
  (nat_lit 62, ⟨(Value.type "function"), none, .func { name := (Str.ofString "validate_is_bytes"), qualname := (Str.ofString "validate_is_bytes"), params := fA (sAt 9), body := .stmts (fB (sAt 9)), scope := fS (sAt 9), globals := 3, closure := [], defaults := Value.none, kwdefaults := Value.none, doc := Value.none, pyModule := (Value.str (Str.ofString "trie.validation") 242), annotations := none, code := (Value.ref 61), closureTuple := Value.none, builtins := 0 }, #[]⟩) ::
  (nat_lit 68, ⟨(Value.type "code"), none, .fields #[(Value.str (Str.ofString "validate_length") 251), (Value.str (Str.ofString "validate_length") 252), (Value.str (Str.ofString "/claim/cut.py") 253), (Value.int 19 0), (Value.int 2 0), (Value.int 0 0), (Value.int 0 0), (Value.int 3 0), (Value.ref 63), (Value.bool true), (Value.int 181 0), (Value.ref 64), Value.none, (Value.ref 65), (Value.ref 66), (Value.ref 67), (Value.int 256 0), (Value.int 19 0), (Value.str (Str.ofString "/claim/cut.py") 257)], #[]⟩) ::
  (nat_lit 69, ⟨(Value.type "function"), none, .func { name := (Str.ofString "validate_length"), qualname := (Str.ofString "validate_length"), params := fA (sAt 10), body := .stmts (fB (sAt 10)), scope := fS (sAt 10), globals := 3, closure := [], defaults := Value.none, kwdefaults := Value.none, doc := Value.none, pyModule := (Value.str (Str.ofString "trie.validation") 242), annotations := none, code := (Value.ref 68), closureTuple := Value.none, builtins := 0 }, #[]⟩) ::
  (nat_lit 75, ⟨(Value.type "code"), none, .fields #[(Value.str (Str.ofString "calc_root") 261), (Value.str (Str.ofString "calc_root") 262), (Value.str (Str.ofString "/claim/cut.py") 263), (Value.int 23 0), (Value.int 4 0), (Value.int 0 0), (Value.int 0 0), (Value.int 3 0), (Value.ref 70), (Value.bool true), (Value.int 181 0), (Value.ref 71), Value.none, (Value.ref 72), (Value.ref 73), (Value.ref 74), (Value.int 273 0), (Value.int 23 0), (Value.str (Str.ofString "/claim/cut.py") 274)], #[]⟩) ::
  (nat_lit 76, ⟨(Value.type "function"), none, .func { name := (Str.ofString "calc_root"), qualname := (Str.ofString "calc_root"), params := fA (sAt 12), body := .stmts (fB (sAt 12)), scope := fS (sAt 12), globals := 3, closure := [], defaults := Value.none, kwdefaults := Value.none, doc := Value.none, pyModule := (Value.str (Str.ofString "trie.smt") 259), annotations := none, code := (Value.ref 75), closureTuple := Value.none, builtins := 0 }, #[]⟩) ::
  (nat_lit 89, ⟨(Value.type "code"), none, .fields #[(Value.str (Str.ofString "__init__") 288), (Value.str (Str.ofString "SparseMerkleProof.__init__") 289), (Value.str (Str.ofString "/claim/cut.py") 290), (Value.int 40 0), (Value.int 5 0), (Value.int 0 0), (Value.int 0 0), (Value.int 3 0), (Value.ref 84), (Value.bool true), (Value.int 181 0), (Value.ref 85), Value.none, (Value.ref 86), (Value.ref 87), (Value.ref 88), (Value.int 296 0), (Value.int 40 0), (Value.str (Str.ofString "/claim/cut.py") 297)], #[]⟩) ::
  (nat_lit 90, ⟨(Value.type "function"), none, .func { name := (Str.ofString "__init__"), qualname := (Str.ofString "SparseMerkleProof.__init__"), params := fA (inC 13 0), body := .stmts (fB (inC 13 0)), scope := fS (inC 13 0), globals := 3, closure := [], defaults := Value.none, kwdefaults := Value.none, doc := Value.none, pyModule := (Value.str (Str.ofString "trie.smt") 259), annotations := none, code := (Value.ref 89), closureTuple := Value.none, builtins := 0 }, #[]⟩) ::
  (nat_lit 96, ⟨(Value.type "code"), none, .fields #[(Value.str (Str.ofString "key") 299), (Value.str (Str.ofString "SparseMerkleProof.key") 300), (Value.str (Str.ofString "/claim/cut.py") 301), (Value.int 51 0), (Value.int 1 0), (Value.int 0 0), (Value.int 0 0), (Value.int 3 0), (Value.ref 91), (Value.bool true), (Value.int 181 0), (Value.ref 92), Value.none, (Value.ref 93), (Value.ref 94), (Value.ref 95), (Value.int 303 0), (Value.int 51 0), (Value.str (Str.ofString "/claim/cut.py") 304)], #[]⟩) ::
  (nat_lit 97, ⟨(Value.type "function"), none, .func { name := (Str.ofString "key"), qualname := (Str.ofString "SparseMerkleProof.key"), params := fA (inC 13 1), body := .stmts (fB (inC 13 1)), scope := fS (inC 13 1), globals := 3, closure := [], defaults := Value.none, kwdefaults := Value.none, doc := Value.none, pyModule := (Value.str (Str.ofString "trie.smt") 259), annotations := none, code := (Value.ref 96), closureTuple := Value.none, builtins := 0 }, #[]⟩) ::
  (nat_lit 98, ⟨(Value.type "property"), none, .fields #[(Value.ref 97), Value.none, Value.none, Value.none, (Value.str (Str.ofString "key") 306), (Value.bool false)], #[]⟩) ::
  (nat_lit 104, ⟨(Value.type "code"), none, .fields #[(Value.str (Str.ofString "value") 307), (Value.str (Str.ofString "SparseMerkleProof.value") 308), (Value.str (Str.ofString "/claim/cut.py") 309), (Value.int 55 0), (Value.int 1 0), (Value.int 0 0), (Value.int 0 0), (Value.int 3 0), (Value.ref 99), (Value.bool true), (Value.int 181 0), (Value.ref 100), Value.none, (Value.ref 101), (Value.ref 102), (Value.ref 103), (Value.int 311 0), (Value.int 55 0), (Value.str (Str.ofString "/claim/cut.py") 312)], #[]⟩) ::
  (nat_lit 105, ⟨(Value.type "function"), none, .func { name := (Str.ofString "value"), qualname := (Str.ofString "SparseMerkleProof.value"), params := fA (inC 13 2), body := .stmts (fB (inC 13 2)), scope := fS (inC 13 2), globals := 3, closure := [], defaults := Value.none, kwdefaults := Value.none, doc := Value.none, pyModule := (Value.str (Str.ofString "trie.smt") 259), annotations := none, code := (Value.ref 104), closureTuple := Value.none, builtins := 0 }, #[]⟩) ::
  (nat_lit 106, ⟨(Value.type "property"), none, .fields #[(Value.ref 105), Value.none, Value.none, Value.none, (Value.str (Str.ofString "value") 314), (Value.bool false)], #[]⟩) ::
  (nat_lit 112, ⟨(Value.type "code"), none, .fields #[(Value.str (Str.ofString "branch") 315), (Value.str (Str.ofString "SparseMerkleProof.branch") 316), (Value.str (Str.ofString "/claim/cut.py") 317), (Value.int 59 0), (Value.int 1 0), (Value.int 0 0), (Value.int 0 0), (Value.int 3 0), (Value.ref 107), (Value.bool true), (Value.int 181 0), (Value.ref 108), Value.none, (Value.ref 109), (Value.ref 110), (Value.ref 111), (Value.int 319 0), (Value.int 59 0), (Value.str (Str.ofString "/claim/cut.py") 320)], #[]⟩) ::
  (nat_lit 113, ⟨(Value.type "function"), none, .func { name := (Str.ofString "branch"), qualname := (Str.ofString "SparseMerkleProof.branch"), params := fA (inC 13 3), body := .stmts (fB (inC 13 3)), scope := fS (inC 13 3), globals := 3, closure := [], defaults := Value.none, kwdefaults := Value.none, doc := Value.none, pyModule := (Value.str (Str.ofString "trie.smt") 259), annotations := none, code := (Value.ref 112), closureTuple := Value.none, builtins := 0 }, #[]⟩) ::
  (nat_lit 114, ⟨(Value.type "property"), none, .fields #[(Value.ref 113), Value.none, Value.none, Value.none, (Value.str (Str.ofString "branch") 322), (Value.bool false)], #[]⟩) ::
  (nat_lit 120, ⟨(Value.type "code"), none, .fields #[(Value.str (Str.ofString "root_hash") 323), (Value.str (Str.ofString "SparseMerkleProof.root_hash") 324), (Value.str (Str.ofString "/claim/cut.py") 325), (Value.int 63 0), (Value.int 1 0), (Value.int 0 0), (Value.int 0 0), (Value.int 3 0), (Value.ref 115), (Value.bool true), (Value.int 181 0), (Value.ref 116), Value.none, (Value.ref 117), (Value.ref 118), (Value.ref 119), (Value.int 327 0), (Value.int 63 0), (Value.str (Str.ofString "/claim/cut.py") 328)], #[]⟩) ::
  (nat_lit 121, ⟨(Value.type "function"), none, .func { name := (Str.ofString "root_hash"), qualname := (Str.ofString "SparseMerkleProof.root_hash"), params := fA (inC 13 4), body := .stmts (fB (inC 13 4)), scope := fS (inC 13 4), globals := 3, closure := [], defaults := Value.none, kwdefaults := Value.none, doc := Value.none, pyModule := (Value.str (Str.ofString "trie.smt") 259), annotations := none, code := (Value.ref 120), closureTuple := Value.none, builtins := 0 }, #[]⟩) ::
  (nat_lit 122, ⟨(Value.type "property"), none, .fields #[(Value.ref 121), Value.none, Value.none, Value.none, (Value.str (Str.ofString "root_hash") 330), (Value.bool false)], #[]⟩) ::
  (nat_lit 128, ⟨(Value.type "code"), none, .fields #[(Value.str (Str.ofString "update") 331), (Value.str (Str.ofString "SparseMerkleProof.update") 332), (Value.str (Str.ofString "/claim/cut.py") 333), (Value.int 67 0), (Value.int 4 0), (Value.int 0 0), (Value.int 0 0), (Value.int 3 0), (Value.ref 123), (Value.bool true), (Value.int 181 0), (Value.ref 124), Value.none, (Value.ref 125), (Value.ref 126), (Value.ref 127), (Value.int 341 0), (Value.int 67 0), (Value.str (Str.ofString "/claim/cut.py") 342)], #[]⟩) ::
  (nat_lit 129, ⟨(Value.type "function"), none, .func { name := (Str.ofString "update"), qualname := (Str.ofString "SparseMerkleProof.update"), params := fA (inC 13 5), body := .stmts (fB (inC 13 5)), scope := fS (inC 13 5), globals := 3, closure := [], defaults := Value.none, kwdefaults := Value.none, doc := Value.none, pyModule := (Value.str (Str.ofString "trie.smt") 259), annotations := none, code := (Value.ref 128), closureTuple := Value.none, builtins := 0 }, #[]⟩) ::
  (nat_lit 131, ⟨(Value.type "dict"), none, .dict (List.toArray [⟨PyData.keyHash P (Str.ofString "__module__"), (Value.str (Str.ofString "__module__") 283), (Value.str (Str.ofString "trie.smt") 259)⟩, ⟨PyData.keyHash P (Str.ofString "__firstlineno__"), (Value.str (Str.ofString "__firstlineno__") 287), (Value.int 38 286)⟩, ⟨PyData.keyHash P (Str.ofString "__init__"), (Value.str (Str.ofString "__init__") 298), (Value.ref 90)⟩, ⟨PyData.keyHash P (Str.ofString "key"), (Value.str (Str.ofString "key") 306), (Value.ref 98)⟩, ⟨PyData.keyHash P (Str.ofString "value"), (Value.str (Str.ofString "value") 314), (Value.ref 106)⟩, ⟨PyData.keyHash P (Str.ofString "branch"), (Value.str (Str.ofString "branch") 322), (Value.ref 114)⟩, ⟨PyData.keyHash P (Str.ofString "root_hash"), (Value.str (Str.ofString "root_hash") 330), (Value.ref 122)⟩, ⟨PyData.keyHash P (Str.ofString "update"), (Value.str (Str.ofString "update") 343), (Value.ref 129)⟩, ⟨PyData.keyHash P (Str.ofString "__static_attributes__"), (Value.str (Str.ofString "__static_attributes__") 350), (Value.ref 130)⟩, ⟨PyData.keyHash P (Str.ofString "__dict__"), (Value.str (Str.ofString "__dict__") 352), (Value.ref 133)⟩, ⟨PyData.keyHash P (Str.ofString "__weakref__"), (Value.str (Str.ofString "__weakref__") 354), (Value.ref 134)⟩, ⟨PyData.keyHash P (Str.ofString "__doc__"), (Value.str (Str.ofString "__doc__") 355), Value.none⟩]) 4, #[]⟩) ::
  (nat_lit 132, ⟨(Value.type "type"), none, .cls { name := (Str.ofString "SparseMerkleProof"), bases := [(Value.type "object")], mro := [(Value.ref 132), (Value.type "object")], ns := 131, qualname := (Str.ofString "SparseMerkleProof"), hasDict := true, slotNames := [], subclasses := [], abstract := false, collection := none, hasDel := false }, #[none, none, (some (Value.str (Str.ofString "SparseMerkleProof") 276)), (some (Value.str (Str.ofString "SparseMerkleProof") 284)), (some (Value.builtin "object.__new__")), (some (Value.bool true))]⟩) ::
  (nat_lit 133, ⟨(Value.type "getset_descriptor"), none, .fields #[(Value.str (Str.ofString "__dict__") 351), (Value.ref 132), (Value.builtin "function.__dict__"), (Value.builtin "function.__dict__#set")], #[]⟩) ::
  (nat_lit 134, ⟨(Value.type "getset_descriptor"), none, .fields #[(Value.str (Str.ofString "__weakref__") 353), (Value.ref 132), (Value.builtin "ExceptionGroup.__weakref__"), Value.none], #[]⟩) ::
  (nat_lit 144, ⟨(Value.type "tuple"), none, .seq #[(Value.int 32 370), (Value.bytes #[] 218)] 0, #[]⟩) ::
  (nat_lit 150, ⟨(Value.type "code"), none, .fields #[(Value.str (Str.ofString "__init__") 371), (Value.str (Str.ofString "SparseMerkleTree.__init__") 372), (Value.str (Str.ofString "/claim/cut.py") 373), (Value.int 83 0), (Value.int 4 0), (Value.int 0 0), (Value.int 0 0), (Value.int 3 0), (Value.ref 145), (Value.bool true), (Value.int 181 0), (Value.ref 146), Value.none, (Value.ref 147), (Value.ref 148), (Value.ref 149), (Value.int 382 0), (Value.int 83 0), (Value.str (Str.ofString "/claim/cut.py") 383)], #[]⟩) ::
  (nat_lit 151, ⟨(Value.type "function"), none, .func { name := (Str.ofString "__init__"), qualname := (Str.ofString "SparseMerkleTree.__init__"), params := fA (inC 14 0), body := .stmts (fB (inC 14 0)), scope := fS (inC 14 0), globals := 3, closure := [], defaults := (Value.ref 144), kwdefaults := Value.none, doc := Value.none, pyModule := (Value.str (Str.ofString "trie.smt") 259), annotations := none, code := (Value.ref 150), closureTuple := Value.none, builtins := 0 }, #[]⟩) ::
  (nat_lit 168, ⟨(Value.type "code"), none, .fields #[(Value.str (Str.ofString "get") 410), (Value.str (Str.ofString "SparseMerkleTree.get") 411), (Value.str (Str.ofString "/claim/cut.py") 412), (Value.int 104 0), (Value.int 2 0), (Value.int 0 0), (Value.int 0 0), (Value.int 3 0), (Value.ref 163), (Value.bool true), (Value.int 181 0), (Value.ref 164), Value.none, (Value.ref 165), (Value.ref 166), (Value.ref 167), (Value.int 417 0), (Value.int 104 0), (Value.str (Str.ofString "/claim/cut.py") 418)], #[]⟩) ::
  (nat_lit 169, ⟨(Value.type "function"), none, .func { name := (Str.ofString "get"), qualname := (Str.ofString "SparseMerkleTree.get"), params := fA (inC 14 2), body := .stmts (fB (inC 14 2)), scope := fS (inC 14 2), globals := 3, closure := [], defaults := Value.none, kwdefaults := Value.none, doc := Value.none, pyModule := (Value.str (Str.ofString "trie.smt") 259), annotations := none, code := (Value.ref 168), closureTuple := Value.none, builtins := 0 }, #[]⟩) ::
  (nat_lit 175, ⟨(Value.type "code"), none, .fields #[(Value.str (Str.ofString "branch") 420), (Value.str (Str.ofString "SparseMerkleTree.branch") 421), (Value.str (Str.ofString "/claim/cut.py") 422), (Value.int 110 0), (Value.int 2 0), (Value.int 0 0), (Value.int 0 0), (Value.int 3 0), (Value.ref 170), (Value.bool true), (Value.int 181 0), (Value.ref 171), Value.none, (Value.ref 172), (Value.ref 173), (Value.ref 174), (Value.int 427 0), (Value.int 110 0), (Value.str (Str.ofString "/claim/cut.py") 428)], #[]⟩) ::
  (nat_lit 176, ⟨(Value.type "function"), none, .func { name := (Str.ofString "branch"), qualname := (Str.ofString "SparseMerkleTree.branch"), params := fA (inC 14 3), body := .stmts (fB (inC 14 3)), scope := fS (inC 14 3), globals := 3, closure := [], defaults := Value.none, kwdefaults := Value.none, doc := Value.none, pyModule := (Value.str (Str.ofString "trie.smt") 259), annotations := none, code := (Value.ref 175), closureTuple := Value.none, builtins := 0 }, #[]⟩) ::
  (nat_lit 182, ⟨(Value.type "code"), none, .fields #[(Value.str (Str.ofString "_get") 430), (Value.str (Str.ofString "SparseMerkleTree._get") 431), (Value.str (Str.ofString "/claim/cut.py") 432), (Value.int 116 0), (Value.int 2 0), (Value.int 0 0), (Value.int 0 0), (Value.int 3 0), (Value.ref 177), (Value.bool true), (Value.int 181 0), (Value.ref 178), Value.none, (Value.ref 179), (Value.ref 180), (Value.ref 181), (Value.int 443 0), (Value.int 116 0), (Value.str (Str.ofString "/claim/cut.py") 444)], #[]⟩) ::
  (nat_lit 183, ⟨(Value.type "function"), none, .func { name := (Str.ofString "_get"), qualname := (Str.ofString "SparseMerkleTree._get"), params := fA (inC 14 4), body := .stmts (fB (inC 14 4)), scope := fS (inC 14 4), globals := 3, closure := [], defaults := Value.none, kwdefaults := Value.none, doc := Value.none, pyModule := (Value.str (Str.ofString "trie.smt") 259), annotations := none, code := (Value.ref 182), closureTuple := Value.none, builtins := 0 }, #[]⟩) ::
  (nat_lit 189, ⟨(Value.type "code"), none, .fields #[(Value.str (Str.ofString "set") 446), (Value.str (Str.ofString "SparseMerkleTree.set") 447), (Value.str (Str.ofString "/claim/cut.py") 448), (Value.int 135 0), (Value.int 3 0), (Value.int 0 0), (Value.int 0 0), (Value.int 3 0), (Value.ref 184), (Value.bool true), (Value.int 181 0), (Value.ref 185), Value.none, (Value.ref 186), (Value.ref 187), (Value.ref 188), (Value.int 461 0), (Value.int 135 0), (Value.str (Str.ofString "/claim/cut.py") 462)], #[]⟩) ::
  (nat_lit 190, ⟨(Value.type "function"), none, .func { name := (Str.ofString "set"), qualname := (Str.ofString "SparseMerkleTree.set"), params := fA (inC 14 5), body := .stmts (fB (inC 14 5)), scope := fS (inC 14 5), globals := 3, closure := [], defaults := Value.none, kwdefaults := Value.none, doc := Value.none, pyModule := (Value.str (Str.ofString "trie.smt") 259), annotations := none, code := (Value.ref 189), closureTuple := Value.none, builtins := 0 }, #[]⟩) ::
  (nat_lit 196, ⟨(Value.type "code"), none, .fields #[(Value.str (Str.ofString "exists") 464), (Value.str (Str.ofString "SparseMerkleTree.exists") 465), (Value.str (Str.ofString "/claim/cut.py") 466), (Value.int 158 0), (Value.int 2 0), (Value.int 0 0), (Value.int 0 0), (Value.int 3 0), (Value.ref 191), (Value.bool true), (Value.int 181 0), (Value.ref 192), Value.none, (Value.ref 193), (Value.ref 194), (Value.ref 195), (Value.int 469 0), (Value.int 158 0), (Value.str (Str.ofString "/claim/cut.py") 470)], #[]⟩) ::
  (nat_lit 197, ⟨(Value.type "function"), none, .func { name := (Str.ofString "exists"), qualname := (Str.ofString "SparseMerkleTree.exists"), params := fA (inC 14 6), body := .stmts (fB (inC 14 6)), scope := fS (inC 14 6), globals := 3, closure := [], defaults := Value.none, kwdefaults := Value.none, doc := Value.none, pyModule := (Value.str (Str.ofString "trie.smt") 259), annotations := none, code := (Value.ref 196), closureTuple := Value.none, builtins := 0 }, #[]⟩) ::
  (nat_lit 203, ⟨(Value.type "code"), none, .fields #[(Value.str (Str.ofString "delete") 472), (Value.str (Str.ofString "SparseMerkleTree.delete") 473), (Value.str (Str.ofString "/claim/cut.py") 474), (Value.int 167 0), (Value.int 2 0), (Value.int 0 0), (Value.int 0 0), (Value.int 3 0), (Value.ref 198), (Value.bool true), (Value.int 181 0), (Value.ref 199), Value.none, (Value.ref 200), (Value.ref 201), (Value.ref 202), (Value.int 477 0), (Value.int 167 0), (Value.str (Str.ofString "/claim/cut.py") 478)], #[]⟩) ::
  (nat_lit 204, ⟨(Value.type "function"), none, .func { name := (Str.ofString "delete"), qualname := (Str.ofString "SparseMerkleTree.delete"), params := fA (inC 14 7), body := .stmts (fB (inC 14 7)), scope := fS (inC 14 7), globals := 3, closure := [], defaults := Value.none, kwdefaults := Value.none, doc := Value.none, pyModule := (Value.str (Str.ofString "trie.smt") 259), annotations := none, code := (Value.ref 203), closureTuple := Value.none, builtins := 0 }, #[]⟩) ::
  (nat_lit 210, ⟨(Value.type "code"), none, .fields #[(Value.str (Str.ofString "__getitem__") 480), (Value.str (Str.ofString "SparseMerkleTree.__getitem__") 481), (Value.str (Str.ofString "/claim/cut.py") 482), (Value.int 172 0), (Value.int 2 0), (Value.int 0 0), (Value.int 0 0), (Value.int 3 0), (Value.ref 205), (Value.bool true), (Value.int 181 0), (Value.ref 206), Value.none, (Value.ref 207), (Value.ref 208), (Value.ref 209), (Value.int 485 0), (Value.int 172 0), (Value.str (Str.ofString "/claim/cut.py") 486)], #[]⟩) ::
  (nat_lit 211, ⟨(Value.type "function"), none, .func { name := (Str.ofString "__getitem__"), qualname := (Str.ofString "SparseMerkleTree.__getitem__"), params := fA (inC 14 8), body := .stmts (fB (inC 14 8)), scope := fS (inC 14 8), globals := 3, closure := [], defaults := Value.none, kwdefaults := Value.none, doc := Value.none, pyModule := (Value.str (Str.ofString "trie.smt") 259), annotations := none, code := (Value.ref 210), closureTuple := Value.none, builtins := 0 }, #[]⟩) ::
  (nat_lit 217, ⟨(Value.type "code"), none, .fields #[(Value.str (Str.ofString "__setitem__") 488), (Value.str (Str.ofString "SparseMerkleTree.__setitem__") 489), (Value.str (Str.ofString "/claim/cut.py") 490), (Value.int 175 0), (Value.int 3 0), (Value.int 0 0), (Value.int 0 0), (Value.int 3 0), (Value.ref 212), (Value.bool true), (Value.int 181 0), (Value.ref 213), Value.none, (Value.ref 214), (Value.ref 215), (Value.ref 216), (Value.int 494 0), (Value.int 175 0), (Value.str (Str.ofString "/claim/cut.py") 495)], #[]⟩) ::
  (nat_lit 218, ⟨(Value.type "function"), none, .func { name := (Str.ofString "__setitem__"), qualname := (Str.ofString "SparseMerkleTree.__setitem__"), params := fA (inC 14 9), body := .stmts (fB (inC 14 9)), scope := fS (inC 14 9), globals := 3, closure := [], defaults := Value.none, kwdefaults := Value.none, doc := Value.none, pyModule := (Value.str (Str.ofString "trie.smt") 259), annotations := none, code := (Value.ref 217), closureTuple := Value.none, builtins := 0 }, #[]⟩) ::
  (nat_lit 224, ⟨(Value.type "code"), none, .fields #[(Value.str (Str.ofString "__delitem__") 497), (Value.str (Str.ofString "SparseMerkleTree.__delitem__") 498), (Value.str (Str.ofString "/claim/cut.py") 499), (Value.int 178 0), (Value.int 2 0), (Value.int 0 0), (Value.int 0 0), (Value.int 3 0), (Value.ref 219), (Value.bool true), (Value.int 181 0), (Value.ref 220), Value.none, (Value.ref 221), (Value.ref 222), (Value.ref 223), (Value.int 502 0), (Value.int 178 0), (Value.str (Str.ofString "/claim/cut.py") 503)], #[]⟩) ::
  (nat_lit 225, ⟨(Value.type "function"), none, .func { name := (Str.ofString "__delitem__"), qualname := (Str.ofString "SparseMerkleTree.__delitem__"), params := fA (inC 14 10), body := .stmts (fB (inC 14 10)), scope := fS (inC 14 10), globals := 3, closure := [], defaults := Value.none, kwdefaults := Value.none, doc := Value.none, pyModule := (Value.str (Str.ofString "trie.smt") 259), annotations := none, code := (Value.ref 224), closureTuple := Value.none, builtins := 0 }, #[]⟩) ::
  (nat_lit 231, ⟨(Value.type "code"), none, .fields #[(Value.str (Str.ofString "__contains__") 505), (Value.str (Str.ofString "SparseMerkleTree.__contains__") 506), (Value.str (Str.ofString "/claim/cut.py") 507), (Value.int 181 0), (Value.int 2 0), (Value.int 0 0), (Value.int 0 0), (Value.int 3 0), (Value.ref 226), (Value.bool true), (Value.int 181 0), (Value.ref 227), Value.none, (Value.ref 228), (Value.ref 229), (Value.ref 230), (Value.int 510 0), (Value.int 181 0), (Value.str (Str.ofString "/claim/cut.py") 511)], #[]⟩) ::
  (nat_lit 232, ⟨(Value.type "function"), none, .func { name := (Str.ofString "__contains__"), qualname := (Str.ofString "SparseMerkleTree.__contains__"), params := fA (inC 14 11), body := .stmts (fB (inC 14 11)), scope := fS (inC 14 11), globals := 3, closure := [], defaults := Value.none, kwdefaults := Value.none, doc := Value.none, pyModule := (Value.str (Str.ofString "trie.smt") 259), annotations := none, code := (Value.ref 231), closureTuple := Value.none, builtins := 0 }, #[]⟩) ::
  (nat_lit 234, ⟨(Value.type "dict"), none, .dict (List.toArray [⟨PyData.keyHash P (Str.ofString "__module__"), (Value.str (Str.ofString "__module__") 365), (Value.str (Str.ofString "trie.smt") 259)⟩, ⟨PyData.keyHash P (Str.ofString "__firstlineno__"), (Value.str (Str.ofString "__firstlineno__") 369), (Value.int 81 368)⟩, ⟨PyData.keyHash P (Str.ofString "__init__"), (Value.str (Str.ofString "__init__") 384), (Value.ref 151)⟩, ⟨PyData.keyHash P (Str.ofString "from_db"), (Value.str (Str.ofString "from_db") 409), (Value.ref 161)⟩, ⟨PyData.keyHash P (Str.ofString "get"), (Value.str (Str.ofString "get") 419), (Value.ref 169)⟩, ⟨PyData.keyHash P (Str.ofString "branch"), (Value.str (Str.ofString "branch") 429), (Value.ref 176)⟩, ⟨PyData.keyHash P (Str.ofString "_get"), (Value.str (Str.ofString "_get") 445), (Value.ref 183)⟩, ⟨PyData.keyHash P (Str.ofString "set"), (Value.str (Str.ofString "set") 463), (Value.ref 190)⟩, ⟨PyData.keyHash P (Str.ofString "exists"), (Value.str (Str.ofString "exists") 471), (Value.ref 197)⟩, ⟨PyData.keyHash P (Str.ofString "delete"), (Value.str (Str.ofString "delete") 479), (Value.ref 204)⟩, ⟨PyData.keyHash P (Str.ofString "__getitem__"), (Value.str (Str.ofString "__getitem__") 487), (Value.ref 211)⟩, ⟨PyData.keyHash P (Str.ofString "__setitem__"), (Value.str (Str.ofString "__setitem__") 496), (Value.ref 218)⟩, ⟨PyData.keyHash P (Str.ofString "__delitem__"), (Value.str (Str.ofString "__delitem__") 504), (Value.ref 225)⟩, ⟨PyData.keyHash P (Str.ofString "__contains__"), (Value.str (Str.ofString "__contains__") 512), (Value.ref 232)⟩, ⟨PyData.keyHash P (Str.ofString "__static_attributes__"), (Value.str (Str.ofString "__static_attributes__") 519), (Value.ref 233)⟩, ⟨PyData.keyHash P (Str.ofString "__dict__"), (Value.str (Str.ofString "__dict__") 521), (Value.ref 236)⟩, ⟨PyData.keyHash P (Str.ofString "__weakref__"), (Value.str (Str.ofString "__weakref__") 523), (Value.ref 237)⟩, ⟨PyData.keyHash P (Str.ofString "__doc__"), (Value.str (Str.ofString "__doc__") 524), Value.none⟩]) 4, #[]⟩) ::
  (nat_lit 235, ⟨(Value.type "type"), none, .cls { name := (Str.ofString "SparseMerkleTree"), bases := [(Value.type "object")], mro := [(Value.ref 235), (Value.type "object")], ns := 234, qualname := (Str.ofString "SparseMerkleTree"), hasDict := true, slotNames := [], subclasses := [], abstract := false, collection := none, hasDel := false }, #[none, none, (some (Value.str (Str.ofString "SparseMerkleTree") 358)), (some (Value.str (Str.ofString "SparseMerkleTree") 366)), (some (Value.builtin "object.__new__")), (some (Value.bool true))]⟩) ::
  (nat_lit 236, ⟨(Value.type "getset_descriptor"), none, .fields #[(Value.str (Str.ofString "__dict__") 520), (Value.ref 235), (Value.builtin "function.__dict__"), (Value.builtin "function.__dict__#set")], #[]⟩) ::
  (nat_lit 237, ⟨(Value.type "getset_descriptor"), none, .fields #[(Value.str (Str.ofString "__weakref__") 522), (Value.ref 235), (Value.builtin "ExceptionGroup.__weakref__"), Value.none], #[]⟩) ::
  (nat_lit 245, ⟨(Value.type "code"), none, .fields #[(Value.str (Str.ofString "_law_cell") 529), (Value.str (Str.ofString "_law_cell") 530), (Value.str (Str.ofString "/claim/cut.py") 531), (Value.int 184 0), (Value.int 2 0), (Value.int 0 0), (Value.int 0 0), (Value.int 3 0), (Value.ref 240), (Value.bool true), (Value.int 181 0), (Value.ref 241), Value.none, (Value.ref 242), (Value.ref 243), (Value.ref 244), (Value.int 534 0), (Value.int 184 0), (Value.str (Str.ofString "/claim/cut.py") 535)], #[]⟩) ::
  (nat_lit 246, ⟨(Value.type "function"), none, .func { name := (Str.ofString "_law_cell"), qualname := (Str.ofString "_law_cell"), params := fA (sAt 16), body := .stmts (fB (sAt 16)), scope := fS (sAt 16), globals := 3, closure := [], defaults := Value.none, kwdefaults := Value.none, doc := Value.none, pyModule := (Value.str (Str.ofString "law_jw0037_01") 527), annotations := none, code := (Value.ref 245), closureTuple := Value.none, builtins := 0 }, #[]⟩) ::
  (nat_lit 252, ⟨(Value.type "code"), none, .fields #[(Value.str (Str.ofString "_law_hash") 537), (Value.str (Str.ofString "_law_hash") 538), (Value.str (Str.ofString "/claim/cut.py") 539), (Value.int 186 0), (Value.int 0 0), (Value.int 0 0), (Value.int 0 0), (Value.int 3 0), (Value.ref 247), (Value.bool true), (Value.int 181 0), (Value.ref 248), Value.none, (Value.ref 249), (Value.ref 250), (Value.ref 251), (Value.int 542 0), (Value.int 186 0), (Value.str (Str.ofString "/claim/cut.py") 543)], #[]⟩) ::
  (nat_lit 253, ⟨(Value.type "function"), none, .func { name := (Str.ofString "_law_hash"), qualname := (Str.ofString "_law_hash"), params := fA (sAt 17), body := .stmts (fB (sAt 17)), scope := fS (sAt 17), globals := 3, closure := [], defaults := Value.none, kwdefaults := Value.none, doc := Value.none, pyModule := (Value.str (Str.ofString "law_jw0037_01") 527), annotations := none, code := (Value.ref 252), closureTuple := Value.none, builtins := 0 }, #[]⟩) ::
  (nat_lit 259, ⟨(Value.type "code"), none, .fields #[(Value.str (Str.ofString "_law_levels") 545), (Value.str (Str.ofString "_law_levels") 546), (Value.str (Str.ofString "/claim/cut.py") 547), (Value.int 194 0), (Value.int 4 0), (Value.int 0 0), (Value.int 0 0), (Value.int 3 0), (Value.ref 254), (Value.bool true), (Value.int 181 0), (Value.ref 255), Value.none, (Value.ref 256), (Value.ref 257), (Value.ref 258), (Value.int 560 0), (Value.int 194 0), (Value.str (Str.ofString "/claim/cut.py") 561)], #[]⟩) ::
  (nat_lit 260, ⟨(Value.type "function"), none, .func { name := (Str.ofString "_law_levels"), qualname := (Str.ofString "_law_levels"), params := fA (sAt 18), body := .stmts (fB (sAt 18)), scope := fS (sAt 18), globals := 3, closure := [], defaults := Value.none, kwdefaults := Value.none, doc := Value.none, pyModule := (Value.str (Str.ofString "law_jw0037_01") 527), annotations := none, code := (Value.ref 259), closureTuple := Value.none, builtins := 0 }, #[]⟩) ::
  (nat_lit 266, ⟨(Value.type "code"), none, .fields #[(Value.str (Str.ofString "_law_node") 563), (Value.str (Str.ofString "_law_node") 564), (Value.str (Str.ofString "/claim/cut.py") 565), (Value.int 211 0), (Value.int 3 0), (Value.int 0 0), (Value.int 0 0), (Value.int 3 0), (Value.ref 261), (Value.bool true), (Value.int 181 0), (Value.ref 262), Value.none, (Value.ref 263), (Value.ref 264), (Value.ref 265), (Value.int 571 0), (Value.int 211 0), (Value.str (Str.ofString "/claim/cut.py") 572)], #[]⟩) ::
  (nat_lit 267, ⟨(Value.type "function"), none, .func { name := (Str.ofString "_law_node"), qualname := (Str.ofString "_law_node"), params := fA (sAt 19), body := .stmts (fB (sAt 19)), scope := fS (sAt 19), globals := 3, closure := [], defaults := Value.none, kwdefaults := Value.none, doc := Value.none, pyModule := (Value.str (Str.ofString "law_jw0037_01") 527), annotations := none, code := (Value.ref 266), closureTuple := Value.none, builtins := 0 }, #[]⟩) ::
  (nat_lit 273, ⟨(Value.type "code"), none, .fields #[(Value.str (Str.ofString "_law_beside") 574), (Value.str (Str.ofString "_law_beside") 575), (Value.str (Str.ofString "/claim/cut.py") 576), (Value.int 214 0), (Value.int 2 0), (Value.int 0 0), (Value.int 0 0), (Value.int 3 0), (Value.ref 268), (Value.bool true), (Value.int 181 0), (Value.ref 269), Value.none, (Value.ref 270), (Value.ref 271), (Value.ref 272), (Value.int 583 0), (Value.int 214 0), (Value.str (Str.ofString "/claim/cut.py") 584)], #[]⟩) ::
  (nat_lit 274, ⟨(Value.type "function"), none, .func { name := (Str.ofString "_law_beside"), qualname := (Str.ofString "_law_beside"), params := fA (sAt 20), body := .stmts (fB (sAt 20)), scope := fS (sAt 20), globals := 3, closure := [], defaults := Value.none, kwdefaults := Value.none, doc := Value.none, pyModule := (Value.str (Str.ofString "law_jw0037_01") 527), annotations := none, code := (Value.ref 273), closureTuple := Value.none, builtins := 0 }, #[]⟩) ::
  (nat_lit 280, ⟨(Value.type "code"), none, .fields #[(Value.str (Str.ofString "_law_along") 586), (Value.str (Str.ofString "_law_along") 587), (Value.str (Str.ofString "/claim/cut.py") 588), (Value.int 221 0), (Value.int 2 0), (Value.int 0 0), (Value.int 0 0), (Value.int 3 0), (Value.ref 275), (Value.bool true), (Value.int 181 0), (Value.ref 276), Value.none, (Value.ref 277), (Value.ref 278), (Value.ref 279), (Value.int 594 0), (Value.int 221 0), (Value.str (Str.ofString "/claim/cut.py") 595)], #[]⟩) ::
  (nat_lit 281, ⟨(Value.type "function"), none, .func { name := (Str.ofString "_law_along"), qualname := (Str.ofString "_law_along"), params := fA (sAt 21), body := .stmts (fB (sAt 21)), scope := fS (sAt 21), globals := 3, closure := [], defaults := Value.none, kwdefaults := Value.none, doc := Value.none, pyModule := (Value.str (Str.ofString "law_jw0037_01") 527), annotations := none, code := (Value.ref 280), closureTuple := Value.none, builtins := 0 }, #[]⟩) ::
  (nat_lit 285, ⟨(Value.type "code"), none, .fields #[(Value.str (Str.ofString "_law_octets") 597), (Value.str (Str.ofString "_law_octets") 598), (Value.str (Str.ofString "/claim/cut.py") 599), (Value.int 227 0), (Value.int 2 0), (Value.int 0 0), (Value.int 0 0), (Value.int 3 0), (Value.ref 282), (Value.bool true), (Value.int 181 0), (Value.ref 283), Value.none, Value.none, Value.none, (Value.ref 284), (Value.int 600 0), (Value.int 227 0), (Value.str (Str.ofString "/claim/cut.py") 601)], #[]⟩) ::
  (nat_lit 286, ⟨(Value.type "function"), none, .func { name := (Str.ofString "_law_octets"), qualname := (Str.ofString "_law_octets"), params := fA (sAt 22), body := .stmts (fB (sAt 22)), scope := fS (sAt 22), globals := 3, closure := [], defaults := Value.none, kwdefaults := Value.none, doc := Value.none, pyModule := (Value.str (Str.ofString "law_jw0037_01") 527), annotations := none, code := (Value.ref 285), closureTuple := Value.none, builtins := 0 }, #[]⟩) ::
  (nat_lit 292, ⟨(Value.type "code"), none, .fields #[(Value.str (Str.ofString "_law_said") 603), (Value.str (Str.ofString "_law_said") 604), (Value.str (Str.ofString "/claim/cut.py") 605), (Value.int 229 0), (Value.int 2 0), (Value.int 0 0), (Value.int 0 0), (Value.int 3 0), (Value.ref 287), (Value.bool true), (Value.int 181 0), (Value.ref 288), Value.none, (Value.ref 289), (Value.ref 290), (Value.ref 291), (Value.int 608 0), (Value.int 229 0), (Value.str (Str.ofString "/claim/cut.py") 609)], #[]⟩) ::
  (nat_lit 293, ⟨(Value.type "function"), none, .func { name := (Str.ofString "_law_said"), qualname := (Str.ofString "_law_said"), params := fA (sAt 23), body := .stmts (fB (sAt 23)), scope := fS (sAt 23), globals := 3, closure := [], defaults := Value.none, kwdefaults := Value.none, doc := Value.none, pyModule := (Value.str (Str.ofString "law_jw0037_01") 527), annotations := none, code := (Value.ref 292), closureTuple := Value.none, builtins := 0 }, #[]⟩) ::
  (nat_lit 299, ⟨(Value.type "code"), none, .fields #[(Value.str (Str.ofString "_law_refuses") 611), (Value.str (Str.ofString "_law_refuses") 612), (Value.str (Str.ofString "/claim/cut.py") 613), (Value.int 234 0), (Value.int 2 0), (Value.int 0 0), (Value.int 0 0), (Value.int 3 0), (Value.ref 294), (Value.bool true), (Value.int 181 0), (Value.ref 295), Value.none, (Value.ref 296), (Value.ref 297), (Value.ref 298), (Value.int 617 0), (Value.int 234 0), (Value.str (Str.ofString "/claim/cut.py") 618)], #[]⟩) ::
  (nat_lit 300, ⟨(Value.type "function"), none, .func { name := (Str.ofString "_law_refuses"), qualname := (Str.ofString "_law_refuses"), params := fA (sAt 24), body := .stmts (fB (sAt 24)), scope := fS (sAt 24), globals := 3, closure := [], defaults := Value.none, kwdefaults := Value.none, doc := Value.none, pyModule := (Value.str (Str.ofString "law_jw0037_01") 527), annotations := none, code := (Value.ref 299), closureTuple := Value.none, builtins := 0 }, #[]⟩) ::
  (nat_lit 306, ⟨(Value.type "code"), none, .fields #[(Value.str (Str.ofString "_law_sparse") 620), (Value.str (Str.ofString "_law_sparse") 621), (Value.str (Str.ofString "/claim/cut.py") 622), (Value.int 249 0), (Value.int 2 0), (Value.int 0 0), (Value.int 0 0), (Value.int 3 0), (Value.ref 301), (Value.bool true), (Value.int 181 0), (Value.ref 302), Value.none, (Value.ref 303), (Value.ref 304), (Value.ref 305), (Value.int 639 0), (Value.int 249 0), (Value.str (Str.ofString "/claim/cut.py") 640)], #[]⟩) ::
  (nat_lit 307, ⟨(Value.type "function"), none, .func { name := (Str.ofString "_law_sparse"), qualname := (Str.ofString "_law_sparse"), params := fA (sAt 25), body := .stmts (fB (sAt 25)), scope := fS (sAt 25), globals := 3, closure := [], defaults := Value.none, kwdefaults := Value.none, doc := Value.none, pyModule := (Value.str (Str.ofString "law_jw0037_01") 527), annotations := none, code := (Value.ref 306), closureTuple := Value.none, builtins := 0 }, #[]⟩) ::
  (nat_lit 313, ⟨(Value.type "code"), none, .fields #[(Value.str (Str.ofString "law") 642), (Value.str (Str.ofString "law") 643), (Value.str (Str.ofString "/claim/cut.py") 644), (Value.int 279 0), (Value.int 1 0), (Value.int 0 0), (Value.int 0 0), (Value.int 3 0), (Value.ref 308), (Value.bool true), (Value.int 181 0), (Value.ref 309), Value.none, (Value.ref 310), (Value.ref 311), (Value.ref 312), (Value.int 646 0), (Value.int 279 0), (Value.str (Str.ofString "/claim/cut.py") 647)], #[]⟩) ::
  (nat_lit 314, ⟨(Value.type "function"), none, .func { name := (Str.ofString "law"), qualname := (Str.ofString "law"), params := fA (sAt 26), body := .stmts (fB (sAt 26)), scope := fS (sAt 26), globals := 3, closure := [], defaults := Value.none, kwdefaults := Value.none, doc := Value.none, pyModule := (Value.str (Str.ofString "law_jw0037_01") 527), annotations := none, code := (Value.ref 313), closureTuple := Value.none, builtins := 0 }, #[]⟩) :: []
abbrev fragAt : List Addr := [nat_lit 2, nat_lit 3, nat_lit 27, nat_lit 28, nat_lit 34, nat_lit 35, nat_lit 41, nat_lit 42, nat_lit 43, nat_lit 51, nat_lit 52, nat_lit 53, nat_lit 61, nat_lit 62, nat_lit 68, nat_lit 69, nat_lit 75, nat_lit 76, nat_lit 89, nat_lit 90, nat_lit 96, nat_lit 97, nat_lit 98, nat_lit 104, nat_lit 105, nat_lit 106, nat_lit 112, nat_lit 113, nat_lit 114, nat_lit 120, nat_lit 121, nat_lit 122, nat_lit 128, nat_lit 129, nat_lit 131, nat_lit 132, nat_lit 133, nat_lit 134, nat_lit 144, nat_lit 150, nat_lit 151, nat_lit 168, nat_lit 169, nat_lit 175, nat_lit 176, nat_lit 182, nat_lit 183, nat_lit 189, nat_lit 190, nat_lit 196, nat_lit 197, nat_lit 203, nat_lit 204, nat_lit 210, nat_lit 211, nat_lit 217, nat_lit 218, nat_lit 224, nat_lit 225, nat_lit 231, nat_lit 232, nat_lit 234, nat_lit 235, nat_lit 236, nat_lit 237, nat_lit 245, nat_lit 246, nat_lit 252, nat_lit 253, nat_lit 259, nat_lit 260, nat_lit 266, nat_lit 267, nat_lit 273, nat_lit 274, nat_lit 280, nat_lit 281, nat_lit 285, nat_lit 286, nat_lit 292, nat_lit 293, nat_lit 299, nat_lit 300, nat_lit 306, nat_lit 307, nat_lit 313, nat_lit 314]
noncomputable def qv : Program := view PySem.Challenge.pw_jw0037_01 [0, 2, 3, 4, 5, 7, 9, 10, 12, 13, 14, 16, 17, 18, 19, 20, 21, 22, 23, 24, 25, 26]
abbrev lo : List Str := [PySem.Str.ofString "SparseMerkleProof", PySem.Str.ofString "SparseMerkleTree"]
theorem frag_at : ∀ P, fragAt = (frag P).map (·.1) := fun _ => by kernel_rfl
noncomputable abbrev hk : Hook := kmHook frag fragAt frag_at [248]
theorem LeftO.of_run {p q : Program} {loose : List Str} {Xt : Shared → Bool} {α : Type} {Yf : Shared → α} {Ya : World → α} {N : Nat} {g0 : Bool} {H₀ : Params → Heap} {gs₀ : Array GenState} {d₀ : Drawn} {k₀ : Nat} {m₀ : Nat} {ann : Option Value}
    (open_ : ∀ w : World, (fencedOpening treeTable p w N).map (fun s => (s.heap, s.gens, s.drawn, s.toks)) = some (H₀ w.params, gs₀, d₀, k₀))
    (size : ∀ w : World, ((H₀ w.params).isNs mainGlobals && gs₀.size == 0, (H₀ w.params).objs.size, (H₀ w.params).nsMap mainGlobals "__annotations__") = (true, m₀, ann))
    (run : ∀ (w : World) (os : OsState), (topRun treeTable p w m₀ ann N ⟨H₀ w.params, gs₀, d₀, k₀, os⟩ (topStub p)).map (fun s₁ => ((staticsOk (importedModules p.main.body) (H₀ w.params) s₁.heap && namesBound p s₁.heap && gensDone s₁ && laidKept (H₀ w.params) s₁.heap),
        openSeen q loose (importedModules p.main.body) Xt g0 s₁, Yf s₁)) = some (true, openGood q loose, Ya w)) : LeftO p q loose Xt Yf Ya N g0 := fun w => by
  obtain ⟨⟨h, gs, d, k, os⟩, e, e'⟩ := Option.map_eq_some_iff.mp (open_ w)
  obtain ⟨rfl, rfl, rfl, rfl⟩ : h = H₀ w.params ∧ gs = gs₀ ∧ d = d₀ ∧ k = k₀ := by simpa using e'
  obtain ⟨z1, z2, z3⟩ : _ ∧ _ ∧ _ := by simpa only [Prod.mk.injEq] using size w
  obtain ⟨s₁, r, l⟩ := Option.map_eq_some_iff.mp (run w os)
  obtain ⟨l1, l2, l3⟩ : _ ∧ _ ∧ _ := by simpa only [Prod.mk.injEq] using l
  have t : topFrom treeTable p w N ⟨H₀ w.params, gs, d, k, os⟩ = some s₁ := by
    unfold topFrom
    dsimp only
    rw [z1, z2, z3, r]
    show (match staticsOk (importedModules p.main.body) (H₀ w.params) s₁.heap && namesBound p s₁.heap && gensDone s₁ && laidKept (H₀ w.params) s₁.heap with | true => _ | false => _) = _
    rw [l1]
  unfold openEnds
  rw [e]
  show (topFrom treeTable p w N _).map _ = _
  rw [t]
  exact congrArg some (Prod.ext l2 l3)
theorem p_open : opening PySem.Challenge.pw_jw0037_01 = plainProg (Scope.names (Module.scope (Program.main PySem.Challenge.pw_jw0037_01))) := by kernel_rfl
theorem p_fence : ∀ s, fenceModules? PySem.Challenge.pw_jw0037_01 s = some s := by intro s; kernel_rfl
theorem sizes : ∀ w : World, ((boot_heap w.params).isNs mainGlobals && (Array.mk ([] : List GenState)).size == 0, (boot_heap w.params).objs.size, (boot_heap w.params).nsMap mainGlobals "__annotations__") = (true, 11, some (.ref 6)) := by intro w; kernel_rfl
theorem opened : ∀ w : World, (fencedOpening treeTable PySem.Challenge.pw_jw0037_01 w 4530).map (fun s => (s.heap, s.gens, s.drawn, s.toks)) = some (boot_heap w.params, Array.mk [], boot_drawn, boot_toks) := boot_open p_open rfl p_fence
theorem ran : ∀ (w : World) (os : OsState), (topRun treeTable PySem.Challenge.pw_jw0037_01 w 11 (some (.ref 6)) 4530 ⟨boot_heap w.params, Array.mk [], boot_drawn, boot_toks, os⟩ (topStub PySem.Challenge.pw_jw0037_01)).map (fun s₁ => ((staticsOk (importedModules (Module.body (Program.main PySem.Challenge.pw_jw0037_01))) (boot_heap w.params) s₁.heap && namesBound PySem.Challenge.pw_jw0037_01 s₁.heap && gensDone s₁ && laidKept (boot_heap w.params) s₁.heap),
        openSeen qv lo (importedModules (Module.body (Program.main PySem.Challenge.pw_jw0037_01))) (fun s => xlAt qv [] s && recOk (RowW.records PySem.Challenge.rw_jw0037_01.row.toRowW) s) true s₁, Hook.obs hk s₁)) = some (true, openGood qv lo, Hook.val hk w) := by
  intro w os
  rw [PySem.W.Fast.te14082659384304107361, PySem.W.Fast.te14364793385576792824, PySem.W.Fast.te4187177175401517315]
  kernel_rfl
theorem left : LeftO PySem.Challenge.pw_jw0037_01 qv lo (fun s => xlAt qv [] s && recOk (RowW.records PySem.Challenge.rw_jw0037_01.row.toRowW) s) (Hook.obs hk) (Hook.val hk) 4530 := LeftO.of_run opened sizes ran

theorem said0 : PySem.Challenge.rw_jw0037_01.wellSaid = true := by
  rw [PySem.W.Fast.te9446332074065402090]
  kernel_rfl
theorem said1 : PySem.Challenge.rw_jw0037_01.row.wellSaid = true := row_said said0
theorem witness : PySem.Challenge.rw_jw0037_01.row.toRowW.promised := by w_witness2
theorem chains : (chainsOk qv && opensWell PySem.Challenge.rw_jw0037_01.row.toRowW.prog && (frees PySem.Challenge.rw_jw0037_01.row.toRowW && PySem.Challenge.rw_jw0037_01.row.toRowW.within.isEmpty)) = true := by kernel_rfl
theorem bare : PySem.Challenge.rw_jw0037_01.row.toRowW.prog.bare := ⟨rfl, rfl, rfl, rfl, rfl, by decide +kernel⟩
theorem lawDef : ∃ d : DefRec, defOf qv PySem.Challenge.rw_jw0037_01.row.name = some (d, []) := ⟨_, by rfl⟩
theorem hd : WalkO qv lo (XL qv []) (Hook.says (kmHook frag fragAt frag_at [248])) PySem.Challenge.rw_jw0037_01.row.toRowW
    { name := Str.ofString "law", params := fA (sAt 26), body := fB (sAt 26), scope := fS (sAt 26), pos := ⟨279, 0, 280, 43⟩ } [] (fun f vs => PySem.call f vs) → PySem.Challenge.rw_jw0037_01.Holds := fun hc =>
  ⟨said0, holds_open (r := PySem.Challenge.rw_jw0037_01.row) (q := qv) (loose := lo) (Xt := fun s => xlAt qv [] s && recOk (RowW.records PySem.Challenge.rw_jw0037_01.row.toRowW) s) (XP := XL qv []) (Yf := Hook.obs hk) (Ya := Hook.val hk) (YP := Hook.says hk) (N := 4530)
    left (Hook.of hk) (Hook.keeps hk) (fun s e => xl_of s (Bool.and_eq_true_iff.mp e).1) XL.keeps (by kernel_rfl) (by kernel_rfl) (by kernel_rfl) (fun s e => recFacts_of (Bool.and_eq_true_iff.mp e).2) rfl said1 chains bare witness hc⟩

abbrev pw : Program := PySem.Challenge.rw_jw0037_01.row.prog
theorem warm (w : World) (h : Heap) (X : (frag w.params).In h) : PySem.Challenge.rw_jw0037_01.Holds → True := by
  revert X
  k_fill
  intro _ _; trivial

/-- room for so many calls within one another -/
def Rm (d : Nat) (A : Around) : Prop := A.depth + d ≤ 900 ∧ A.units + 20 * d ≤ 9000 ∧ A.handled = none
theorem Rm.le {d e : Nat} {A : Around} (h : Rm d A) (q : e ≤ d) : Rm e A := ⟨by have := h.1; omega, by have := h.2.1; omega, h.2.2⟩
theorem Rm.deep {d : Nat} {A : Around} {env : Env} (h : Rm (d + 1) A) : Rm d (A.deeper env) := ⟨by show A.depth + 1 + d ≤ 900; have := h.1; omega, by show A.units + 3 + 20 * d ≤ 9000; have := h.2.1; omega, h.2.2⟩
theorem Rm.lt {d : Nat} {A : Around} (h : Rm d A) : A.depth < recursionLimit := by have := h.1; unfold recursionLimit; omega
/-- a call stands in a frame of ours, over the ground z -/
def Inn (w : World) (z : Heap) (A : Around) (L : Addr) (base : Heap) : Prop := ∃ A₀ outer cn cs a ccd, Below A₀ z outer base ∧ A.frames = some (envOf cn cs L a ccd :: outer) ∧ cs.kind = .function ∧
  (frag w.params).In z ∧ (∃ loose mean mg mb, Top topProg loose mean mg mb z) ∧ KtsDicts (outer.filterMap (·.frame)) base
theorem Inn.dicts {w : World} {z base g : Heap} {A : Around} {L : Addr} {m : Str → Option Value} (P : Inn w z A L base) (F : Fr base L g m) : ∃ outer, A.frames = some outer ∧ KtsDicts (outer.filterMap (·.frame)) g := by
  obtain ⟨A₀, outer, cn, cs, a, ccd, B, hA, hck, XB, TB, D⟩ := P
  refine ⟨_, hA, fun b hb => ?_⟩
  rcases kts_mem hb with rfl | hb
  · obtain ⟨oL, es, ep, hL, hLd, _⟩ := F.ns
    exact ⟨oL, es, ep, hL, hLd⟩
  · obtain ⟨o, es, n, ho, hd⟩ := D b hb
    exact ⟨o, es, n, F.keep b o ho, hd⟩

section
variable {w : World} {z : Heap} {A : Around} {s : Shared} {base : Heap} {L : Addr} {m mg mb : Str → Option Value} {news : List (Addr × Obj)} {loose : List Str}
  {R : Result → Shared → Prop} {name qual : Str} {params : Arguments} {b0 : Stmt} {bs : List Stmt} {ns : List (Str × NameKind)} {mo : List (Str × Const)} {cl : List (Str × Addr)} {dV kV doc pm cdv ct oc : Value} {an od : Option Addr} {osl : Array (Option Value)} {fo : Obj} {f : Addr} {args : Args} {binds : List (Str × Value)} {dd : Nat}

theorem enterX {scope : Scope} (P : Inn w z A L base) (F : Fr base L s.heap m) (N : News base L s.heap news) (X : (frag w.params).In base) (T : TopRead topProg loose mg mb base)
    (ho : s.heap.get? f = some fo) (hd : fo.data = .func (fnX name qual params (b0 :: bs) scope cl dV kV doc pm an cdv ct)) (hcd : s.heap.CodeRec cdv qual) (hr : Rm (dd + 1) A)
    (hbind : BindsTo s (fnX name qual params (b0 :: bs) scope cl dV kV doc pm an cdv ct) args binds) (hloc : ∀ y ∈ binds, scope.names.lookup y.1 = some .local)
    (h : ∀ g L' h₁ a1 a2 a3 a4 (Q : Flow → Shared → Prop) (E : Value → Shared → Prop), Fr g L' h₁ (fun y => binds.reverse.lookup y) → News g L' h₁ news → (frag w.params).In g → TopRead topProg loose mg mb g → (cl = [] → Inn w z ⟨none, a1, a2, a3, a4⟩ L' g) → (∀ p ∈ news, p.1 < L') → base.StaysIn g → Rm dd ⟨none, a1, a2, a3, a4⟩ →
      (∀ fl s', LeaveK base L m g R (match fl with | .ret v => v | _ => .none) s' → Q fl s') →
      (∀ e s', wpAny (model pw w) ⟨none, a1, a2, a3, a4⟩ (leaving (envX qual scope L' f cdv cl) e) (fun _ s'' => R (.error e) s'') (fun e' s'' => R (.error e') s'') s' → E e s') → PassesOwn (model pw w) ⟨none, a1, a2, a3, a4⟩ (envX qual scope L' f cdv cl) E →
      wpAny (model pw w) ⟨none, a1, a2, a3, a4⟩ (execs (b0 :: bs) (envX qual scope L' f cdv cl)) Q E { s with heap := h₁, toks := s.toks + binds.length })
    (hcell : ∀ x ∈ scope.names, x.2 ≠ .cell) (hco : scope.isCoroutine = false) (hgen : scope.isGenerator = false) (hk : scope.kind = .function) : codeAny (model pw w) A (.call (.ref f) args) R s := by
  have P0 := P
  obtain ⟨A₀, outer, cn, cs, aa, ccd, B, hA, hck, XB, TB, D⟩ := P
  obtain ⟨hd0, b1, b2, b3, b4⟩ := A
  obtain rfl : hd0 = none := hr.2.2
  refine callX_plain B F N T.nolimit hA rfl hck ho hd hcd hr.lt hbind hloc (fun g L' h₁ FG F' N' B' st lt => ?_) hcell hco hgen hk
  refine h g L' h₁ _ _ _ _ _ _ F' N' (X.keeps st) (T.keeps st) (fun e => ?_) lt st hr.deep (fun _ _ z => z) (fun _ _ z => z) PassesOwn.leaving
  subst e
  obtain ⟨o2, h2, D2⟩ := P0.dicts FG
  obtain rfl := Option.some.inj (hA.symm.trans h2)
  exact ⟨⟨none, b1, b2, b3, b4⟩, _, qual, scope, f, cdv, B', Around.frames_deeper hA, hk, XB, TB, D2⟩
  
theorem enter (P : Inn w z A L base) (F : Fr base L s.heap m) (N : News base L s.heap news) (X : (frag w.params).In base) (T : TopRead topProg loose mg mb base)
    (ho : (frag w.params).lookup f = some ⟨oc, od, .func (fnOf name qual params (b0 :: bs) (Scope.mk .function ns false false mo) dV kV doc pm an cdv ct), osl⟩) (hcd : codeIn (frag w.params) cdv qual = true) (hr : Rm (dd + 1) A)
    (hbind : BindsTo s (fnOf name qual params (b0 :: bs) (Scope.mk .function ns false false mo) dV kV doc pm an cdv ct) args binds) (hloc : (binds.all fun y => decide (ns.lookup y.1 = some .local)) = true) (hcell : (ns.all fun x => decide (x.2 ≠ .cell)) = true)
    (h : ∀ g L' h₁ a1 a2 a3 a4 (Q : Flow → Shared → Prop) (E : Value → Shared → Prop), Fr g L' h₁ (fun y => binds.reverse.lookup y) → News g L' h₁ news → (frag w.params).In g → TopRead topProg loose mg mb g → Inn w z ⟨none, a1, a2, a3, a4⟩ L' g → (∀ p ∈ news, p.1 < L') → base.StaysIn g → Rm dd ⟨none, a1, a2, a3, a4⟩ →
      (∀ fl s', LeaveK base L m g R (match fl with | .ret v => v | _ => .none) s' → Q fl s') →
      (∀ e s', wpAny (model pw w) ⟨none, a1, a2, a3, a4⟩ (leaving (envOf qual (Scope.mk .function ns false false mo) L' f cdv) e) (fun _ s'' => R (.error e) s'') (fun e' s'' => R (.error e') s'') s' → E e s') → PassesOwn (model pw w) ⟨none, a1, a2, a3, a4⟩ (envOf qual (Scope.mk .function ns false false mo) L' f cdv) E →
      wpAny (model pw w) ⟨none, a1, a2, a3, a4⟩ (execs (b0 :: bs) (envOf qual (Scope.mk .function ns false false mo) L' f cdv)) Q E { s with heap := h₁, toks := s.toks + binds.length }) : codeAny (model pw w) A (.call (.ref f) args) R s :=
  enterX (scope := Scope.mk .function ns false false mo) (cl := []) P F N X T ((X.keeps F.keep) _ _ ho) rfl (codeRec_of (X.keeps F.keep) hcd) hr hbind (fun x hx => of_decide_eq_true (List.all_eq_true.mp hloc x hx)) (fun g L' h₁ b1 b2 b3 b4 Q E a b c d e f st r hq he ho => h g L' h₁ b1 b2 b3 b4 Q E a b c d (e rfl) f st r hq he ho) (fun x hx => of_decide_eq_true (List.all_eq_true.mp hcell x hx)) rfl rfl rfl
end

/-- the caller's frame, kept by (out of sight of the walk's lines) -/
structure Und (base : Heap) (L : Addr) (g : Heap) (m : Str → Option Value) : Prop where
  fr : Fr base L g m
/-- the ground of a frame was turned: the frames below it were noted -/
def Turn (A : Around) (base base' : Heap) : Prop := ∃ env outer, A.frames = some (env :: outer) ∧ KtsTurn (outer.filterMap (·.frame)) base base'
/-- an exception flies out of a call into the frame at L -/
def Flies (w : World) (z : Heap) (A : Around) (L : Addr) (base : Heap) (m : Str → Option Value) (news : List (Addr × Obj)) (e : Addr) (cls : Value) (h : Heap) : Prop :=
  ∃ A₀ outer cn cs a ccd G, Below A₀ z outer base ∧ A.frames = some (envOf cn cs L a ccd :: outer) ∧ cs.kind = .function ∧
    (frag w.params).In z ∧ (∃ loose mean mg mb, Top topProg loose mean mg mb z) ∧ KtsDicts (outer.filterMap (·.frame)) base ∧ Fr base L G m ∧ RaisedSN z G (envOf cn cs L a ccd :: outer) e cls news h ∧ G.UpToSlots h
theorem raisedSN_sub {base G : Heap} {l : List Env} {e : Addr} {cls : Value} {news news' : List (Addr × Obj)} {h : Heap} (R : RaisedSN base G l e cls news h) (q : ∀ p ∈ news', p ∈ news) : RaisedSN base G l e cls news' h := by
  obtain ⟨B, a0, hB, hBG, hl, hfl⟩ := R
  exact ⟨B, a0, hB, hBG, fun p hp => hl p (q p hp), hfl⟩
theorem Flies.sub {w : World} {z base h : Heap} {A : Around} {L e : Addr} {m : Str → Option Value} {news news' : List (Addr × Obj)} {cls : Value} (H : Flies w z A L base m news e cls h) (q : ∀ p ∈ news', p ∈ news) : Flies w z A L base m news' e cls h := by
  obtain ⟨A₀, outer, cn, cs, a, ccd, G, B, hA, hck, XB, TB, D, F, Rz, U⟩ := H
  exact ⟨A₀, outer, cn, cs, a, ccd, G, B, hA, hck, XB, TB, D, F, raisedSN_sub Rz q, U⟩
/-- a frame over its caller, with what stands on the stack -/
def Stands (w : World) (z : Heap) (A A' : Around) (env : Env) (g : Heap) : Prop := A' = A.deeper env ∧ ∃ outer, Below A z outer g ∧ (frag w.params).In z ∧ (∃ loose mean mg mb, Top topProg loose mean mg mb z) ∧ KtsDicts (outer.filterMap (·.frame)) g
section
variable {w : World} {z : Heap} {A A' : Around} {s s' : Shared} {base g : Heap} {L L' f e : Addr} {m mg mb m' : Str → Option Value} {news news' : List (Addr × Obj)} {loose : List Str} {name : Str} {scope : Scope} {cd cls : Value}
  {R : Result → Shared → Prop} {E E' : Value → Shared → Prop} {Q : Unit → Shared → Prop}
/-- a raise leaves its frame -/
theorem flies_new {c : String} {h₂ : Heap} (S : Stands w z A A' (envOf name scope L' f cd) g) (P : Inn w z A L base) (FG : Und base L g m) (hk : scope.kind = .function) (hx : Heap.NewExc h₂ s'.heap e c) (F : Fr g L' h₂ m') (N : News g L' h₂ news')
    (k : ∀ h', Flies w z A L base m news' e (.type c) h' → Q () { s' with heap := h' }) : wpAny (model pw w) A' (leaving (envOf name scope L' f cd) (.ref e)) Q E' s' := by
  obtain ⟨rfl, o1, B1, XB, TB, D1⟩ := S
  obtain ⟨A₀, outer, cn, cs, a, ccd, B, hA, hck, XB', TB', D⟩ := P
  obtain rfl := Option.some.inj (hA.symm.trans B1.stack)
  exact leave_newS B1 hx F N (fun h' R1 _ U => k h' ⟨A₀, _, cn, cs, a, ccd, g, B, hA, hck, XB, TB, D, FG.fr, R1, U⟩) hk
theorem flies_made {vs : List Value} {h₂ : Heap} (S : Stands w z A A' (envOf name scope L' f cd) g) (P : Inn w z A L base) (FG : Und base L g m) (hk : scope.kind = .function) (hx : Heap.MadeExcOf h₂ s'.heap e cls vs) (F : Fr g L' h₂ m') (N : News g L' h₂ news')
    (k : ∀ h', Flies w z A L base m news' e cls h' → Q () { s' with heap := h' }) : wpAny (model pw w) A' (leaving (envOf name scope L' f cd) (.ref e)) Q E' s' := by
  obtain ⟨rfl, o1, B1, XB, TB, D1⟩ := S
  obtain ⟨A₀, outer, cn, cs, a, ccd, B, hA, hck, XB', TB', D⟩ := P
  obtain rfl := Option.some.inj (hA.symm.trans B1.stack)
  exact leave_raiseS B1 hx F N (fun h' t R1 _ U => k h' ⟨A₀, _, cn, cs, a, ccd, g, B, hA, hck, XB, TB, D, FG.fr, R1.toSN, U⟩) hk
theorem flies_on (S : Stands w z A A' (envOf name scope L' f cd) g) (P : Inn w z A L base) (FG : Und base L g m) (H : Flies w z A' L' g m' news' e cls s'.heap)
    (k : ∀ h', Flies w z A L base m news' e cls h' → Q () { s' with heap := h' }) : wpAny (model pw w) A' (leaving (envOf name scope L' f cd) (.ref e)) Q E' s' := by
  obtain ⟨rfl, o1, B1, XB, TB, D1⟩ := S
  obtain ⟨A₀, outer, cn, cs, a, ccd, B, hA, hck, XB', TB', D⟩ := P
  obtain rfl := Option.some.inj (hA.symm.trans B1.stack)
  obtain ⟨A₁, o2, cn2, cs2, a2, ccd2, G, B2, hA2, hck2, _, _, D2, F2, R2, U2⟩ := H
  have e2 := Option.some.inj ((Around.frames_deeper B1.stack).symm.trans hA2)
  rw [← e2] at R2
  exact leave_onSN B1 F2 R2 U2 fun h' R1 _ U => k h' ⟨A₀, _, cn, cs, a, ccd, g, B, hA, hck, XB, TB, D, FG.fr, R1, U⟩
/-- a suite catches what flies -/
theorem flies_caught {Q : Flow → Shared → Prop} {tt : PySem.Expr} {b₀ : Stmt} {suite : List Stmt} {pos : Pos} {rest : List ExceptHandler} (S : Stands w z A A' (envOf name scope L' f cd) g) (hk : scope.kind = .function) (H : Flies w z A' L' g m' news' e cls s'.heap)
    (T : ∀ loose mg mb, KtsTest pw w (frag w.params) topProg loose mg mb name scope L' f cd cls tt true)
    (k : ∀ h' g' loose mg mb, Turn A' g g' → Fr g' L' h' m' → News g' L' h' news' → (frag w.params).In g' → TopRead topProg loose mg mb g' → Inn w z A' L' g' → Stands w z A A' (envOf name scope L' f cd) g' →
      wpAny (model pw w) (A'.mark (some (.ref e))) (execs (b₀ :: suite) (envOf name scope L' f cd)) Q E { s' with heap := h' })
    (hE : PassesOwnAt (model pw w) (A'.mark (some (.ref e))) A' (envOf name scope L' f cd) E) :
    wpAny (model pw w) A' (noteFrame (.ref e) (envOf name scope L' f cd))
      (fun _ s₂ => wpAny (model pw w) A' (setFlight (.ref e) none) (fun _ s₃ =>
        wpAny (model pw w) A' (handleBy (.ref e) (envOf name scope L' f cd) (.ExceptHandler (some tt) none (b₀ :: suite) pos :: rest)) Q E s₃) E s₂) E s' := by
  obtain ⟨rfl, o1, B1, XB, ⟨l1, mean1, mg1, mb1, TB⟩, D1⟩ := S
  obtain ⟨A₁, o2, cn2, cs2, a2, ccd2, G, B2, hA2, hck2, _, _, D2, F2, R2, U2⟩ := H
  have e2 := Option.some.inj ((Around.frames_deeper B1.stack).symm.trans hA2)
  rw [← e2] at R2
  refine kts_lookSN R2 F2 B1 U2 D1 fun h' R3 U3 => ?_
  refine hit_SN0 R3 F2 B1 U3 XB TB D1 KtsTurn.refl (T _ _ _) (fun h₂ g' T' F' N' B' X' P' D' => ?_) hE
  exact k h₂ g' _ _ _ ⟨_, _, Around.frames_deeper B1.stack, T'⟩ F' N' X' (topRead_of P') ⟨A, o1, name, scope, f, cd, B', Around.frames_deeper B1.stack, hk, XB, ⟨_, _, _, _, TB⟩, D'⟩ ⟨rfl, o1, B', XB, ⟨_, _, _, _, TB⟩, D'⟩
/-- a frame whose ground was turned gives a value back -/
def LeaveT (w : World) (z : Heap) (A A' : Around) (L : Addr) (base : Heap) (m : Str → Option Value) (g : Heap) (R : Result → Shared → Prop) (v : Value) (s' : Shared) : Prop :=
  ∃ g' L' m' news', Turn A' g g' ∧ Fr g' L' s'.heap m' ∧ News g' L' s'.heap news' ∧ ∀ base' loose mg mb, Turn A base base' → Fr base' L s'.heap m → News base' L s'.heap news' → (frag w.params).In base' → TopRead topProg loose mg mb base' → Inn w z A L base' → R (.ok (.ret v)) s'
end
section
variable {w : World} {z : Heap} {A : Around} {s : Shared} {base : Heap} {L : Addr} {m mg mb : Str → Option Value} {news : List (Addr × Obj)} {loose : List Str}
  {R : Result → Shared → Prop} {name qual : Str} {params : Arguments} {b0 : Stmt} {bs : List Stmt} {ns : List (Str × NameKind)} {mo : List (Str × Const)} {dV kV doc pm cdv ct oc : Value} {an od : Option Addr} {osl : Array (Option Value)} {f : Addr} {args : Args} {binds : List (Str × Value)} {dd : Nat}
theorem enterE (P : Inn w z A L base) (F : Fr base L s.heap m) (N : News base L s.heap news) (X : (frag w.params).In base) (T : TopRead topProg loose mg mb base)
    (ho : (frag w.params).lookup f = some ⟨oc, od, .func (fnOf name qual params (b0 :: bs) (Scope.mk .function ns false false mo) dV kV doc pm an cdv ct), osl⟩) (hcd : codeIn (frag w.params) cdv qual = true) (hr : Rm (dd + 1) A)
    (hbind : BindsTo s (fnOf name qual params (b0 :: bs) (Scope.mk .function ns false false mo) dV kV doc pm an cdv ct) args binds) (hloc : (binds.all fun y => decide (ns.lookup y.1 = some .local)) = true) (hcell : (ns.all fun x => decide (x.2 ≠ .cell)) = true)
    (h : ∀ g L' h₁ a1 a2 a3 a4 (Q : Flow → Shared → Prop) (E : Value → Shared → Prop), Fr g L' h₁ (fun y => binds.reverse.lookup y) → News g L' h₁ news → (frag w.params).In g → TopRead topProg loose mg mb g → Inn w z ⟨none, a1, a2, a3, a4⟩ L' g → base.StaysIn g → Rm dd ⟨none, a1, a2, a3, a4⟩ →
      (∀ fl s', LeaveK base L m g R (match fl with | .ret v => v | _ => .none) s' → Q fl s') → (∀ fl s', LeaveT w z A ⟨none, a1, a2, a3, a4⟩ L base m g R (match fl with | .ret v => v | _ => .none) s' → Q fl s') →
      (∀ e s', wpAny (model pw w) ⟨none, a1, a2, a3, a4⟩ (leaving (envOf qual (Scope.mk .function ns false false mo) L' f cdv) e) (fun _ s'' => R (.error e) s'') (fun e' s'' => R (.error e') s'') s' → E e s') → PassesOwn (model pw w) ⟨none, a1, a2, a3, a4⟩ (envOf qual (Scope.mk .function ns false false mo) L' f cdv) E →
      Und base L g m → Stands w z A ⟨none, a1, a2, a3, a4⟩ (envOf qual (Scope.mk .function ns false false mo) L' f cdv) g → (∀ hd, PassesOwnAt (model pw w) (Around.mark ⟨none, a1, a2, a3, a4⟩ hd) ⟨none, a1, a2, a3, a4⟩ (envOf qual (Scope.mk .function ns false false mo) L' f cdv) E) →
      wpAny (model pw w) ⟨none, a1, a2, a3, a4⟩ (execs (b0 :: bs) (envOf qual (Scope.mk .function ns false false mo) L' f cdv)) Q E { s with heap := h₁, toks := s.toks + binds.length }) : codeAny (model pw w) A (.call (.ref f) args) R s := by
  have P0 := P
  obtain ⟨A₀, outer, cn, cs, a, ccd, B, hA, hck, XB, ⟨l1, mean1, mg1, mb1, TB⟩, D⟩ := P
  obtain ⟨hd0, b1, b2, b3, b4⟩ := A
  obtain rfl : hd0 = none := hr.2.2
  refine code_defS (g₀ := base) B F X N (TB.keeps B.stays) XB TB D KtsTurn.refl hA ho hcd hr.lt hbind (fun x hx => of_decide_eq_true (List.all_eq_true.mp hloc x hx)) (fun g L' h₁ FG F' N' B' X' T' D' => ?_) hck rfl rfl rfl (fun x hx => of_decide_eq_true (List.all_eq_true.mp hcell x hx))
  refine h g L' h₁ _ _ _ _ _ _ F' N' X' (T.keeps FG.keep) ⟨_, _, qual, _, f, cdv, B', Around.frames_deeper hA, rfl, XB, ⟨l1, mean1, mg1, mb1, TB⟩, D'⟩ FG.keep hr.deep (fun fl s' q => .inl q) (fun fl s' q => ?_) (fun _ _ q => q) PassesOwn.leaving ⟨FG⟩ ⟨rfl, _, B', XB, ⟨l1, mean1, mg1, mb1, TB⟩, D'⟩ (fun hd => PassesOwnAt.leaving)
  obtain ⟨g', L₂, m₂, n₂, ⟨env2, o2, hA2, KT⟩, F₂, N₂, k⟩ := q
  have e2 := Option.some.inj ((Around.frames_deeper hA).symm.trans hA2)
  injection e2 with _ e3
  subst e3
  exact .inr ⟨g', L₂, m₂, n₂, KT, F₂, N₂, fun base' T₃ F₃ N₃ B₃ X₃ P₃ D₃ => k base' _ _ _ ⟨_, _, hA, T₃⟩ F₃ N₃ X₃ (topRead_of P₃) ⟨A₀, outer, cn, cs, a, ccd, B₃, hA, hck, XB, ⟨l1, mean1, mg1, mb1, TB⟩, D₃⟩⟩
end

abbrev Bts := Array UInt8
def isB (k : Bts) : Value → Bool
  | .bytes b _ => b == k
  | _ => false
theorem isB_shape {k : Bts} {v : Value} (h : isB k v = true) : ∃ t, v = .bytes k t := by
  cases v <;> simp only [isB, Bool.false_eq_true, beq_iff_eq] at h
  subst h; exact ⟨_, rfl⟩
theorem isB_list {k : Bts} {v : Value} (h : isB k v = true) : isBytes k.toList v = true := by
  obtain ⟨t, rfl⟩ := isB_shape h
  simp [isBytes]
def bkind (w : World) : KeyKind pw w Bts where
  is := isB
  hash k := (bytesKind pw w).hash k.toList
  inj v a b ha hb := by obtain ⟨t, rfl⟩ := isB_shape ha; simpa [isB] using hb
  byValue k v h := by obtain ⟨t, rfl⟩ := isB_shape h; rfl
  pyHash := fun hv h => (bytesKind pw w).pyHash (isB_list hv) h
  eqBool := fun {A E s a b u v Q} hu hv h => (bytesKind pw w).eqBool (isB_list hu) (isB_list hv) (by
    have : decide (a.toList = b.toList) = decide (a = b) := by
      by_cases e : a = b
      · subst e; simp
      · rw [decide_eq_false e, decide_eq_false (fun q => e (Array.toList_inj.mp q))]
    rw [this]; exact h)
  «strs» k x t v h := by cases h
theorem bk_is (w : World) (b : Bts) (t : Tok) : (bkind w).is b (.bytes b t) = true := by simp [bkind, isB]
theorem ik_is (w : World) (k : Int) (t : Tok) : (intKind pw w).is k (.int k t) = true := by simp [intKind, Value.isInt]
theorem empty_kind {w : World} {K K' : Type} [DecidableEq K] [DecidableEq K'] {knd : KeyKind pw w K} {knd' : KeyKind pw w K'} {o : Obj} (h : o.IsDictOf knd []) : o.IsDictOf knd' [] := by
  obtain ⟨es, ep, h1, h2, h3, h4, h5⟩ := h
  have : es.toList = [] := by
    revert h4
    cases es.toList with
    | nil => intro _; rfl
    | cons e r => intro h4; cases h4
  have he : es = #[] := Array.toList_inj.mp this
  subst he
  exact ⟨#[], ep, h1, h2, fun e he => by simp at he, by constructor, List.nodup_nil⟩
/-- a dict whose values are bytes: its pairs, the tokens forgotten -/
def BDict {w : World} {K : Type} [DecidableEq K] (knd : KeyKind pw w K) (o : Obj) (l : List (K × Bts)) : Prop :=
  ∃ kvs, o.IsDictOf knd kvs ∧ kvs.map (·.1) = l.map (·.1) ∧ ∀ (i : Nat) (p : K × Value) (q : K × Bts), kvs[i]? = some p → l[i]? = some q → ∃ tk, p.2 = .bytes q.2 tk
def lookB {K : Type} [DecidableEq K] (l : List (K × Bts)) (k : K) : Option Bts := (l.find? fun q => q.1 = k).map (·.2)
def putB {K : Type} [DecidableEq K] (l : List (K × Bts)) (k : K) (v : Bts) : List (K × Bts) := if l.any (fun q => q.1 = k) then l.map (fun q => if q.1 = k then (q.1, v) else q) else l ++ [(k, v)]
section
variable {w : World} {K : Type} [DecidableEq K] {knd : KeyKind pw w K} {o : Obj} {l : List (K × Bts)} {k : K} {v : Bts} {kvs : List (K × Value)}
theorem pair_look : ∀ {kvs : List (K × Value)} {l : List (K × Bts)}, kvs.map (·.1) = l.map (·.1) → (∀ (i : Nat) (p : K × Value) (q : K × Bts), kvs[i]? = some p → l[i]? = some q → ∃ tk, p.2 = .bytes q.2 tk) →
    (match lookB l k with | some v => ∃ tk, valueAt kvs k = some (.bytes v tk) | none => valueAt kvs k = none)
  | [], [], _, _ => rfl
  | [], _ :: _, h, _ => by simp at h
  | _ :: _, [], h, _ => by simp at h
  | p :: ks, q :: ls, h, hv => by
    simp only [List.map_cons, List.cons.injEq] at h
    obtain ⟨tk, e⟩ := hv 0 p q rfl rfl
    have ih := pair_look (kvs := ks) (l := ls) h.2 fun i p' q' a b => hv (i + 1) p' q' (by simpa using a) (by simpa using b)
    unfold lookB valueAt at *
    simp only [List.find?_cons, h.1]
    by_cases c : q.1 = k
    · simp only [c, decide_true, Option.map_some]; exact ⟨tk, by rw [e]⟩
    · simp only [c, decide_false]; exact ih
theorem BDict.nodup (B : BDict knd o l) : (l.map (·.1)).Nodup := by
  obtain ⟨kvs, ⟨_, _, _, _, _, _, h⟩, e, _⟩ := B
  exact e ▸ h
theorem BDict.nil (h : o.IsDictOf knd []) : BDict knd o [] := ⟨[], h, rfl, fun i p q a _ => by simp at a⟩
theorem any_keys {kvs : List (K × Value)} {l : List (K × Bts)} (e : kvs.map (·.1) = l.map (·.1)) : kvs.any (fun kv => decide (kv.1 = k)) = l.any (fun q => decide (q.1 = k)) := by
  have a : kvs.any (fun kv => decide (kv.1 = k)) = (kvs.map (·.1)).any (fun x => decide (x = k)) := by rw [List.any_map]; rfl
  have b : l.any (fun kv => decide (kv.1 = k)) = (l.map (·.1)).any (fun x => decide (x = k)) := by rw [List.any_map]; rfl
  rw [a, b, e]
theorem putB_keys {l : List (K × Bts)} {kvs : List (K × Value)} (e : kvs.map (·.1) = l.map (·.1)) (u : Value) (v : Bts) : (stored kvs k u).map (·.1) = (putB l k v).map (·.1) := by
  unfold stored putB
  rw [any_keys (k := k) e]
  split
  · rw [List.map_map, List.map_map]
    have c1 : ((fun x : K × Value => x.1) ∘ fun kv => if kv.1 = k then (kv.1, u) else kv) = fun x => x.1 := by funext x; simp only [Function.comp]; split <;> rfl
    have c2 : ((fun x : K × Bts => x.1) ∘ fun kv => if kv.1 = k then (kv.1, v) else kv) = fun x => x.1 := by funext x; simp only [Function.comp]; split <;> rfl
    rw [c1, c2]; exact e
  · rw [List.map_append, List.map_append, e]; rfl
theorem BDict.put (h : o.IsDictOf knd (stored kvs k (.bytes v t))) (e : kvs.map (·.1) = l.map (·.1)) (hv : ∀ (i : Nat) (p : K × Value) (q : K × Bts), kvs[i]? = some p → l[i]? = some q → ∃ tk, p.2 = .bytes q.2 tk) : BDict knd o (putB l k v) := by
  refine ⟨_, h, putB_keys e _ _, fun i p q a b => ?_⟩
  unfold stored at a
  unfold putB at b
  rw [any_keys (k := k) e] at a
  split at a
  · rename_i c
    rw [if_pos c] at b
    rw [List.getElem?_map] at a b
    obtain ⟨p', hp', rfl⟩ := Option.map_eq_some_iff.mp a
    obtain ⟨q', hq', rfl⟩ := Option.map_eq_some_iff.mp b
    have hk : p'.1 = q'.1 := by
      have h1 : (kvs.map (·.1))[i]? = some p'.1 := by rw [List.getElem?_map, hp']; rfl
      have h2 : (l.map (·.1))[i]? = some q'.1 := by rw [List.getElem?_map, hq']; rfl
      rw [e, h2] at h1; exact (Option.some.inj h1).symm
    by_cases c2 : q'.1 = k
    · simp only [hk, c2, if_true]; exact ⟨t, rfl⟩
    · simp only [hk, c2, if_false]; exact hv i p' q' hp' hq'
  · rename_i c
    rw [if_neg c] at b
    have hlen : kvs.length = l.length := by simpa using congrArg List.length e
    rcases Nat.lt_or_ge i kvs.length with hi | hi
    · rw [List.getElem?_append_left hi] at a
      rw [List.getElem?_append_left (hlen ▸ hi)] at b
      exact hv i p q a b
    · rw [List.getElem?_append_right hi] at a
      rw [List.getElem?_append_right (hlen ▸ hi)] at b
      rw [hlen] at a
      cases hj : i - l.length with
      | zero => rw [hj] at a b; simp at a b; subst a; subst b; exact ⟨t, rfl⟩
      | succ n => rw [hj] at a; simp at a
variable {A : Around} {E : Value → Shared → Prop} {s : Shared} {h₀ : Heap} {L d : Addr} {m : Str → Option Value} {news : List (Addr × Obj)} {g : Obj → List (Addr × Obj)} {key : Value}
theorem b_in {Q : Value → Shared → Prop} (N : News h₀ L s.heap news) (hp : (d, o) ∈ news) (hd : BDict knd o l) (lo : (d == sysModules) = false) (hkey : knd.is k key = true) (h : Q (.bool (lookB l k).isSome) { s with toks := s.toks + 1 }) :
    wpAny (model pw w) A (compareOp .In key (.ref d)) Q E s := by
  obtain ⟨kvs, h1, h2, h3⟩ := hd
  refine kda_in N hp h1 lo hkey _ rfl ?_
  have := pair_look (k := k) h2 h3
  split at this <;> rename_i q <;> rw [q] at h
  · obtain ⟨tk, e⟩ := this; rw [e]; exact h
  · rw [this]; exact h
theorem b_notin {Q : Value → Shared → Prop} (N : News h₀ L s.heap news) (hp : (d, o) ∈ news) (hd : BDict knd o l) (lo : (d == sysModules) = false) (hkey : knd.is k key = true) (h : Q (.bool (!(lookB l k).isSome)) { s with toks := s.toks + 1 }) :
    wpAny (model pw w) A (compareOp .NotIn key (.ref d)) Q E s := by
  obtain ⟨kvs, h1, h2, h3⟩ := hd
  refine kdg_notin N hp h1 lo hkey _ rfl ?_
  have := pair_look (k := k) h2 h3
  split at this <;> rename_i q <;> rw [q] at h
  · obtain ⟨tk, e⟩ := this; rw [e]; exact h
  · rw [this]; exact h
theorem b_in2 {Q : Value → Shared → Prop} (N : News h₀ L s.heap news) (hp : (d, o) ∈ news) (hd : BDict knd o l) (lo : (d == sysModules) = false) (hkey : knd.is k key = true)
    (h1 : ∀ v, lookB l k = some v → Q (.bool true) { s with toks := s.toks + 1 }) (h2 : lookB l k = none → Q (.bool false) { s with toks := s.toks + 1 }) : wpAny (model pw w) A (compareOp .In key (.ref d)) Q E s := by
  refine b_in N hp hd lo hkey ?_
  cases e : lookB l k with
  | none => exact h2 e
  | some v => exact h1 v e
theorem b_notin2 {Q : Value → Shared → Prop} (N : News h₀ L s.heap news) (hp : (d, o) ∈ news) (hd : BDict knd o l) (lo : (d == sysModules) = false) (hkey : knd.is k key = true)
    (h1 : ∀ v, lookB l k = some v → Q (.bool false) { s with toks := s.toks + 1 }) (h2 : lookB l k = none → Q (.bool true) { s with toks := s.toks + 1 }) : wpAny (model pw w) A (compareOp .NotIn key (.ref d)) Q E s := by
  refine b_notin N hp hd lo hkey ?_
  cases e : lookB l k with
  | none => exact h2 e
  | some v => exact h1 v e
theorem b_item {value slice : PySem.Expr} {Q : Value → Shared → Prop} (N : News h₀ L s.heap news) (hp : (d, o) ∈ news) (hd : BDict knd o l) (hkey : knd.is k key = true) (hl : lookB l k = some v) (h : ∀ tk, Q (.bytes v tk) { s with toks := s.toks + 1 })
    (hs : subscripted slice false (.ref d) key = operate [.ref d, key] (getItem (.ref d) key)) (hg : ∀ r, letTemporaryGo value (.ref d) r = pure ()) :
    wpAny (model pw w) A (subscriptTail value slice (.ref d) key) Q E s := by
  obtain ⟨kvs, h1, h2, h3⟩ := hd
  have := pair_look (k := k) h2 h3
  rw [hl] at this
  obtain ⟨tk, e⟩ := this
  exact kda_item N hp h1 hkey e (h tk) hs hg
theorem b_len {Q : Value → Shared → Prop} (N : News h₀ L s.heap news) (hp : (d, o) ∈ news) (hd : BDict knd o l) (lo : (d == sysModules) = false) (hfit : l.length ≤ 100000) (h : Q (.int l.length (s.toks + 1)) { s with toks := s.toks + 1 + 1 }) :
    wpAny (model pw w) A (call (.builtin "len") [.ref d]) Q E s := by
  obtain ⟨kvs, h1, h2, h3⟩ := hd
  have e : kvs.length = l.length := by simpa using congrArg List.length h2
  exact kda_len N hp h1 lo (by omega) (by rw [e]; exact h)
theorem b_set {t : Tok} {Q : Unit → Shared → Prop} (F : Fr h₀ L s.heap m) (N : News h₀ L s.heap news) (U : UpdF d o news g) (hd : BDict knd o l) (hkey : knd.is k key = true) (hsz : l.length ≤ 100000)
    (h : ∀ h' o', Fr h₀ L h' m → News h₀ L h' (g o') → BDict knd o' (putB l k v) → Q () { s with heap := h', toks := s.toks + 1 }) : wpAny (model pw w) A (setItem (.ref d) key (.bytes v t)) Q E s := by
  obtain ⟨kvs, h1, h2, h3⟩ := hd
  have e : kvs.length = l.length := by simpa using congrArg List.length h2
  exact kda_set F N U h1 hkey (by rw [sizeLine_eq]; omega) fun h' o' F' N' hd' => h h' o' F' N' (BDict.put hd' h2 h3)
theorem b_get2 {dv : Bts} {t : Tok} {Q : Value → Shared → Prop} (N : News h₀ L s.heap news) (hp : (d, o) ∈ news) (hd : BDict knd o l) (lo : (d == sysModules) = false) (hkey : knd.is k key = true) (h : ∀ tk, Q (.bytes ((lookB l k).getD dv) tk) { s with toks := s.toks + 1 }) :
    wpAny (model pw w) A (call (.builtin "dict.get") [.ref d, key, .bytes dv t]) Q E s := by
  obtain ⟨kvs, h1, h2, h3⟩ := hd
  refine kdg_get2 N hp h1 lo hkey _ rfl ?_
  have := pair_look (k := k) h2 h3
  split at this <;> rename_i q <;> rw [q] at h
  · obtain ⟨tk, e⟩ := this; rw [e]; exact h tk
  · rw [this]; exact h t
theorem b_method {pl : Sem Bool} {Q : Value × List Value → Shared → Prop} (N : News h₀ L s.heap news) (hp : (d, o) ∈ news) (hd : BDict knd o l) (h : Q (.builtin "dict.get", [.ref d]) s) : wpAny (model pw w) A (getMethod (.ref d) "get" pl) Q E s := by
  obtain ⟨kvs, h1, h2, h3⟩ := hd
  exact kdg_method N hp h1 h
theorem lookB_put (l : List (K × Bts)) (k k' : K) (v : Bts) : lookB (putB l k v) k' = if k' = k then some v else lookB l k' := by
  unfold lookB putB
  by_cases c : l.any (fun q => q.1 = k) = true
  · rw [if_pos c]
    induction l with
    | nil => simp at c
    | cons q r ih =>
      simp only [List.map_cons, List.find?_cons]
      by_cases h1 : q.1 = k
      · simp only [h1, if_true]
        by_cases h2 : k' = k
        · subst h2; simp
        · have h3 : ¬ k = k' := fun e => h2 e.symm
          simp only [h3, decide_false, h2, if_false]
          by_cases c2 : r.any (fun q => q.1 = k) = true
          · have := ih c2; rw [if_neg h2] at this; exact this
          · congr 1
            rw [List.map_congr_left (g := id)]
            · simp
            · intro x hx
              have : ¬ x.1 = k := fun e => c2 (List.any_eq_true.mpr ⟨x, hx, by simp [e]⟩)
              simp [this]
      · simp only [h1, if_false]
        by_cases h2 : q.1 = k'
        · have h3 : ¬ k' = k := fun e => h1 (h2.trans e)
          simp [h2, h3]
        · simp only [h2, decide_false]
          refine ih ?_
          simpa [h1] using c
  · rw [if_neg c]
    have c' : ∀ q ∈ l, ¬ q.1 = k := fun q hq e => c (List.any_eq_true.mpr ⟨q, hq, by simp [e]⟩)
    rw [List.find?_append]
    by_cases h2 : k' = k
    · subst h2
      have : l.find? (fun q => decide (q.1 = k')) = none := List.find?_eq_none.mpr fun q hq => by simp [c' q hq]
      rw [this]; simp
    · have h3 : ¬ k = k' := fun e => h2 e.symm
      simp only [if_neg h2]
      cases hf : l.find? (fun q => decide (q.1 = k')) with
      | some q => simp
      | none => simp [h3]
theorem putB_length (l : List (K × Bts)) (k : K) (v : Bts) : (putB l k v).length ≤ l.length + 1 := by unfold putB; split <;> simp
theorem putB_absent (h : lookB l k = none) : putB l k v = l ++ [(k, v)] := by
  unfold putB
  rw [if_neg]
  intro c
  obtain ⟨q, hq, hk⟩ := List.any_eq_true.mp c
  unfold lookB at h
  rw [Option.map_eq_none_iff, List.find?_eq_none] at h
  exact h q hq hk
end

/-- 32 octets, the great end first -/
def be32 (n : Nat) : Bts := ⟨(KTBy.low (n : Int) 32).reverse⟩
theorem be32_size (n : Nat) : (be32 n).size = 32 := by show (List.reverse _).length = 32; rw [List.length_reverse, KTBy.low_length]
theorem little_inj : ∀ (k : Nat) (x y : Int), 0 ≤ x → 0 ≤ y → x < 256 ^ k → y < 256 ^ k → KTBy.little k x = KTBy.little k y → x = y
  | 0, x, y, a, b, c, d, _ => by simp at c d; omega
  | k + 1, x, y, a, b, c, d, e => by
    simp only [KTBy.little, List.cons.injEq] at e
    have p : (256 : Int) ^ (k + 1) = 256 * 256 ^ k := by rw [Int.pow_succ, Int.mul_comm]
    rw [p] at c d
    have := little_inj k (x / 256) (y / 256) (by omega) (by omega) (by omega) (by omega) e.2
    have := e.1
    omega
theorem be32_inj {a b : Nat} (ha : a < 100000) (hb : b < 100000) (e : be32 a = be32 b) : a = b := by
  have e1 : KTBy.low (a : Int) 32 = KTBy.low (b : Int) 32 := by
    have := congrArg Array.toList e
    exact List.reverse_inj.mp this
  have big : (100000 : Int) < 256 ^ 32 := by decide
  have e2 := congrArg (List.map (fun c : UInt8 => ((c.toNat : Nat) : Int))) e1
  rw [KTBy.low_ints (by omega) (by omega), KTBy.low_ints (by omega) (by omega), ← KTBy.little_eq, ← KTBy.little_eq] at e2
  have := little_inj 32 a b (by omega) (by omega) (by omega) (by omega) e2
  omega
/-- the hash that a register tells of a text -/
def Hs (reg : List Bts) (t h : Bts) : Prop := ∃ i, reg[i]? = some t ∧ h = be32 (i + 1)
def Grow (n : Nat) (r r' : List Bts) : Prop := ∃ e, r' = r ++ e ∧ e.length ≤ n
theorem Grow.refl {r : List Bts} : Grow 0 r r := ⟨[], by simp, by simp⟩
theorem Grow.trans {a b : Nat} {r r' r'' : List Bts} (x : Grow a r r') (y : Grow b r' r'') : Grow (a + b) r r'' := by
  obtain ⟨e, rfl, h⟩ := x
  obtain ⟨f, rfl, g⟩ := y
  exact ⟨e ++ f, by simp, by simp; omega⟩
theorem Grow.le {a b : Nat} {r r' : List Bts} (x : Grow a r r') (h : a ≤ b) : Grow b r r' := let ⟨e, q, l⟩ := x; ⟨e, q, by omega⟩
theorem Grow.len {a : Nat} {r r' : List Bts} (x : Grow a r r') : r'.length ≤ r.length + a := by obtain ⟨e, rfl, h⟩ := x; simp; omega
theorem Hs.grow {a : Nat} {r r' : List Bts} {t h : Bts} (x : Hs r t h) (g : Grow a r r') : Hs r' t h := by
  obtain ⟨i, hi, rfl⟩ := x
  obtain ⟨e, rfl, _⟩ := g
  refine ⟨i, ?_, rfl⟩
  rw [List.getElem?_append_left (by
    rcases Nat.lt_or_ge i r.length with q | q
    · exact q
    · rw [List.getElem?_eq_none q] at hi; cases hi)]
  exact hi
theorem Hs.size {r : List Bts} {t h : Bts} (x : Hs r t h) : h.size = 32 := by obtain ⟨i, _, rfl⟩ := x; exact be32_size _
theorem Hs.fn {r : List Bts} {t h h' : Bts} (nd : r.Nodup) (x : Hs r t h) (y : Hs r t h') : h = h' := by
  obtain ⟨i, hi, rfl⟩ := x
  obtain ⟨j, hj, rfl⟩ := y
  have : i = j := by
    obtain ⟨a, b⟩ := List.getElem?_eq_some_iff.mp hi
    obtain ⟨c, d⟩ := List.getElem?_eq_some_iff.mp hj
    have q := List.pairwise_iff_getElem.mp nd
    rcases Nat.lt_trichotomy i j with z | z | z
    · exact absurd (b.trans d.symm) (q i j a c z)
    · exact z
    · exact absurd (d.trans b.symm) (q j i c a z)
  rw [this]
theorem Hs.inj {r : List Bts} {t t' h : Bts} (small : r.length ≤ 90000) (x : Hs r t h) (y : Hs r t' h) : t = t' := by
  obtain ⟨i, hi, rfl⟩ := x
  obtain ⟨j, hj, e⟩ := y
  have li : i < r.length := (List.getElem?_eq_some_iff.mp hi).1
  have lj : j < r.length := (List.getElem?_eq_some_iff.mp hj).1
  have := be32_inj (by omega) (by omega) e
  have : i = j := by omega
  subst this
  rw [hi] at hj
  exact Option.some.inj hj
/-- the register's pairs -/
def regL (reg : List Bts) : List (Bts × Bts) := reg.zipIdx.map fun p => (p.1, be32 (p.2 + 1))
theorem regL_keys (reg : List Bts) : (regL reg).map (·.1) = reg := by
  unfold regL
  rw [List.map_map]
  exact (List.zipIdx_map_fst 0 reg)
theorem regL_length (reg : List Bts) : (regL reg).length = reg.length := by unfold regL; simp
theorem regL_snoc (reg : List Bts) (t : Bts) : regL (reg ++ [t]) = regL reg ++ [(t, be32 (reg.length + 1))] := by
  unfold regL
  rw [List.zipIdx_append, List.map_append]
  simp
theorem regL_look {reg : List Bts} {t h : Bts} (e : lookB (regL reg) t = some h) : Hs reg t h := by
  unfold lookB regL at e
  obtain ⟨q, hq, rfl⟩ := Option.map_eq_some_iff.mp e
  have hk := List.find?_some hq
  have hm := List.mem_of_find?_eq_some hq
  obtain ⟨p, hp, rfl⟩ := List.mem_map.mp hm
  obtain ⟨x, i⟩ := p
  have := List.mem_zipIdx hp
  simp only [decide_eq_true_eq] at hk
  subst hk
  refine ⟨i, ?_, rfl⟩
  have h1 := this.2.2
  simp at h1
  rw [List.getElem?_eq_some_iff]
  exact ⟨by omega, h1.symm⟩
abbrev RegOf (w : World) (o : Obj) (reg : List Bts) : Prop := BDict (bkind w) o (regL reg)
theorem RegOf.nodup {w : World} {o : Obj} {reg : List Bts} (h : RegOf w o reg) : reg.Nodup := by
  have := BDict.nodup h
  rwa [regL_keys] at this
/-- the closure hash_of stands in a heap, over the register at R -/
def hashStm : Stmt := (fB (sAt 17)).getD 1 (.Pass default)
def HashG (h : Heap) (hf R : Addr) : Prop := (R == sysModules) = false ∧ ∃ c c' q doc pm ctv oc, h.get? hf = some (fnMade (Str.ofString "hash_of") q (fA hashStm) (fB hashStm) (fS hashStm) [(Str.ofString "register", c)] doc pm c' ctv) ∧
  h.CodeRec (.ref c') q ∧ h.get? c = some oc ∧ oc.data = .cell (some (.ref R))
theorem HashG.keeps {h h' : Heap} {hf R : Addr} (H : HashG h hf R) (k : ∀ b o, h.get? b = some o → h'.get? b = some o) : HashG h' hf R := by
  obtain ⟨lo, c, c', q, doc, pm, ctv, oc, h1, h2, h3, h4⟩ := H
  exact ⟨lo, c, c', q, doc, pm, ctv, oc, k _ _ h1, h2.keeps k, k _ _ h3, h4⟩

theorem name_free {w : World} {A : Around} {E : Value → Shared → Prop} {s : Shared} {h₀ : Heap} {L a c : Addr} {m : Str → Option Value} {cn : Str} {cs : Scope} {ccd : Value} {cl : List (Str × Addr)} {x : Str} {pos : Pos} {v : Value} {oc : Obj} {Q : Value → Shared → Prop}
    (F : Fr h₀ L s.heap m) (h3 : h₀.get? c = some oc) (h4 : oc.data = .cell (some v)) (h : Q v s) (hc : cl.lookup x = some c)
    (hk : cs.kind = .function) (hx : (envX cn cs L a ccd cl).kindOf x = some .free) (hb : (x == ("__debug__" : Str)) = false) (hn : (x == ("__classdict__" : Str)) = false) :
    wpAny (model pw w) A (eval (.Name x pos) (envX cn cs L a ccd cl)) Q E s := wpAny_Name (wpAny_loadName_free hk hx hc ⟨oc, F.keep _ _ h3, h4⟩ h hn) hb

theorem UpdF.mem {d : Addr} {o : Obj} {l : List (Addr × Obj)} {g : Obj → List (Addr × Obj)} (U : UpdF d o l g) : (d, o) ∈ l := by
  obtain ⟨pre, post, rfl, _⟩ := U.split
  exact List.mem_append_right _ (.head _)
theorem UpdF.mem' {d : Addr} {o : Obj} {l : List (Addr × Obj)} {g : Obj → List (Addr × Obj)} (U : UpdF d o l g) (o' : Obj) : (d, o') ∈ g o' := by
  obtain ⟨pre, post, _, hg, _⟩ := U.split
  rw [hg o']
  exact List.mem_append_right _ (.head _)
theorem to_b32 {w : World} {A : Around} {E : Value → Shared → Prop} {s : Shared} {x : Int} {n : Nat} {t u v : Tok} {Q : Value → Shared → Prop} (hx : x = (n : Int)) (hn : n < 100000) (h : ∀ t' k', Q (.bytes (be32 n) t') { s with toks := k' }) :
    wpAny (model pw w) A (call (.builtin "int.to_bytes") [.int x t, .int 32 u, .str (PySem.Str.ofString "big") v]) Q E s := by
  subst hx
  refine wpAny_call_entry KTBy.slot (typeIs_int s _ t) KTBy.entry ?_ (KTBy.args _ _ _)
  have big : (100000 : Int) < 256 ^ 32 := by decide
  have hb : Builtin.Int.intBits (n : Int) ≤ 8 * 32 := KTBy.bits_le (B := 256 ^ 32) rfl (by omega) (by omega)
  show wpAny _ _ (Builtin.Int.intOfSelf (.int (n : Int) t) >>= fun y => _) _ _ s
  refine wpAny_bind (wpAny_of_eq (a := (n : Int)) rfl ?_)
  show wpAny _ _ (Builtin.Int.intBindNamed "to_bytes" ["length", "byteorder", "signed"] 0 2 [.int 32 u, .str (PySem.Str.ofString "big") v] [] >>= fun l => _) _ _ s
  refine wpAny_bind (wpAny_of_eq (a := [some (.int 32 u), some (.str (PySem.Str.ofString "big") v), none]) (by kernel_rfl) ?_)
  show wpAny _ _ (Builtin.Int.intIndex "int.to_bytes" (.int 32 u) >>= fun n => _) _ _ s
  refine wpAny_bind (wpAny_of_eq (a := (32 : Int)) rfl ?_)
  refine KTBy.if_not (by decide) ?_
  refine wpAny_bind (wpAny_of_eq (a := PySem.Str.ofString "big") (by kernel_rfl) ?_)
  refine wpAny_bind (wpAny_of_eq (a := false) rfl ?_)
  refine wpAny_bind (wpAny_of_eq (a := false) (by kernel_rfl) ?_)
  refine wpAny_ite_false (by decide) ?_
  refine wpAny_ite_false (by decide) ?_
  refine wpAny_ite_false (by decide) ?_
  refine KTBy.if_not (by show (decide ((n : Int) < 0) && !false) = false; rw [decide_eq_false (show ¬ (n : Int) < 0 by omega)]; rfl) ?_
  refine KTBy.if_not (by show (_ && decide ((Builtin.Int.intBits (n : Int) : Int) > 8 * (32 : Int))) = false; rw [decide_eq_false (show ¬ ((Builtin.Int.intBits (n : Int) : Int) > 8 * (32 : Int)) by omega), Bool.and_false]) ?_
  exact wpAny_bind (wpAny_mkBytes (wpAny_pure ⟨_, rfl, h _ _⟩) (by show (List.reverse (KTBy.low (n : Int) (Int.toNat (32 : Int)))).length ≤ sizeLine; rw [List.length_reverse, KTBy.low_length, sizeLine_eq]; decide))

local macro_rules | `(tactic| walk_at "compareOp In") => `(tactic| ((with_reducible show wpAny _ _ (compareOp _ (Value.bytes _ _) (Value.ref _)) _ _ _); refine b_in2 (knd := bkind _) (by k_asm) (by k_mem) (by k_asm) (by k_asm) (bk_is _ _ _) (fun _ _ => ?_) (fun _ => ?_)))
local macro_rules | `(tactic| walk_at "compareOp In") => `(tactic| ((with_reducible show wpAny _ _ (compareOp _ (Value.int _ _) (Value.ref _)) _ _ _); refine b_in2 (knd := intKind _ _) (by k_asm) (by k_mem) (by k_asm) (by k_asm) (ik_is _ _ _) (fun _ _ => ?_) (fun _ => ?_)))
local macro_rules | `(tactic| walk_at "compareOp NotIn") => `(tactic| ((with_reducible show wpAny _ _ (compareOp _ (Value.bytes _ _) (Value.ref _)) _ _ _); refine b_notin2 (knd := bkind _) (by k_asm) (by k_mem) (by k_asm) (by k_asm) (bk_is _ _ _) (fun _ _ => ?_) (fun _ => ?_)))
local macro_rules | `(tactic| walk_at "compareOp NotIn") => `(tactic| ((with_reducible show wpAny _ _ (compareOp _ (Value.int _ _) (Value.ref _)) _ _ _); refine b_notin2 (knd := intKind _ _) (by k_asm) (by k_mem) (by k_asm) (by k_asm) (ik_is _ _ _) (fun _ _ => ?_) (fun _ => ?_)))
local macro_rules | `(tactic| walk_at "subscriptTail") => `(tactic| ((with_reducible show wpAny _ _ (subscriptTail _ _ (Value.ref _) (Value.bytes _ _)) _ _ _); refine b_item (knd := bkind _) (by k_asm) (by k_mem) (by k_asm) (bk_is _ _ _) (by k_asm) (fun _ => ?_) (by with_unfolding_all rfl) (by intro _; with_unfolding_all rfl)))
local macro_rules | `(tactic| walk_at "call builtin:len") => `(tactic| ((with_reducible show wpAny _ _ (call (Value.builtin "len") [Value.ref _]) _ _ _); first | refine b_len (knd := bkind _) (by k_asm) (by k_mem) (by k_asm) (by k_asm) (by k_asm) ?_ | refine b_len (knd := intKind _ _) (by k_asm) (by k_mem) (by k_asm) (by k_asm) (by k_asm) ?_))
local macro_rules | `(tactic| walk_at "setItem ref bytes") => `(tactic| (refine b_set (knd := bkind _) (by k_asm) (by k_asm) (by first | assumption | k_updF) (by k_asm) (bk_is _ _ _) (by assumption) (fun h' o' F' N' B' => ?_); (try dsimp only at N'); (try k_sweep)))
local macro_rules | `(tactic| walk_at "eval Name") => `(tactic| (refine name_free (by k_asm) (by k_asm) (by k_asm) ?_ rfl rfl rfl (by decide) (by decide)))
local macro_rules | `(tactic| walk_at "call builtin:int.to_bytes") => `(tactic| (refine to_b32 (n := ?n) ?e ?l ?_; rotate_left; (case e => first | assumption | exact rfl); (case l => omega); intro _ _))
local macro_rules | `(tactic| walk_at "ite") => `(tactic| ((with_reducible first | refine split_ine ?_ ?_ | refine split_ieq ?_ ?_ | refine split_dec ?_ ?_) <;> intro hq' <;> k_dflt (first | (exfalso; omega) | skip)))
local macro_rules | `(tactic| walk_at "call builtin:len") => `(tactic| ((with_reducible show wpAny _ _ (call (Value.builtin "len") [Value.ref _]) _ _ _); refine len_tuple (News.isTup (by k_asm) (by k_mem)) (by k_dflt (simp only [List.size_toArray]; omega)) ?_; (try simp only [List.size_toArray])))
local macro_rules | `(tactic| passes_own) => `(tactic| assumption)
section
variable {w : World} {z : Heap} {A : Around} {s : Shared} {base : Heap} {L : Addr} {m mg mb : Str → Option Value} {news : List (Addr × Obj)} {loose : List Str} {R : Result → Shared → Prop}
theorem hash_ok {hf Rg : Addr} {o : Obj} {reg : List Bts} {g : Obj → List (Addr × Obj)} {b : Bts} {t : Tok} (P : Inn w z A L base) (F : Fr base L s.heap m) (N : News base L s.heap news) (X : (frag w.params).In base) (T : TopRead topProg loose mg mb base) (hr : Rm 1 A)
    (H : HashG base hf Rg) (U : UpdF Rg o news g) (B : RegOf w o reg) (small : reg.length ≤ 50000)
    (k : ∀ h' tk o' reg' x t', Fr base L h' m → News base L h' (g o') → RegOf w o' reg' → Grow 1 reg reg' → Hs reg' b x → R (.ok (.ret (.bytes x t'))) { s with heap := h', toks := tk }) : codeAny (model pw w) A (.call (.ref hf) ⟨[.bytes b t], []⟩) R s := by
  obtain ⟨lo, c, c', q, doc, pm, ctv, oc, h1, h2, h3, h4⟩ := H
  refine enterX (scope := Scope.mk _ _ _ _ _) (binds := [("text", .bytes b t)]) P F N X T (F.keep _ _ h1) rfl (h2.keeps F.keep) hr (BindsTo.of_eq rfl) (fun x hx => by rw [List.mem_singleton.mp hx]; rfl) ?_ (by decide) rfl rfl rfl
  clear P X T
  intro g L' h₁ a1 a2 a3 a4 Q E F N X T P lt st hr' hQ hE hO
  have hc3 := st _ _ h3
  have hm := UpdF.mem U
  have hlen : (regL reg).length ≤ 100000 := by rw [regL_length]; omega
  clear h1 h2 h3 st
  repeat' walk1
  · exact hQ _ _ <| leaveK_ (by assumption) (by assumption) (fun kF kN => k _ _ o reg _ _ kF (by
      obtain ⟨pre, post, e, hg, _⟩ := U.split
      rw [hg o, ← e]; exact kN) B (Grow.refl.le (by decide)) (regL_look (by assumption)))
  · rename_i hnone
    have hl2 : (regL reg).length = reg.length := regL_length reg
    refine to_b32 (n := (regL reg).length + 1) rfl (by omega) (fun t1 k1 => ?_)
    repeat' walk1
    rename_i o' F' N' B'
    have e : putB (regL reg) b (be32 ((regL reg).length + 1)) = regL (reg ++ [b]) := by rw [putB_absent hnone, regL_snoc, hl2]
    have e2 : lookB (putB (regL reg) b (be32 ((regL reg).length + 1))) b = some (be32 ((regL reg).length + 1)) := by rw [lookB_put, if_pos rfl]
    have hm' := UpdF.mem' U o'
    repeat' walk1
    rw [e] at B'
    exact hQ _ _ <| leaveK_ (by assumption) (by assumption) (fun kF kN => k _ _ o' (reg ++ [b]) _ _ kF kN B' ⟨[b], rfl, by simp⟩ ⟨reg.length, by simp, by rw [hl2]⟩)
end

/-! the tree's nodes, by a register: plain mathematics -/
/-- the text that stands at a node: height k, place p -/
def Tx (reg : List Bts) (val : Nat → Bts) : Nat → Nat → Bts → Prop
  | 0, p, t => t = val p
  | k + 1, p, t => ∃ x y a b, Tx reg val k (2 * p) x ∧ Tx reg val k (2 * p + 1) y ∧ Hs reg x a ∧ Hs reg y b ∧ t = a ++ b
def Nd (reg : List Bts) (val : Nat → Bts) (k p : Nat) (h : Bts) : Prop := ∃ t, Tx reg val k p t ∧ Hs reg t h
section
variable {reg reg' : List Bts} {val val' : Nat → Bts} {n : Nat}
theorem Tx.grow (g : Grow n reg reg') : ∀ {k p : Nat} {t : Bts}, Tx reg val k p t → Tx reg' val k p t
  | 0, _, _, h => h
  | k + 1, p, t, h => by
    obtain ⟨x, y, a, b, h1, h2, h3, h4, e⟩ := h
    exact ⟨x, y, a, b, h1.grow g, h2.grow g, h3.grow g, h4.grow g, e⟩
theorem Nd.grow {k p : Nat} {h : Bts} (x : Nd reg val k p h) (g : Grow n reg reg') : Nd reg' val k p h := let ⟨t, a, b⟩ := x; ⟨t, a.grow g, b.grow g⟩
theorem Tx.fn (nd : reg.Nodup) : ∀ {k p : Nat} {t t' : Bts}, Tx reg val k p t → Tx reg val k p t' → t = t'
  | 0, _, _, _, a, b => by rw [Tx] at a b; rw [a, b]
  | k + 1, p, t, t', h, h' => by
    obtain ⟨x, y, a, b, h1, h2, h3, h4, e⟩ := h
    obtain ⟨x', y', a', b', h1', h2', h3', h4', e'⟩ := h'
    have q1 := h1.fn nd h1'
    have q2 := h2.fn nd h2'
    subst q1 q2
    rw [e, e', h3.fn nd h3', h4.fn nd h4']
theorem Nd.fn (nd : reg.Nodup) {k p : Nat} {h h' : Bts} (x : Nd reg val k p h) (y : Nd reg val k p h') : h = h' := by
  obtain ⟨t, a, b⟩ := x
  obtain ⟨t', a', b'⟩ := y
  have := a.fn nd a'
  subst this
  exact b.fn nd b'
theorem Nd.size {k p : Nat} {h : Bts} (x : Nd reg val k p h) : h.size = 32 := let ⟨_, _, b⟩ := x; b.size
theorem Nd.zero {p : Nat} {h : Bts} (x : Hs reg (val p) h) : Nd reg val 0 p h := ⟨_, rfl, x⟩
theorem Nd.succ {k p : Nat} {a b h : Bts} (x : Nd reg val k (2 * p) a) (y : Nd reg val k (2 * p + 1) b) (z : Hs reg (a ++ b) h) : Nd reg val (k + 1) p h := by
  obtain ⟨t, h1, h2⟩ := x
  obtain ⟨u, h3, h4⟩ := y
  exact ⟨a ++ b, ⟨t, u, a, b, h1, h3, h2, h4, rfl⟩, z⟩
theorem Nd.open {k p : Nat} {h : Bts} (x : Nd reg val (k + 1) p h) : ∃ a b, Nd reg val k (2 * p) a ∧ Nd reg val k (2 * p + 1) b ∧ Hs reg (a ++ b) h := by
  obtain ⟨t, ⟨x, y, a, b, h1, h2, h3, h4, e⟩, hs⟩ := x
  subst e
  exact ⟨a, b, ⟨x, h1, h3⟩, ⟨y, h2, h4⟩, hs⟩
theorem Tx.congr : ∀ {k p : Nat} {t : Bts}, (∀ q, q / 2 ^ k = p → val q = val' q) → Tx reg val k p t → Tx reg val' k p t
  | 0, p, t, h, x => by rw [Tx] at x ⊢; rw [x]; exact h p (by simp)
  | k + 1, p, t, h, x => by
    obtain ⟨x, y, a, b, h1, h2, h3, h4, e⟩ := x
    have e2 : ∀ q : Nat, q / 2 ^ (k + 1) = q / 2 ^ k / 2 := fun q => by rw [Nat.pow_succ, Nat.div_div_eq_div_mul]
    exact ⟨x, y, a, b, h1.congr fun q hq => h q (by rw [e2]; omega), h2.congr fun q hq => h q (by rw [e2]; omega), h3, h4, e⟩
theorem Nd.congr {k p : Nat} {h : Bts} (x : Nd reg val k p h) (e : ∀ q, q / 2 ^ k = p → val q = val' q) : Nd reg val' k p h := let ⟨t, a, b⟩ := x; ⟨t, a.congr e, b⟩
theorem Nd.text (small : reg.length ≤ 90000) {k p : Nat} {t h : Bts} (x : Nd reg val k p h) (y : Hs reg t h) : Tx reg val k p t := by
  obtain ⟨u, a, b⟩ := x
  have := Hs.inj small b y
  subst this
  exact a
end
/-- a leaf set anew -/
def upd (val : Nat → Bts) (a : Nat) (v : Bts) : Nat → Bts := fun q => if q = a then v else val q
theorem upd_off {reg : List Bts} {val : Nat → Bts} {a : Nat} {v : Bts} {k p : Nat} {h : Bts} (x : Nd reg val k p h) (hp : a / 2 ^ k ≠ p) : Nd reg (upd val a v) k p h :=
  x.congr fun q hq => by unfold upd; rw [if_neg]; intro e; subst e; exact hp hq
theorem upd_off' {reg : List Bts} {val : Nat → Bts} {a : Nat} {v : Bts} {k p : Nat} {h : Bts} (x : Nd reg (upd val a v) k p h) (hp : a / 2 ^ k ≠ p) : Nd reg val k p h :=
  x.congr fun q hq => by unfold upd; rw [if_neg]; intro e; subst e; exact hp hq
/-- the place beside -/
def sib (p : Nat) : Nat := if p % 2 = 0 then p + 1 else p - 1
theorem sib_ne (p : Nat) : sib p ≠ p := by unfold sib; split <;> omega
theorem sib_half (p : Nat) : sib p / 2 = p / 2 := by unfold sib; split <;> omega
/-- the store of a tree: what it holds is by the register, and each node's text is held -/
structure DbOk (w : World) (o : Obj) (reg : List Bts) (val : Nat → Bts) (db : List (Bts × Bts)) : Prop where
  dict : BDict (bkind w) o db
  sound : ∀ h t, lookB db h = some t → Hs reg t h
  whole : ∀ k p h, k ≤ 8 → p < 2 ^ (8 - k) → Nd reg val k p h → (lookB db h).isSome = true

theorem DbOk.text {w : World} {o : Obj} {reg : List Bts} {val : Nat → Bts} {db : List (Bts × Bts)} (D : DbOk w o reg val db) (small : reg.length ≤ 90000) {k p : Nat} {h t : Bts} (hk : k ≤ 8) (hp : p < 2 ^ (8 - k)) (x : Nd reg val k p h) (y : Hs reg t h) : lookB db h = some t := by
  obtain ⟨u, hu⟩ := Option.isSome_iff_exists.mp (D.whole k p h hk hp x)
  rw [hu, Hs.inj small (D.sound _ _ hu) y]
theorem div_lt (c : UInt8) {i : Nat} (h : i ≤ 8) : c.toNat / 2 ^ (8 - i) < 2 ^ i := by
  have := c.toNat_lt
  rw [Nat.div_lt_iff_lt_mul (Nat.two_pow_pos _), ← Nat.pow_add]
  rw [show i + (8 - i) = 8 by omega]
  exact this
theorem half (a : Nat) {i : Nat} (h : i < 8) : a / 2 ^ (8 - i) = a / 2 ^ (7 - i) / 2 := by
  rw [show 8 - i = (7 - i) + 1 by omega, Nat.pow_succ, Nat.div_div_eq_div_mul]

theorem bit_low (a i : Nat) : Builtin.bitAnd (a : Int) ((2 ^ i : Nat) : Int) = 0 ↔ a / 2 ^ i % 2 = 0 := by
  have e : Builtin.bitAnd (a : Int) ((2 ^ i : Nat) : Int) = ((a &&& 2 ^ i : Nat) : Int) := by
    unfold Builtin.bitAnd
    rw [decide_eq_true (Int.natCast_nonneg a), decide_eq_true (Int.natCast_nonneg (2 ^ i))]
    simp only [Int.toNat_natCast]
  have e2 : a &&& 2 ^ i = 0 ↔ a.testBit i = false := by
    constructor
    · intro h
      have := congrArg (fun n => Nat.testBit n i) h
      simpa [Nat.testBit_and, Nat.testBit_two_pow] using this
    · intro h
      refine Nat.eq_of_testBit_eq fun j => ?_
      rw [Nat.testBit_and, Nat.testBit_two_pow, Nat.zero_testBit]
      by_cases hj : i = j
      · subst hj; rw [h]; rfl
      · rw [decide_eq_false hj, Bool.and_false]
  rw [e, show ((a &&& 2 ^ i : Nat) : Int) = 0 ↔ a &&& 2 ^ i = 0 by omega, e2, Nat.testBit_eq_decide_div_mod_eq, decide_eq_false_iff_not]
  omega
theorem top_pow {i : Nat} (h : i < 8) : 128 / 2 ^ i = 2 ^ (7 - i) := (by decide : ∀ i : Fin 8, 128 / 2 ^ i.1 = 2 ^ (7 - i.1)) ⟨i, h⟩
theorem top_next {i : Nat} (h : i < 8) : ((128 / 2 ^ i : Nat) : Int).fdiv (2 ^ Int.toNat 1) = ((128 / 2 ^ (i + 1) : Nat) : Int) :=
  (by decide : ∀ i : Fin 8, ((128 / 2 ^ i.1 : Nat) : Int).fdiv (2 ^ Int.toNat 1) = ((128 / 2 ^ (i.1 + 1) : Nat) : Int)) ⟨i, h⟩
theorem snoc_all {hs : List Bts} {P : Nat → Bts → Prop} {i : Nat} {v : Bts} (hl : hs.length = i) (h : ∀ j h, hs[j]? = some h → P j h) (hv : P i v) : ∀ j h, (hs ++ [v])[j]? = some h → P j h := by
  intro j q e
  rcases Nat.lt_or_ge j hs.length with hj | hj
  · rw [List.getElem?_append_left hj] at e
    exact h j q e
  · rw [List.getElem?_append_right hj] at e
    rcases hd : j - hs.length with _ | k
    · rw [hd] at e
      simp at e
      subst e
      have : j = i := by omega
      subst this
      exact hv
    · rw [hd] at e
      simp at e
theorem get_step {reg : List Bts} {val : Nat → Bts} {c i : Nat} {va vb : Bts} {hs : List Bts} (hi : i < 8) (ha : Nd reg val (7 - i) (2 * (c / 2 ^ (7 - i + 1))) va) (hb : Nd reg val (7 - i) (2 * (c / 2 ^ (7 - i + 1)) + 1) vb)
    (hl : hs.length = i) (hsib : ∀ j h, hs[j]? = some h → Nd reg val (7 - j) (sib (c / 2 ^ (7 - j))) h) :
    (Builtin.bitAnd (c : Int) ((128 / 2 ^ i : Nat) : Int) ≠ 0 → Nd reg val (8 - (i + 1)) (c / 2 ^ (8 - (i + 1))) vb ∧ ∀ j h, (hs ++ [va])[j]? = some h → Nd reg val (7 - j) (sib (c / 2 ^ (7 - j))) h) ∧
    (Builtin.bitAnd (c : Int) ((128 / 2 ^ i : Nat) : Int) = 0 → Nd reg val (8 - (i + 1)) (c / 2 ^ (8 - (i + 1))) va ∧ ∀ j h, (hs ++ [vb])[j]? = some h → Nd reg val (7 - j) (sib (c / 2 ^ (7 - j))) h) := by
  have e : 8 - (i + 1) = 7 - i := by omega
  have e2 : c / 2 ^ (7 - i + 1) = c / 2 ^ (7 - i) / 2 := by rw [Nat.pow_succ, Nat.div_div_eq_div_mul]
  rw [top_pow hi, e, Ne, bit_low]
  rw [e2] at ha hb
  generalize hq : c / 2 ^ (7 - i) = q at ha hb
  constructor
  · intro h
    have a1 : 2 * (q / 2) + 1 = q := by omega
    have a2 : 2 * (q / 2) = sib q := by unfold sib; rw [if_neg h]; omega
    rw [a1] at hb
    rw [a2] at ha
    exact ⟨hb, snoc_all hl hsib (by rw [hq]; exact ha)⟩
  · intro h
    have a1 : 2 * (q / 2) = q := by omega
    have a2 : 2 * (q / 2) + 1 = sib q := by unfold sib; rw [if_pos h]; omega
    rw [a2] at hb
    rw [a1] at ha
    exact ⟨ha, snoc_all hl hsib (by rw [hq]; exact hb)⟩

/-- the store while a tree is built: the nodes below height i -/
structure Part (reg : List Bts) (val : Nat → Bts) (db : List (Bts × Bts)) (i : Nat) : Prop where
  sound : ∀ h t, lookB db h = some t → Hs reg t h
  whole : ∀ k p h, k < i → Nd reg val k p h → (lookB db h).isSome = true
  all : ∀ k p, k < i → ∃ h, Nd reg val k p h
theorem Part.nil {reg : List Bts} {val : Nat → Bts} : Part reg val [] 0 := ⟨fun h t e => by simp [lookB] at e, fun k p h q => absurd q (Nat.not_lt_zero _), fun k p q => absurd q (Nat.not_lt_zero _)⟩
theorem Part.step {reg reg' : List Bts} {val : Nat → Bts} {db : List (Bts × Bts)} {i : Nat} {t h : Bts} (P : Part reg val db i) (g : Grow 1 reg reg') (nd : reg'.Nodup) (x : Hs reg' t h) (y : ∀ p, Tx reg val i p t) : Part reg' val (putB db h t) (i + 1) := by
  refine ⟨fun h' t' e => ?_, fun k p h' hk n => ?_, fun k p hk => ?_⟩
  · rw [lookB_put] at e
    split at e
    · rename_i q; subst q; obtain rfl := Option.some.inj e; exact x
    · exact (P.sound _ _ e).grow g
  · rw [lookB_put]
    split
    · rfl
    · rename_i q
      rcases Nat.lt_or_ge k i with hk' | hk'
      · obtain ⟨h'', n''⟩ := P.all k p hk'
        obtain rfl := Nd.fn nd n (n''.grow g)
        exact P.whole k p _ hk' n''
      · obtain rfl : k = i := by omega
        exact absurd (Nd.fn nd n ⟨t, (y p).grow g, x⟩) q
  · rcases Nat.lt_or_ge k i with hk' | hk'
    · obtain ⟨h'', n''⟩ := P.all k p hk'
      exact ⟨h'', n''.grow g⟩
    · obtain rfl : k = i := by omega
      exact ⟨h, t, (y p).grow g, x⟩
theorem Part.next {reg reg' : List Bts} {val : Nat → Bts} {i : Nat} {t h : Bts} (g : Grow 1 reg reg') (x : Hs reg' t h) (y : ∀ p, Tx reg val i p t) (p : Nat) : Tx reg' val (i + 1) p (h ++ h) :=
  ⟨t, t, h, h, (y _).grow g, (y _).grow g, x, x, rfl⟩
theorem Part.db {w : World} {o : Obj} {reg : List Bts} {val : Nat → Bts} {db : List (Bts × Bts)} (P : Part reg val db 9) (B : BDict (bkind w) o db) : DbOk w o reg val db :=
  ⟨B, P.sound, fun k p h hk _ n => P.whole k p h (by omega) n⟩
theorem Nd.down {reg : List Bts} {val : Nat → Bts} {k : Nat} : ∀ {j p : Nat} {h : Bts}, Nd reg val (k + j) p h → ∀ q, q / 2 ^ j = p → ∃ h', Nd reg val k q h'
  | 0, p, h, n, q, e => by
    rw [Nat.pow_zero, Nat.div_one] at e
    subst e
    exact ⟨h, n⟩
  | j + 1, p, h, n, q, e => by
    obtain ⟨a, b, ha, hb, _⟩ := Nd.open (k := k + j) n
    have e2 : q / 2 ^ j / 2 = p := by rw [Nat.div_div_eq_div_mul, ← Nat.pow_succ]; exact e
    rcases Nat.mod_two_eq_zero_or_one (q / 2 ^ j) with h0 | h0
    · exact ha.down q (by omega)
    · exact hb.down q (by omega)
theorem Nd.every {reg : List Bts} {val : Nat → Bts} {root : Bts} (n : Nd reg val 8 0 root) {k q : Nat} (hk : k ≤ 8) (hq : q < 2 ^ (8 - k)) : ∃ h, Nd reg val k q h := by
  obtain ⟨j, rfl⟩ : ∃ j, j = 8 - k := ⟨_, rfl⟩
  refine Nd.down (j := 8 - k) (p := 0) (h := root) ?_ q (Nat.div_eq_of_lt hq)
  rw [show k + (8 - k) = 8 by omega]
  exact n
/-- the store while a leaf is set: the nodes on the way below height i are new -/
structure SPart (reg reg' : List Bts) (val val' : Nat → Bts) (a : Nat) (db : List (Bts × Bts)) (i : Nat) : Prop where
  sound : ∀ h t, lookB db h = some t → Hs reg' t h
  old : ∀ k p h, k ≤ 8 → p < 2 ^ (8 - k) → Nd reg val k p h → (lookB db h).isSome = true
  new : ∀ k h, k < i → Nd reg' val' k (a / 2 ^ k) h → (lookB db h).isSome = true
  all : ∀ k, k < i → ∃ h, Nd reg' val' k (a / 2 ^ k) h
theorem SPart.zero {w : World} {o : Obj} {reg : List Bts} {val val' : Nat → Bts} {a : Nat} {db : List (Bts × Bts)} (D : DbOk w o reg val db) : SPart reg reg val val' a db 0 :=
  ⟨D.sound, D.whole, fun k h q => absurd q (Nat.not_lt_zero _), fun k q => absurd q (Nat.not_lt_zero _)⟩
theorem SPart.step {reg reg' reg'' : List Bts} {val val' : Nat → Bts} {a i : Nat} {db : List (Bts × Bts)} {t h : Bts} (S : SPart reg reg' val val' a db i) (g : Grow 1 reg' reg'') (nd : reg''.Nodup) (x : Hs reg'' t h) (y : Tx reg' val' i (a / 2 ^ i) t) :
    SPart reg reg'' val val' a (putB db h t) (i + 1) := by
  refine ⟨fun h' t' e => ?_, fun k p h' hk hp n => ?_, fun k h' hk n => ?_, fun k hk => ?_⟩
  · rw [lookB_put] at e
    split at e
    · rename_i q; subst q; obtain rfl := Option.some.inj e; exact x
    · exact (S.sound _ _ e).grow g
  · rw [lookB_put]
    split
    · rfl
    · exact S.old k p h' hk hp n
  · rw [lookB_put]
    split
    · rfl
    · rename_i q
      rcases Nat.lt_or_ge k i with hk' | hk'
      · obtain ⟨h'', n''⟩ := S.all k hk'
        obtain rfl := Nd.fn nd n (n''.grow g)
        exact S.new k _ hk' n''
      · obtain rfl : k = i := by omega
        exact absurd (Nd.fn nd n ⟨t, y.grow g, x⟩) q
  · rcases Nat.lt_or_ge k i with hk' | hk'
    · obtain ⟨h'', n''⟩ := S.all k hk'
      exact ⟨h'', n''.grow g⟩
    · obtain rfl : k = i := by omega
      exact ⟨h, t, y.grow g, x⟩
theorem SPart.db {w : World} {o : Obj} {reg reg' : List Bts} {val : Nat → Bts} {a n : Nat} {v : Bts} {db : List (Bts × Bts)} {root : Bts} (S : SPart reg reg' val (upd val a v) a db 9) (g : Grow n reg reg') (nd : reg'.Nodup) (B : BDict (bkind w) o db) (rt : Nd reg val 8 0 root) :
    DbOk w o reg' (upd val a v) db := by
  refine ⟨B, S.sound, fun k p h hk hp q => ?_⟩
  by_cases e : a / 2 ^ k = p
  · subst e
    exact S.new k h (by omega) q
  · obtain ⟨h', q'⟩ := rt.every hk hp
    obtain rfl := Nd.fn nd (upd_off' q e) (q'.grow g)
    exact S.old k p _ hk hp q'
/-- the text of the next node on the way -/
theorem way_next {reg reg' reg'' : List Bts} {val : Nat → Bts} {a i n : Nat} {v : Bts} {t h s : Bts} (g' : Grow n reg reg'') (x : Nd reg'' (upd val a v) i (a / 2 ^ i) h) (y : Nd reg val i (sib (a / 2 ^ i)) s) :
    (Builtin.bitAnd (a : Int) ((2 ^ i : Nat) : Int) ≠ 0 → Tx reg'' (upd val a v) (i + 1) (a / 2 ^ (i + 1)) (s ++ h)) ∧ (Builtin.bitAnd (a : Int) ((2 ^ i : Nat) : Int) = 0 → Tx reg'' (upd val a v) (i + 1) (a / 2 ^ (i + 1)) (h ++ s)) := by
  have e2 : a / 2 ^ (i + 1) = a / 2 ^ i / 2 := by rw [Nat.pow_succ, Nat.div_div_eq_div_mul]
  have y' := upd_off (v := v) (y.grow g') (fun e => sib_ne _ e.symm)
  rw [Ne, bit_low, e2]
  generalize a / 2 ^ i = q at x y'
  obtain ⟨t1, h1, h2⟩ := x
  obtain ⟨t2, h3, h4⟩ := y'
  constructor
  · intro hq
    have a1 : 2 * (q / 2) + 1 = q := by omega
    have a2 : 2 * (q / 2) = sib q := by unfold sib; rw [if_neg hq]; omega
    exact ⟨t2, t1, s, h, by rw [a2]; exact h3, by rw [a1]; exact h1, h4, h2, rfl⟩
  · intro hq
    have a1 : 2 * (q / 2) = q := by omega
    have a2 : 2 * (q / 2) + 1 = sib q := by unfold sib; rw [if_pos hq]; omega
    exact ⟨t1, t2, h, s, by rw [a1]; exact h1, by rw [a2]; exact h3, h2, h4, rfl⟩
theorem pow_small {i : Nat} (h : 2 ^ i ≤ 128) : ((2 ^ i : Nat) : Int).natAbs < 2 ^ 64 := by rw [Int.natAbs_natCast]; exact Nat.lt_of_le_of_lt h (by decide)
theorem low_next (i : Nat) : ((2 ^ i : Nat) : Int) * 2 ^ Int.toNat 1 = ((2 ^ (i + 1) : Nat) : Int) := by
  rw [Nat.pow_succ]; push_cast; rfl

section
variable {w : World} {z : Heap} {A : Around} {s : Shared} {base : Heap} {L : Addr} {m mg mb : Str → Option Value} {news : List (Addr × Obj)} {loose : List Str} {R : Result → Shared → Prop}
theorem vbytes_ok {b : Array UInt8} {t : Tok} (P : Inn w z A L base) (F : Fr base L s.heap m) (N : News base L s.heap news) (X : (frag w.params).In base) (T : TopRead topProg loose mg mb base) (hr : Rm 1 A)
    (k : ∀ h' tk, Fr base L h' m → News base L h' news → R (.ok (.ret .none)) { s with heap := h', toks := tk }) : codeAny (model pw w) A (.call (.ref 62) ⟨[.bytes b t], []⟩) R s := by
  refine enter (binds := [("value", .bytes b t)]) P F N X T (by k_is) (by k_is) hr (BindsTo.of_eq rfl) rfl rfl ?_
  clear P F N X T
  intro g L' h₁ a1 a2 a3 a4 Q E F N X T P lt st hr' hQ hE hO
  repeat' walk1
  exact hQ _ _ <| leaveK_ (by assumption) (by assumption) (fun kF kN => k _ _ kF kN)
theorem cast_ok {a v : Value} (P : Inn w z A L base) (F : Fr base L s.heap m) (N : News base L s.heap news) (X : (frag w.params).In base) (T : TopRead topProg loose mg mb base) (hr : Rm 1 A)
    (k : ∀ h' tk, Fr base L h' m → News base L h' news → R (.ok (.ret v)) { s with heap := h', toks := tk }) : codeAny (model pw w) A (.call (.ref 35) ⟨[a, v], []⟩) R s := by
  refine enter (binds := [("kind", a), ("value", v)]) P F N X T (by k_is) (by k_is) hr (BindsTo.of_eq rfl) rfl rfl ?_
  clear P F N X T
  intro g L' h₁ a1 a2 a3 a4 Q E F N X T P lt st hr' hQ hE hO
  repeat' walk1
  exact hQ _ _ <| leaveK_ (by assumption) (by assumption) (fun kF kN => k _ _ kF kN)
theorem vlen_ok {b : Bts} {t u : Tok} {n : Int} (P : Inn w z A L base) (F : Fr base L s.heap m) (N : News base L s.heap news) (X : (frag w.params).In base) (T : TopRead topProg loose mg mb base) (hr : Rm 1 A)
    (hn : (b.size : Int) = n) (hs : b.size ≤ 1000000)
    (k : ∀ h' tk, Fr base L h' m → News base L h' news → R (.ok (.ret .none)) { s with heap := h', toks := tk }) : codeAny (model pw w) A (.call (.ref 69) ⟨[.bytes b t, .int n u], []⟩) R s := by
  refine enter (binds := [("value", .bytes b t), ("length", .int n u)]) P F N X T (by k_is) (by k_is) hr (BindsTo.of_eq rfl) rfl rfl ?_
  clear P F N X T
  intro g L' h₁ a1 a2 a3 a4 Q E F N X T P lt st hr' hQ hE hO
  repeat' walk1
  exact hQ _ _ <| leaveK_ (by assumption) (by assumption) (fun kF kN => k _ _ kF kN)
theorem vlen_tup {a : Addr} {items : List Value} {ep : Nat} {u : Tok} {n : Int} (P : Inn w z A L base) (F : Fr base L s.heap m) (N : News base L s.heap news) (X : (frag w.params).In base) (T : TopRead topProg loose mg mb base) (hr : Rm 1 A)
    (hm : (a, (⟨.type "tuple", none, .seq items.toArray ep, #[]⟩ : Obj)) ∈ news) (hn : (items.length : Int) = n) (hs : items.length ≤ 1000)
    (k : ∀ h' tk, Fr base L h' m → News base L h' news → R (.ok (.ret .none)) { s with heap := h', toks := tk }) : codeAny (model pw w) A (.call (.ref 69) ⟨[.ref a, .int n u], []⟩) R s := by
  refine enter (binds := [("value", .ref a), ("length", .int n u)]) P F N X T (by k_is) (by k_is) hr (BindsTo.of_eq rfl) rfl rfl ?_
  clear P F N X T
  intro g L' h₁ a1 a2 a3 a4 Q E F N X T P lt st hr' hQ hE hO
  repeat' walk1
  exact hQ _ _ <| leaveK_ (by assumption) (by assumption) (fun kF kN => k _ _ kF kN)
theorem toint_ok {c : UInt8} {t : Tok} (P : Inn w z A L base) (F : Fr base L s.heap m) (N : News base L s.heap news) (X : (frag w.params).In base) (T : TopRead topProg loose mg mb base) (hr : Rm 1 A)
    (k : ∀ h' tk t', Fr base L h' m → News base L h' news → R (.ok (.ret (.int (c.toNat : Int) t'))) { s with heap := h', toks := tk }) : codeAny (model pw w) A (.call (.ref 42) ⟨[.bytes #[c] t], []⟩) R s := by
  refine enter (binds := [("octets", .bytes #[c] t)]) P F N X T (by k_is) (by k_is) hr (BindsTo.of_eq rfl) rfl rfl ?_
  clear P F N X T
  intro g L' h₁ a1 a2 a3 a4 Q E F N X T P lt st hr' hQ hE hO
  repeat' walk1
  rw [Int.zero_mul, Int.zero_add]
  exact hQ _ _ <| leaveK_ (news' := (_, _) :: news) (by assumption) (by assumption) (fun kF kN => k _ _ _ kF fun p hp => kN p (.tail _ hp))
end

theorem UpdF.again {d : Addr} {o : Obj} : ∀ {l : List (Addr × Obj)} {g : Obj → List (Addr × Obj)}, UpdF d o l g → ∀ o', UpdF d o' (g o') g
  | _, _, .head h, _ => .head h
  | _, _, .tail h r, o' => .tail h (UpdF.again r o')
theorem UpdF.lt {d a : Addr} {o : Obj} {l : List (Addr × Obj)} {g : Obj → List (Addr × Obj)} (U : UpdF d o l g) (h : ∀ p ∈ l, p.1 < a) (o' : Obj) : ∀ p ∈ g o', p.1 < a := by
  obtain ⟨pre, post, e, hg, _⟩ := U.split
  rw [hg]
  subst e
  intro p hp
  rcases List.mem_append.mp hp with hp | hp
  · exact h p (List.mem_append_left _ hp)
  · rcases List.mem_cons.mp hp with rfl | hp
    · exact h (d, o) (List.mem_append_right _ (.head _))
    · exact h p (List.mem_append_right _ (.tail _ hp))
theorem News.drop0 {h₀ h : Heap} {L : Addr} {c : Addr × Obj} {l : List (Addr × Obj)} (N : News h₀ L h (c :: l)) : News h₀ L h l := fun p hp => N p (.tail _ hp)
theorem News.drop1 {h₀ h : Heap} {L : Addr} {a c : Addr × Obj} {l : List (Addr × Obj)} (N : News h₀ L h (a :: c :: l)) : News h₀ L h (a :: l) := fun p hp => by
  rcases List.mem_cons.mp hp with rfl | hp
  · exact N _ (.head _)
  · exact N _ (.tail _ (.tail _ hp))
theorem News.drop2 {h₀ h : Heap} {L : Addr} {a b c : Addr × Obj} {l : List (Addr × Obj)} (N : News h₀ L h (a :: b :: c :: l)) : News h₀ L h (a :: b :: l) := fun p hp => by
  rcases List.mem_cons.mp hp with rfl | hp
  · exact N _ (.head _)
  · exact News.drop1 (News.drop0 N) p hp
theorem small_t {n : Nat} (h : n ≤ 100) : n ≤ 16384 := Nat.le_trans h (by decide)
theorem small_size {n : Nat} (h : n ≤ 100) : n ≤ sizeLine := Nat.le_trans h (by decide)
/-- a ledger with three objects that a call may change -/
structure G3 (x y z : Addr) (G : Obj → Obj → Obj → List (Addr × Obj)) : Prop where
  a : ∀ a b c, UpdF x a (G a b c) (fun o => G o b c)
  b : ∀ a b c, UpdF y b (G a b c) (fun o => G a o c)
  c : ∀ a b c, UpdF z c (G a b c) (fun o => G a b o)
theorem UpdF.toUpd {d : Addr} {o : Obj} (o' : Obj) {l : List (Addr × Obj)} {g : Obj → List (Addr × Obj)} (U : UpdF d o l g) : Upd d o o' l (g o') := by
  obtain ⟨pre, post, rfl, hg, a, b⟩ := U.split
  rw [hg o']
  clear hg U
  induction pre with
  | nil => exact .head b
  | cons p r ih => exact .tail (a p (.head _)) (ih fun q hq => a q (.tail _ hq))
theorem allLt_mem {d : Addr} : ∀ {l : List (Addr × Obj)}, AllLt d l → ∀ p ∈ l, p.1 < d
  | [], _, _, h => nomatch h
  | q :: r, h, p, hp => by
    rcases List.mem_cons.mp hp with rfl | hp
    · exact h.1
    · exact allLt_mem h.2 p hp
theorem allLt_ne {d : Addr} {l : List (Addr × Obj)} (h : AllLt d l) : ∀ p ∈ l, p.1 ≠ d := fun p hp => Nat.ne_of_lt (allLt_mem h p hp)
/-- a frame as it was, the ledger cut down -/
theorem News.cut {h₀ h : Heap} {L : Addr} {a b : List (Addr × Obj)} (N : News h₀ L h a) (q : ∀ p ∈ b, p ∈ a) : News h₀ L h b := fun p hp => N p (q p hp)
/-- what a turn of a loop must leave -/
def TurnP (h₀ : Heap) (L I : Addr) (oI : Obj) (J : (Str → Option Value) → List (Addr × Obj) → Prop) (s₁ : Shared) (Q : Flow → Shared → Prop) (f : Flow) (s₂ : Shared) : Prop :=
  match f with
  | .ret v => Q (.ret v) s₂
  | .brk => Q .next s₂
  | _ => ∃ h' tk m' news', s₂ = { s₁ with heap := h', toks := tk } ∧ Fr h₀ L h' m' ∧ News h₀ L h' ((I, oI) :: news') ∧ (∀ p ∈ news', p.1 ≠ I) ∧ J m' news'
theorem TurnP.mk {h₀ : Heap} {L I : Addr} {oI : Obj} {J : (Str → Option Value) → List (Addr × Obj) → Prop} {s₁ : Shared} {Q : Flow → Shared → Prop} {h' : Heap} {tk : Nat} {m' : Str → Option Value} {news' : List (Addr × Obj)}
    (F : Fr h₀ L h' m') (N : News h₀ L h' ((I, oI) :: news')) (off : ∀ p ∈ news', p.1 ≠ I) (j : J m' news') : TurnP h₀ L I oI J s₁ Q .next { s₁ with heap := h', toks := tk } := ⟨h', tk, m', news', rfl, F, N, off, j⟩
section
variable {w : World} {A : Around} {E : Value → Shared → Prop} {s : Shared} {env : Env} {h₀ : Heap} {x : Str} {body : List Stmt} {Q : Flow → Shared → Prop}
theorem loopJ {I : Addr} {fp : List Addr} {n : Nat} {P : Nat → Value → Prop} {St : Nat → Heap → Prop} {m₀ : Str → Option Value} {news₀ : List (Addr × Obj)} (W : Walks pw w A I fp [I] n P St) (so : Addr → Obj)
    (hit : ∀ i h, St i h → ∃ o, h.get? I = some o) (hLf : env.locals ∉ fp) (hIf : I ∈ fp) (hI : h₀.get? I = none) (hn0 : ∀ p ∈ news₀, p.1 ≠ I) (st0 : St 0 s.heap) (F : Fr h₀ env.locals s.heap m₀) (N : News h₀ env.locals s.heap news₀)
    (J : Nat → (Str → Option Value) → List (Addr × Obj) → Prop) (hJ0 : J 0 m₀ news₀)
    (src : ∀ i m news, J i m news → ∀ b ∈ fp, b ≠ I → (∃ o, h₀.get? b = some o) ∨ (b, so b) ∈ news)
    (turn : ∀ i v m₁ news₁ h tk oI, i < n → P i v → J i m₁ news₁ → Fr h₀ env.locals h (fun y => if y = x then some v else m₁ y) → News h₀ env.locals h ((I, oI) :: news₁) → (∀ p ∈ news₁, p.1 ≠ I) →
      wpAny (model pw w) A (execs body env) (TurnP h₀ env.locals I oI (J (i + 1)) { s with heap := h, toks := tk } Q) E { s with heap := h, toks := tk })
    (done : ∀ m' news' h' tk, J n m' news' → Fr h₀ env.locals h' m' → News h₀ env.locals h' news' → Q .next { s with heap := h', toks := tk }) :
    LoopAtV pw w A h₀ env x body Q E (.ref I) s := by
  refine ⟨I, fp, [I], n, P, St, m₀, news₀, J, rfl, W, hLf, ?_, ?_, st0, F, N, hJ0, ?_, ?_⟩
  · intro b hb; rw [List.mem_singleton.mp hb]; exact hI
  · intro p hp hb; exact hn0 p hp (List.mem_singleton.mp hb)
  · rintro i v m₁ news₁ s₁ own ⟨hh, tk, rfl⟩ hin hP hJ hoff hown hget hall hst F₁ N₁
    obtain ⟨oI, hoI⟩ := hit _ _ hst
    have hmem := hall I hIf hI _ hoI
    have hoff' : ∀ p ∈ news₁, p.1 ≠ I := fun p hp e => hoff p hp (by rw [e]; exact .head _)
    have N₂ : News h₀ env.locals hh ((I, oI) :: news₁) := fun p hp => by
      rcases List.mem_cons.mp hp with rfl | hp
      · exact N₁ _ (List.mem_append_left _ hmem)
      · exact N₁ _ (List.mem_append_right _ hp)
    refine wpAny_mono (turn i v m₁ news₁ hh tk oI hin hP hJ F₁ N₂ hoff') (fun f s₂ p => ?_) fun _ _ e => e
    have fin : (∃ h' tk' m' news', s₂ = { { s with heap := hh, toks := tk } with heap := h', toks := tk' } ∧ Fr h₀ env.locals h' m' ∧ News h₀ env.locals h' ((I, oI) :: news') ∧ (∀ p ∈ news', p.1 ≠ I) ∧ J (i + 1) m' news') →
        LoopStepU h₀ env.locals [I] own (J (i + 1)) { s with heap := hh, toks := tk } .next s₂ := by
      rintro ⟨h', tk', m', news', e, F', N', hap, hJ'⟩
      refine ⟨rfl, h', tk', m', news', e, F', fun p hp => ?_, fun p hp hI' => hap p hp (List.mem_singleton.mp hI'), hJ'⟩
      rcases List.mem_append.mp hp with hp | hp
      · by_cases h1 : p.1 = I
        · have h2 := hget p hp
          rw [h1] at h2
          have h2' : hh.get? I = some p.2 := h2
          rw [hoI] at h2'
          have h3 : p = (I, oI) := Prod.ext h1 (Option.some.inj h2').symm
          rw [h3]; exact N' _ (.head _)
        · have none0 : h₀.get? p.1 = none := (N₁ p (List.mem_append_left _ hp)).2.2
          have m1 : (p.1, so p.1) ∈ news₁ := by
            rcases src i m₁ news₁ hJ p.1 (hown p hp) h1 with ⟨o, ho⟩ | q
            · rw [none0] at ho; cases ho
            · exact q
          have m2 : (p.1, so p.1) ∈ news' := by
            rcases src (i + 1) m' news' hJ' p.1 (hown p hp) h1 with ⟨o, ho⟩ | q
            · rw [none0] at ho; cases ho
            · exact q
          have e1 : p.2 = so p.1 := by
            have a := hget p hp
            have b := (N₂ _ (.tail _ m1)).1
            have a' : hh.get? p.1 = some p.2 := a
            rw [a'] at b
            exact Option.some.inj b
          have e2 : p = (p.1, so p.1) := Prod.ext rfl e1
          rw [e2]; exact N' _ (.tail _ m2)
      · exact N' _ (.tail _ hp)
    cases f with
    | ret v => exact .ret p
    | brk => exact .brk p
    | next => exact .next (fin p)
    | cont => exact .cont (fin p)
  · rintro h' tk m' news' F' N' _ hJ
    exact done m' news' h' tk hJ F' N'
end

theorem UpdF.off {d I : Addr} {o : Obj} {l : List (Addr × Obj)} {g : Obj → List (Addr × Obj)} (U : UpdF d o l g) (h : ∀ p ∈ l, p.1 ≠ I) (o' : Obj) : ∀ p ∈ g o', p.1 ≠ I := by
  obtain ⟨pre, post, rfl, hg, _⟩ := U.split
  intro p hp
  rw [hg o'] at hp
  rcases List.mem_append.mp hp with q | q
  · exact h p (List.mem_append_left _ q)
  · rcases List.mem_cons.mp q with rfl | q
    · exact h (d, o) (List.mem_append_right _ (.head _))
    · exact h p (List.mem_append_right _ (.tail _ q))
section
variable {w : World} {A : Around} {E : Value → Shared → Prop} {s : Shared} {env : Env} {h₀ : Heap} {x : Str} {body : List Stmt} {Q : Flow → Shared → Prop}
/-- a loop over a range, by what holds between the turns -/
theorem loop_range {r L : Addr} {a₀ b₀ : Int} {t₀ u₀ v₀ : Tok} {n : Nat} {m₀ : Str → Option Value} {news₀ : List (Addr × Obj)} (hh : A.handled = none) (hloc : env.locals = L) (hr : IsRange s.heap r a₀ b₀ 1 t₀ u₀ v₀) (hsmall : Builtin.Range.small a₀ b₀ 1 = true) (hn : Builtin.Range.rangeSize a₀ b₀ 1 = (n : Int))
    (F : Fr h₀ L s.heap m₀) (N : News h₀ L s.heap news₀) (J : Nat → (Str → Option Value) → List (Addr × Obj) → Prop) (hJ0 : J 0 m₀ news₀)
    (turn : ∀ I i t m₁ news₁ h tk oI, i < n → J i m₁ news₁ → Fr h₀ L h (fun y => if y = x then some (.int (a₀ + (i : Int)) t) else m₁ y) → News h₀ L h ((I, oI) :: news₁) → (∀ p ∈ news₁, p.1 ≠ I) → (∀ p ∈ news₀, p.1 < I) →
      ∀ Q' : Flow → Shared → Prop, (∀ fl s', TurnP h₀ L I oI (J (i + 1)) { s with heap := h, toks := tk } Q fl s' → Q' fl s') → wpAny (model pw w) A (execs body env) Q' E { s with heap := h, toks := tk })
    (done : ∀ m' news' h' tk, J n m' news' → Fr h₀ L h' m' → News h₀ L h' news' → Q .next { s with heap := h', toks := tk }) :
    wpAny (model pw w) A (pyIter (.ref r)) (fun it s₂ => LoopAtV pw w A h₀ env x body Q E it s₂) E s := by
  subst hloc
  refine wpAny_pyIter_range hr hsmall ?_
  have lt : ∀ p ∈ news₀, p.1 < s.heap.objs.size := fun p hp => Heap.lt_size (N p hp).1
  refine loopJ (Walks.range hh _ a₀ 1 n) (fun _ => default) (fun i h q => ⟨_, q⟩) ?_ (.head _) (next_is_new F) (fun p hp => Nat.ne_of_lt (lt p hp)) (by show IsRangeIter _ _ _ _ _; rw [hn]; simpa using Heap.get?_push_size _ rfl) (F.push _) (fun p hp => ⟨Heap.get?_push_of_some _ (N p hp).1, (N p hp).2⟩) J hJ0 ?_ ?_ ?_
  · intro hm; exact absurd F.ns.lt ((List.mem_singleton.mp hm) ▸ Nat.lt_irrefl _)
  · intro i m news _ b hb hne; exact absurd (List.mem_singleton.mp hb) hne
  · rintro i v m₁ news₁ h tk oI hi ⟨t, rfl⟩ hJ F₁ N₁ off
    rw [Int.mul_one] at F₁
    exact turn _ i t m₁ news₁ h tk oI hi hJ F₁ N₁ off lt _ (fun _ _ z => z)
  · intro m' news' h' tk hJ F' N'
    exact done m' news' h' tk hJ F' N'
end
theorem lk_hit {x : Str} {v : Value} {m : Str → Option Value} : (fun y => if y = x then some v else m y) x = some v := if_pos rfl
theorem lk_skip {x z : Str} {u : Option Value} {v : Value} {m : Str → Option Value} (h : z ≠ x) (e : m z = some v) : (fun y => if y = x then u else m y) z = some v := (if_neg h).trans e
theorem bInts_inj {b c : Bts} (e : KBw.bInts b = KBw.bInts c) : b = c := by
  unfold KBw.bInts at e
  refine Array.toList_inj.mp ?_
  revert e
  generalize b.toList = x
  generalize c.toList = y
  intro e
  induction x generalizing y with
  | nil => cases y with
    | nil => rfl
    | cons _ _ => simp at e
  | cons a r ih => cases y with
    | nil => simp at e
    | cons d q =>
      simp only [List.map_cons, List.cons.injEq] at e
      rw [ih q e.2, UInt8.toNat_inj.mp (Int.ofNat.inj e.1)]
theorem bInts_append (b c : Bts) : KBw.bInts (b ++ c) = KBw.bInts b ++ KBw.bInts c := by unfold KBw.bInts; rw [Array.toList_append, List.map_append]
section
variable {w : World} {A : Around} {E : Value → Shared → Prop} {s : Shared} {value slice : PySem.Expr} {va vb : Bts} {t u : Tok} {h₀ : Heap} {L : Addr} {m : PySem.Str → Option Value} {news : List (Addr × Obj)} {Q : Value → Shared → Prop}
theorem slice_lo (hF : Fr h₀ L s.heap m) (hN : News h₀ L s.heap news) (sa : va.size = 32) (sb : vb.size = 32) (h : ∀ h' t' k, Fr h₀ L h' m → News h₀ L h' news → Q (.bytes va t') { s with heap := h', toks := k })
    (hs : subscripted slice false (.bytes (va ++ vb) t) (.ref s.heap.objs.size) = operate [.ref s.heap.objs.size, .bytes (va ++ vb) t] (getItem (.bytes (va ++ vb) t) (.ref s.heap.objs.size)) := by with_unfolding_all rfl)
    (ht : ∀ r, letTemporaryGo value (.bytes (va ++ vb) t) r = pure () := by intro _; with_unfolding_all rfl) :
    wpAny (model pw w) A (subscriptTail value slice (.bytes (va ++ vb) t) (.ref s.heap.objs.size)) Q E { s with heap := s.heap.push { cls := .type "slice", data := .fields #[.none, .int 32 u, .none] } } := by
  have la : (KBw.bInts va).length = 32 := by rw [KBw.ints_length, sa]
  have lb : (KBw.bInts vb).length = 32 := by rw [KBw.ints_length, sb]
  refine KBc.slice_K (lo := none) (hi := some 32) hF hN (bInts_append va vb) .none (.int _ _) (by rw [List.length_append, la, lb]; decide) (fun h' t' k F' N' e => ?_) hs ht
  have : KBy.picked (va ++ vb) none (some 32) = va := by
    refine bInts_inj (e.trans ?_)
    rw [List.length_append, la, lb]
    show List.take (32 - 0) (List.drop 0 (KBw.bInts va ++ KBw.bInts vb)) = _
    rw [List.drop_zero, List.take_append_of_le_length (by omega), List.take_of_length_le (by omega)]
  rw [this]
  exact h h' t' k F' N'
theorem slice_hi (hF : Fr h₀ L s.heap m) (hN : News h₀ L s.heap news) (sa : va.size = 32) (sb : vb.size = 32) (h : ∀ h' t' k, Fr h₀ L h' m → News h₀ L h' news → Q (.bytes vb t') { s with heap := h', toks := k })
    (hs : subscripted slice false (.bytes (va ++ vb) t) (.ref s.heap.objs.size) = operate [.ref s.heap.objs.size, .bytes (va ++ vb) t] (getItem (.bytes (va ++ vb) t) (.ref s.heap.objs.size)) := by with_unfolding_all rfl)
    (ht : ∀ r, letTemporaryGo value (.bytes (va ++ vb) t) r = pure () := by intro _; with_unfolding_all rfl) :
    wpAny (model pw w) A (subscriptTail value slice (.bytes (va ++ vb) t) (.ref s.heap.objs.size)) Q E { s with heap := s.heap.push { cls := .type "slice", data := .fields #[.int 32 u, .none, .none] } } := by
  have la : (KBw.bInts va).length = 32 := by rw [KBw.ints_length, sa]
  have lb : (KBw.bInts vb).length = 32 := by rw [KBw.ints_length, sb]
  refine KBc.slice_K (lo := some 32) (hi := none) hF hN (bInts_append va vb) (.int _ _) .none (by rw [List.length_append, la, lb]; decide) (fun h' t' k F' N' e => ?_) hs ht
  have : KBy.picked (va ++ vb) (some 32) none = vb := by
    refine bInts_inj (e.trans ?_)
    rw [List.length_append, la, lb]
    show List.take (64 - 32) (List.drop 32 (KBw.bInts va ++ KBw.bInts vb)) = _
    rw [List.drop_append_of_le_length (by omega), List.drop_of_length_le (by omega), List.nil_append, List.take_of_length_le (by omega)]
  rw [this]
  exact h h' t' k F' N'
end
/-- an address off a ledger, whatever stands in its hole -/
def OffAll (D : Addr) (gg : Obj → List (Addr × Obj)) : Prop := ∀ o, ∀ p ∈ gg o, p.1 ≠ D
theorem OffAll.at {D : Addr} {gg : Obj → List (Addr × Obj)} (h : OffAll D gg) (o : Obj) : ∀ p ∈ gg o, p.1 ≠ D := h o
theorem OffAll.of {D d : Addr} {o : Obj} {l : List (Addr × Obj)} {gg : Obj → List (Addr × Obj)} (U : UpdF d o l gg) (h : ∀ p ∈ l, p.1 ≠ D) : OffAll D gg := fun o' => UpdF.off U h o'
def Off3 (D : Addr) (G : Obj → Obj → Obj → List (Addr × Obj)) : Prop := ∀ a b c, ∀ p ∈ G a b c, p.1 ≠ D
theorem Off3.at {D : Addr} {G : Obj → Obj → Obj → List (Addr × Obj)} (h : Off3 D G) (a b c : Obj) : ∀ p ∈ G a b c, p.1 ≠ D := h a b c
theorem Off3.of {D x y z : Addr} {a b c : Obj} {G : Obj → Obj → Obj → List (Addr × Obj)} (U : G3 x y z G) (h : ∀ p ∈ G a b c, p.1 ≠ D) : Off3 D G := fun a' b' c' =>
  UpdF.off (U.c a' b' c) (UpdF.off (U.b a' b c) (UpdF.off (U.a a b c) h a') b') c'
theorem callWith_hash {w : World} {A : Around} {E : Value → Shared → Prop} {s : Shared} {env : Env} {base : Heap} {pos : Pos} {hf Rg : Addr} {e : PySem.Expr} {rest : List PySem.Expr} {Q : Value → Shared → Prop} (H : HashG base hf Rg)
    (h : wpAny (model pw w) A (spliced (backTo pos (starEach (e :: rest) env))) (fun vs s₁ => (∀ b o, base.get? b = some o → s₁.heap.get? b = some o) ∧ wpAny (model pw w) A (call (.ref hf) vs) Q E s₁) E s)
    (he : starEach (e :: rest) env = (false, eval e env) :: starEach rest env := by rfl) :
    wpAny (model pw w) A (callWith pos (.ref hf) [] (backTo pos (starEach (e :: rest) env)) []) Q E s := by
  obtain ⟨lo, c, c', q, doc, pm, ctv, oc, h1, h2, h3, h4⟩ := H
  exact callWith_def_at h1 rfl (wpAny_mono h (fun vs s₁ z => ⟨z.1 _ _ h1, z.2⟩) fun _ _ z => z) he

local macro_rules | `(tactic| k_mem) => `(tactic| ((with_reducible rename G3 _ _ _ _ => U'); first | exact UpdF.mem (U'.a _ _ _) | exact UpdF.mem (U'.b _ _ _) | exact UpdF.mem (U'.c _ _ _)))
local macro_rules | `(tactic| k_mem) => `(tactic| exact UpdF.mem (by with_reducible_and_instances assumption))
local macro_rules | `(tactic| k_mem) => `(tactic| with_reducible_and_instances assumption)
local macro_rules | `(tactic| k_updF) => `(tactic| ((with_reducible rename G3 _ _ _ _ => U'); first | exact U'.a _ _ _ | exact U'.b _ _ _ | exact U'.c _ _ _))
local macro_rules | `(tactic| k_updF) => `(tactic| with_reducible_and_instances assumption)
local macro_rules | `(tactic| k_upd) => `(tactic| ((with_reducible rename G3 _ _ _ _ => U'); first | exact UpdF.toUpd _ (U'.a _ _ _) | exact UpdF.toUpd _ (U'.b _ _ _) | exact UpdF.toUpd _ (U'.c _ _ _)))
local macro_rules | `(tactic| k_upd) => `(tactic| exact UpdF.toUpd _ (by with_reducible_and_instances assumption))
local macro_rules | `(tactic| k_upd) => `(tactic| with_reducible_and_instances assumption)
local macro_rules | `(tactic| k_all) => `(tactic| (first | with_reducible_and_instances assumption | exact allLt_ne (by with_reducible_and_instances assumption) | exact allLt_ne (And.right (by with_reducible_and_instances assumption))))
local macro_rules | `(tactic| walk_at "call ref") => `(tactic| ((with_reducible show wpAny _ _ (call (Value.ref 35) [_, _]) _ _ _); refine wpAny_call (cast_ok (by k_asm) (by k_asm) (by k_asm) (by k_asm) (by k_asm) (Rm.le (by k_asm) (by decide)) (fun h' tk' F' N' => ?_)); (try k_sweep); (try dsimp only)))
local macro_rules | `(tactic| walk_at "call ref") => `(tactic| ((with_reducible show wpAny _ _ (call (Value.ref 62) [Value.bytes _ _]) _ _ _); refine wpAny_call (vbytes_ok (by k_asm) (by k_asm) (by k_asm) (by k_asm) (by k_asm) (Rm.le (by k_asm) (by decide)) (fun h' tk' F' N' => ?_)); (try k_sweep); (try dsimp only)))
local macro_rules | `(tactic| walk_at "call ref") => `(tactic| ((with_reducible show wpAny _ _ (call (Value.ref 69) [Value.bytes _ _, Value.int _ _]) _ _ _); refine wpAny_call (vlen_ok (by k_asm) (by k_asm) (by k_asm) (by k_asm) (by k_asm) (Rm.le (by k_asm) (by decide)) (by first | exact rfl | (k_dflt omega)) (by first | exact Nat.le_of_ble_eq_true rfl | (k_dflt omega)) (fun h' tk' F' N' => ?_)); (try k_sweep); (try dsimp only)))
local macro_rules | `(tactic| walk_at "call ref") => `(tactic| ((with_reducible show wpAny _ _ (call (Value.ref 42) [Value.bytes _ _]) _ _ _); refine wpAny_call (toint_ok (by k_asm) (by k_asm) (by k_asm) (by k_asm) (by k_asm) (Rm.le (by k_asm) (by decide)) (fun h' tk' t' F' N' => ?_)); (try k_sweep); (try dsimp only)))
local macro_rules | `(tactic| walk_at "eval Name") => `(tactic| (k_here; k_dflt (refine' ld ?k1 ?k2 ?_; (case k1 => k_asm); (case k2 => (first | with_reducible exact lk_hit | (refine' lk_skip (by decide) ?_; (repeat (first | with_reducible exact lk_hit | refine' lk_skip (by decide) ?_)); first | done | assumption | exact rfl) | assumption | exact rfl)); k_whole)))
local macro_rules | `(tactic| walk_at "subscriptTail") => `(tactic| ((with_reducible show wpAny _ _ (subscriptTail _ (Expr.Slice none _ none _) (Value.bytes (_ ++ _) _) (Value.ref _)) _ _ _); (with_reducible rename Fr _ _ _ _ => F'); (with_reducible rename News _ _ _ _ => N'); (refine slice_lo (s := ⟨_, _, _, _, _⟩) F' N' (by k_asm) (by k_asm) (fun h' t' k' F' N' => ?_)); (try k_sweep)))
local macro_rules | `(tactic| walk_at "subscriptTail") => `(tactic| ((with_reducible show wpAny _ _ (subscriptTail _ (Expr.Slice (some _) none none _) (Value.bytes (_ ++ _) _) (Value.ref _)) _ _ _); (with_reducible rename Fr _ _ _ _ => F'); (with_reducible rename News _ _ _ _ => N'); (refine slice_hi (s := ⟨_, _, _, _, _⟩) F' N' (by k_asm) (by k_asm) (fun h' t' k' F' N' => ?_)); (try k_sweep)))
local macro_rules | `(tactic| walk_at "call builtin:list.append") => `(tactic| ((with_reducible show wpAny _ _ (call (Value.builtin _) [Value.ref _, _]) _ _ _); k_dflt (refine' append_K ?k1 ?k2 ?k3 ?_ ?z; (case k1 => k_asm); (case k2 => k_asm); (case k3 => k_upd); (case z => (first | exact small_size (by k_asm) | (rw [sizeLine_eq]; omega) | (simp only [List.size_toArray]; rw [sizeLine_eq]; omega))); k_whole); intro h' F' N'; (try k_sweep)))
local macro_rules | `(tactic| walk_at "loadName") => `(tactic| (k_dflt (refine' ldn ?k1 ?hv ?_; (case k1 => k_asm); (case hv => (first | with_reducible exact lk_hit | (refine' lk_skip (by decide) ?_; (repeat (first | with_reducible exact lk_hit | refine' lk_skip (by decide) ?_)); first | done | assumption | exact rfl) | assumption | exact rfl)); k_whole)))
local macro_rules | `(tactic| walk_at "call type:tuple") => `(tactic| ((with_reducible show wpAny _ _ (call (Value.type _) [Value.ref _]) _ _ _); k_dflt (refine' kde_tupleOf ?k1 ?k2 ?k3 ?k4 ?k5 ?_; (case k1 => k_asm); (case k2 => k_asm); (case k3 => exact News.isList (by k_asm) (by k_mem)); (case k4 => exact small_t (by k_asm)); (case k5 => exact rfl); k_whole); intro D' h' F' N' l1; (try k_lt l1); (try k_sweep)))
local macro_rules | `(tactic| walk_at "call ref") => `(tactic| ((with_reducible show wpAny _ _ (call (Value.ref _) [Value.bytes _ _]) _ _ _); refine wpAny_call (hash_ok (by k_asm) (by k_asm) (by k_asm) (by k_asm) (by k_asm) (Rm.le (by k_asm) (by decide)) (by k_asm) (by k_updF) (by k_asm) (by omega) (fun h' tk' o' reg' x' t' F' N' B' G' S' => ?_)); (have hlen' := G'.len); (have size' := S'.size); (try k_sweep); (try dsimp only)))
local macro_rules | `(tactic| k_all) => `(tactic| exact OffAll.at (by with_reducible_and_instances assumption) _)
local macro_rules | `(tactic| k_all) => `(tactic| exact Off3.at (by with_reducible_and_instances assumption) _ _ _)
local macro_rules | `(tactic| walk_at "callWith ref") => `(tactic| refine callWith_hash (by k_asm) ?_)
local macro_rules | `(tactic| walk_at "And") => `(tactic| ((with_reducible show (∀ _ _, _ → _) ∧ wpAny _ _ (call _ _) _ _ _); refine ⟨Fr.keep (by k_asm), ?_⟩))
local macro_rules | `(tactic| walk_at "binaryOp Add bytes bytes") => `(tactic| ((refine KBy.add_bytes (by omega) ?_); intro _ _))
/-- values that are these bytes -/
def BVals : List Value → List Bts → Prop
  | [], [] => True
  | v :: vs, h :: hs => (∃ t, v = .bytes h t) ∧ BVals vs hs
  | _, _ => False
theorem BVals.length : ∀ {vs : List Value} {hs : List Bts}, BVals vs hs → vs.length = hs.length
  | [], [], _ => rfl
  | _ :: vs, _ :: hs, h => by rw [List.length_cons, List.length_cons, BVals.length h.2]
  | [], _ :: _, h => h.elim
  | _ :: _, [], h => h.elim
theorem BVals.snoc {h : Bts} {t : Tok} : ∀ {vs : List Value} {hs : List Bts}, BVals vs hs → BVals (vs ++ [.bytes h t]) (hs ++ [h])
  | [], [], _ => ⟨⟨t, rfl⟩, trivial⟩
  | _ :: vs, _ :: hs, q => ⟨q.1, BVals.snoc q.2⟩
  | [], _ :: _, q => q.elim
  | _ :: _, [], q => q.elim
theorem BVals.get : ∀ {vs : List Value} {hs : List Bts} {i : Nat} {v : Value}, BVals vs hs → vs[i]? = some v → ∃ h t, hs[i]? = some h ∧ v = .bytes h t
  | [], [], i, v, _, e => by simp at e
  | _ :: vs, h :: hs, 0, v, q, e => by
    obtain ⟨t, rfl⟩ := q.1
    simp at e
    exact ⟨h, t, rfl, e.symm⟩
  | _ :: vs, _ :: hs, i + 1, v, q, e => BVals.get (vs := vs) (hs := hs) (i := i) (v := v) q.2 (by simpa using e)
  | [], _ :: _, _, _, q, _ => q.elim
  | _ :: _, [], _, _, q, _ => q.elim
abbrev tupObj (vs : List Value) : Obj := ⟨.type "tuple", none, .seq vs.toArray 0, #[]⟩
/-- the dict of a tree's object -/
def TreeD (w : World) (od : Obj) (hf D : Addr) (dflt root : Bts) : Prop := ∃ k1 k2 k3 k4 k5 k6 t1 t2 t3 t6, od = dictOf [⟨PyData.keyHash w.params (Str.ofString "_key_size"), .str (Str.ofString "_key_size") k1, .int 1 t1⟩,
  ⟨PyData.keyHash w.params (Str.ofString "depth"), .str (Str.ofString "depth") k2, .int 8 t2⟩, ⟨PyData.keyHash w.params (Str.ofString "_default"), .str (Str.ofString "_default") k3, .bytes dflt t3⟩,
  ⟨PyData.keyHash w.params (Str.ofString "hash_of"), .str (Str.ofString "hash_of") k4, .ref hf⟩, ⟨PyData.keyHash w.params (Str.ofString "db"), .str (Str.ofString "db") k5, .ref D⟩,
  ⟨PyData.keyHash w.params (Str.ofString "root_hash"), .str (Str.ofString "root_hash") k6, .bytes root t6⟩] 6
/-- the nodes beside the way to a leaf, from the top -/
def Sibs (reg : List Bts) (val : Nat → Bts) (a : Nat) (hs : List Bts) : Prop := hs.length = 8 ∧ ∀ i h, hs[i]? = some h → Nd reg val (7 - i) (sib (a / 2 ^ (7 - i))) h
/-- the nodes along the way to a leaf, from the top's child -/
def Along (reg : List Bts) (val : Nat → Bts) (a : Nat) (hs : List Bts) : Prop := hs.length = 8 ∧ ∀ i h, hs[i]? = some h → Nd reg val (7 - i) (a / 2 ^ (7 - i)) h
section
variable {w : World} {z : Heap} {A : Around} {s : Shared} {base : Heap} {L : Addr} {m mg mb : Str → Option Value} {news : List (Addr × Obj)} {loose : List Str} {R : Result → Shared → Prop}
theorem get_ok {x td D hf : Addr} {od oD : Obj} {dflt root : Bts} {reg : List Bts} {val : Nat → Bts} {db : List (Bts × Bts)} {c : UInt8} {t : Tok} (P : Inn w z A L base) (F : Fr base L s.heap m) (N : News base L s.heap news) (X : (frag w.params).In base) (T : TopRead topProg loose mg mb base) (hr : Rm 3 A)
    (hx : (x, instObj 235 td) ∈ news) (TD : TreeD w od hf D dflt root) (hd : (td, od) ∈ news) (hD : (D, oD) ∈ news) (DB : DbOk w oD reg val db) (rt : Nd reg val 8 0 root) (small : reg.length ≤ 9000) (lo : (D == sysModules) = false)
    (k : ∀ h' tk tp bt vs hs t', Fr base L h' m → News base L h' ((tp, tupObj [.bytes (val c.toNat) t', .ref bt]) :: (bt, tupObj vs) :: news) → (∀ p ∈ news, p.1 < bt) → bt < tp → BVals vs hs → Sibs reg val c.toNat hs → R (.ok (.ret (.ref tp))) { s with heap := h', toks := tk }) :
    codeAny (model pw w) A (.call (.ref 183) ⟨[.ref x, .bytes #[c] t], []⟩) R s := by
  obtain ⟨k1, k2, k3, k4, k5, k6, t1, t2, t3, t6, rfl⟩ := TD
  refine enter (binds := [("self", .ref x), ("key", .bytes #[c] t)]) P F N X T (by k_is) (by k_is) hr (BindsTo.of_eq rfl) rfl rfl ?_
  clear P F N X T
  intro g L' h₁ a1 a2 a3 a4 Q E F N X T P lt st hr' hQ hE hO
  repeat' ((fail_if_success (with_reducible show wpAny _ _ (pyIter _) _ _ _)); walk1)
  refine loop_range (n := 8) (L := L') hr'.2.2 rfl (by assumption) (by decide) (by decide) (by k_asm) (by k_asm)
    (fun i m nw => m "self" = some (.ref x) ∧ (∃ t, m "path" = some (.int (c.toNat : Int) t)) ∧ (∃ t, m "target_bit" = some (.int ((128 / 2 ^ i : Nat) : Int) t)) ∧
      (∃ nh t, m "node_hash" = some (.bytes nh t) ∧ Nd reg val (8 - i) (c.toNat / 2 ^ (8 - i)) nh) ∧
      ∃ l' vs hs ep, m "branch" = some (.ref l') ∧ nw = (l', listOf vs ep) :: news ∧ (∀ p ∈ news, p.1 < l') ∧ BVals vs.toList hs ∧ hs.length = i ∧ ∀ j h, hs[j]? = some h → Nd reg val (7 - j) (sib (c.toNat / 2 ^ (7 - j))) h) ?_ ?_ ?_
  · have hz : c.toNat / 2 ^ 8 = 0 := Nat.div_eq_of_lt c.toNat_lt
    exact ⟨rfl, ⟨_, rfl⟩, ⟨_, rfl⟩, ⟨root, _, rfl, by rw [Nat.sub_zero, hz]; exact rt⟩, _, #[], [], 0, rfl, rfl, by assumption, trivial, rfl, fun j h e => by simp at e⟩
  · rintro I i t0 m₁ nw h tk oI hi ⟨m1, ⟨t1, m3⟩, ⟨t2, m4⟩, ⟨nh, t3, m5, hnd⟩, l', vs, hs, ep, m2, rfl, hlt, hv, hl, hsib⟩ F₁ N₁ off lt Q' hQ'
    rw [show 8 - i = (7 - i) + 1 by omega] at hnd
    obtain ⟨va, vb, ha, hb, hs'⟩ := hnd.open
    have hdb := DB.text (by omega) (k := 7 - i + 1) (p := c.toNat / 2 ^ (7 - i + 1)) (by omega) (by rw [show 7 - i + 1 = 8 - i by omega, show 8 - (8 - i) = i by omega]; exact div_lt c (by omega)) hnd hs'
    have hIl : @Ne Nat l' I := off _ (.head _)
    have hne : ∀ p ∈ news, p.1 ≠ l' := fun p hp => Nat.ne_of_lt (hlt p hp)
    have hvs : vs.size ≤ 100 := by have := hv.length; rw [Array.length_toList] at this; omega
    have hB := DB.dict
    have sza := ha.size
    have szb := hb.size
    have gs := get_step (c := c.toNat) hi ha hb hl hsib
    repeat' walk1
    · rename Builtin.bitAnd _ _ ≠ 0 => hq0
      refine hQ' _ _ <| TurnP.mk (by assumption) (by rename News _ _ _ _ => N9; exact fun p hp => N9 p (.tail _ hp)) ?_ ?_
      · intro p hp
        rcases List.mem_cons.mp hp with rfl | hp
        · exact hIl
        · exact off p (.tail _ hp)
      exact ⟨by repeat (first | with_reducible exact lk_hit | refine' lk_skip (by decide) ?_ | assumption | exact rfl), ⟨_, by repeat (first | with_reducible exact lk_hit | refine' lk_skip (by decide) ?_ | assumption | exact rfl)⟩, ⟨_, by rw [← top_next hi]; exact rfl⟩, ⟨vb, _, by repeat (first | with_reducible exact lk_hit | refine' lk_skip (by decide) ?_ | assumption | exact rfl), (gs.1 hq0).1⟩, l', _, hs ++ [va], _, by repeat (first | with_reducible exact lk_hit | refine' lk_skip (by decide) ?_ | assumption | exact rfl), rfl, hlt, by rw [Array.toList_push]; exact hv.snoc, by rw [List.length_append, hl]; rfl, (gs.1 hq0).2⟩
    · rename Builtin.bitAnd _ _ = 0 => hq0
      refine hQ' _ _ <| TurnP.mk (by assumption) (by rename News _ _ _ _ => N9; exact fun p hp => N9 p (.tail _ hp)) ?_ ?_
      · intro p hp
        rcases List.mem_cons.mp hp with rfl | hp
        · exact hIl
        · exact off p (.tail _ hp)
      exact ⟨by repeat (first | with_reducible exact lk_hit | refine' lk_skip (by decide) ?_ | assumption | exact rfl), ⟨_, by repeat (first | with_reducible exact lk_hit | refine' lk_skip (by decide) ?_ | assumption | exact rfl)⟩, ⟨_, by rw [← top_next hi]; exact rfl⟩, ⟨va, _, by repeat (first | with_reducible exact lk_hit | refine' lk_skip (by decide) ?_ | assumption | exact rfl), (gs.2 hq0).1⟩, l', _, hs ++ [vb], _, by repeat (first | with_reducible exact lk_hit | refine' lk_skip (by decide) ?_ | assumption | exact rfl), rfl, hlt, by rw [Array.toList_push]; exact hv.snoc, by rw [List.length_append, hl]; rfl, (gs.2 hq0).2⟩
  · rintro m₁ nw h tk ⟨m1, ⟨t1, m3⟩, ⟨t2, m4⟩, ⟨nh, t3, m5, hnd⟩, l', vs, hs, ep, m2, rfl, hlt, hv, hl, hsib⟩ F₁ N₁
    rw [show 8 - 8 = 0 by rfl, Nat.pow_zero, Nat.div_one] at hnd
    obtain ⟨u, hu, hs'⟩ := hnd
    obtain rfl : u = val c.toNat := hu
    have hdb := DB.text (by omega) (k := 0) (p := c.toNat) (by omega) c.toNat_lt ⟨_, rfl, hs'⟩ hs'
    have hne : ∀ p ∈ news, p.1 ≠ l' := fun p hp => Nat.ne_of_lt (hlt p hp)
    have hvs : vs.size ≤ 100 := by have := hv.length; rw [Array.length_toList] at this; omega
    have hB := DB.dict
    repeat' walk1
    rename _ ∧ _ ∧ AllLt _ news => lB
    rename _ ∧ AllLt _ news => lA
    exact hQ _ _ <| leaveK_ (by assumption) (by rename News _ _ _ _ => N9; exact News.drop2 N9) (fun kF kN => k _ _ _ _ vs.toList hs _ kF kN (allLt_mem lA.2) lB.1 hv ⟨hl, hsib⟩)
end

theorem tup_no_rev : typeLookup (.type "tuple") "__reversed__" = pure none := by rw [typeLookup_type, builtinLookup_eq_fast]; kernel_rfl
theorem rev_init : Slot "reversed" "__init__" "object.__init__" :=
  .of (owner := "object") (n := "__init__") (by rw [typeLookup_type, builtinLookup_eq_fast]; kernel_rfl) (by decide +kernel) (by decide +kernel) (by decide +kernel)
    (by first | exact .inl (by decide +kernel) | exact .inr (by decide +kernel)) (by rw [isSubtype_type]; kernel_rfl)
theorem rev_next : Slot "reversed" "__next__" "reversed.__next__" :=
  .of (owner := "reversed") (n := "__next__") (by rw [typeLookup_type, builtinLookup_eq_fast]; kernel_rfl) (by decide +kernel) (by decide +kernel) (by decide +kernel)
    (by first | exact .inl (by decide +kernel) | exact .inr (by decide +kernel)) (by rw [isSubtype_type]; kernel_rfl)
theorem rev_iter : Slot "reversed" "__iter__" "reversed.__iter__" :=
  .of (owner := "reversed") (n := "__iter__") (by rw [typeLookup_type, builtinLookup_eq_fast]; kernel_rfl) (by decide +kernel) (by decide +kernel) (by decide +kernel)
    (by first | exact .inl (by decide +kernel) | exact .inr (by decide +kernel)) (by rw [isSubtype_type]; kernel_rfl)
theorem entry_rev_next : entryFor table "reversed.__next__" = some Builtin.«reversed.__next__» := entryFor_of_tree (by kernel_rfl)
theorem entry_rev_iter : entryFor table "reversed.__iter__" = some Builtin.«dict_keyiterator.__iter__» :=
  entryFor_alias (id' := "dict_keyiterator.__iter__") (by kernel_rfl) (by first | rfl | decide +kernel | (unfold String.splitOn; simp +decide [String.splitOnAux])) (by decide +kernel) (by kernel_rfl)
theorem owner_rev : Manifest.owners.lookup (String.ofList ['d', 'e', 's', 'r', 'e', 'v', 'e', 'r'].reverse) = some Manifest.sig_reversed := by kernel_rfl
theorem args_rev_next (a : Value) : argsOk "reversed.__next__" ⟨[a], []⟩ := by
  unfold argsOk; rw [signature?_of (id := "reversed.__next__") (n := ['_', '_', 't', 'x', 'e', 'n', '_', '_']) (o := ['d', 'e', 's', 'r', 'e', 'v', 'e', 'r']) (by kernel_rfl) owner_rev]; kernel_rfl
theorem args_rev_iter (a : Value) : argsOk "reversed.__iter__" ⟨[a], []⟩ := by
  unfold argsOk; rw [signature?_of (id := "reversed.__iter__") (n := ['_', '_', 'r', 'e', 't', 'i', '_', '_']) (o := ['d', 'e', 's', 'r', 'e', 'v', 'e', 'r']) (by kernel_rfl) owner_rev]; kernel_rfl
theorem called_rev : TypeCalled "reversed" "reversed.__new__" "object.__init__" :=
  ⟨by decide +kernel, F.create_reversed, ⟨_, _, F.mro_reversed⟩, F.made_reversed, by decide +kernel, F.sub_reversed_self, rev_init⟩
theorem sub_tup_dict : isSubtype (.type "tuple") (.type "dict") = pure false := by rw [isSubtype_type]; kernel_rfl
/-- an object that goes backwards over a tuple -/
abbrev revT (t : Addr) (i : Int) : Obj := { cls := .type "reversed", data := .fields #[.ref t, rawInt i] }
def IsRevT (h : Heap) (a t : Addr) (i : Int) : Prop := ∃ o, h.get? a = some o ∧ o.cls = .type "reversed" ∧ o.data = .fields #[.ref t, rawInt i]
theorem IsRevT.at {h h' : Heap} {a t : Addr} {i : Int} (x : IsRevT h a t i) (e : ∀ o, h.get? a = some o → h'.get? a = some o) : IsRevT h' a t i := let ⟨o, ho, r⟩ := x; ⟨o, e _ ho, r⟩

theorem meets_rev (t : Addr) (items : Array Value) :
    Meets (Builtin.«reversed.__new__» ⟨[.type "reversed", .ref t], []⟩) (fun _ R s => IsTup s.heap t items ∧ items.size ≤ 1000 ∧
      R (.ok (.ret (.ref s.heap.objs.size))) { s with heap := s.heap.push (revT t ((items.size : Int) - 1)), toks := s.toks + 1 + 1 }) :=
  .of_wp fun prog w A R s h => by
    obtain ⟨ht, hs, h⟩ := h
    unfold Builtin.«reversed.__new__»
    refine wpAny_bind (wpAny_of_eq (newClass_reversed _) ?_)
    try dsimp only
    refine wpAny_bind (wpAny_of_eq (a := ()) (by first | rfl | kernel_rfl) ?_)
    refine wpAny_bind (wpAny_of_eq (a := ()) (by first | rfl | kernel_rfl) ?_)
    try dsimp only
    refine wpAny_bind (wpAny_specialOf ht.typeIs tup_no_rev ?_)
    try dsimp only
    refine wpAny_bind ?_
    show wpAny _ _ (isInstance (.ref t) (.type "dict") >>= _) _ _ _
    refine wpAny_bind (wpAny_isInstance (T := "tuple") (b := false) ht.typeIs sub_tup_dict ?_)
    rw [if_neg (by decide)]
    refine wpAny_bind (wpAny_specialOf ht.typeIs slot_tuple_getitem.lookup ?_)
    try dsimp only
    rw [if_pos (by decide +kernel)]
    refine wpAny_pure ?_
    rw [if_neg (by decide)]
    refine wpAny_bind (len_tuple ht (by omega) ?_)
    refine wpAny_bind (wpAny_of_eq (a := some (items.size : Int)) rfl ?_)
    try dsimp only
    refine wpAny_bind ?_
    show wpAny _ _ (newObj (.type "reversed") (.fields #[.ref t, rawInt ((items.size : Int) - 1)])) _ _ _
    exact wpAny_newObj_type (wpAny_pure ⟨_, rfl, h⟩) (by size_fits)
section
variable {prog : Program} {w : World} {A : Around} {E : Value → Shared → Prop} {s : Shared}
theorem call_rev_tup {t : Addr} {items : Array Value} {Q : Value → Shared → Prop} (ht : IsTup s.heap t items) (hs : items.size ≤ 1000)
    (h : Q (.ref s.heap.objs.size) { s with heap := s.heap.push (revT t ((items.size : Int) - 1)), toks := s.toks + 1 + 1 }) : wpAny (model prog w) A (call (.type "reversed") [.ref t]) Q E s :=
  callType_new called_rev (by decide) (F.typeCall_reversed_1 _) (F.newCall_reversed_1 _) (fun obj => F.args_object_init_2 obj _) F.entry_reversed_new
    (meets_rev t items) ⟨ht, hs, ⟨_, Heap.get?_push_size _ rfl, rfl⟩, h⟩
theorem next_revT {it t : Addr} {i : Nat} {items : Array Value} {x : Value} {Q : Option Value → Shared → Prop} (hit : IsRevT s.heap it t (i : Int)) (ht : IsTup s.heap t items) (hs : items.size ≤ 1000) (hx : items[i]? = some x)
    (hQ : ∀ h' tk, IsRevT h' it t ((i : Int) - 1) → Heap.SameBut it s.heap h' → Q (some x) { s with heap := h', toks := tk }) : wpAny (model prog w) A (pyNext (.ref it)) Q E s := by
  obtain ⟨o, ho, hc, hd⟩ := id hit
  have hT : s.TypeIs (.ref it) "reversed" := ⟨o, ho, hc⟩
  unfold pyNext
  refine wpAny_bind (wpAny_attempt (wpAny_callSpecial?_slot (name := Str.ofString "__next__") hT rev_next
    (wpAny_call_entry rev_next hT entry_rev_next ?_ (args_rev_next _))))
  unfold Builtin.«reversed.__next__»
  refine wpAny_bind (wpAny_of_eq (a := (Value.ref it, [])) rfl ?_)
  try dsimp only
  refine wpAny_bind (wpAny_field ho hd (x := .ref t) rfl ?_)
  refine wpAny_bind (wpAny_field ho hd (x := rawInt (i : Int)) rfl ?_)
  show wpAny _ _ (if (i : Int) < 0 then _ else _) _ _ s
  rw [if_neg (by omega)]
  refine wpAny_bind (wpAny_specialOf ht.typeIs slot_tuple_getitem.lookup ?_)
  try dsimp only
  rw [if_neg (by decide)]
  refine wpAny_bind (wpAny_mkInt ?_)
  refine wpAny_bind (wpAny_attempt (getItem_tuple ht (by omega) (by have := (Array.getElem?_eq_some_iff.mp hx).1; omega) (j := i) (x := x) (seqIndex_of (k := (i : Int)) (by omega) (by have := (Array.getElem?_eq_some_iff.mp hx).1; omega)) hx ?_))
  · try dsimp only
    refine wpAny_bind (wpAny_field (s := { s with toks := s.toks + 1 }) ho hd (x := rawInt (i : Int)) rfl ?_)
    refine wpAny_bind (wpAny_setField (s := { s with toks := s.toks + 1 }) ho hd (by simp) ?_)
    refine wpAny_pure ⟨x, rfl, wpAny_pure (hQ _ _ ?_ (Heap.SameBut.update ..))⟩
    exact ⟨_, Heap.get?_update_self _ ho (Obj.isFreed_of_fields (Obj.data_mapFields hd _)), (Obj.cls_mapFields ..).trans hc, by
      rw [Obj.data_mapFields hd]; simp⟩
theorem next_revT_end {it t : Addr} {Q : Option Value → Shared → Prop} (hh : A.handled = none) (hit : IsRevT s.heap it t (-1))
    (hQ : ∀ h' tk, Heap.ExtBut it s.heap h' → Q none { s with heap := h', toks := tk }) : wpAny (model prog w) A (pyNext (.ref it)) Q E s := by
  obtain ⟨o, ho, hc, hd⟩ := id hit
  have hT : s.TypeIs (.ref it) "reversed" := ⟨o, ho, hc⟩
  unfold pyNext
  refine wpAny_bind (wpAny_attempt (wpAny_callSpecial?_slot (name := Str.ofString "__next__") hT rev_next
    (wpAny_call_entry rev_next hT entry_rev_next ?_ (args_rev_next _))))
  unfold Builtin.«reversed.__next__»
  refine wpAny_bind (wpAny_of_eq (a := (Value.ref it, [])) rfl ?_)
  try dsimp only
  refine wpAny_bind (wpAny_field ho hd (x := .ref t) rfl ?_)
  refine wpAny_bind (wpAny_field ho hd (x := rawInt (-1)) rfl ?_)
  show wpAny _ _ (if (-1 : Int) < 0 then _ else _) _ _ s
  rw [if_pos (by decide)]
  refine wpAny_bind (wpAny_rule ?_)
  refine wpAny_bind ?_
  show wpAny _ _ (setField (.ref it) 1 (rawInt (-1)) >>= _) _ _ _
  refine wpAny_bind (wpAny_setField ho hd (by simp) ?_)
  refine wpAny_setField (Heap.get?_update_self _ ho (Obj.isFreed_of_fields (Obj.data_mapFields hd _))) (Obj.data_mapFields hd _) (by simp) ?_
  refine wpAny_bind ?_
  show wpAny _ _ (newExc (.type "StopIteration") [] >>= _) _ _ _
  refine wpAny_bind ?_
  simp only [newExc, newTuple]
  refine wpAny_bind (wpAny_newObj_type ?_ (by size_fits))
  refine wpAny_bind (m := firstArgMember _ _) (wpAny_of_eq (a := Value.none) (by first | rfl | (simp only [firstArgMember]; rfl)) ?_)
  refine wpAny_newObj_type ?_ (by size_fits)
  simp only [raiseNew]
  refine wpAny_bind (wpAny_handled ?_)
  first | rw [show A.in1.handled = none from hh] | rw [hh]
  refine wpAny_bind (wpAny_pure (wpAny_throw ?_))
  refine wpAny_bind (wpAny_isInstance (T := "StopIteration") (b := true) ⟨_, Heap.get?_push_size _ rfl, rfl⟩ isSubtype_stop ?_)
  exact wpAny_pure (hQ _ _ (((Heap.SameBut.update ..).extBut.trans (Heap.SameBut.update ..).extBut |>.push _).push _))
end

def In3 (p : Addr × Obj) (G : Obj → Obj → Obj → List (Addr × Obj)) : Prop := ∀ a b c, p ∈ G a b c
theorem In3.at {p : Addr × Obj} {G : Obj → Obj → Obj → List (Addr × Obj)} (h : In3 p G) (a b c : Obj) : p ∈ G a b c := h a b c
theorem Off3.ne {D x y z : Addr} {G : Obj → Obj → Obj → List (Addr × Obj)} (h : Off3 D G) (U : G3 x y z G) : @Ne Nat x D ∧ @Ne Nat y D ∧ @Ne Nat z D :=
  ⟨h default default default _ (UpdF.mem (U.a default default default)), h default default default _ (UpdF.mem (U.b default default default)), h default default default _ (UpdF.mem (U.c default default default))⟩
theorem small_k {n : Nat} (h : n ≤ 100) : n ≤ 1000 := Nat.le_trans h (by decide)
theorem pyIter_revT {prog : Program} {w : World} {A : Around} {E : Value → Shared → Prop} {s : Shared} {it t : Addr} {i : Int} {Q : Value → Shared → Prop} (hit : IsRevT s.heap it t i) (h : Q (.ref it) s) : wpAny (model prog w) A (pyIter (.ref it)) Q E s := by
  obtain ⟨o, ho, hc, hd⟩ := id hit
  have hT : s.TypeIs (.ref it) "reversed" := ⟨o, ho, hc⟩
  refine wpAny_pyIter_slot hT rev_iter (wpAny_call_entry rev_iter hT entry_rev_iter ?_ (args_rev_iter _))
  show wpAny _ _ (ret (.ref it)) _ _ s
  exact wpAny_pure ⟨_, rfl, "reversed", _, hT, rev_next.lookup, h⟩
theorem Walks.tupRev {prog : Program} {w : World} {A : Around} (hh : A.handled = none) (I t : Addr) (hne : t ≠ I) (items : Array Value) (hs : items.size ≤ 1000) :
    Walks prog w A I [I, t] [I] items.size (fun i v => items[items.size - 1 - i]? = some v) (fun i h => i ≤ items.size ∧ IsRevT h I t ((items.size : Int) - 1 - (i : Int)) ∧ IsTup h t items) where
  sub := fun b hb => by simp at hb; simp [hb]
  frame := fun _ _ _ x hk => ⟨x.1, x.2.1.at fun o e => hk I (by simp) o e, let ⟨o, ho, r⟩ := x.2.2; ⟨o, hk t (by simp) o ho, r⟩⟩
  item := fun i s Q E hi x hQ => by
    have e : (items.size : Int) - 1 - (i : Int) = ((items.size - 1 - i : Nat) : Int) := by omega
    have hit := x.2.1
    rw [e] at hit
    have hx : items[items.size - 1 - i]? = some (items[items.size - 1 - i]'(by omega)) := Array.getElem?_eq_getElem (by omega)
    refine next_revT hit x.2.2 hs hx fun h' tk hit' hs' => ?_
    have e2 : ((items.size - 1 - i : Nat) : Int) - 1 = (items.size : Int) - 1 - ((i + 1 : Nat) : Int) := by omega
    rw [e2] at hit'
    exact hQ _ h' tk hx ⟨hi, hit', x.2.2.extBut hs'.extBut hne⟩ fun b o hb eo => hs'.extBut b o (fun h => hb (by simp [h])) eo
  done := fun s Q E x hQ => by
    have e : (items.size : Int) - 1 - (items.size : Int) = -1 := by omega
    have hit := x.2.1
    rw [e] at hit
    exact next_revT_end hh hit fun h' tk he' => hQ h' tk fun b o hb eo => he' b o (fun h => hb (by simp [h])) eo
  self := fun _ _ _ _ x hQ => pyIter_revT x.2.1 hQ
section
variable {w : World} {A : Around} {E : Value → Shared → Prop} {s : Shared} {env : Env} {h₀ : Heap} {x : Str} {body : List Stmt} {Q : Flow → Shared → Prop}
theorem rev_K {prog : Program} {L t : Addr} {m : Str → Option Value} {news : List (Addr × Obj)} {items : Array Value} {Q : Value → Shared → Prop} (F : Fr h₀ L s.heap m) (N : News h₀ L s.heap news) (ht : IsTup s.heap t items) (hs : items.size ≤ 1000)
    (h : ∀ D h', Fr h₀ L h' m → News h₀ L h' ((D, revT t ((items.size : Int) - 1)) :: news) → (∀ p ∈ news, p.1 < D) → Q (.ref D) { s with heap := h', toks := s.toks + 1 + 1 }) :
    wpAny (model prog w) A (call (.type "reversed") [.ref t]) Q E s :=
  call_rev_tup ht hs (h _ _ (F.push _) (N.push F _) fun p hp => Heap.lt_size (N p hp).1)
theorem loop_rev {I t L : Addr} {items : Array Value} {tobj : Obj} {m₀ : Str → Option Value} {news₀ : List (Addr × Obj)} (hh : A.handled = none) (hloc : env.locals = L) (hs : items.size ≤ 1000)
    (F : Fr h₀ L s.heap m₀) (N : News h₀ L s.heap ((I, revT t ((items.size : Int) - 1)) :: news₀)) (ht : (t, tobj) ∈ news₀) (htup : ∃ n, tobj = ⟨.type "tuple", none, .seq items n, #[]⟩) (hne : ∀ p ∈ news₀, p.1 ≠ I)
    (J : Nat → (Str → Option Value) → List (Addr × Obj) → Prop) (hJ0 : J 0 m₀ news₀) (src : ∀ i m nw, J i m nw → (t, tobj) ∈ nw)
    (turn : ∀ i v m₁ news₁ h tk oI, i < items.size → items[items.size - 1 - i]? = some v → J i m₁ news₁ → Fr h₀ L h (fun y => if y = x then some v else m₁ y) → News h₀ L h ((I, oI) :: news₁) → (∀ p ∈ news₁, p.1 ≠ I) →
      ∀ Q' : Flow → Shared → Prop, (∀ fl s', TurnP h₀ L I oI (J (i + 1)) { s with heap := h, toks := tk } Q fl s' → Q' fl s') → wpAny (model pw w) A (execs body env) Q' E { s with heap := h, toks := tk })
    (done : ∀ m' news' h' tk, J items.size m' news' → Fr h₀ L h' m' → News h₀ L h' news' → Q .next { s with heap := h', toks := tk }) :
    wpAny (model pw w) A (pyIter (.ref I)) (fun it s₂ => LoopAtV pw w A h₀ env x body Q E it s₂) E s := by
  subst hloc
  obtain ⟨n, rfl⟩ := htup
  have hI := N _ (.head _)
  have htI : t ≠ I := hne _ ht
  have hrev : IsRevT s.heap I t ((items.size : Int) - 1) := ⟨_, hI.1, rfl, rfl⟩
  have htup : IsTup s.heap t items := ⟨_, (N _ (.tail _ ht)).1, rfl, _, rfl⟩
  refine pyIter_revT hrev ?_
  refine loopJ (Walks.tupRev hh I t htI items hs) (fun _ => ⟨.type "tuple", none, .seq items n, #[]⟩) (fun i h q => let ⟨o, ho, _⟩ := q.2.1; ⟨o, ho⟩) ?_ (.head _) hI.2.2 hne ⟨Nat.zero_le _, by simpa using hrev, htup⟩ F (News.drop0 N) J hJ0 ?_ ?_ ?_
  · intro hm
    rcases List.mem_cons.mp hm with e | hm
    · exact hI.2.1 e.symm
    · exact (N _ (.tail _ ht)).2.1 (List.mem_singleton.mp hm).symm
  · intro i m news hJ b hb hn
    rcases List.mem_cons.mp hb with e | hb
    · exact absurd e hn
    · obtain rfl := List.mem_singleton.mp hb
      exact .inr (src i m news hJ)
  · intro i v m₁ news₁ h tk oI hi hv hJ F₁ N₁ off
    exact turn i v m₁ news₁ h tk oI hi hv hJ F₁ N₁ off _ (fun _ _ z => z)
  · intro m' news' h' tk hJ F' N'
    exact done m' news' h' tk hJ F' N'
end

theorem nolen_lri : typeLookup (.type "list_reverseiterator") "__len__" = pure none := by rw [typeLookup_type, builtinLookup_eq_fast]; kernel_rfl
theorem hint_lri : typeLookup (.type "list_reverseiterator") "__length_hint__" = pure (some (.builtin "list_reverseiterator.__length_hint__")) := by rw [typeLookup_type, builtinLookup_eq_fast]; kernel_rfl
section
variable {prog : Program} {w : World} {A : Around} {E : Value → Shared → Prop} {s : Shared} {I : Addr} {fp wr : List Addr} {G : Array GenState → Array GenState → Prop} {n : Nat} {P : Nat → Value → Prop} {St : Nat → Shared → Prop}
theorem code_lri {R : Result → Shared → Prop} (W : WalksS prog w A.in1 I fp wr G n P St) (hT : ∀ i s, St i s → s.TypeIs (.ref I) "list_reverseiterator") (hst : St 0 s) (hfp : ∀ b ∈ fp, b < s.heap.objs.size) (hI : I ∈ fp)
    (hQ : ∀ s' acc c a, s'.heap.get? a = some { cls := .type "list", dict := none, data := .seq acc c, slots := #[] } → Moved wr G s s' → ItemsOf P acc n → R (.ok (.ret (.ref a))) s') (hn : n ≤ sizeLine) : codeAny (model prog w) A (.builtin "proto.collect" ⟨[.ref I], []⟩) R s := by
  have hSf : s.heap.objs.size ∉ fp := fun hm => Nat.lt_irrefl _ (hfp _ hm)
  have hSI : s.heap.objs.size ≠ I := fun e => hSf (e ▸ hI)
  refine codeAny_builtin F.entry_proto_collect ?_
  rw [Around.under_plainId F.plain_proto_collect _]
  show wpAny _ A.in1 (newList [] >>= fun l => again (.builtin "list.__iadd__" ⟨[l, .ref I], []⟩)) _ _ s
  refine wpAny_bind (wpAny_newObj_type ?_)
  refine wpAny_pure ⟨plainId_quiet F.plain_list_iadd _, codeAny_builtin F.entry_list_iadd ?_⟩
  rw [Around.under_plainId F.plain_list_iadd _]
  have hst₁ := W.frame 0 s (s.heap.push { cls := .type "list", data := .seq ([] : List Value).toArray }) s.toks hst (Nat.le_refl _) fun b _ o e => Heap.get?_push_of_some _ e
  have hS₁ : (s.heap.push { cls := .type "list", data := .seq ([] : List Value).toArray }).get? s.heap.objs.size = some { cls := .type "list", data := .seq ([] : List Value).toArray } := Heap.get?_push_size _ rfl
  have h1 : Builtin.List.listSameRef (.ref s.heap.objs.size) (.ref I) = false := by simp [Builtin.List.listSameRef, hSI]
  show wpAny _ A.in1 (Builtin.List.listExtendWith (.ref s.heap.objs.size) (.ref I) (.ref s.heap.objs.size)) _ _ _
  unfold Builtin.List.listExtendWith
  refine wpAny_bind (wpAny_typeOf (hT 0 _ hst₁) ?_)
  rw [if_neg (by rw [h1]; decide)]
  refine wpAny_bind (W.self 0 _ _ _ hst₁ ?_)
  refine wpAny_bind (wpAny_holding ?_)
  unfold Builtin.List.listLengthHint
  refine wpAny_bind (wpAny_specialOf (hT 0 _ hst₁) nolen_lri ?_)
  show wpAny _ A.in1 (specialOf (Value.ref I) (Str.ofString "__length_hint__") >>= _) _ _ _
  refine wpAny_bind (wpAny_specialOf (hT 0 _ hst₁) hint_lri ?_)
  first
    | (generalize hid : ("list_reverseiterator.__length_hint__" : String) = id0; (fail_if_success (clear hid id0)); wp_delta; rw [show splitId id0 = some ("list_reverseiterator", "__length_hint__") from by subst hid; decide +kernel]; subst hid)
  refine wpAny_bind (wpAny_isInstance (b := true) (hT 0 _ hst₁) (by rw [isSubtype_type]; kernel_rfl) ?_)
  refine wpAny_pure ?_
  rw [if_neg (by decide)]
  refine wpAny_pure ⟨plainId_quiet F.plain_extend_loop _, codeAny_extend_loopS W hn _ hSf _ n 0 _ _ _ rfl (Nat.zero_le _) hst₁ hS₁ (ItemsOf.nil P) fun s' acc' c' hm hS' hacc => ?_⟩
  exact hQ s' acc' c' _ hS' (Moved.drop_new (o := { cls := .type "list", data := .seq ([] : List Value).toArray }) (tk := s.toks) hm (Nat.le_refl _)) hacc
theorem meets_tup_lri (I l : Addr) (items : Array Value) (hne : l ≠ I) (hz : items.size ≤ 1000) :
    Meets (Builtin.«tuple.__new__» ⟨[.type "tuple", .ref I], []⟩)
      (fun A R s => A.handled = none ∧ s.heap.IsRevIter I l ((items.size : Int) - 1) ∧ s.heap.IsList l items ∧ ∀ (h' : Heap) tk (acc : Array Value), (∀ b o, b ≠ I → s.heap.get? b = some o → h'.get? b = some o) → ItemsOf (fun i v => items[items.size - 1 - i]? = some v) acc items.size →
        R (.ok (.ret (.ref h'.objs.size))) { s with heap := h'.push { cls := .type "tuple", data := .seq acc }, toks := tk }) :=
  .of_wp fun prog w A R s h => by
    obtain ⟨hh, hI, hl, h⟩ := h
    have hsub := sub_tuple_self
    have hinit := init_tuple_lookup
    have hmh := madeHere_tuple
    have hT : s.TypeIs (.ref I) "list_reverseiterator" := hI.typeIs
    have hh1 : A.in1.handled = none := hh
    have W := (Walks.listRev (prog := prog) (w := w) (A := A.in1.in1) hh I l hne items).toS
    have hst : (fun i (s : Shared) => i ≤ items.size ∧ s.heap.IsRevIter I l ((items.size : Int) - 1 - (i : Int)) ∧ s.heap.IsList l items) 0 s := ⟨Nat.zero_le _, by simpa using hI, hl⟩
    have hTall : ∀ i (s : Shared), (fun i (s : Shared) => i ≤ items.size ∧ s.heap.IsRevIter I l ((items.size : Int) - 1 - (i : Int)) ∧ s.heap.IsList l items) i s → s.TypeIs (.ref I) "list_reverseiterator" := fun i s x => x.2.1.typeIs
    have hfp : ∀ b ∈ [I, l], b < s.heap.objs.size := by
      intro b hb
      rcases List.mem_cons.mp hb with rfl | hb
      · obtain ⟨o, ho, _⟩ := hI; exact Heap.lt_size ho
      · obtain rfl := List.mem_singleton.mp hb
        obtain ⟨o, ho, _⟩ := hl; exact Heap.lt_size ho
    have hz2 : items.size ≤ sizeLine := by rw [sizeLine_eq]; omega
    wp_walk using wpAny_typeOf hT
    refine code_lri W hTall hst hfp (.head _) (fun s' acc c a hS' hm hacc => ?_) hz2
    refine wpAny_bind (wpAny_load hS' (wpAny_pure (wpAny_bind (wpAny_pure ?_))))
    show wpAny _ _ (Builtin.Tuple.tupleExact acc.toList.toArray >>= fun v => ret v) _ _ _
    unfold Builtin.Tuple.tupleExact
    refine wpAny_bind (wpAny_newObj_type ?_ (show acc.toList.toArray.size ≤ sizeLine by simp only [Array.toArray_toList]; rw [hacc.1]; exact hz2))
    refine wpAny_pure ⟨_, rfl, ?_⟩
    have e : acc.toList.toArray = acc := by simp
    rw [e]
    obtain ⟨h', g', d', tk', os'⟩ := s'
    have e1 : g' = s.gens := hm.gens
    have e2 : d' = s.drawn := hm.drawn
    have e3 : os' = s.os := hm.os
    subst e1 e2 e3
    exact h h' tk' acc (fun b o hb eo => hm.heap b o (fun hm' => hb (List.mem_singleton.mp hm')) eo) hacc
theorem tup_lri {Q : Value → Shared → Prop} {l : Addr} {items : Array Value} (hh : A.handled = none) (hI : s.heap.IsRevIter I l ((items.size : Int) - 1)) (hl : s.heap.IsList l items) (hne : l ≠ I) (hz : items.size ≤ 1000)
    (h : ∀ (h' : Heap) tk (acc : Array Value), (∀ b o, b ≠ I → s.heap.get? b = some o → h'.get? b = some o) → ItemsOf (fun i v => items[items.size - 1 - i]? = some v) acc items.size → Q (.ref h'.objs.size) { s with heap := h'.push { cls := .type "tuple", data := .seq acc }, toks := tk }) :
    wpAny (model prog w) A (call (.type "tuple") [.ref I]) Q E s :=
  callType_new F.called_tuple (by decide) (F.typeCall_tuple_1 _) (F.newCall_tuple_1 _) (fun obj => F.args_object_init_2 obj _) F.entry_tuple_new
    (meets_tup_lri I l items hne hz) ⟨hh, hI, hl, fun h' tk acc hk hacc => ⟨⟨_, Heap.get?_push_size _ rfl, rfl⟩, h h' tk acc hk hacc⟩⟩
end

section
variable {w : World} {A : Around} {E : Value → Shared → Prop} {s : Shared} {h₀ : Heap} {L : Addr} {m : Str → Option Value}
theorem rev_items {vv acc : Array Value} (h : ItemsOf (fun i v => vv[vv.size - 1 - i]? = some v) acc vv.size) : acc = vv.toList.reverse.toArray := by
  refine Array.ext (by simp [h.1]) fun i h1 h2 => ?_
  have : vv[vv.size - 1 - i]? = some acc[i] := h.2 i acc[i] (Array.getElem?_eq_getElem h1)
  have hi : i < vv.size := by rw [← h.1]; exact h1
  rw [Array.getElem?_eq_getElem (by omega)] at this
  simp only [List.getElem_toArray, List.getElem_reverse, Array.getElem_toList, Array.length_toList]
  exact (Option.some.inj this).symm
theorem tup_lri_K {prog : Program} {I l : Addr} {ep : Nat} {vv : Array Value} {rest : List (Addr × Obj)} {Q : Value → Shared → Prop} (hh : A.handled = none) (F : Fr h₀ L s.heap m) (N : News h₀ L s.heap ((I, revObj l ((vv.toList.length : Int) - 1)) :: (l, listOf vv ep) :: rest)) (hz : vv.size ≤ 100) (hne : @Ne Nat l I)
    (hr : ∀ p ∈ rest, p.1 ≠ I) (h : ∀ T h' tk, Fr h₀ L h' m → News h₀ L h' ((T, tupObj vv.toList.reverse) :: rest) → (∀ p ∈ rest, p.1 < T) → Q (.ref T) { s with heap := h', toks := tk }) :
    wpAny (model prog w) A (call (.type "tuple") [.ref I]) Q E s := by
  have nI := N _ (.head _)
  have nl := N _ (.tail _ (.head _))
  refine tup_lri (items := vv) hh ⟨_, nI.1, rfl, by rw [revObj, Array.length_toList]⟩ ⟨_, nl.1, rfl, _, rfl⟩ hne (by omega) fun h' tk acc hk hacc => ?_
  have e := rev_items hacc
  subst e
  have F' : Fr h₀ L h' m := ⟨F.ns.at' fun o e => hk L o (fun q => nI.2.1 q.symm) e, fun b o e => hk b o (fun q => by subst q; rw [nI.2.2] at e; cases e) (F.keep b o e), F.above⟩
  have N' : News h₀ L h' rest := fun p hp => ⟨hk _ _ (hr p hp) (N p (.tail _ (.tail _ hp))).1, (N p (.tail _ (.tail _ hp))).2⟩
  exact h _ _ tk (F'.push _) (N'.push F' _) fun p hp => Heap.lt_size (N' p hp).1
end

local macro_rules | `(tactic| walk_at "call type:reversed") => `(tactic| ((with_reducible show wpAny _ _ (call (Value.type _) [Value.ref _]) _ _ _); k_dflt (refine' rev_K ?F ?N ?l ?z ?_; (case F => k_asm); (case N => k_asm); (case l => exact News.isTup (by k_asm) (by k_mem)); (case z => first | exact small_k (by k_asm) | omega); k_whole); intro D' h' F' N' l1; (try k_lt l1); (try k_sweep)))
local macro_rules | `(tactic| k_mem) => `(tactic| exact In3.at (by with_reducible_and_instances assumption) _ _ _)
local macro_rules | `(tactic| walk_at "call ref") => `(tactic| ((with_reducible show wpAny _ _ (call (Value.ref 183) [Value.ref _, Value.bytes _ _]) _ _ _); refine wpAny_call ?_; refine' get_ok ?P ?F ?N ?X ?T ?hr ?hx ?TD ?hd ?hD ?DB ?rt ?sm ?lo ?_; (case P => k_asm); (case F => k_asm); (case N => k_asm); (case X => k_asm); (case T => k_asm); (case hr => exact Rm.le (by k_asm) (by decide)); (case TD => k_asm); (case hx => k_mem); (case hd => k_mem); (case DB => k_asm); (case hD => k_mem); (case rt => k_asm); (case sm => omega); (case lo => k_asm); (refine fun h' tk' tp' bt' vs' hs' t' F' N' lb' ltp' bv' sb' => ?_); (have hsz' := (congrArg Array.size (rfl : List.toArray vs' = List.toArray vs')).trans ((List.size_toArray).trans (bv'.length.trans sb'.1))); (have o3 := Off3.of (by k_asm) (fun p hp => Nat.ne_of_lt (lb' p hp))); (have o4 := Off3.of (by k_asm) (fun p hp => Nat.ne_of_lt (Nat.lt_trans (lb' p hp) ltp'))); (have n3 := Off3.ne o3 (by k_asm)); (have n4 := Off3.ne o4 (by k_asm)); (try k_sweep); (try dsimp only)))

local macro_rules | `(tactic| walk_at "inplaceOp LShift int int") => `(tactic| ((with_reducible show wpAny _ _ (inplaceOp _ (Value.int (Nat.cast (2 ^ _)) _) _) _ _ _); refine ilshift_int_small (by decide) (by decide) (pow_small (by k_asm)) ?_))
local macro_rules | `(tactic| walk_at "call type:tuple") => `(tactic| ((with_reducible show wpAny _ _ (call (Value.type _) [Value.ref _]) _ _ _); k_dflt (refine' tup_lri_K ?hh ?F ?N ?z ?n ?r ?_; (case hh => exact And.right (And.right (by assumption : Rm _ _))); (case F => k_asm); (case N => k_asm); (case z => k_asm); (case n => omega); (case r => k_all); k_whole); intro T' h' tk' F' N' l1; (try k_sweep)))
local macro_rules | `(tactic| k_mem) => `(tactic| with_reducible_and_instances assumption)
local macro_rules | `(tactic| k_all) => `(tactic| with_reducible_and_instances assumption)
/-- the dict of a tree's object, before the root is set -/
def TreeD5 (w : World) (od : Obj) (hf D : Addr) (dflt : Bts) : Prop := ∃ k1 k2 k3 k4 k5 t1 t2 t3, od = dictOf [⟨PyData.keyHash w.params (Str.ofString "_key_size"), .str (Str.ofString "_key_size") k1, .int 1 t1⟩,
  ⟨PyData.keyHash w.params (Str.ofString "depth"), .str (Str.ofString "depth") k2, .int 8 t2⟩, ⟨PyData.keyHash w.params (Str.ofString "_default"), .str (Str.ofString "_default") k3, .bytes dflt t3⟩,
  ⟨PyData.keyHash w.params (Str.ofString "hash_of"), .str (Str.ofString "hash_of") k4, .ref hf⟩, ⟨PyData.keyHash w.params (Str.ofString "db"), .str (Str.ofString "db") k5, .ref D⟩] 5
section
variable {w : World} {z : Heap} {A : Around} {s : Shared} {base : Heap} {L : Addr} {m mg mb : Str → Option Value} {news : List (Addr × Obj)} {loose : List Str} {R : Result → Shared → Prop}
theorem init_ok {x td hf Rg : Addr} {o : Obj} {reg : List Bts} {gg : Obj → List (Addr × Obj)} {dflt : Bts} {t u : Tok} (P : Inn w z A L base) (F : Fr base L s.heap m) (N : News base L s.heap ((x, instObj 235 td) :: (td, dictOf [] 0) :: news)) (X : (frag w.params).In base) (T : TopRead topProg loose mg mb base) (hr : Rm 2 A)
    (hlt : ∀ p ∈ news, p.1 < td) (hxt : td < x) (H : HashG base hf Rg) (U : UpdF Rg o news gg) (B : RegOf w o reg) (small : reg.length ≤ 9000)
    (k : ∀ h' tk D oD od o' reg' db root, Fr base L h' m → News base L h' ((D, oD) :: (x, instObj 235 td) :: (td, od) :: gg o') → x < D → RegOf w o' reg' → Grow 9 reg reg' → TreeD w od hf D dflt root → DbOk w oD reg' (fun _ => dflt) db → Nd reg' (fun _ => dflt) 8 0 root → db.length ≤ 9 → R (.ok (.ret .none)) { s with heap := h', toks := tk }) :
    codeAny (model pw w) A (.call (.ref 151) ⟨[.ref x, .ref hf, .int 1 t, .bytes dflt u], []⟩) R s := by
  obtain rfl : news = gg o := by
    obtain ⟨pre, post, e, hg, _⟩ := U.split
    rw [hg o, ← e]
  have otd : OffAll td gg := OffAll.of U fun p hp => Nat.ne_of_lt (hlt p hp)
  have hRx : @LT.lt Nat _ Rg td := hlt _ (UpdF.mem U)
  have hxt' : @LT.lt Nat _ td x := hxt
  refine enter (binds := [("self", .ref x), ("hash_of", .ref hf), ("key_size", .int 1 t), ("default", .bytes dflt u)]) P F N X T (by k_is) (by k_is) hr (binds_K (X.keeps F.keep) rfl (by k_is) rfl rfl rfl) rfl rfl ?_
  clear P F N X T
  intro g L' h₁ a1 a2 a3 a4 Q E F N X T P lt st hr' hQ hE hO
  have H := H.keeps st
  repeat' ((fail_if_success (with_reducible show wpAny _ _ (pyIter _) _ _ _)); walk1)
  rename_i D _ oD lo hs _ _ _ lD _ _ _ _ _ _ _ _ _ _ _ _ _
  have hDB0 : BDict (bkind w) oD [] := BDict.nil (empty_kind hs)
  refine loop_range (n := 8) (L := L') hr'.2.2 rfl (by assumption) (by decide) (by decide) (by k_asm) (by k_asm)
    (fun i m nw => m "self" = some (.ref x) ∧ m "keccak" = some (.ref hf) ∧ ∃ nd t oD' od o' reg' db, m "node" = some (.bytes nd t) ∧ nw = (D, oD') :: (x, instObj 235 td) :: (td, od) :: gg o' ∧ TreeD5 w od hf D dflt ∧
      RegOf w o' reg' ∧ Grow i reg reg' ∧ BDict (bkind w) oD' db ∧ db.length ≤ i ∧ Part reg' (fun _ => dflt) db i ∧ ∀ p, Tx reg' (fun _ => dflt) i p nd) ?_ ?_ ?_
  · exact ⟨rfl, rfl, dflt, _, oD, _, o, reg, [], rfl, rfl, ⟨_, _, _, _, _, _, _, _, rfl⟩, B, Grow.refl, hDB0, Nat.le_refl _, Part.nil, fun p => rfl⟩
  · rintro I i t0 m₁ nw h tk oI hi ⟨m1, m2, nd, t1, oD', od, o', reg', db, m3, rfl, ⟨k1, k2, k3, k4, k5, t1, t2, t3, rfl⟩, B', G', DB', hdl, PT, tx⟩ F₁ N₁ off _ Q' hQ'
    have hxD : @LT.lt Nat _ x D := lD.1
    have hDI : @Ne Nat D I := off _ (.head _)
    have hxI : @Ne Nat x I := off _ (.tail _ (.head _))
    have htI : @Ne Nat td I := off _ (.tail _ (.tail _ (.head _)))
    have oI' : OffAll I gg := OffAll.of (UpdF.again U o') fun p hp => off p (.tail _ (.tail _ (.tail _ hp)))
    have oD2 : OffAll D gg := OffAll.of U (allLt_ne lD.2.2)
    have hRI : @Ne Nat Rg I := oI' o' _ (UpdF.mem' U o')
    have U' := UpdF.again U o'
    have hsm : db.length ≤ 100000 := by omega
    have hgl := G'.len
    clear lD
    repeat' walk1
    rename Grow 1 reg' _ => G2
    rename Hs _ nd _ => S2
    rename RegOf w _ _ => B2
    rename BDict _ _ (putB _ _ _) => DB2
    refine' hQ' _ _ (TurnP.mk ?b1x1 ?b1x2 ?b1x3 ?b1x4)
    (case b1x1 => assumption)
    (case b1x2 => assumption)
    (case b1x3 => k_all)
    exact ⟨by repeat (first | with_reducible exact lk_hit | refine' lk_skip (by decide) ?_ | assumption | exact rfl), by repeat (first | with_reducible exact lk_hit | refine' lk_skip (by decide) ?_ | assumption | exact rfl), _, _, _, _, _, _, _, by repeat (first | with_reducible exact lk_hit | refine' lk_skip (by decide) ?_ | assumption | exact rfl), rfl, ⟨_, _, _, _, _, _, _, _, rfl⟩, B2, G'.trans G2, DB2, Nat.le_trans (putB_length _ _ _) (Nat.succ_le_succ hdl), PT.step G2 (RegOf.nodup B2) S2 tx, Part.next G2 S2 tx⟩
  · rintro m₁ nw h tk ⟨m1, m2, nd, t1, oD', od, o', reg', db, m3, rfl, ⟨k1, k2, k3, k4, k5, t1, t2, t3, rfl⟩, B', G', DB', hdl, PT, tx⟩ F₁ N₁
    have U' := UpdF.again U o'
    have hxD : @LT.lt Nat _ x D := lD.1
    have oD2 : OffAll D gg := OffAll.of U (allLt_ne lD.2.2)
    have hsm : db.length ≤ 100000 := by omega
    have hgl := G'.len
    clear lD
    repeat' walk1
    rename Grow 1 reg' _ => G2
    rename Hs _ nd _ => S2
    rename RegOf w _ _ => B2
    rename BDict _ _ (putB _ _ _) => DB2
    exact hQ _ _ (leaveK_ (by assumption) (by assumption) (fun kF kN => k _ _ D _ _ _ _ _ _ kF kN hxD B2 (G'.trans G2) ⟨_, _, _, _, _, _, _, _, _, _, rfl⟩ ((PT.step G2 (RegOf.nodup B2) S2 tx).db DB2) ⟨nd, (tx 0).grow G2, S2⟩ (Nat.le_trans (putB_length _ _ _) (Nat.succ_le_succ hdl))))
end

theorem slot_type_repr : Slot "type" "__repr__" "type.__repr__" :=
  .of (owner := "type") (n := "__repr__") (by rw [typeLookup_type, builtinLookup_eq_fast]; kernel_rfl) (by decide +kernel) (by decide +kernel) (by decide +kernel)
    (by first | exact .inl (by decide +kernel) | exact .inr (by decide +kernel)) (by rw [isSubtype_type]; kernel_rfl)
theorem entry_type_repr : entryFor table "type.__repr__" = some Builtin.«type.__repr__» := entryFor_of_tree (by kernel_rfl)
theorem owner_type : Manifest.owners.lookup (String.ofList ['e', 'p', 'y', 't'].reverse) = some Manifest.sig_type := by kernel_rfl
theorem args_type_repr (a : Value) : argsOk "type.__repr__" ⟨[a], []⟩ := by
  unfold argsOk; rw [signature?_of (id := "type.__repr__") (n := ['_', '_', 'r', 'p', 'e', 'r', '_', '_']) (o := ['e', 'p', 'y', 't']) (by kernel_rfl) owner_type]; kernel_rfl
theorem gives_type_repr (n : String) : Gives (Builtin.«type.__repr__» ⟨[.type n], []⟩) (.str (Str.ofString s!"<class '{n}'>")) := .of_eq rfl
theorem repr_type {w : World} {A : Around} {E : Value → Shared → Prop} {s : Shared} {n : String} {Q : Value → Shared → Prop} (ht : s.TypeIs (.type n) "type") (hn : (Str.ofString s!"<class '{n}'>").length ≤ sizeLine) (h : ∀ tk k, Q (.str (Str.ofString s!"<class '{n}'>") tk) { s with toks := k }) : wpAny (model pw w) A (pyReprObj (.type n)) Q E s :=
  wpAny_pyReprObj_gives ht slot_type_repr entry_type_repr (args_type_repr _) (gives_type_repr n) (h _ _) (hx := hn)
theorem typeIs_ty_int (s : Shared) : s.TypeIs (.type "int") "type" := rfl
theorem typeIs_ty_str (s : Shared) : s.TypeIs (.type "str") "type" := rfl
theorem repr_ty {w : World} {A : Around} {E : Value → Shared → Prop} {s : Shared} {n : String} {Q : Value → Shared → Prop} (ht : s.TypeIs (.type n) "type") (hn : (Str.ofString s!"<class '{n}'>").length ≤ 100) (h : ∀ x tk k, Str.length x ≤ 100 → Q (.str x tk) { s with toks := k }) : wpAny (model pw w) A (pyReprObj (.type n)) Q E s :=
  repr_type ht (Nat.le_trans hn (by rw [sizeLine_eq]; decide)) fun tk k => h _ tk k hn
theorem len_ty_int : (Str.ofString s!"<class '{"int"}'>").length ≤ 100 := by decide +kernel
theorem len_ty_str : (Str.ofString s!"<class '{"str"}'>").length ≤ 100 := by decide +kernel
theorem repr_int_ty {w : World} {A : Around} {E : Value → Shared → Prop} {s : Shared} {Q : Value → Shared → Prop} (h : ∀ x tk k, Str.length x ≤ 100 → Q (.str x tk) { s with toks := k }) : wpAny (model pw w) A (pyReprObj (.type "int")) Q E s := repr_ty (n := "int") (typeIs_ty_int s) len_ty_int h
theorem repr_str_ty {w : World} {A : Around} {E : Value → Shared → Prop} {s : Shared} {Q : Value → Shared → Prop} (h : ∀ x tk k, Str.length x ≤ 100 → Q (.str x tk) { s with toks := k }) : wpAny (model pw w) A (pyReprObj (.type "str")) Q E s := repr_ty (n := "str") (typeIs_ty_str s) len_ty_str h
section
variable {w : World} {z : Heap} {A : Around} {s : Shared} {base : Heap} {L : Addr} {m mg mb : Str → Option Value} {news : List (Addr × Obj)} {loose : List Str} {R : Result → Shared → Prop}
theorem vlen_bad {b : Bts} {t u : Tok} {n : Int} (P : Inn w z A L base) (F : Fr base L s.heap m) (N : News base L s.heap news) (X : (frag w.params).In base) (T : TopRead topProg loose mg mb base) (hr : Rm 1 A)
    (hn : (b.size : Int) ≠ n) (hs : b.size ≤ 1000000) (hs2 : n.natAbs < 1000000)
    (k : ∀ h' tk e, Flies w z A L base m news e (.ref 52) h' → R (.error (.ref e)) { s with heap := h', toks := tk }) : codeAny (model pw w) A (.call (.ref 69) ⟨[.bytes b t, .int n u], []⟩) R s := by
  refine enterE (binds := [("value", .bytes b t), ("length", .int n u)]) P F N X T (by k_is) (by k_is) hr (BindsTo.of_eq rfl) rfl rfl ?_
  clear F N X T
  intro g L' h₁ a1 a2 a3 a4 Q E F N X T P' st hr' hQ hT hE hO FG S hOA
  repeat' walk1
  rename Heap.MadeExcOf _ _ _ _ _ => hM
  exact hE _ _ (flies_made S P FG rfl hM F N fun h' H => k _ _ _ H)
theorem vbytes_int {n : Int} {t : Tok} (P : Inn w z A L base) (F : Fr base L s.heap m) (N : News base L s.heap news) (X : (frag w.params).In base) (T : TopRead topProg loose mg mb base) (hr : Rm 1 A)
    (k : ∀ h' tk e, Flies w z A L base m news e (.ref 52) h' → R (.error (.ref e)) { s with heap := h', toks := tk }) : codeAny (model pw w) A (.call (.ref 62) ⟨[.int n t], []⟩) R s := by
  refine enterE (binds := [("value", .int n t)]) P F N X T (by k_is) (by k_is) hr (BindsTo.of_eq rfl) rfl rfl ?_
  clear F N X T
  intro g L' h₁ a1 a2 a3 a4 Q E F N X T P' st hr' hQ hT hE hO FG S hOA
  repeat' ((fail_if_success (with_reducible show wpAny _ _ (pyReprObj _) _ _ _)); walk1)
  refine repr_int_ty (fun txt tk1 k1 hl => ?_)
  dsimp only
  iterate 4 walk1
  exact ⟨by show 1 ≤ sizeLine; rw [sizeLine_eq]; decide, F.keep, fun h' e hM => hE _ _ (flies_made S P FG rfl hM F N fun h' H => k _ _ _ H)⟩
theorem vbytes_str {n : Str} {t : Tok} (P : Inn w z A L base) (F : Fr base L s.heap m) (N : News base L s.heap news) (X : (frag w.params).In base) (T : TopRead topProg loose mg mb base) (hr : Rm 1 A)
    (k : ∀ h' tk e, Flies w z A L base m news e (.ref 52) h' → R (.error (.ref e)) { s with heap := h', toks := tk }) : codeAny (model pw w) A (.call (.ref 62) ⟨[.str n t], []⟩) R s := by
  refine enterE (binds := [("value", .str n t)]) P F N X T (by k_is) (by k_is) hr (BindsTo.of_eq rfl) rfl rfl ?_
  clear F N X T
  intro g L' h₁ a1 a2 a3 a4 Q E F N X T P' st hr' hQ hT hE hO FG S hOA
  repeat' ((fail_if_success (with_reducible show wpAny _ _ (pyReprObj _) _ _ _)); walk1)
  refine repr_str_ty (fun txt tk1 k1 hl => ?_)
  dsimp only
  iterate 4 walk1
  exact ⟨by show 1 ≤ sizeLine; rw [sizeLine_eq]; decide, F.keep, fun h' e hM => hE _ _ (flies_made S P FG rfl hM F N fun h' H => k _ _ _ H)⟩
end

/-- a tree stands in a ledger -/
structure TreeAt (w : World) (news : List (Addr × Obj)) (x td D hf : Addr) (dflt root : Bts) (reg : List Bts) (val : Nat → Bts) : Prop where
  ex : ∃ od oD db, (x, instObj 235 td) ∈ news ∧ (td, od) ∈ news ∧ (D, oD) ∈ news ∧ TreeD w od hf D dflt root ∧ DbOk w oD reg val db
  rt : Nd reg val 8 0 root
  small : reg.length ≤ 9000
  lo : (D == sysModules) = false
theorem TreeAt.sub {w : World} {news news' : List (Addr × Obj)} {x td D hf : Addr} {dflt root : Bts} {reg : List Bts} {val : Nat → Bts} (H : TreeAt w news x td D hf dflt root reg val) (q : ∀ p ∈ news, p ∈ news') : TreeAt w news' x td D hf dflt root reg val := by
  obtain ⟨⟨od, oD, db, h1, h2, h3, h4, h5⟩, h6, h7, h8⟩ := H
  exact ⟨⟨od, oD, db, q _ h1, q _ h2, q _ h3, h4, h5⟩, h6, h7, h8⟩
section
variable {w : World} {z : Heap} {A : Around} {s : Shared} {base : Heap} {L : Addr} {m mg mb : Str → Option Value} {news : List (Addr × Obj)} {loose : List Str} {R : Result → Shared → Prop}
theorem get_at {x td D hf : Addr} {dflt root : Bts} {reg : List Bts} {val : Nat → Bts} {c : UInt8} {t : Tok} (P : Inn w z A L base) (F : Fr base L s.heap m) (N : News base L s.heap news) (X : (frag w.params).In base) (T : TopRead topProg loose mg mb base) (hr : Rm 3 A)
    (H : TreeAt w news x td D hf dflt root reg val)
    (k : ∀ h' tk tp bt vs hs t', Fr base L h' m → News base L h' ((tp, tupObj [.bytes (val c.toNat) t', .ref bt]) :: (bt, tupObj vs) :: news) → (∀ p ∈ news, p.1 < bt) → bt < tp → BVals vs hs → Sibs reg val c.toNat hs → R (.ok (.ret (.ref tp))) { s with heap := h', toks := tk }) :
    codeAny (model pw w) A (.call (.ref 183) ⟨[.ref x, .bytes #[c] t], []⟩) R s := by
  obtain ⟨⟨od, oD, db, h1, h2, h3, h4, h5⟩, h6, h7, h8⟩ := H
  exact get_ok P F N X T hr h1 h4 h2 h3 h5 h6 h7 h8 k
end
local macro_rules | `(tactic| walk_at "call ref") => `(tactic| ((with_reducible show wpAny _ _ (call (Value.ref 183) [Value.ref _, Value.bytes _ _]) _ _ _); (with_reducible rename TreeAt _ _ _ _ _ _ _ _ _ _ => hTA); refine wpAny_call (get_at (by assumption) (by k_asm) (by k_asm) (by assumption) (by assumption) (Rm.le (by assumption) (by decide)) hTA (fun h' tk' tp' bt' vs' hs' t' F' N' lb' ltp' bv' sb' => ?_)); (try k_sweep); (try dsimp only)))
section
variable {w : World} {z : Heap} {A : Around} {s : Shared} {base : Heap} {L : Addr} {m mg mb : Str → Option Value} {news : List (Addr × Obj)} {loose : List Str} {R : Result → Shared → Prop}
theorem val_ne {v : Bts} (h : (v.toList == #[].toList) = false) : v ≠ #[] := fun e => by rw [e] at h; exact absurd h (by decide)
theorem val_eq {v : Bts} (h : (v.toList == #[].toList) = true) : v = #[] := Array.toList_inj.mp (beq_iff_eq.mp h)
theorem getv {x td D hf : Addr} {dflt root : Bts} {reg : List Bts} {val : Nat → Bts} {c : UInt8} {t : Tok} (P : Inn w z A L base) (F : Fr base L s.heap m) (N : News base L s.heap news) (X : (frag w.params).In base) (T : TopRead topProg loose mg mb base) (hr : Rm 4 A)
    (H : TreeAt w news x td D hf dflt root reg val)
    (k1 : ∀ h' tk t', val c.toNat ≠ #[] → Fr base L h' m → News base L h' news → R (.ok (.ret (.bytes (val c.toNat) t'))) { s with heap := h', toks := tk })
    (k2 : ∀ h' tk e, val c.toNat = #[] → Flies w z A L base m news e (.type "KeyError") h' → R (.error (.ref e)) { s with heap := h', toks := tk }) :
    codeAny (model pw w) A (.call (.ref 169) ⟨[.ref x, .bytes #[c] t], []⟩) R s := by
  refine enterE (binds := [("self", .ref x), ("key", .bytes #[c] t)]) P F N X T (by k_is) (by k_is) hr (BindsTo.of_eq rfl) rfl rfl ?_
  clear F N X T
  intro g L' h₁ a1 a2 a3 a4 Q E F N X T P' st hr' hQ hT hE hO FG S hOA
  have H0 := H
  obtain ⟨⟨od, oD, db, h1, h2, h3, ⟨q1, q2, k3, k4, k5, k6, t1, t2, t3, t6, rfl⟩, h5⟩, h6, h7, h8⟩ := H0
  repeat' walk1
  · rename Heap.NewExc _ _ _ _ => hM
    have v0 := val_eq (by assumption)
    exact hE _ _ (flies_new S P FG rfl hM (by assumption) (by assumption) fun h' H => k2 _ _ _ v0 (H.sub fun p hp => .tail _ (.tail _ hp)))
  · exact hQ _ _ (leaveK_ (by assumption) (by assumption) fun kF kN => k1 _ _ _ (val_ne (by assumption)) kF fun p hp => kN p (.tail _ (.tail _ hp)))
theorem branchv {x td D hf : Addr} {dflt root : Bts} {reg : List Bts} {val : Nat → Bts} {c : UInt8} {t : Tok} (P : Inn w z A L base) (F : Fr base L s.heap m) (N : News base L s.heap news) (X : (frag w.params).In base) (T : TopRead topProg loose mg mb base) (hr : Rm 4 A)
    (H : TreeAt w news x td D hf dflt root reg val) (hne : val c.toNat ≠ #[])
    (k : ∀ h' tk bt vs hs, Fr base L h' m → News base L h' ((bt, tupObj vs) :: news) → (∀ p ∈ news, p.1 < bt) → BVals vs hs → Sibs reg val c.toNat hs → R (.ok (.ret (.ref bt))) { s with heap := h', toks := tk }) :
    codeAny (model pw w) A (.call (.ref 176) ⟨[.ref x, .bytes #[c] t], []⟩) R s := by
  refine enter (binds := [("self", .ref x), ("key", .bytes #[c] t)]) P F N X T (by k_is) (by k_is) hr (BindsTo.of_eq rfl) rfl rfl ?_
  clear F N X T
  clear P
  intro g L' h₁ a1 a2 a3 a4 Q E F N X T P lt st hr' hQ hE hO
  have H0 := H
  obtain ⟨⟨od, oD, db, h1, h2, h3, ⟨k1, k2, k3, k4, k5, k6, t1, t2, t3, t6, rfl⟩, h5⟩, h6, h7, h8⟩ := H0
  repeat' walk1
  · exact absurd (val_eq (by assumption)) hne
  · rename ∀ p ∈ _, _ < _ => lb
    exact hQ _ _ (leaveK_ (by assumption) (by assumption) fun kF kN => k _ _ _ _ _ kF (fun p hp => kN p (.tail _ hp)) lb (by assumption) (by assumption))
end

local macro_rules | `(tactic| walk_at "call ref") => `(tactic| ((with_reducible show wpAny _ _ (call (Value.ref 183) [Value.ref _, Value.bytes _ _]) _ _ _); (with_reducible rename TreeAt _ _ _ _ _ _ _ _ _ _ => hTA); refine wpAny_call (get_at (by k_asm) (by k_asm) (by k_asm) (by k_asm) (by k_asm) (Rm.le (by k_asm) (by decide)) hTA (fun h' tk' tp' bt' vs' hs' t' F' N' lb' ltp' bv' sb' => ?_)); (try k_sweep); (try dsimp only)))
local macro_rules | `(tactic| walk_at "call ref") => `(tactic| ((with_reducible show wpAny _ _ (call (Value.ref 169) [Value.ref _, Value.bytes _ _]) _ _ _); (with_reducible rename TreeAt _ _ _ _ _ _ _ _ _ _ => hTA); refine wpAny_call (getv (by k_asm) (by k_asm) (by k_asm) (by k_asm) (by k_asm) (Rm.le (by k_asm) (by decide)) hTA (fun h' tk' t' hv' F' N' => ?_) (fun h' tk' e' hv' H' => ?_)); (try k_sweep); (try dsimp only)))
/-- a contract whose ground may be turned -/
abbrev KTurn (w : World) (z : Heap) (A : Around) (L : Addr) (base : Heap) (m : Str → Option Value) (news : List (Addr × Obj)) (s : Shared) (K : Shared → Prop) : Prop :=
  ∀ base' loose mg mb h' tk, Turn A base base' → Fr base' L h' m → News base' L h' news → (frag w.params).In base' → TopRead topProg loose mg mb base' → Inn w z A L base' → K { s with heap := h', toks := tk }
theorem Inn.turn {w : World} {z : Heap} {A : Around} {L : Addr} {base : Heap} (P : Inn w z A L base) : Turn A base base := by
  obtain ⟨A₀, outer, cn, cs, a, ccd, B, hA, _⟩ := P
  exact ⟨_, _, hA, KtsTurn.refl⟩
section
variable {w : World} {z : Heap} {A A' : Around} {s s' : Shared} {base g : Heap} {L L' : Addr} {m m' mg mb : Str → Option Value} {news news' : List (Addr × Obj)} {loose : List Str} {R : Result → Shared → Prop}
theorem leaveT_ {g' : Heap} {v : Value} (T : Turn A' g g') (F' : Fr g' L' s'.heap m') (N' : News g' L' s'.heap news') (k : ∀ base' loose mg mb, Turn A base base' → Fr base' L s'.heap m → News base' L s'.heap news' → (frag w.params).In base' → TopRead topProg loose mg mb base' → Inn w z A L base' → R (.ok (.ret v)) s') : LeaveT w z A A' L base m g R v s' :=
  ⟨g', L', m', news', T, F', N', k⟩
theorem exists_ok {x td D hf : Addr} {dflt root : Bts} {reg : List Bts} {val : Nat → Bts} {c : UInt8} {t : Tok} (P : Inn w z A L base) (F : Fr base L s.heap m) (N : News base L s.heap news) (X : (frag w.params).In base) (T : TopRead topProg loose mg mb base) (hr : Rm 5 A)
    (H : TreeAt w news x td D hf dflt root reg val) (k : KTurn w z A L base m news s (R (.ok (.ret (.bool (decide (val c.toNat ≠ #[]))))))) :
    codeAny (model pw w) A (.call (.ref 197) ⟨[.ref x, .bytes #[c] t], []⟩) R s := by
  refine enterE (binds := [("self", .ref x), ("key", .bytes #[c] t)]) P F N X T (by k_is) (by k_is) hr (BindsTo.of_eq rfl) rfl rfl ?_
  clear F N X T
  intro g L' h₁ a1 a2 a3 a4 Q E F N X T P' st hr' hQ hT hE hO FG S hOA
  have H0 := H
  obtain ⟨⟨od, oD, db, h1, h2, h3, ⟨k1, k2, k3, k4, k5, k6, t1, t2, t3, t6, rfl⟩, h5⟩, h6, h7, h8⟩ := H0
  repeat' walk1
  · exact hT _ _ (leaveT_ P'.turn (by assumption) (by assumption) fun b' l' g1 g2 tn kF kN kX kT kP => by
      rw [show (Value.bool true) = .bool (decide (val c.toNat ≠ #[])) by rw [decide_eq_true (by assumption)]]
      exact k _ _ _ _ _ _ tn kF kN kX kT kP)
  · rename Flies _ _ _ _ _ _ _ _ _ _ => hF
    refine flies_caught S rfl hF (fun _ _ _ => by kts_test) (fun h' g' l' g1 g2 Tn F' N' X' T' P'' S' => ?_) (hOA _)
    repeat' walk1
    exact hT _ _ (leaveT_ Tn F' N' fun b' l' g1 g2 tn kF kN kX kT kP => by
      rw [show (Value.bool false) = .bool (decide (val c.toNat ≠ #[])) by rw [decide_eq_false (not_not_intro (by assumption))]]
      exact k _ _ _ _ _ _ tn kF kN kX kT kP)
end
theorem Rm.in1 {d : Nat} {A : Around} (h : Rm (d + 1) A) : Rm d A.in1 := ⟨by have := h.1; show A.depth + d ≤ 900; omega, by have := h.2.1; show A.units + 1 + 20 * d ≤ 9000; omega, h.2.2⟩
theorem Inn.in1 {w : World} {z base : Heap} {A : Around} {L : Addr} (P : Inn w z A L base) : Inn w z A.in1 L base := P
theorem Flies.out {w : World} {z base h : Heap} {A : Around} {L e : Addr} {m : Str → Option Value} {news : List (Addr × Obj)} {cls : Value} (H : Flies w z A.in1 L base m news e cls h) : Flies w z A L base m news e cls h := H
theorem Turn.out {A : Around} {base base' : Heap} (H : Turn A.in1 base base') : Turn A base base' := H
theorem Inn.out {w : World} {z base : Heap} {A : Around} {L : Addr} (P : Inn w z A.in1 L base) : Inn w z A L base := P

local macro_rules | `(tactic| walk_at "call ref") => `(tactic| ((with_reducible show wpAny _ _ (call (Value.ref 197) [Value.ref _, Value.bytes _ _]) _ _ _); (with_reducible rename TreeAt _ _ _ _ _ _ _ _ _ _ => hTA); refine wpAny_call (exists_ok (by k_asm) (by k_asm) (by k_asm) (by k_asm) (by k_asm) (Rm.le (by k_asm) (by decide)) hTA (fun base' l' g1' g2' h' tk' Tn' F' N' X' T' P' => ?_)); (try k_sweep); (try dsimp only)))
section
variable {w : World} {z : Heap} {A A' : Around} {s s' : Shared} {base g : Heap} {L L' : Addr} {m m' mg mb : Str → Option Value} {news news' : List (Addr × Obj)} {loose : List Str} {R : Result → Shared → Prop}
theorem contains_ok {x td D hf : Addr} {dflt root : Bts} {reg : List Bts} {val : Nat → Bts} {c : UInt8} {t : Tok} (P : Inn w z A L base) (F : Fr base L s.heap m) (N : News base L s.heap news) (X : (frag w.params).In base) (T : TopRead topProg loose mg mb base) (hr : Rm 6 A)
    (H : TreeAt w news x td D hf dflt root reg val) (k : KTurn w z A L base m news s (R (.ok (.ret (.bool (decide (val c.toNat ≠ #[]))))))) :
    codeAny (model pw w) A (.call (.ref 232) ⟨[.ref x, .bytes #[c] t], []⟩) R s := by
  refine enterE (binds := [("self", .ref x), ("key", .bytes #[c] t)]) P F N X T (by k_is) (by k_is) hr (BindsTo.of_eq rfl) rfl rfl ?_
  clear F N X T
  intro g L' h₁ a1 a2 a3 a4 Q E F N X T P' st hr' hQ hT hE hO FG S hOA
  have H0 := H
  obtain ⟨⟨od, oD, db, h1, h2, h3, ⟨k1, k2, k3, k4, k5, k6, t1, t2, t3, t6, rfl⟩, h5⟩, h6, h7, h8⟩ := H0
  repeat' walk1
  exact hT _ _ (leaveT_ (by assumption) (by assumption) (by assumption) fun b' l' g1 g2 tn kF kN kX kT kP => k _ _ _ _ _ _ tn kF kN kX kT kP)
theorem getitem_ok {x td D hf : Addr} {dflt root : Bts} {reg : List Bts} {val : Nat → Bts} {c : UInt8} {t : Tok} (P : Inn w z A L base) (F : Fr base L s.heap m) (N : News base L s.heap news) (X : (frag w.params).In base) (T : TopRead topProg loose mg mb base) (hr : Rm 5 A)
    (H : TreeAt w news x td D hf dflt root reg val)
    (k1 : ∀ h' tk t', val c.toNat ≠ #[] → Fr base L h' m → News base L h' news → R (.ok (.ret (.bytes (val c.toNat) t'))) { s with heap := h', toks := tk })
    (k2 : ∀ h' tk e, val c.toNat = #[] → Flies w z A L base m news e (.type "KeyError") h' → R (.error (.ref e)) { s with heap := h', toks := tk }) :
    codeAny (model pw w) A (.call (.ref 211) ⟨[.ref x, .bytes #[c] t], []⟩) R s := by
  refine enterE (binds := [("self", .ref x), ("key", .bytes #[c] t)]) P F N X T (by k_is) (by k_is) hr (BindsTo.of_eq rfl) rfl rfl ?_
  clear F N X T
  intro g L' h₁ a1 a2 a3 a4 Q E F N X T P' st hr' hQ hT hE hO FG S hOA
  have H0 := H
  obtain ⟨⟨od, oD, db, h1, h2, h3, ⟨q1, q2, k3, k4, k5, k6, t1, t2, t3, t6, rfl⟩, h5⟩, h6, h7, h8⟩ := H0
  repeat' walk1
  · exact hQ _ _ (leaveK_ (by assumption) (by assumption) fun kF kN => k1 _ _ _ (by assumption) kF kN)
  · rename Flies _ _ _ _ _ _ _ _ _ _ => hF
    exact hE _ _ (flies_on S P FG hF fun h' H => k2 _ _ _ (by assumption) H)
end

local macro_rules | `(tactic| walk_at "call ref") => `(tactic| ((with_reducible show wpAny _ _ (call (Value.ref 211) [Value.ref _, Value.bytes _ _]) _ _ _); (with_reducible rename TreeAt _ _ _ _ _ _ _ _ _ _ => hTA); refine wpAny_call (getitem_ok (by first | with_reducible assumption | exact Inn.in1 (by k_asm)) (by k_asm) (by k_asm) (by k_asm) (by k_asm) (by first | exact Rm.le (by k_asm) (by decide) | exact Rm.le (Rm.in1 (by k_asm)) (by decide)) hTA (fun h' tk' t' hv' F' N' => ?_) (fun h' tk' e' hv' H' => ?_)); (try k_sweep); (try dsimp only)))
section
variable {w : World} {z : Heap} {A A' : Around} {s s' : Shared} {base g : Heap} {L L' : Addr} {m m' mg mb : Str → Option Value} {news news' : List (Addr × Obj)} {loose : List Str} {R : Result → Shared → Prop}
/-- what the tree says of a key, or None -/
def saidV (v : Bts) (x : Value) : Prop := if v ≠ #[] then ∃ t, x = .bytes v t else x = .none
theorem said_ok {x td D hf : Addr} {dflt root : Bts} {reg : List Bts} {val : Nat → Bts} {c : UInt8} {t : Tok} (P : Inn w z A L base) (F : Fr base L s.heap m) (N : News base L s.heap news) (X : (frag w.params).In base) (T : TopRead topProg loose mg mb base) (hr : Rm 7 A)
    (H : TreeAt w news x td D hf dflt root reg val) (k : ∀ v, saidV (val c.toNat) v → KTurn w z A L base m news s (R (.ok (.ret v)))) :
    codeAny (model pw w) A (.call (.ref 293) ⟨[.ref x, .bytes #[c] t], []⟩) R s := by
  refine enterE (binds := [("trie", .ref x), ("key", .bytes #[c] t)]) P F N X T (by k_is) (by k_is) hr (BindsTo.of_eq rfl) rfl rfl ?_
  clear F N X T
  intro g L' h₁ a1 a2 a3 a4 Q E F N X T P' st hr' hQ hT hE hO FG S hOA
  have H0 := H
  obtain ⟨⟨od, oD, db, h1, h2, h3, ⟨k1, k2, k3, k4, k5, k6, t1, t2, t3, t6, rfl⟩, h5⟩, h6, h7, h8⟩ := H0
  repeat' walk1
  · exact hT _ _ (leaveT_ P'.turn (by assumption) (by assumption) fun b' l' g1 g2 tn kF kN kX kT kP => k _ (by unfold saidV; rw [if_pos (by assumption)]; exact ⟨_, rfl⟩) _ _ _ _ _ _ tn kF kN kX kT kP)
  · rename Flies _ _ _ _ _ _ _ _ _ _ => hF
    refine flies_caught S rfl hF.out (fun _ _ _ => by kts_test) (fun h' g' l' g1 g2 Tn F' N' X' T' P'' S' => ?_) (hOA _)
    repeat' walk1
    exact hT _ _ (leaveT_ Tn F' N' fun b' l' g1 g2 tn kF kN kX kT kP => k _ (by unfold saidV; rw [if_neg (not_not_intro (by assumption))]) _ _ _ _ _ _ tn kF kN kX kT kP)
end

/-- the frames below a frame; its ground without them -/
def fsOf (A : Around) : List Addr := ((A.frames.getD []).drop 1).filterMap (·.frame)
def hid (A : Around) (g : Heap) : Heap := hideAll g (fsOf A)
theorem fsOf_eq {A : Around} {env : Env} {outer : List Env} (h : A.frames = some (env :: outer)) : fsOf A = outer.filterMap (·.frame) := by unfold fsOf; rw [h]; rfl
def FlOk (A : Around) (g : Heap) (fl : List (Addr × Obj)) : Prop := (∀ b ∈ fsOf A, ∃ o sl, g.get? b = some o ∧ (b, ({ o with slots := sl } : Obj)) ∈ fl) ∧ ∀ p ∈ fl, p.1 ∈ fsOf A
section
variable {w : World} {z g g₂ h : Heap} {A : Around} {L : Addr} {m : Str → Option Value} {news fl : List (Addr × Obj)}
theorem Turn.kts (T : Turn A g g₂) : KtsTurn (fsOf A) g g₂ := by
  obtain ⟨env, outer, hA, K⟩ := T
  rw [fsOf_eq hA]; exact K
theorem Turn.of (P : Inn w z A L g) (K : KtsTurn (fsOf A) g g₂) : Turn A g g₂ := by
  obtain ⟨A₀, outer, cn, cs, a, ccd, B, hA, _⟩ := P
  rw [fsOf_eq hA] at K
  exact ⟨_, _, hA, K⟩
theorem Turn.trans {g₃ : Heap} (T : Turn A g g₂) (U : Turn A g₂ g₃) : Turn A g g₃ := by
  obtain ⟨env, outer, hA, K⟩ := T
  have := U.kts
  rw [fsOf_eq hA] at this
  exact ⟨_, _, hA, K.trans this⟩
theorem Inn.fs_dict (P : Inn w z A L g) : ∀ b ∈ fsOf A, ∃ o es n, g.get? b = some o ∧ o.data = .dict es n := by
  obtain ⟨A₀, outer, cn, cs, a, ccd, B, hA, hck, XB, TB, D⟩ := P
  rw [fsOf_eq hA]; exact D
theorem fl_make (P : Inn w z A L g) (T : Turn A g g₂) (F : Fr g₂ L h m) : ∃ fl, FlOk A g fl ∧ News (hid A g) L h fl := by
  have at_h : ∀ b ∈ fsOf A, ∃ o sl, g.get? b = some o ∧ h.get? b = some { o with slots := sl } := fun b hb => by
    obtain ⟨o, es, n, ho, hd⟩ := P.fs_dict b hb
    obtain ⟨sl, hs⟩ := T.kts.up ho
    exact ⟨o, sl, ho, F.keep _ _ hs⟩
  refine ⟨(fsOf A).map fun b => (b, (h.get? b).getD default), ⟨fun b hb => ?_, fun p hp => ?_⟩, fun p hp => ?_⟩
  · obtain ⟨o, sl, ho, hh⟩ := at_h b hb
    exact ⟨o, sl, ho, List.mem_map.mpr ⟨b, hb, by rw [hh]; rfl⟩⟩
  · obtain ⟨b, hb, rfl⟩ := List.mem_map.mp hp; exact hb
  · obtain ⟨b, hb, rfl⟩ := List.mem_map.mp hp
    obtain ⟨o, sl, ho, hh⟩ := at_h b hb
    refine ⟨by show h.get? b = some ((h.get? b).getD default); rw [hh]; rfl, fun e => ?_, hideAll_none _ hb⟩
    have e' : b = L := e
    obtain ⟨sl', hs⟩ := T.kts.up ho
    rw [e', kts_self F] at hs; cases hs
theorem hid_fr (T : Turn A g g₂) (F : Fr g₂ L h m) : Fr (hid A g) L h m :=
  ⟨F.ns, fun b o e => by
    by_cases hb : b ∈ fsOf A
    · unfold hid at e; rw [hideAll_none _ hb] at e; cases e
    · exact F.keep _ _ (T.kts.other b o (of_hideAll _ e) hb), by unfold hid; rw [hideAll_size, ← T.kts.size]; exact F.above⟩
theorem hid_news (T : Turn A g g₂) (N : News g₂ L h news) : News (hid A g) L h news ∧ ∀ p ∈ news, g.get? p.1 = none := by
  have no : ∀ p ∈ news, g.get? p.1 = none := fun p hp => by
    cases q : g.get? p.1 with
    | none => rfl
    | some o => obtain ⟨sl, hs⟩ := T.kts.up q; have := (N p hp).2.2; rw [hs] at this; cases this
  refine ⟨fun p hp => ⟨(N p hp).1, (N p hp).2.1, ?_⟩, no⟩
  cases q : (hid A g).get? p.1 with
  | none => rfl
  | some o => have := of_hideAll _ q; rw [no p hp] at this; cases this
theorem hid_up (P : Inn w z A L g) (ok : FlOk A g fl) (F : Fr (hid A g) L h m) (NF : News (hid A g) L h fl) (N : News (hid A g) L h news) (off : ∀ p ∈ news, g.get? p.1 = none) :
    ∃ g₁ loose mg mb, Turn A g g₁ ∧ Fr g₁ L h m ∧ News g₁ L h news ∧ Inn w z A L g₁ ∧ (frag w.params).In g₁ ∧ TopRead topProg loose mg mb g₁ := by
  obtain ⟨K, S⟩ := kts_turn_at (h := h) (fs := fsOf A) (g := g) (fun b hb => let ⟨o, _, _, ho, _⟩ := P.fs_dict b hb; ⟨o, ho⟩)
    (fun b o e nb => F.keep b o (hideAll_get _ e nb))
    (fun b o e hb => by
      obtain ⟨o', sl, ho', hm⟩ := ok.1 b hb
      rw [e] at ho'
      obtain rfl := Option.some.inj ho'
      exact ⟨sl, (NF _ hm).1⟩)
  have T := Turn.of P K
  obtain ⟨A₀, outer, cn, cs, a, ccd, B, hA, hck, XB, ⟨l1, mean1, mg1, mb1, TB⟩, D⟩ := P
  rw [fsOf_eq hA] at K S T
  have B' : Below A₀ z outer (ktsHeap h (outer.filterMap (·.frame)) g) := ⟨B.stack, fun b o e => K.other b o (B.stays b o e) (fun hm => by
    rw [(B.frames.mem hm).1] at e; cases e), B.frames.of_keeps fun b o e _ => let ⟨sl, hs⟩ := K.up e; ⟨_, hs, rfl⟩⟩
  refine ⟨_, l1, mg1, mb1, T, ⟨F.ns, S, ?_⟩, fun p hp => ⟨(N p hp).1, (N p hp).2.1, K.none_ _ (off p hp)⟩, ⟨A₀, outer, cn, cs, a, ccd, B', hA, hck, XB, ⟨l1, mean1, mg1, mb1, TB⟩, D.turn K⟩, XB.keeps B'.stays, topRead_of (TB.keeps B'.stays)⟩
  have := F.above
  unfold hid at this
  rw [hideAll_size] at this
  rw [K.size]; exact this
end
/-- what a turn of a loop must leave, whose ground may be turned -/
def TurnT (w : World) (z : Heap) (A : Around) (g : Heap) (L I : Addr) (oI : Obj) (J : (Str → Option Value) → List (Addr × Obj) → Prop) (s₁ : Shared) (Q : Flow → Shared → Prop) (f : Flow) (s₂ : Shared) : Prop :=
  match f with
  | .ret v => Q (.ret v) s₂
  | .brk => Q .next s₂
  | _ => ∃ h' tk m' news' g₂, s₂ = { s₁ with heap := h', toks := tk } ∧ Turn A g g₂ ∧ Fr g₂ L h' m' ∧ News g₂ L h' ((I, oI) :: news') ∧ (∀ p ∈ news', p.1 ≠ I) ∧ J m' news'
section
variable {w : World} {z : Heap} {A : Around} {E : Value → Shared → Prop} {s : Shared} {env : Env} {g : Heap} {x : Str} {body : List Stmt} {Q : Flow → Shared → Prop}
theorem loopTJ {I : Addr} {fp : List Addr} {n : Nat} {Pv : Nat → Value → Prop} {St : Nat → Heap → Prop} {m₀ : Str → Option Value} {news₀ : List (Addr × Obj)} (W : Walks pw w A I fp [I] n Pv St) (so : Addr → Obj)
    (hit : ∀ i h, St i h → ∃ o, h.get? I = some o) (hLf : env.locals ∉ fp) (hIf : I ∈ fp) (hI : g.get? I = none) (hn0 : ∀ p ∈ news₀, p.1 ≠ I) (st0 : St 0 s.heap) (P : Inn w z A env.locals g) (F : Fr g env.locals s.heap m₀) (N : News g env.locals s.heap news₀)
    (J : Nat → (Str → Option Value) → List (Addr × Obj) → Prop) (hJ0 : J 0 m₀ news₀)
    (src : ∀ i m news, J i m news → ∀ b ∈ fp, b ≠ I → (b, so b) ∈ news)
    (turn : ∀ i v m₁ news₁ h tk oI g₁ loose mg mb, i < n → Pv i v → J i m₁ news₁ → Turn A g g₁ → Inn w z A env.locals g₁ → (frag w.params).In g₁ → TopRead topProg loose mg mb g₁ → Fr g₁ env.locals h (fun y => if y = x then some v else m₁ y) → News g₁ env.locals h ((I, oI) :: news₁) → (∀ p ∈ news₁, p.1 ≠ I) →
      wpAny (model pw w) A (execs body env) (TurnT w z A g env.locals I oI (J (i + 1)) { s with heap := h, toks := tk } Q) E { s with heap := h, toks := tk })
    (done : ∀ m' news' h' tk g₁ loose mg mb, J n m' news' → Turn A g g₁ → Inn w z A env.locals g₁ → (frag w.params).In g₁ → TopRead topProg loose mg mb g₁ → Fr g₁ env.locals h' m' → News g₁ env.locals h' news' → Q .next { s with heap := h', toks := tk }) :
    LoopAtV pw w A (hid A g) env x body Q E (.ref I) s := by
  obtain ⟨fl₀, ok₀, NF₀⟩ := fl_make P P.turn F
  have nh : ∀ p ∈ fl₀, p.1 ≠ I := fun p hp e => by
    obtain ⟨o, _, _, ho, _⟩ := P.fs_dict _ (ok₀.2 p hp)
    rw [e, hI] at ho; cases ho
  have hIh : (hid A g).get? I = none := by
    cases q : (hid A g).get? I with
    | none => rfl
    | some o => have := of_hideAll _ q; rw [hI] at this; cases this
  have N0 := hid_news P.turn N
  refine loopJ (h₀ := hid A g) (m₀ := m₀) (news₀ := fl₀ ++ news₀) W so hit hLf hIf hIh (fun p hp => ?_) st0 (hid_fr P.turn F) (fun p hp => ?_)
    (fun i m nw => ∃ fl nw', nw = fl ++ nw' ∧ FlOk A g fl ∧ (∀ p ∈ nw', g.get? p.1 = none) ∧ J i m nw') ⟨fl₀, news₀, rfl, ok₀, N0.2, hJ0⟩ ?_ ?_ ?_
  · rcases List.mem_append.mp hp with hp | hp
    · exact nh p hp
    · exact hn0 p hp
  · rcases List.mem_append.mp hp with hp | hp
    · exact NF₀ p hp
    · exact N0.1 p hp
  · rintro i m nw ⟨fl, nw', rfl, ok, off, hJ⟩ b hb hne
    exact .inr (List.mem_append_right _ (src i m nw' hJ b hb hne))
  · rintro i v m₁ nw h tk oI hi hP ⟨fl, nw', rfl, ok, off, hJ⟩ F₁ N₁ hoff
    have hoff' : ∀ p ∈ nw', p.1 ≠ I := fun p hp => hoff p (List.mem_append_right _ hp)
    obtain ⟨g₁, l1, mg1, mb1, T₁, F₂, N₂, P₂, X₂, TR₂⟩ := hid_up (news := (I, oI) :: nw') P ok F₁ (fun p hp => N₁ p (.tail _ (List.mem_append_left _ hp))) (fun p hp => by
      rcases List.mem_cons.mp hp with rfl | hp
      · exact N₁ _ (.head _)
      · exact N₁ p (.tail _ (List.mem_append_right _ hp))) (fun p hp => by
      rcases List.mem_cons.mp hp with rfl | hp
      · exact hI
      · exact off p hp)
    refine wpAny_mono (turn i v m₁ nw' h tk oI g₁ l1 mg1 mb1 hi hP hJ T₁ P₂ X₂ TR₂ F₂ N₂ hoff') (fun f s₂ p => ?_) fun _ _ e => e
    have fin : (∃ h' tk' m' news' g₂, s₂ = { { s with heap := h, toks := tk } with heap := h', toks := tk' } ∧ Turn A g g₂ ∧ Fr g₂ env.locals h' m' ∧ News g₂ env.locals h' ((I, oI) :: news') ∧ (∀ p ∈ news', p.1 ≠ I) ∧ J (i + 1) m' news') →
        ∃ h' tk' m' news', s₂ = { { s with heap := h, toks := tk } with heap := h', toks := tk' } ∧ Fr (hid A g) env.locals h' m' ∧ News (hid A g) env.locals h' ((I, oI) :: news') ∧ (∀ p ∈ news', p.1 ≠ I) ∧ ∃ fl nw', news' = fl ++ nw' ∧ FlOk A g fl ∧ (∀ p ∈ nw', g.get? p.1 = none) ∧ J (i + 1) m' nw' := by
      rintro ⟨h', tk', m', news', g₂, e, T₂, F', N', hap, hJ'⟩
      obtain ⟨fl', ok', NF'⟩ := fl_make P T₂ F'
      have N'' := hid_news T₂ N'
      refine ⟨h', tk', m', fl' ++ news', e, hid_fr T₂ F', fun p hp => ?_, fun p hp => ?_, fl', news', rfl, ok', fun p hp => N''.2 p (.tail _ hp), hJ'⟩
      · rcases List.mem_cons.mp hp with rfl | hp
        · exact N''.1 _ (.head _)
        · rcases List.mem_append.mp hp with hp | hp
          · exact NF' p hp
          · exact N''.1 p (.tail _ hp)
      · rcases List.mem_append.mp hp with hp | hp
        · intro e
          obtain ⟨o, _, _, ho, _⟩ := P.fs_dict _ (ok'.2 p hp)
          rw [e, hI] at ho; cases ho
        · exact hap p hp
    cases f with
    | ret v => exact p
    | brk => exact p
    | next => exact fin p
    | cont => exact fin p
  · rintro m' nw h' tk ⟨fl, nw', rfl, ok, off, hJ⟩ F' N'
    obtain ⟨g₁, l1, mg1, mb1, T₁, F₂, N₂, P₂, X₂, TR₂⟩ := hid_up (news := nw') P ok F' (fun p hp => N' p (List.mem_append_left _ hp)) (fun p hp => N' p (List.mem_append_right _ hp)) off
    exact done m' nw' h' tk g₁ l1 mg1 mb1 hJ T₁ P₂ X₂ TR₂ F₂ N₂
end
section
variable {w : World} {z : Heap} {A : Around} {E : Value → Shared → Prop} {s : Shared} {env : Env} {g : Heap} {x : Str} {body : List Stmt} {Q : Flow → Shared → Prop} {L : Addr} {m₀ : Str → Option Value} {news₀ : List (Addr × Obj)}
theorem loop_rangeT {r : Addr} {a₀ b₀ : Int} {t₀ u₀ v₀ : Tok} {n : Nat} (hh : A.handled = none) (hloc : env.locals = L) (hr : IsRange s.heap r a₀ b₀ 1 t₀ u₀ v₀) (hsmall : Builtin.Range.small a₀ b₀ 1 = true) (hn : Builtin.Range.rangeSize a₀ b₀ 1 = (n : Int))
    (P : Inn w z A L g) (F : Fr g L s.heap m₀) (N : News g L s.heap news₀) (J : Nat → (Str → Option Value) → List (Addr × Obj) → Prop) (hJ0 : J 0 m₀ news₀)
    (turn : ∀ I i t m₁ news₁ h tk oI g₁ loose mg mb, i < n → J i m₁ news₁ → Turn A g g₁ → Inn w z A L g₁ → (frag w.params).In g₁ → TopRead topProg loose mg mb g₁ → Fr g₁ L h (fun y => if y = x then some (.int (a₀ + (i : Int)) t) else m₁ y) → News g₁ L h ((I, oI) :: news₁) → (∀ p ∈ news₁, p.1 ≠ I) → (∀ p ∈ news₀, p.1 < I) →
      ∀ Q' : Flow → Shared → Prop, (∀ fl s', TurnT w z A g L I oI (J (i + 1)) { s with heap := h, toks := tk } Q fl s' → Q' fl s') → wpAny (model pw w) A (execs body env) Q' E { s with heap := h, toks := tk })
    (done : ∀ m' news' h' tk g₁ loose mg mb, J n m' news' → Turn A g g₁ → Inn w z A L g₁ → (frag w.params).In g₁ → TopRead topProg loose mg mb g₁ → Fr g₁ L h' m' → News g₁ L h' news' → Q .next { s with heap := h', toks := tk }) :
    wpAny (model pw w) A (pyIter (.ref r)) (fun it s₂ => LoopAtV pw w A (hid A g) env x body Q E it s₂) E s := by
  subst hloc
  refine wpAny_pyIter_range hr hsmall ?_
  have lt : ∀ p ∈ news₀, p.1 < s.heap.objs.size := fun p hp => Heap.lt_size (N p hp).1
  refine loopTJ (Walks.range hh _ a₀ 1 n) (fun _ => default) (fun i h q => ⟨_, q⟩) ?_ (.head _) (next_is_new F) (fun p hp => Nat.ne_of_lt (lt p hp)) (by show IsRangeIter _ _ _ _ _; rw [hn]; simpa using Heap.get?_push_size _ rfl) P (F.push _) (fun p hp => ⟨Heap.get?_push_of_some _ (N p hp).1, (N p hp).2⟩) J hJ0 ?_ ?_ ?_
  · intro hm; exact absurd F.ns.lt ((List.mem_singleton.mp hm) ▸ Nat.lt_irrefl _)
  · intro i m news _ b hb hne; exact absurd (List.mem_singleton.mp hb) hne
  · rintro i v m₁ news₁ h tk oI g₁ l1 mg1 mb1 hi ⟨t, rfl⟩ hJ T₁ P₁ X₁ TR₁ F₁ N₁ off
    rw [Int.mul_one] at F₁
    exact turn _ i t m₁ news₁ h tk oI g₁ l1 mg1 mb1 hi hJ T₁ P₁ X₁ TR₁ F₁ N₁ off lt _ (fun _ _ z => z)
  · intro m' news' h' tk g₁ l1 mg1 mb1 hJ T₁ P₁ X₁ TR₁ F' N'
    exact done m' news' h' tk g₁ l1 mg1 mb1 hJ T₁ P₁ X₁ TR₁ F' N'
theorem loop_listT {ax : Addr} {vs : List Value} {ep : Nat} (hh : A.handled = none) (hloc : env.locals = L) (P : Inn w z A L g) (F : Fr g L s.heap m₀) (N : News g L s.heap news₀) (hm : (ax, listOf vs.toArray ep) ∈ news₀)
    (J : Nat → (Str → Option Value) → List (Addr × Obj) → Prop) (hJ0 : J 0 m₀ news₀) (src : ∀ i m nw, J i m nw → (ax, listOf vs.toArray ep) ∈ nw)
    (turn : ∀ I i v m₁ news₁ h tk oI g₁ loose mg mb, vs[i]? = some v → J i m₁ news₁ → Turn A g g₁ → Inn w z A L g₁ → (frag w.params).In g₁ → TopRead topProg loose mg mb g₁ → Fr g₁ L h (fun y => if y = x then some v else m₁ y) → News g₁ L h ((I, oI) :: news₁) → (∀ p ∈ news₁, p.1 ≠ I) → (∀ p ∈ news₀, p.1 < I) →
      ∀ Q' : Flow → Shared → Prop, (∀ fl s', TurnT w z A g L I oI (J (i + 1)) { s with heap := h, toks := tk } Q fl s' → Q' fl s') → wpAny (model pw w) A (execs body env) Q' E { s with heap := h, toks := tk })
    (done : ∀ m' news' h' tk g₁ loose mg mb, J vs.length m' news' → Turn A g g₁ → Inn w z A L g₁ → (frag w.params).In g₁ → TopRead topProg loose mg mb g₁ → Fr g₁ L h' m' → News g₁ L h' news' → Q .next { s with heap := h', toks := tk }) :
    wpAny (model pw w) A (pyIter (.ref ax)) (fun it s₂ => LoopAtV pw w A (hid A g) env x body Q E it s₂) E s := by
  subst hloc
  have hax := N _ hm
  have hl : s.heap.IsList ax vs.toArray := ⟨_, hax.1, rfl, ep, rfl⟩
  have hne : ax ≠ s.heap.objs.size := Nat.ne_of_lt (Heap.lt_size hax.1)
  refine wpAny_pyIter_list hl ?_
  have lt : ∀ p ∈ news₀, p.1 < s.heap.objs.size := fun p hp => Heap.lt_size (N p hp).1
  have W := Walks.list (prog := pw) (w := w) hh s.heap.objs.size ax hne vs.toArray
  rw [List.size_toArray] at W
  refine loopTJ W (fun _ => listOf vs.toArray ep) (fun i h q => let ⟨o, ho, _⟩ := q.1; ⟨o, ho⟩) ?_ (.head _) (next_is_new F) (fun p hp => Nat.ne_of_lt (lt p hp)) ⟨⟨_, Heap.get?_push_size _ rfl, rfl, rfl⟩, hl.at fun o e => Heap.get?_push_of_some _ e⟩ P (F.push _) (fun p hp => ⟨Heap.get?_push_of_some _ (N p hp).1, (N p hp).2⟩) J hJ0 ?_ ?_ ?_
  · intro hmm
    rcases List.mem_cons.mp hmm with e | hmm
    · exact absurd F.ns.lt (e ▸ Nat.lt_irrefl _)
    · exact hax.2.1 (List.mem_singleton.mp hmm).symm
  · intro i m news hJ b hb hn
    rcases List.mem_cons.mp hb with e | hb
    · exact absurd e hn
    · obtain rfl := List.mem_singleton.mp hb
      exact src i m news hJ
  · intro i v m₁ news₁ h tk oI g₁ l1 mg1 mb1 hi hv hJ T₁ P₁ X₁ TR₁ F₁ N₁ off
    exact turn _ i v m₁ news₁ h tk oI g₁ l1 mg1 mb1 (by simpa using hv) hJ T₁ P₁ X₁ TR₁ F₁ N₁ off lt _ (fun _ _ z => z)
  · intro m' news' h' tk g₁ l1 mg1 mb1 hJ T₁ P₁ X₁ TR₁ F' N'
    exact done m' news' h' tk g₁ l1 mg1 mb1 hJ T₁ P₁ X₁ TR₁ F' N'
end
theorem Stands.of {w : World} {z g g₁ : Heap} {A A' : Around} {L' : Addr} {env : Env} (S : Stands w z A A' env g) (P : Inn w z A' L' g₁) : Stands w z A A' env g₁ := by
  obtain ⟨rfl, o1, B1, XB, TB, D1⟩ := S
  obtain ⟨A₀, outer, cn, cs, a, ccd, B, hA, hck, XB', TB', D⟩ := P
  have e2 := Option.some.inj ((Around.frames_deeper B1.stack).symm.trans hA)
  injection e2 with _ e3
  subst e3
  exact ⟨rfl, o1, ⟨B1.stack, B.stays, B.frames⟩, XB, TB, D⟩

local macro_rules | `(tactic| walk_at "call ref") => `(tactic| ((with_reducible show wpAny _ _ (call (Value.ref 69) [Value.bytes _ _, Value.int _ _]) _ _ _); refine wpAny_call (vlen_bad (by assumption) (by k_asm) (by k_asm) (by assumption) (by assumption) (Rm.le (by assumption) (by decide)) (by simp) (by simp) (by decide) (fun h' tk' e' H' => ?_)); (try k_sweep); (try dsimp only)))
local macro_rules | `(tactic| walk_at "call ref") => `(tactic| ((with_reducible show wpAny _ _ (call (Value.ref 62) [Value.int _ _]) _ _ _); refine wpAny_call (vbytes_int (by assumption) (by k_asm) (by k_asm) (by assumption) (by assumption) (Rm.le (by assumption) (by decide)) (fun h' tk' e' H' => ?_)); (try k_sweep); (try dsimp only)))
local macro_rules | `(tactic| walk_at "call ref") => `(tactic| ((with_reducible show wpAny _ _ (call (Value.ref 62) [Value.str _ _]) _ _ _); refine wpAny_call (vbytes_str (by assumption) (by k_asm) (by k_asm) (by assumption) (by assumption) (Rm.le (by assumption) (by decide)) (fun h' tk' e' H' => ?_)); (try k_sweep); (try dsimp only)))
section
variable {w : World} {z : Heap} {A A' : Around} {s s' : Shared} {base g : Heap} {L L' : Addr} {m m' mg mb : Str → Option Value} {news news' : List (Addr × Obj)} {loose : List Str} {R : Result → Shared → Prop}
theorem set_bad1 {x td D hf : Addr} {dflt root v : Bts} {reg : List Bts} {val : Nat → Bts} {c d : UInt8} {t u : Tok} (P : Inn w z A L base) (F : Fr base L s.heap m) (N : News base L s.heap news) (X : (frag w.params).In base) (T : TopRead topProg loose mg mb base) (hr : Rm 2 A)
    (H : TreeAt w news x td D hf dflt root reg val) (k : ∀ h' tk e, Flies w z A L base m news e (.ref 52) h' → R (.error (.ref e)) { s with heap := h', toks := tk }) :
    codeAny (model pw w) A (.call (.ref 190) ⟨[.ref x, .bytes #[c, d] t, .bytes v u], []⟩) R s := by
  refine enterE (binds := [("self", .ref x), ("key", .bytes #[c, d] t), ("value", .bytes v u)]) P F N X T (by k_is) (by k_is) hr (BindsTo.of_eq rfl) rfl rfl ?_
  clear F N X T
  intro g L' h₁ a1 a2 a3 a4 Q E F N X T P' st hr' hQ hT hE hO FG S hOA
  obtain ⟨⟨od, oD, db, h1, h2, h3, ⟨k1, k2, k3, k4, k5, k6, t1, t2, t3, t6, rfl⟩, h5⟩, h6, h7, h8⟩ := H
  repeat' walk1
  rename Flies _ _ _ _ _ _ _ _ _ _ => hF
  exact hE _ _ (flies_on S P FG hF fun h' H => k _ _ _ H)
theorem set_bad2 {x td D hf : Addr} {dflt root : Bts} {reg : List Bts} {val : Nat → Bts} {c : UInt8} {v : Str} {t u : Tok} (P : Inn w z A L base) (F : Fr base L s.heap m) (N : News base L s.heap news) (X : (frag w.params).In base) (T : TopRead topProg loose mg mb base) (hr : Rm 2 A)
    (H : TreeAt w news x td D hf dflt root reg val) (k : ∀ h' tk e, Flies w z A L base m news e (.ref 52) h' → R (.error (.ref e)) { s with heap := h', toks := tk }) :
    codeAny (model pw w) A (.call (.ref 190) ⟨[.ref x, .bytes #[c] t, .str v u], []⟩) R s := by
  refine enterE (binds := [("self", .ref x), ("key", .bytes #[c] t), ("value", .str v u)]) P F N X T (by k_is) (by k_is) hr (BindsTo.of_eq rfl) rfl rfl ?_
  clear F N X T
  intro g L' h₁ a1 a2 a3 a4 Q E F N X T P' st hr' hQ hT hE hO FG S hOA
  obtain ⟨⟨od, oD, db, h1, h2, h3, ⟨k1, k2, k3, k4, k5, k6, t1, t2, t3, t6, rfl⟩, h5⟩, h6, h7, h8⟩ := H
  repeat' walk1
  rename Flies _ _ _ _ _ _ _ _ _ _ => hF
  exact hE _ _ (flies_on S P FG hF fun h' H => k _ _ _ H)
theorem delete_bad {x td D hf : Addr} {dflt root : Bts} {reg : List Bts} {val : Nat → Bts} {t : Tok} (P : Inn w z A L base) (F : Fr base L s.heap m) (N : News base L s.heap news) (X : (frag w.params).In base) (T : TopRead topProg loose mg mb base) (hr : Rm 2 A)
    (H : TreeAt w news x td D hf dflt root reg val) (k : ∀ h' tk e, Flies w z A L base m news e (.ref 52) h' → R (.error (.ref e)) { s with heap := h', toks := tk }) :
    codeAny (model pw w) A (.call (.ref 204) ⟨[.ref x, .bytes #[] t], []⟩) R s := by
  refine enterE (binds := [("self", .ref x), ("key", .bytes #[] t)]) P F N X T (by k_is) (by k_is) hr (BindsTo.of_eq rfl) rfl rfl ?_
  clear F N X T
  intro g L' h₁ a1 a2 a3 a4 Q E F N X T P' st hr' hQ hT hE hO FG S hOA
  obtain ⟨⟨od, oD, db, h1, h2, h3, ⟨k1, k2, k3, k4, k5, k6, t1, t2, t3, t6, rfl⟩, h5⟩, h6, h7, h8⟩ := H
  repeat' walk1
  rename Flies _ _ _ _ _ _ _ _ _ _ => hF
  exact hE _ _ (flies_on S P FG hF fun h' H => k _ _ _ H)
theorem get_bad0 {x td D hf : Addr} {dflt root : Bts} {reg : List Bts} {val : Nat → Bts} {n : Int} {t : Tok} (P : Inn w z A L base) (F : Fr base L s.heap m) (N : News base L s.heap news) (X : (frag w.params).In base) (T : TopRead topProg loose mg mb base) (hr : Rm 2 A)
    (H : TreeAt w news x td D hf dflt root reg val) (k : ∀ h' tk e, Flies w z A L base m news e (.ref 52) h' → R (.error (.ref e)) { s with heap := h', toks := tk }) :
    codeAny (model pw w) A (.call (.ref 183) ⟨[.ref x, .int n t], []⟩) R s := by
  refine enterE (binds := [("self", .ref x), ("key", .int n t)]) P F N X T (by k_is) (by k_is) hr (BindsTo.of_eq rfl) rfl rfl ?_
  clear F N X T
  intro g L' h₁ a1 a2 a3 a4 Q E F N X T P' st hr' hQ hT hE hO FG S hOA
  obtain ⟨⟨od, oD, db, h1, h2, h3, ⟨k1, k2, k3, k4, k5, k6, t1, t2, t3, t6, rfl⟩, h5⟩, h6, h7, h8⟩ := H
  repeat' walk1
  rename Flies _ _ _ _ _ _ _ _ _ _ => hF
  exact hE _ _ (flies_on S P FG hF fun h' H => k _ _ _ H)
end
local macro_rules | `(tactic| walk_at "call ref") => `(tactic| ((with_reducible show wpAny _ _ (call (Value.ref 183) [_, Value.int _ _]) _ _ _); (with_reducible rename TreeAt _ _ _ _ _ _ _ _ _ _ => hTA); refine wpAny_call (get_bad0 (by assumption) (by k_asm) (by k_asm) (by assumption) (by assumption) (Rm.le (by assumption) (by decide)) hTA (fun h' tk' e' H' => ?_)); (try k_sweep); (try dsimp only)))
section
variable {w : World} {z : Heap} {A A' : Around} {s s' : Shared} {base g : Heap} {L L' : Addr} {m m' mg mb : Str → Option Value} {news news' : List (Addr × Obj)} {loose : List Str} {R : Result → Shared → Prop}
theorem get_bad {x td D hf : Addr} {dflt root : Bts} {reg : List Bts} {val : Nat → Bts} {n : Int} {t : Tok} (P : Inn w z A L base) (F : Fr base L s.heap m) (N : News base L s.heap news) (X : (frag w.params).In base) (T : TopRead topProg loose mg mb base) (hr : Rm 3 A)
    (H : TreeAt w news x td D hf dflt root reg val) (k : ∀ h' tk e, Flies w z A L base m news e (.ref 52) h' → R (.error (.ref e)) { s with heap := h', toks := tk }) :
    codeAny (model pw w) A (.call (.ref 169) ⟨[.ref x, .int n t], []⟩) R s := by
  refine enterE (binds := [("self", .ref x), ("key", .int n t)]) P F N X T (by k_is) (by k_is) hr (BindsTo.of_eq rfl) rfl rfl ?_
  clear F N X T
  intro g L' h₁ a1 a2 a3 a4 Q E F N X T P' st hr' hQ hT hE hO FG S hOA
  have H0 := H
  obtain ⟨⟨od, oD, db, h1, h2, h3, ⟨k1, k2, k3, k4, k5, k6, t1, t2, t3, t6, rfl⟩, h5⟩, h6, h7, h8⟩ := H0
  repeat' walk1
  rename Flies _ _ _ _ _ _ _ _ _ _ => hF
  exact hE _ _ (flies_on S P FG hF fun h' H => k _ _ _ H)
end

local macro_rules | `(tactic| walk_at "call ref") => `(tactic| ((with_reducible show wpAny _ _ (call (Value.ref 190) [Value.ref _, Value.bytes #[_, _] _, Value.bytes _ _]) _ _ _); (with_reducible rename TreeAt _ _ _ _ _ _ _ _ _ _ => hTA); refine wpAny_call (set_bad1 (by k_asm) (by k_asm) (by k_asm) (by k_asm) (by k_asm) (Rm.le (by k_asm) (by decide)) hTA (fun h' tk' e' H' => ?_)); (try k_sweep); (try dsimp only)))
local macro_rules | `(tactic| walk_at "call ref") => `(tactic| ((with_reducible show wpAny _ _ (call (Value.ref 190) [Value.ref _, Value.bytes _ _, Value.str _ _]) _ _ _); (with_reducible rename TreeAt _ _ _ _ _ _ _ _ _ _ => hTA); refine wpAny_call (set_bad2 (by k_asm) (by k_asm) (by k_asm) (by k_asm) (by k_asm) (Rm.le (by k_asm) (by decide)) hTA (fun h' tk' e' H' => ?_)); (try k_sweep); (try dsimp only)))
local macro_rules | `(tactic| walk_at "call ref") => `(tactic| ((with_reducible show wpAny _ _ (call (Value.ref 204) [Value.ref _, Value.bytes #[] _]) _ _ _); (with_reducible rename TreeAt _ _ _ _ _ _ _ _ _ _ => hTA); refine wpAny_call (delete_bad (by k_asm) (by k_asm) (by k_asm) (by k_asm) (by k_asm) (Rm.le (by k_asm) (by decide)) hTA (fun h' tk' e' H' => ?_)); (try k_sweep); (try dsimp only)))
local macro_rules | `(tactic| walk_at "call ref") => `(tactic| ((with_reducible show wpAny _ _ (call (Value.ref 169) [Value.ref _, Value.int _ _]) _ _ _); (with_reducible rename TreeAt _ _ _ _ _ _ _ _ _ _ => hTA); refine wpAny_call (get_bad (by k_asm) (by k_asm) (by k_asm) (by k_asm) (by k_asm) (Rm.le (by k_asm) (by decide)) hTA (fun h' tk' e' H' => ?_)); (try k_sweep); (try dsimp only)))
section
variable {w : World} {z : Heap} {A A' : Around} {s s' : Shared} {base g : Heap} {L L' : Addr} {m m' mg mb : Str → Option Value} {news news' : List (Addr × Obj)} {loose : List Str} {R : Result → Shared → Prop}
theorem refuses_ok {x td D hf : Addr} {dflt root : Bts} {reg : List Bts} {val : Nat → Bts} {c : UInt8} {t : Tok} (P : Inn w z A L base) (F : Fr base L s.heap m) (N : News base L s.heap news) (X : (frag w.params).In base) (T : TopRead topProg loose mg mb base) (hr : Rm 4 A)
    (H : TreeAt w news x td D hf dflt root reg val) (k : KTurn w z A L base m news s (R (.ok (.ret (.bool true))))) :
    codeAny (model pw w) A (.call (.ref 300) ⟨[.ref x, .bytes #[c] t], []⟩) R s := by
  refine enterE (binds := [("tree", .ref x), ("key", .bytes #[c] t)]) P F N X T (by k_is) (by k_is) hr (BindsTo.of_eq rfl) rfl rfl ?_
  clear F N X T
  intro g L' h₁ a1 a2 a3 a4 Q E F N X T P' st hr' hQ hT hE hO FG S hOA
  repeat' ((fail_if_success (with_reducible show wpAny _ _ (exec (Stmt.For _ _ _ _ _) _) _ _ _)); walk1)
  refine For_invV (hid ⟨none, a1, a2, a3, a4⟩ g) rfl rfl ?_ (by intro _; rfl) hO
  repeat' ((fail_if_success (with_reducible show wpAny _ _ (pyIter _) _ _ _)); walk1)
  refine loop_rangeT (n := 4) (L := L') hr'.2.2 rfl (by assumption) (by decide) (by decide) P' (by k_asm) (by k_asm)
    (fun i m nw => m "tree" = some (.ref x) ∧ (∃ t, m "key" = some (.bytes #[c] t)) ∧ nw = news) ⟨rfl, ⟨_, rfl⟩, rfl⟩ ?_ ?_
  · rintro I i t0 m₁ nw h tk oI g₁ l1 mg1 mb1 hi ⟨m1, ⟨t1, m2⟩, rfl⟩ Tn P₁ X₁ T₁ F₁ N₁ off lt Q' hQ'
    have S₁ := S.of P₁
    have H₁ : TreeAt w ((I, oI) :: nw) x td D hf dflt root reg val := H.sub fun p hp => .tail _ hp
    obtain ⟨⟨od, oD, db, h1, h2, h3, ⟨k1, k2, k3, k4, k5, k6, t1, t2, t3, t6, rfl⟩, h5⟩, h6, h7, h8⟩ := id H
    clear X T P' S H
    repeat' walk1
    all_goals
      rename Flies _ _ _ _ _ _ _ _ _ _ => hF
      refine flies_caught S₁ rfl hF (fun _ _ _ => by kts_test) (fun h' g' l' g1 g2 Tn2 F' N' X' T' P'' S' => ?_) (hOA _)
      clear hF X₁ T₁ P₁ S₁
      repeat' walk1
      exact hQ' _ _ ⟨_, _, _, _, _, rfl, Tn.trans Tn2, F', N', off, by exact lk_skip (by decide) m1, ⟨_, by exact lk_skip (by decide) m2⟩, rfl⟩
  · rintro m₁ nw h tk g₁ l1 mg1 mb1 ⟨m1, ⟨t1, m2⟩, rfl⟩ Tn P₁ X₁ T₁ F₁ N₁
    clear X T P' S H
    repeat' walk1
    exact hT _ _ (leaveT_ Tn F₁ N₁ fun b' l' g1 g2 tn kF kN kX kT kP => k _ _ _ _ _ _ tn kF kN kX kT kP)
end

theorem BVals.append : ∀ {a c : List Value} {b d : List Bts}, BVals a b → BVals c d → BVals (a ++ c) (b ++ d)
  | [], _, [], _, _, q => q
  | _ :: _, _, _ :: _, _, p, q => ⟨p.1, BVals.append p.2 q⟩
  | [], _, _ :: _, _, p, _ => p.elim
  | _ :: _, _, [], _, p, _ => p.elim
theorem BVals.rev : ∀ {a : List Value} {b : List Bts}, BVals a b → BVals a.reverse b.reverse
  | [], [], _ => trivial
  | v :: a, h :: b, p => by
    rw [List.reverse_cons, List.reverse_cons]
    exact BVals.append (BVals.rev p.2) ⟨p.1, trivial⟩
  | [], _ :: _, p => p.elim
  | _ :: _, [], p => p.elim
theorem along_rev {reg : List Bts} {val : Nat → Bts} {a : Nat} {hh : List Bts} (hl : hh.length = 8) (h : ∀ j h, hh[j]? = some h → Nd reg val j (a / 2 ^ j) h) : Along reg val a hh.reverse := by
  refine ⟨by rw [List.length_reverse, hl], fun i q e => ?_⟩
  have hi : i < hh.reverse.length := (List.getElem?_eq_some_iff.mp e).1
  rw [List.length_reverse] at hi
  rw [List.getElem?_reverse hi] at e
  have := h _ _ e
  rwa [hl, show 8 - 1 - i = 7 - i by omega] at this
theorem off_same3 {l tp bt I : Addr} {x x' y y' z z' : Obj} {a b : List (Addr × Obj)} (off : ∀ p ∈ (l, x) :: (tp, y) :: (bt, z) :: a, p.1 ≠ I) (h : ∀ p ∈ b, p.1 ≠ I) : ∀ p ∈ (l, x') :: (tp, y') :: (bt, z') :: b, p.1 ≠ I := fun p hp => by
  rcases List.mem_cons.mp hp with rfl | hp
  · exact off (l, x) (.head _)
  rcases List.mem_cons.mp hp with rfl | hp
  · exact off (tp, y) (.tail _ (.head _))
  rcases List.mem_cons.mp hp with rfl | hp
  · exact off (bt, z) (.tail _ (.tail _ (.head _)))
  exact h p hp
section
variable {w : World} {z : Heap} {A : Around} {s : Shared} {base : Heap} {L : Addr} {m mg mb : Str → Option Value} {loose : List Str} {R : Result → Shared → Prop}
theorem set_ok {x td D hf Rg : Addr} {o od oD : Obj} {dflt root v : Bts} {reg : List Bts} {val : Nat → Bts} {db : List (Bts × Bts)} {c : UInt8} {t u : Tok} {G : Obj → Obj → Obj → List (Addr × Obj)} (P : Inn w z A L base) (F : Fr base L s.heap m) (N : News base L s.heap (G o oD od)) (X : (frag w.params).In base) (T : TopRead topProg loose mg mb base) (hr : Rm 4 A)
    (U : G3 Rg D td G) (hx : In3 (x, instObj 235 td) G) (TD : TreeD w od hf D dflt root) (DB : DbOk w oD reg val db) (rt : Nd reg val 8 0 root) (H : HashG base hf Rg) (B : RegOf w o reg) (small : reg.length ≤ 8900) (dsm : db.length ≤ 9000) (lo : (D == sysModules) = false)
    (k : ∀ h' tk o' oD' od' reg' db' root' tp vs hs, Fr base L h' m → News base L h' ((tp, tupObj vs) :: G o' oD' od') → (∀ p ∈ G o' oD' od', p.1 < tp) → RegOf w o' reg' → Grow 9 reg reg' → TreeD w od' hf D dflt root' → DbOk w oD' reg' (upd val c.toNat v) db' → Nd reg' (upd val c.toNat v) 8 0 root' →
      db'.length ≤ db.length + 9 → BVals vs hs → Along reg' (upd val c.toNat v) c.toNat hs → R (.ok (.ret (.ref tp))) { s with heap := h', toks := tk }) :
    codeAny (model pw w) A (.call (.ref 190) ⟨[.ref x, .bytes #[c] t, .bytes v u], []⟩) R s := by
  refine enter (binds := [("self", .ref x), ("key", .bytes #[c] t), ("value", .bytes v u)]) P F N X T (by k_is) (by k_is) hr (BindsTo.of_eq rfl) rfl rfl ?_
  clear P F N X T
  intro g L' h₁ a1 a2 a3 a4 Q E F N X T P lt st hr' hQ hE hO
  have H := H.keeps st
  have TD0 := TD
  obtain ⟨k1, k2, k3, k4, k5, k6, t1, t2, t3, t6, rfl⟩ := TD
  repeat' ((fail_if_success (with_reducible show wpAny _ _ (pyIter _) _ _ _)); walk1)
  rename_i tp bt vs hs t2 lb ltp bv sb hsz o3 o4 n3 n4 _ _ _ _ l _ ll _ _ I _ _ _ lI
  have oI := Off3.of U (allLt_ne lI.2.2.2)
  have ol := Off3.of U (allLt_ne ll.2.2)
  have nI := Off3.ne oI U
  have nl := Off3.ne ol U
  have dI : @LT.lt Nat _ l I ∧ @LT.lt Nat _ tp I ∧ @LT.lt Nat _ bt I ∧ @LT.lt Nat _ tp l ∧ @LT.lt Nat _ bt l := ⟨lI.1, lI.2.1, lI.2.2.1, ll.1, ll.2.1⟩
  clear lI ll lb ltp
  refine loop_rev (items := vs.toArray) hr'.2.2 rfl (by omega) (by k_asm) (by k_asm) (.tail _ (.tail _ (.head _))) ⟨0, rfl⟩ (by k_all)
    (fun i m nw => m "self" = some (.ref x) ∧ m "keccak" = some (.ref hf) ∧ (∃ t, m "path" = some (.int (c.toNat : Int) t)) ∧ (∃ t, m "target_bit" = some (.int ((2 ^ i : Nat) : Int) t)) ∧ m "proof_update" = some (.ref l) ∧
      ∃ nd tn vv ep o' oD' od' reg' db' hh, m "node" = some (.bytes nd tn) ∧ nw = (l, listOf vv ep) :: (tp, tupObj [.bytes (val c.toNat) t2, .ref bt]) :: (bt, tupObj vs) :: G o' oD' od' ∧ TreeD w od' hf D dflt root ∧ RegOf w o' reg' ∧ Grow i reg reg' ∧
      BDict (bkind w) oD' db' ∧ db'.length ≤ db.length + i ∧ SPart reg reg' val (upd val c.toNat v) c.toNat db' i ∧ Tx reg' (upd val c.toNat v) i (c.toNat / 2 ^ i) nd ∧ BVals vv.toList hh ∧ hh.length = i ∧
      ∀ j h, hh[j]? = some h → Nd reg' (upd val c.toNat v) j (c.toNat / 2 ^ j) h) ?_ ?_ ?_ ?_
  · exact ⟨rfl, rfl, ⟨_, rfl⟩, ⟨_, rfl⟩, rfl, v, _, #[], 0, o, oD, _, reg, db, [], rfl, rfl, TD0, B, Grow.refl, DB.dict, Nat.le_refl _, SPart.zero DB, by rw [Nat.pow_zero, Nat.div_one]; unfold Tx upd; rw [if_pos rfl], trivial, rfl, fun j h e => by simp at e⟩
  · rintro i m nw ⟨_, _, _, _, _, nd, tn, vv, ep, o', oD', od', reg', db', hh, _, rfl, _⟩
    exact .tail _ (.tail _ (.head _))
  · rintro i v0 m₁ nw h tk oI' hi hv0 ⟨m1, m2, ⟨tp1, m3⟩, ⟨tp2, m4⟩, m5, nd, tn, vv, ep, o', oD', od', reg', db', hh, m6, rfl, TD1, B', G', DB', hdl, SP, tx, bvv, hhl, hnd⟩ F₁ N₁ off Q' hQ'
    have TD2 := TD1
    obtain ⟨k1, k2, k3, k4, k5, k6, t1, t2', t3, t6, rfl⟩ := TD1
    rw [hsz] at hi hv0
    obtain ⟨sv, st1, hs1, rfl⟩ := BVals.get bv (i := 8 - 1 - i) (by simpa using hv0)
    have hsib := sb.2 _ _ hs1
    rw [show 7 - (8 - 1 - i) = i by omega] at hsib
    have szs := hsib.size
    have hvv : vv.size ≤ 100 := by have := bvv.length; rw [Array.length_toList] at this; omega
    have hsm : db'.length ≤ 100000 := by omega
    have hgl := G'.len
    have sz2 : 2 ^ i ≤ 128 := (Nat.pow_le_pow_right (by decide) (by omega : i ≤ 7))
    repeat' walk1
    · rename Builtin.bitAnd _ _ ≠ 0 => hq0
      rename Grow 1 reg' _ => G2
      rename Hs _ nd _ => S2
      rename RegOf w _ _ => B2
      rename BDict _ _ (putB _ _ _) => DB2
      have n2 : Nd _ (upd val c.toNat v) i (c.toNat / 2 ^ i) _ := ⟨nd, tx.grow G2, S2⟩
      have wn := way_next (reg' := reg') (t := nd) (G'.trans G2) n2 hsib
      refine' hQ' _ _ (TurnP.mk ?b1x1 ?b1x2 ?b1x3 ?b1x4)
      (case b1x1 => assumption)
      (case b1x2 => assumption)
      (case b1x3 => exact off_same3 off (oI _ _ _))
      exact ⟨by repeat (first | with_reducible exact lk_hit | refine' lk_skip (by decide) ?_ | assumption | exact rfl), by repeat (first | with_reducible exact lk_hit | refine' lk_skip (by decide) ?_ | assumption | exact rfl), ⟨_, by repeat (first | with_reducible exact lk_hit | refine' lk_skip (by decide) ?_ | assumption | exact rfl)⟩, ⟨_, by rw [← low_next i]; exact rfl⟩, by repeat (first | with_reducible exact lk_hit | refine' lk_skip (by decide) ?_ | assumption | exact rfl), _, _, _, _, _, _, _, _, _, hh ++ [_], by repeat (first | with_reducible exact lk_hit | refine' lk_skip (by decide) ?_ | assumption | exact rfl), rfl, TD2, B2, G'.trans G2, DB2, Nat.le_trans (putB_length _ _ _) (Nat.succ_le_succ hdl), SP.step G2 (RegOf.nodup B2) S2 tx, wn.1 hq0, by rw [Array.toList_push]; exact bvv.snoc, by rw [List.length_append, hhl]; rfl,
        snoc_all hhl (fun j h e => (hnd j h e).grow G2) n2⟩
    · rename Builtin.bitAnd _ _ = 0 => hq0
      rename Grow 1 reg' _ => G2
      rename Hs _ nd _ => S2
      rename RegOf w _ _ => B2
      rename BDict _ _ (putB _ _ _) => DB2
      have n2 : Nd _ (upd val c.toNat v) i (c.toNat / 2 ^ i) _ := ⟨nd, tx.grow G2, S2⟩
      have wn := way_next (reg' := reg') (t := nd) (G'.trans G2) n2 hsib
      refine' hQ' _ _ (TurnP.mk ?b2x1 ?b2x2 ?b2x3 ?b2x4)
      (case b2x1 => assumption)
      (case b2x2 => assumption)
      (case b2x3 => exact off_same3 off (oI _ _ _))
      exact ⟨by repeat (first | with_reducible exact lk_hit | refine' lk_skip (by decide) ?_ | assumption | exact rfl), by repeat (first | with_reducible exact lk_hit | refine' lk_skip (by decide) ?_ | assumption | exact rfl), ⟨_, by repeat (first | with_reducible exact lk_hit | refine' lk_skip (by decide) ?_ | assumption | exact rfl)⟩, ⟨_, by rw [← low_next i]; exact rfl⟩, by repeat (first | with_reducible exact lk_hit | refine' lk_skip (by decide) ?_ | assumption | exact rfl), _, _, _, _, _, _, _, _, _, hh ++ [_], by repeat (first | with_reducible exact lk_hit | refine' lk_skip (by decide) ?_ | assumption | exact rfl), rfl, TD2, B2, G'.trans G2, DB2, Nat.le_trans (putB_length _ _ _) (Nat.succ_le_succ hdl), SP.step G2 (RegOf.nodup B2) S2 tx, wn.2 hq0, by rw [Array.toList_push]; exact bvv.snoc, by rw [List.length_append, hhl]; rfl,
        snoc_all hhl (fun j h e => (hnd j h e).grow G2) n2⟩
  · rintro m₁ nw h tk ⟨m1, m2, ⟨tp1, m3⟩, ⟨tp2, m4⟩, m5, nd, tn, vv, ep, o', oD', od', reg', db', hh, m6, rfl, TD1, B', G', DB', hdl, SP, tx, bvv, hhl, hnd⟩ F₁ N₁
    rw [hsz] at G' SP tx hhl hdl
    have TD2 := TD1
    obtain ⟨k1, k2, k3, k4, k5, k6, t1, t2', t3, t6, rfl⟩ := TD1
    have hvv : vv.size ≤ 100 := by have := bvv.length; rw [Array.length_toList] at this; omega
    have hsm : db'.length ≤ 100000 := by omega
    have hgl := G'.len
    repeat' walk1
    rename Grow 1 reg' _ => G2
    rename Hs _ nd _ => S2
    rename RegOf w _ _ => B2
    rename BDict _ _ (putB _ _ _) => DB2
    rename ∀ p ∈ _, _ < _ => lT
    have tx2 := tx.grow G2
    have e0 : c.toNat / 2 ^ 8 = 0 := Nat.div_eq_of_lt c.toNat_lt
    have SP2 := SP.step G2 (RegOf.nodup B2) S2 tx
    have n2 := (⟨nd, tx2, S2⟩ : Nd _ (upd val c.toNat v) 8 (c.toNat / 2 ^ 8) _)
    rw [e0] at n2
    exact hQ _ _ (leaveK_ (by assumption) (by rename News _ _ _ _ => N9; exact News.drop1 (News.drop1 N9)) (fun kF kN => k _ _ _ _ _ _ _ _ _ _ _ kF kN (fun p hp => lT p (.tail _ (.tail _ hp))) B2 (G'.trans G2) ⟨_, _, _, _, _, _, _, _, _, _, rfl⟩ (SP2.db (G'.trans G2) (RegOf.nodup B2) DB2 rt) n2
      (Nat.le_trans (putB_length _ _ _) (Nat.succ_le_succ hdl)) (BVals.rev bvv) (along_rev hhl (fun j h e => (hnd j h e).grow G2))))
end

section
variable {w : World} {z : Heap} {A : Around} {s : Shared} {base : Heap} {L : Addr} {m mg mb : Str → Option Value} {loose : List Str} {R : Result → Shared → Prop}
theorem delete_ok {x td D hf Rg : Addr} {o od oD : Obj} {dflt root : Bts} {reg : List Bts} {val : Nat → Bts} {db : List (Bts × Bts)} {c : UInt8} {t : Tok} {G : Obj → Obj → Obj → List (Addr × Obj)} (P : Inn w z A L base) (F : Fr base L s.heap m) (N : News base L s.heap (G o oD od)) (X : (frag w.params).In base) (T : TopRead topProg loose mg mb base) (hr : Rm 5 A)
    (U : G3 Rg D td G) (hx : In3 (x, instObj 235 td) G) (TD : TreeD w od hf D dflt root) (DB : DbOk w oD reg val db) (rt : Nd reg val 8 0 root) (H : HashG base hf Rg) (B : RegOf w o reg) (small : reg.length ≤ 8900) (dsm : db.length ≤ 9000) (lo : (D == sysModules) = false)
    (k : ∀ h' tk o' oD' od' reg' db' root' tp vs hs, Fr base L h' m → News base L h' ((tp, tupObj vs) :: G o' oD' od') → (∀ p ∈ G o' oD' od', p.1 < tp) → RegOf w o' reg' → Grow 9 reg reg' → TreeD w od' hf D dflt root' → DbOk w oD' reg' (upd val c.toNat dflt) db' → Nd reg' (upd val c.toNat dflt) 8 0 root' →
      db'.length ≤ db.length + 9 → BVals vs hs → Along reg' (upd val c.toNat dflt) c.toNat hs → R (.ok (.ret (.ref tp))) { s with heap := h', toks := tk }) :
    codeAny (model pw w) A (.call (.ref 204) ⟨[.ref x, .bytes #[c] t], []⟩) R s := by
  refine enter (binds := [("self", .ref x), ("key", .bytes #[c] t)]) P F N X T (by k_is) (by k_is) hr (BindsTo.of_eq rfl) rfl rfl ?_
  clear P F N X T
  intro g L' h₁ a1 a2 a3 a4 Q E F N X T P lt st hr' hQ hE hO
  have H := H.keeps st
  have TD0 := TD
  obtain ⟨k1, k2, k3, k4, k5, k6, t1, t2, t3, t6, rfl⟩ := TD
  repeat' ((fail_if_success (with_reducible show wpAny _ _ (call (Value.ref 190) _) _ _ _)); walk1)
  refine wpAny_call (set_ok P (by k_asm) (by k_asm) X T (Rm.le hr' (by decide)) U hx TD0 DB rt H B small dsm lo (fun h' tk' o' oD' od' reg' db' root' tp' vs' hs' F' N' l1 B' G' TD' DB' rt' dl bv al => ?_))
  repeat' walk1
  exact hQ _ _ (leaveK_ F' N' fun kF kN => k _ _ _ _ _ _ _ _ _ _ _ kF kN l1 B' G' TD' DB' rt' dl bv al)
end

local macro_rules | `(tactic| walk_at "call ref") => `(tactic| ((with_reducible show wpAny _ _ (call (Value.ref 69) [Value.ref _, Value.int _ _]) _ _ _); refine wpAny_call (vlen_tup (by k_asm) (by k_asm) (by k_asm) (by k_asm) (by k_asm) (Rm.le (by k_asm) (by decide)) (by k_mem) (by simp only [List.size_toArray, List.length_cons, List.length_nil]; omega) (by omega) (fun h' tk' F' N' => ?_)); (try k_sweep); (try dsimp only)))
/-- the dict of a proof's object -/
def ProofD (w : World) (od : Obj) (hf bl : Addr) (c : UInt8) (v : Bts) : Prop := ∃ k1 k2 k3 k4 k5 k6 t1 t2 t3 t5, ∃ n5 : Int, n5 = 8 ∧ od = dictOf [⟨PyData.keyHash w.params (Str.ofString "_key"), .str (Str.ofString "_key") k1, .bytes #[c] t1⟩,
  ⟨PyData.keyHash w.params (Str.ofString "_key_size"), .str (Str.ofString "_key_size") k2, .int 1 t2⟩, ⟨PyData.keyHash w.params (Str.ofString "_value"), .str (Str.ofString "_value") k3, .bytes v t3⟩,
  ⟨PyData.keyHash w.params (Str.ofString "_branch"), .str (Str.ofString "_branch") k4, .ref bl⟩, ⟨PyData.keyHash w.params (Str.ofString "_branch_size"), .str (Str.ofString "_branch_size") k5, .int n5 t5⟩,
  ⟨PyData.keyHash w.params (Str.ofString "hash_of"), .str (Str.ofString "hash_of") k6, .ref hf⟩] 6
section
variable {w : World} {z : Heap} {A : Around} {s : Shared} {base : Heap} {L : Addr} {m mg mb : Str → Option Value} {news : List (Addr × Obj)} {loose : List Str} {R : Result → Shared → Prop}
theorem pinit_ok {x td hf bt : Addr} {c : UInt8} {v : Bts} {vs : List Value} {t u : Tok} (P : Inn w z A L base) (F : Fr base L s.heap m) (N : News base L s.heap ((x, instObj 132 td) :: (td, dictOf [] 0) :: news)) (X : (frag w.params).In base) (T : TopRead topProg loose mg mb base) (hr : Rm 2 A)
    (hlt : ∀ p ∈ news, p.1 < td) (hxt : td < x) (hb : (bt, tupObj vs) ∈ news) (hl : vs.length = 8)
    (k : ∀ h' tk bl od ep, Fr base L h' m → News base L h' ((bl, listOf vs.toArray ep) :: (x, instObj 132 td) :: (td, od) :: news) → x < bl → ProofD w od hf bl c v → R (.ok (.ret .none)) { s with heap := h', toks := tk }) :
    codeAny (model pw w) A (.call (.ref 90) ⟨[.ref x, .bytes #[c] t, .bytes v u, .ref bt, .ref hf], []⟩) R s := by
  have htd : ∀ p ∈ news, p.1 ≠ td := fun p hp => Nat.ne_of_lt (hlt p hp)
  have hxt' : @LT.lt Nat _ td x := hxt
  refine enter (binds := [("self", .ref x), ("key", .bytes #[c] t), ("value", .bytes v u), ("branch", .ref bt), ("hash_of", .ref hf)]) P F N X T (by k_is) (by k_is) hr (BindsTo.of_eq rfl) rfl rfl ?_
  clear P F N X T
  intro g L' h₁ a1 a2 a3 a4 Q E F N X T P lt st hr' hQ hE hO
  repeat' ((fail_if_success (with_reducible show wpAny _ _ (call (Value.type "list") _) _ _ _)); walk1)
  refine kup_listOfT (its2 := vs.toArray) (n2 := 0) (by k_asm) (by k_asm) (by k_mem) rfl (fun D' c' h' F' N' l1 => ?_) (by simp only [hl]; rw [sizeLine_eq]; decide)
  (try k_lt l1); (try k_sweep); (try dsimp only)
  repeat' walk1
  have lx : @LT.lt Nat _ x D' := by rename _ ∧ _ => hl1; exact hl1.1
  exact hQ _ _ (leaveK_ (by assumption) (by assumption) (fun kF kN => k _ _ D' _ c' kF kN lx ⟨_, _, _, _, _, _, _, _, _, _, _, by omega, rfl⟩))
end

/-- a proof stands in a ledger -/
structure ProofAt (w : World) (news : List (Addr × Obj)) (x hf bl : Addr) (c : UInt8) (v : Bts) (vs : List Value) : Prop where
  ex : ∃ td od ep, (x, instObj 132 td) ∈ news ∧ (td, od) ∈ news ∧ ProofD w od hf bl c v ∧ (bl, listOf vs.toArray ep) ∈ news
  len : vs.length = 8
theorem ProofAt.sub {w : World} {news news' : List (Addr × Obj)} {x hf bl : Addr} {c : UInt8} {v : Bts} {vs : List Value} (H : ProofAt w news x hf bl c v vs) (q : ∀ p ∈ news, p ∈ news') : ProofAt w news' x hf bl c v vs := by
  obtain ⟨⟨td, od, ep, h1, h2, h3, h4⟩, h5⟩ := H
  exact ⟨⟨td, od, ep, q _ h1, q _ h2, h3, q _ h4⟩, h5⟩
section
variable {w : World} {z : Heap} {A : Around} {s : Shared} {base : Heap} {L : Addr} {m mg mb : Str → Option Value} {news : List (Addr × Obj)} {loose : List Str} {R : Result → Shared → Prop}
theorem pkey_ok {x hf bl : Addr} {c : UInt8} {v : Bts} {vs : List Value} (P : Inn w z A L base) (F : Fr base L s.heap m) (N : News base L s.heap news) (X : (frag w.params).In base) (T : TopRead topProg loose mg mb base) (hr : Rm 1 A) (H : ProofAt w news x hf bl c v vs)
    (k : ∀ h' tk t', Fr base L h' m → News base L h' news → R (.ok (.ret (.bytes #[c] t'))) { s with heap := h', toks := tk }) : codeAny (model pw w) A (.call (.ref 97) ⟨[.ref x], []⟩) R s := by
  refine enter (binds := [("self", .ref x)]) P F N X T (by k_is) (by k_is) hr (BindsTo.of_eq rfl) rfl rfl ?_
  clear P F N X T
  intro g L' h₁ a1 a2 a3 a4 Q E F N X T P lt st hr' hQ hE hO
  obtain ⟨⟨td, od, ep, h1, h2, ⟨k1, k2, k3, k4, k5, k6, t1, t2, t3, t5, n5, e5, rfl⟩, h4⟩, h5⟩ := H
  repeat' walk1
  exact hQ _ _ (leaveK_ (by assumption) (by assumption) fun kF kN => k _ _ _ kF kN)
theorem pvalue_ok {x hf bl : Addr} {c : UInt8} {v : Bts} {vs : List Value} (P : Inn w z A L base) (F : Fr base L s.heap m) (N : News base L s.heap news) (X : (frag w.params).In base) (T : TopRead topProg loose mg mb base) (hr : Rm 1 A) (H : ProofAt w news x hf bl c v vs)
    (k : ∀ h' tk t', Fr base L h' m → News base L h' news → R (.ok (.ret (.bytes v t'))) { s with heap := h', toks := tk }) : codeAny (model pw w) A (.call (.ref 105) ⟨[.ref x], []⟩) R s := by
  refine enter (binds := [("self", .ref x)]) P F N X T (by k_is) (by k_is) hr (BindsTo.of_eq rfl) rfl rfl ?_
  clear P F N X T
  intro g L' h₁ a1 a2 a3 a4 Q E F N X T P lt st hr' hQ hE hO
  obtain ⟨⟨td, od, ep, h1, h2, ⟨k1, k2, k3, k4, k5, k6, t1, t2, t3, t5, n5, e5, rfl⟩, h4⟩, h5⟩ := H
  repeat' walk1
  exact hQ _ _ (leaveK_ (by assumption) (by assumption) fun kF kN => k _ _ _ kF kN)
theorem pbranch_ok {x hf bl : Addr} {c : UInt8} {v : Bts} {vs : List Value} (P : Inn w z A L base) (F : Fr base L s.heap m) (N : News base L s.heap news) (X : (frag w.params).In base) (T : TopRead topProg loose mg mb base) (hr : Rm 1 A) (H : ProofAt w news x hf bl c v vs)
    (k : ∀ h' tk bt, Fr base L h' m → News base L h' ((bt, tupObj vs) :: news) → (∀ p ∈ news, p.1 < bt) → R (.ok (.ret (.ref bt))) { s with heap := h', toks := tk }) : codeAny (model pw w) A (.call (.ref 113) ⟨[.ref x], []⟩) R s := by
  refine enter (binds := [("self", .ref x)]) P F N X T (by k_is) (by k_is) hr (BindsTo.of_eq rfl) rfl rfl ?_
  clear P F N X T
  intro g L' h₁ a1 a2 a3 a4 Q E F N X T P lt st hr' hQ hE hO
  obtain ⟨⟨td, od, ep, h1, h2, ⟨k1, k2, k3, k4, k5, k6, t1, t2, t3, t5, n5, e5, rfl⟩, h4⟩, h5⟩ := H
  repeat' ((fail_if_success (with_reducible show wpAny _ _ (call (Value.type "tuple") _) _ _ _)); walk1)
  refine kde_tupleOf (zs := vs) (by k_asm) (by k_asm) (News.isList (by k_asm) h4) (by simp only [List.size_toArray]; omega) rfl (fun D' h' F' N' l1 => ?_)
  (try dsimp only)
  repeat' walk1
  exact hQ _ _ (leaveK_ F' N' fun kF kN => k _ _ _ kF kN l1)
end
def In1 (p : Addr × Obj) (G : Obj → List (Addr × Obj)) : Prop := ∀ a, p ∈ G a
theorem In1.at {p : Addr × Obj} {G : Obj → List (Addr × Obj)} (h : In1 p G) (a : Obj) : p ∈ G a := h a

local macro_rules | `(tactic| k_enter) => `(tactic| ((with_reducible show codeAny _ _ (Code.call (Value.ref 97) _) _ _); (with_reducible rename ProofAt _ _ _ _ _ _ _ _ => hPA); refine pkey_ok (Inn.in1 (by k_asm)) (by k_asm) (by k_asm) (by k_asm) (by k_asm) (Rm.le (Rm.in1 (by k_asm)) (by decide)) (hPA.sub (by intro p hp; repeat (first | exact hp | refine List.Mem.tail _ ?_))) (fun h' tk' t' F' N' => ?_); refine handed_on rfl ?_; (try k_sweep); (try dsimp only)))
local macro_rules | `(tactic| k_enter) => `(tactic| ((with_reducible show codeAny _ _ (Code.call (Value.ref 105) _) _ _); (with_reducible rename ProofAt _ _ _ _ _ _ _ _ => hPA); refine pvalue_ok (Inn.in1 (by k_asm)) (by k_asm) (by k_asm) (by k_asm) (by k_asm) (Rm.le (Rm.in1 (by k_asm)) (by decide)) (hPA.sub (by intro p hp; repeat (first | exact hp | refine List.Mem.tail _ ?_))) (fun h' tk' t' F' N' => ?_); refine handed_on rfl ?_; (try k_sweep); (try dsimp only)))
local macro_rules | `(tactic| k_enter) => `(tactic| ((with_reducible show codeAny _ _ (Code.call (Value.ref 113) _) _ _); (with_reducible rename ProofAt _ _ _ _ _ _ _ _ => hPA); refine pbranch_ok (Inn.in1 (by k_asm)) (by k_asm) (by k_asm) (by k_asm) (by k_asm) (Rm.le (Rm.in1 (by k_asm)) (by decide)) (hPA.sub (by intro p hp; repeat (first | exact hp | refine List.Mem.tail _ ?_))) (fun h' tk' bt' F' N' l1' => ?_); refine handed_on rfl ?_; (try k_sweep); (try dsimp only)))
local macro_rules | `(tactic| k_mem) => `(tactic| exact In1.at (by with_reducible_and_instances assumption) _)
local macro_rules | `(tactic| k_mem) => `(tactic| with_reducible_and_instances assumption)
theorem root_next {reg reg' reg'' : List Bts} {val : Nat → Bts} {a i n k : Nat} {h s x : Bts} (g : Grow k reg' reg'') (g' : Grow n reg reg'') (x1 : Nd reg' val i (a / 2 ^ i) h) (y : Nd reg val i (sib (a / 2 ^ i)) s) :
    (Builtin.bitAnd (a : Int) ((2 ^ i : Nat) : Int) ≠ 0 → Hs reg'' (s ++ h) x → Nd reg'' val (i + 1) (a / 2 ^ (i + 1)) x) ∧ (Builtin.bitAnd (a : Int) ((2 ^ i : Nat) : Int) = 0 → Hs reg'' (h ++ s) x → Nd reg'' val (i + 1) (a / 2 ^ (i + 1)) x) := by
  have e2 : a / 2 ^ (i + 1) = a / 2 ^ i / 2 := by rw [Nat.pow_succ, Nat.div_div_eq_div_mul]
  have x2 := x1.grow g
  have y' := y.grow g'
  rw [Ne, bit_low, e2]
  generalize a / 2 ^ i = q at x2 y'
  constructor
  · intro hq hx
    have a1 : 2 * (q / 2) + 1 = q := by omega
    have a2 : 2 * (q / 2) = sib q := by unfold sib; rw [if_neg hq]; omega
    exact Nd.succ (a := s) (b := h) (by rw [a2]; exact y') (by rw [a1]; exact x2) hx
  · intro hq hx
    have a1 : 2 * (q / 2) = q := by omega
    have a2 : 2 * (q / 2) + 1 = sib q := by unfold sib; rw [if_pos hq]; omega
    exact Nd.succ (a := h) (b := s) (by rw [a1]; exact x2) (by rw [a2]; exact y') hx
section
variable {w : World} {z : Heap} {A : Around} {s : Shared} {base : Heap} {L : Addr} {m mg mb : Str → Option Value} {news : List (Addr × Obj)} {loose : List Str} {R : Result → Shared → Prop}
theorem calc_ok {hf Rg bt : Addr} {o : Obj} {reg : List Bts} {val : Nat → Bts} {gg : Obj → List (Addr × Obj)} {c : UInt8} {v : Bts} {vs : List Value} {hs : List Bts} {t u : Tok} (P : Inn w z A L base) (F : Fr base L s.heap m) (N : News base L s.heap (gg o)) (X : (frag w.params).In base) (T : TopRead topProg loose mg mb base) (hr : Rm 2 A)
    (H : HashG base hf Rg) (U : UpdF Rg o (gg o) gg) (B : RegOf w o reg) (small : reg.length ≤ 8900) (hb : In1 (bt, tupObj vs) gg) (bv : BVals vs hs) (sb : Sibs reg val c.toNat hs) (hv : v = val c.toNat)
    (k : ∀ h' tk o' reg' root t', Fr base L h' m → News base L h' (gg o') → RegOf w o' reg' → Grow 9 reg reg' → Nd reg' val 8 0 root → R (.ok (.ret (.bytes root t'))) { s with heap := h', toks := tk }) :
    codeAny (model pw w) A (.call (.ref 76) ⟨[.bytes #[c] t, .bytes v u, .ref bt, .ref hf], []⟩) R s := by
  refine enter (binds := [("key", .bytes #[c] t), ("value", .bytes v u), ("branch", .ref bt), ("hash_of", .ref hf)]) P F N X T (by k_is) (by k_is) hr (BindsTo.of_eq rfl) rfl rfl ?_
  clear P F N X T
  intro g L' h₁ a1 a2 a3 a4 Q E F N X T P lt st hr' hQ hE hO
  have H := H.keeps st
  have hlen := (bv.length.trans sb.1)
  have hsz : vs.toArray.size = 8 := by rw [List.size_toArray]; exact hlen
  repeat' ((fail_if_success (with_reducible show wpAny _ _ (pyIter _) _ _ _)); walk1)
  rename Grow 1 reg _ => G1
  rename Hs _ v _ => S1
  rename RegOf w _ _ => B1
  rename ∀ p ∈ gg _, _ < _ => lI
  have oI := OffAll.of (UpdF.again U _) (fun p hp => Nat.ne_of_lt (lI p hp))
  have hgl := G1.len
  refine loop_rev (items := vs.toArray) hr'.2.2 rfl (by omega) (by k_asm) (by k_asm) (hb _) ⟨0, rfl⟩ (by k_all)
    (fun i m nw => m "keccak" = some (.ref hf) ∧ (∃ t, m "path" = some (.int (c.toNat : Int) t)) ∧ (∃ t, m "target_bit" = some (.int ((2 ^ i : Nat) : Int) t)) ∧
      ∃ nh tn o' reg', m "node_hash" = some (.bytes nh tn) ∧ nw = gg o' ∧ RegOf w o' reg' ∧ Grow (i + 1) reg reg' ∧ Nd reg' val i (c.toNat / 2 ^ i) nh) ?_ ?_ ?_ ?_
  · refine ⟨rfl, ⟨_, rfl⟩, ⟨_, rfl⟩, _, _, _, _, rfl, rfl, B1, G1, ?_⟩
    rw [Nat.pow_zero, Nat.div_one]; exact Nd.zero (by rw [← hv]; exact S1)
  · rintro i m nw ⟨_, _, _, nd, tn, o', reg', _, rfl, _⟩
    exact hb _
  · rintro i v0 m₁ nw h tk oI' hi hv0 ⟨m2, ⟨tp1, m3⟩, ⟨tp2, m4⟩, nh, tn, o', reg', m6, rfl, B', G', nd⟩ F₁ N₁ off Q' hQ'
    rw [hsz] at hi hv0
    obtain ⟨sv, st1, hs1, rfl⟩ := BVals.get bv (i := 8 - 1 - i) (by simpa using hv0)
    have hsib := sb.2 _ _ hs1
    rw [show 7 - (8 - 1 - i) = i by omega] at hsib
    have szs := hsib.size
    have szn := nd.size
    have hgl := G'.len
    have sz2 : 2 ^ i ≤ 128 := (Nat.pow_le_pow_right (by decide) (by omega : i ≤ 7))
    have U' := UpdF.again U o'
    have oI2 := OffAll.of U' off
    have hRI : @Ne Nat Rg _ := off _ (UpdF.mem' U' o')
    clear U
    repeat' walk1
    · rename Builtin.bitAnd _ _ ≠ 0 => hq0
      rename Grow 1 reg' _ => G2
      rename Hs _ (_ ++ _) _ => S2
      rename RegOf w _ _ => B2
      refine' hQ' _ _ (TurnP.mk ?b1x1 ?b1x2 ?b1x3 ?b1x4)
      (case b1x1 => assumption)
      (case b1x2 => assumption)
      (case b1x3 => k_all)
      exact ⟨by repeat (first | with_reducible exact lk_hit | refine' lk_skip (by decide) ?_ | assumption | exact rfl), ⟨_, by repeat (first | with_reducible exact lk_hit | refine' lk_skip (by decide) ?_ | assumption | exact rfl)⟩, ⟨_, by rw [← low_next i]; exact rfl⟩, _, _, _, _, by repeat (first | with_reducible exact lk_hit | refine' lk_skip (by decide) ?_ | assumption | exact rfl), rfl, B2, G'.trans G2, (root_next G2 (G'.trans G2) nd hsib).1 hq0 S2⟩
    · rename Builtin.bitAnd _ _ = 0 => hq0
      rename Grow 1 reg' _ => G2
      rename Hs _ (_ ++ _) _ => S2
      rename RegOf w _ _ => B2
      refine' hQ' _ _ (TurnP.mk ?b2x1 ?b2x2 ?b2x3 ?b2x4)
      (case b2x1 => assumption)
      (case b2x2 => assumption)
      (case b2x3 => k_all)
      exact ⟨by repeat (first | with_reducible exact lk_hit | refine' lk_skip (by decide) ?_ | assumption | exact rfl), ⟨_, by repeat (first | with_reducible exact lk_hit | refine' lk_skip (by decide) ?_ | assumption | exact rfl)⟩, ⟨_, by rw [← low_next i]; exact rfl⟩, _, _, _, _, by repeat (first | with_reducible exact lk_hit | refine' lk_skip (by decide) ?_ | assumption | exact rfl), rfl, B2, G'.trans G2, (root_next G2 (G'.trans G2) nd hsib).2 hq0 S2⟩
  · rintro m₁ nw h tk ⟨m2, ⟨tp1, m3⟩, ⟨tp2, m4⟩, nh, tn, o', reg', m6, rfl, B', G', nd⟩ F₁ N₁
    rw [hsz] at G' nd
    rw [Nat.div_eq_of_lt (show c.toNat < 2 ^ 8 from c.toNat_lt)] at nd
    repeat' walk1
    exact hQ _ _ (leaveK_ (by assumption) (by assumption) (fun kF kN => k _ _ _ _ _ _ kF kN B' G' nd))
end

section
variable {w : World} {z : Heap} {A : Around} {s : Shared} {base : Heap} {L : Addr} {m mg mb : Str → Option Value} {news : List (Addr × Obj)} {loose : List Str} {R : Result → Shared → Prop}
theorem proot_ok {x hf Rg bl : Addr} {o : Obj} {reg : List Bts} {val : Nat → Bts} {gg : Obj → List (Addr × Obj)} {c : UInt8} {v : Bts} {vs : List Value} {hs : List Bts} (P : Inn w z A L base) (F : Fr base L s.heap m) (N : News base L s.heap (gg o)) (X : (frag w.params).In base) (T : TopRead topProg loose mg mb base) (hr : Rm 3 A)
    (H : HashG base hf Rg) (U : UpdF Rg o (gg o) gg) (B : RegOf w o reg) (small : reg.length ≤ 8900) (PA : ∀ o, ProofAt w (gg o) x hf bl c v vs) (bv : BVals vs hs) (sb : Sibs reg val c.toNat hs) (hv : v = val c.toNat)
    (k : ∀ h' tk o' reg' root t', Fr base L h' m → News base L h' (gg o') → RegOf w o' reg' → Grow 9 reg reg' → Nd reg' val 8 0 root → R (.ok (.ret (.bytes root t'))) { s with heap := h', toks := tk }) :
    codeAny (model pw w) A (.call (.ref 121) ⟨[.ref x], []⟩) R s := by
  refine enter (binds := [("self", .ref x)]) P F N X T (by k_is) (by k_is) hr (BindsTo.of_eq rfl) rfl rfl ?_
  clear P F N X T
  intro g L' h₁ a1 a2 a3 a4 Q E F N X T P lt st hr' hQ hE hO
  have H := H.keeps st
  have PA0 := PA o
  obtain ⟨⟨td, od, ep, h1, h2, ⟨k1, k2, k3, k4, k5, k6, t1, t2, t3, t5, n5, e5, rfl⟩, h4⟩, h5⟩ := id PA0
  repeat' ((fail_if_success (with_reducible show wpAny _ _ (call (Value.ref 76) _) _ _ _)); walk1)
  rename ∀ p ∈ gg _, _ < _ => lb
  refine wpAny_call (calc_ok (gg := fun o => (_, tupObj vs) :: gg o) P (by k_asm) (by k_asm) X T (Rm.le hr' (by decide)) H (UpdF.tail (fun e => Nat.ne_of_lt (lb _ (UpdF.mem U)) e.symm) U) B small (fun _ => .head _) bv sb hv (fun h' tk' o' reg' root t' F' N' B' G' nd => ?_))
  (try dsimp only)
  repeat' walk1
  exact hQ _ _ (leaveK_ F' N' fun kF kN => k _ _ _ _ _ _ kF (fun p hp => kN p (.tail _ hp)) B' G' nd)
end

theorem sub_rit_reversed : isSubtype (.type "range_iterator") (.type "reversed") = pure false := by rw [isSubtype_type]; kernel_rfl
/-- the iterator of reversed(range(8)) -/
abbrev rit8 : Obj := { cls := .type "range_iterator", data := .fields #[rawInt 7, rawInt 8, rawInt (-1)] }
section
variable {prog : Program} {w : World} {A : Around} {E : Value → Shared → Prop} {s : Shared}
theorem range8_reversed {r : Addr} {t u v : Tok} {Q : Value → Shared → Prop} (hr : IsRange s.heap r 0 8 1 t u v) (h : Q (.ref s.heap.objs.size) { s with heap := s.heap.push rit8 }) :
    wpAny (model prog w) A (call (.builtin "range.__reversed__") [.ref r]) Q E s := by
  have hT : s.TypeIs (.ref r) "range" := ⟨_, hr, rfl⟩
  refine wpAny_call_entry F.slot_range_reversed hT F.entry_range_reversed ?_ (F.args_range_reversed_1 _)
  unfold Builtin.«range.__reversed__»
  refine wpAny_bind (wpAny_of_eq (a := Value.ref r) rfl ?_)
  unfold Builtin.Range.rangeFields
  refine wpAny_bind ?_
  refine wpAny_bind (wpAny_field hr rfl (x := .int 0 t) rfl ?_)
  refine wpAny_bind (wpAny_of_eq (a := some (0 : Int)) rfl ?_)
  refine wpAny_bind (wpAny_field hr rfl (x := .int 8 u) rfl ?_)
  refine wpAny_bind (wpAny_of_eq (a := some (8 : Int)) rfl ?_)
  refine wpAny_bind (wpAny_field hr rfl (x := .int 1 v) rfl ?_)
  refine wpAny_bind (wpAny_of_eq (a := some (1 : Int)) rfl ?_)
  refine wpAny_pure ?_
  try dsimp only
  rw [show (Builtin.Range.rangeFitsLong 0 && Builtin.Range.rangeFitsLong 8 && Builtin.Range.rangeFitsLong 1 && Builtin.Range.rangeFitsLong (-1) && Builtin.Range.rangeFitsLong (0 - 1) && Builtin.Range.rangeFitsLong (Builtin.Range.rangeSize 0 8 1)) = true from by decide +kernel]
  rw [if_neg (by decide)]
  rw [show (0 + (Builtin.Range.rangeSize 0 8 1 - 1) * 1 : Int) = 7 from by decide +kernel, show Builtin.Range.rangeSize 0 8 1 = 8 from by decide +kernel, if_pos rfl]
  exact wpAny_bind (wpAny_newObj_type (wpAny_pure ⟨_, rfl, h⟩))
theorem reversed_new_range8 {r : Addr} {t u v : Tok} {Q₁ : Value → Shared → Prop} (hr : IsRange s.heap r 0 8 1 t u v) (h : Q₁ (.ref s.heap.objs.size) { s with heap := s.heap.push rit8 }) :
    codeAny (model prog w) A (.call (.builtin "reversed.__new__") ⟨[.type "reversed", .ref r], []⟩) (wants Q₁ E) s := by
  have hT : s.TypeIs (.ref r) "range" := ⟨_, hr, rfl⟩
  refine codeAny_of_tree ?_
  show wpAny _ A.in1 (do checkBuiltinCall "reversed.__new__" ⟨[.type "reversed", .ref r], []⟩; again (.builtin "reversed.__new__" ⟨[.type "reversed", .ref r], []⟩)) _ _ s
  refine wpAny_bind (wpAny_of_eq (F.newCall_reversed_1 _) (wpAny_pure ⟨plainId_quiet F.plain_reversed_new _, codeAny_builtin F.entry_reversed_new ?_⟩))
  rw [Around.under_plainId F.plain_reversed_new _]
  unfold Builtin.«reversed.__new__»
  refine wpAny_bind (wpAny_of_eq (newClass_reversed _) ?_)
  try dsimp only
  refine wpAny_bind (wpAny_of_eq (a := ()) (by first | rfl | kernel_rfl) ?_)
  refine wpAny_bind (wpAny_of_eq (a := ()) (by first | rfl | kernel_rfl) ?_)
  try dsimp only
  refine wpAny_bind (wpAny_specialOf hT F.slot_range_reversed.lookup ?_)
  try dsimp only
  refine wpAny_bind (wpAny_of_eq (F.slot_range_reversed.bind _) ?_)
  try dsimp only
  first
  | rw [if_neg (show ¬ ((Value.builtin "range.__reversed__" == Value.none) = true) from Bool.false_ne_true)]
  | (show wpAny _ _ (if (Value.builtin "range.__reversed__" == Value.none) = true then _ else _) _ _ _; rw [if_neg (show ¬ ((Value.builtin "range.__reversed__" == Value.none) = true) from Bool.false_ne_true)])
  refine wpAny_bind (wpAny_rule ?_)
  refine wpAny_bind (m := runValue (.call (.builtin "range.__reversed__") ⟨[.ref r], []⟩)) (show wpAny _ _ (call (.builtin "range.__reversed__") [.ref r]) _ _ _ from range8_reversed hr ?_)
  first
  | exact wpAny_pure h
  | exact wpAny_bind (wpAny_pure (wpAny_pure h))
theorem call_reversed_range8 {r : Addr} {t u v : Tok} {Q : Value → Shared → Prop} (hr : IsRange s.heap r 0 8 1 t u v) (h : Q (.ref s.heap.objs.size) { s with heap := s.heap.push rit8 }) :
    wpAny (model prog w) A (call (.type "reversed") [.ref r]) Q E s := by
  refine callType_other (U := "range_iterator") (Q₁ := fun obj s₁ => obj = .ref s.heap.objs.size ∧ s₁ = { s with heap := s.heap.push rit8 }) (by decide +kernel) F.create_reversed ⟨_, _, F.mro_reversed⟩ F.made_reversed sub_rit_reversed (F.typeCall_reversed_1 _) (reversed_new_range8 hr ⟨rfl, rfl⟩) ?_
  rintro obj s₁ ⟨rfl, rfl⟩
  exact ⟨⟨_, Heap.get?_push_size _ rfl, rfl⟩, h⟩
end
section
variable {w : World} {A : Around} {E : Value → Shared → Prop} {s : Shared} {env : Env} {h₀ : Heap} {x : Str} {body : List Stmt} {Q : Flow → Shared → Prop}
theorem rev8_K {prog : Program} {L r : Addr} {m : Str → Option Value} {news : List (Addr × Obj)} {t u v : Tok} {Q : Value → Shared → Prop} (F : Fr h₀ L s.heap m) (N : News h₀ L s.heap news) (hr : IsRange s.heap r 0 8 1 t u v)
    (h : ∀ D h', Fr h₀ L h' m → News h₀ L h' ((D, rit8) :: news) → (∀ p ∈ news, p.1 < D) → Q (.ref D) { s with heap := h' }) :
    wpAny (model prog w) A (call (.type "reversed") [.ref r]) Q E s :=
  call_reversed_range8 hr (h _ _ (F.push _) (N.push F _) fun p hp => Heap.lt_size (N p hp).1)
theorem loop_rev8 {I L : Addr} {m₀ : Str → Option Value} {news₀ : List (Addr × Obj)} (hh : A.handled = none) (hloc : env.locals = L)
    (F : Fr h₀ L s.heap m₀) (N : News h₀ L s.heap ((I, rit8) :: news₀)) (hne : ∀ p ∈ news₀, p.1 ≠ I)
    (J : Nat → (Str → Option Value) → List (Addr × Obj) → Prop) (hJ0 : J 0 m₀ news₀)
    (turn : ∀ i t m₁ news₁ h tk oI, i < 8 → J i m₁ news₁ → Fr h₀ L h (fun y => if y = x then some (.int ((7 - i : Nat) : Int) t) else m₁ y) → News h₀ L h ((I, oI) :: news₁) → (∀ p ∈ news₁, p.1 ≠ I) →
      ∀ Q' : Flow → Shared → Prop, (∀ fl s', TurnP h₀ L I oI (J (i + 1)) { s with heap := h, toks := tk } Q fl s' → Q' fl s') → wpAny (model pw w) A (execs body env) Q' E { s with heap := h, toks := tk })
    (done : ∀ m' news' h' tk, J 8 m' news' → Fr h₀ L h' m' → News h₀ L h' news' → Q .next { s with heap := h', toks := tk }) :
    wpAny (model pw w) A (pyIter (.ref I)) (fun it s₂ => LoopAtV pw w A h₀ env x body Q E it s₂) E s := by
  subst hloc
  have hI := N _ (.head _)
  have hit : IsRangeIter s.heap I 7 8 (-1) := hI.1
  refine wpAny_pyIter_rangeiter hit ?_
  refine loopJ (Walks.range hh I 7 (-1) 8) (fun _ => default) (fun i h q => ⟨_, q⟩) ?_ (.head _) hI.2.2 hne (by simpa using hit) F (News.drop0 N) J hJ0 ?_ ?_ ?_
  · intro hm; exact hI.2.1 (List.mem_singleton.mp hm).symm
  · intro i m news _ b hb hn; exact absurd (List.mem_singleton.mp hb) hn
  · rintro i v m₁ news₁ h tk oI hi ⟨t, rfl⟩ hJ F₁ N₁ off
    rw [show (7 + (i : Int) * -1) = ((7 - i : Nat) : Int) by omega] at F₁
    exact turn i t m₁ news₁ h tk oI hi hJ F₁ N₁ off _ (fun _ _ z => z)
  · intro m' news' h' tk hJ F' N'
    exact done m' news' h' tk hJ F' N'
end

/-- a ledger with two objects that a call may change -/
structure G2 (x y : Addr) (G : Obj → Obj → List (Addr × Obj)) : Prop where
  a : ∀ a b, UpdF x a (G a b) (fun o => G o b)
  b : ∀ a b, UpdF y b (G a b) (fun o => G a o)
def In2 (p : Addr × Obj) (G : Obj → Obj → List (Addr × Obj)) : Prop := ∀ a b, p ∈ G a b
theorem In2.at {p : Addr × Obj} {G : Obj → Obj → List (Addr × Obj)} (h : In2 p G) (a b : Obj) : p ∈ G a b := h a b
def Off2 (D : Addr) (G : Obj → Obj → List (Addr × Obj)) : Prop := ∀ a b, ∀ p ∈ G a b, p.1 ≠ D
theorem Off2.at {D : Addr} {G : Obj → Obj → List (Addr × Obj)} (h : Off2 D G) (a b : Obj) : ∀ p ∈ G a b, p.1 ≠ D := h a b
theorem bitAnd_nat (a b : Nat) : Builtin.bitAnd (a : Int) (b : Int) = ((a &&& b : Nat) : Int) := by
  unfold Builtin.bitAnd
  rw [decide_eq_true (Int.natCast_nonneg a), decide_eq_true (Int.natCast_nonneg b)]
  simp only [Int.toNat_natCast]
theorem xor_sum : ∀ a b : Nat, (a ^^^ b) + 2 * (a &&& b) = a + b := by
  intro a
  induction a using Nat.strongRecOn with
  | _ a ih =>
    intro b
    by_cases h : a = 0
    · subst h; simp
    · have := ih (a / 2) (by omega) (b / 2)
      have x1 : (a ^^^ b) / 2 = a / 2 ^^^ b / 2 := Nat.xor_div_two
      have x2 : (a &&& b) / 2 = a / 2 &&& b / 2 := Nat.and_div_two
      have y1 : (a ^^^ b) % 2 = a % 2 ^^^ b % 2 := Nat.xor_mod_two_pow (n := 1)
      have y2 : (a &&& b) % 2 = a % 2 &&& b % 2 := Nat.and_mod_two_pow (n := 1)
      rw [← x1, ← x2] at this
      have y3 : (a % 2 ^^^ b % 2) + 2 * (a % 2 &&& b % 2) = a % 2 + b % 2 := by
        rcases Nat.mod_two_eq_zero_or_one a with ha | ha <;> rcases Nat.mod_two_eq_zero_or_one b with hb | hb <;> rw [ha, hb] <;> rfl
      rw [← y1, ← y2] at y3
      omega
theorem bitXor_nat (a b : Nat) : Builtin.bitXor (a : Int) (b : Int) = ((a ^^^ b : Nat) : Int) := by
  rw [PyProof.Rows.bitXor_and, bitAnd_nat]
  have := xor_sum a b
  omega
theorem xor_same {a b : Nat} (h : Builtin.bitXor (a : Int) (b : Int) = 0) : a = b := by
  rw [bitXor_nat] at h
  have h' : a ^^^ b = 0 := by omega
  have h2 : a ^^^ b ^^^ b = 0 ^^^ b := by rw [h']
  rwa [Nat.xor_assoc, Nat.xor_self, Nat.xor_zero, Nat.zero_xor] at h2
theorem xor_bit (a b k : Nat) : Builtin.bitAnd (Builtin.bitXor (a : Int) (b : Int)) ((2 ^ k : Nat) : Int) > 0 ↔ a / 2 ^ k % 2 ≠ b / 2 ^ k % 2 := by
  have e := bit_low (a ^^^ b) k
  rw [bitXor_nat]
  have nn : (0 : Int) ≤ Builtin.bitAnd ((a ^^^ b : Nat) : Int) ((2 ^ k : Nat) : Int) := by rw [bitAnd_nat]; omega
  have e2 : (a ^^^ b) / 2 ^ k % 2 = 0 ↔ a / 2 ^ k % 2 = b / 2 ^ k % 2 := by
    have h1 := Nat.testBit_xor a b k
    rw [Nat.testBit_eq_decide_div_mod_eq, Nat.testBit_eq_decide_div_mod_eq, Nat.testBit_eq_decide_div_mod_eq] at h1
    have m1 := Nat.mod_two_eq_zero_or_one ((a ^^^ b) / 2 ^ k)
    have m2 := Nat.mod_two_eq_zero_or_one (a / 2 ^ k)
    have m3 := Nat.mod_two_eq_zero_or_one (b / 2 ^ k)
    rcases m1 with m1 | m1 <;> rcases m2 with m2 | m2 <;> rcases m3 with m3 | m3 <;> rw [m1, m2, m3] at h1 ⊢ <;> simp at h1 ⊢
  rw [Ne, ← e2, ← e]
  omega
theorem shl_eq (k : Nat) : (1 * 2 ^ (Int.toNat (k : Int)) : Int) = ((2 ^ k : Nat) : Int) := by rw [Int.toNat_natCast, Int.one_mul]; push_cast; rfl
theorem sib_same {reg reg' : List Bts} {val : Nat → Bts} {n c : Nat} {v : Bts} {hs : List Bts} (sb : Sibs reg val c hs) (g : Grow n reg reg') : Sibs reg' (upd val c v) c hs :=
  ⟨sb.1, fun i h e => upd_off ((sb.2 i h e).grow g) (fun q => sib_ne _ q.symm)⟩
theorem sib_set {reg reg' : List Bts} {val : Nat → Bts} {n c d b : Nat} {u v : Bts} {hs hh : List Bts} (sb : Sibs reg val c hs) (g : Grow n reg reg') (al : Along reg' (upd val d v) d hh) (hb : b < 8) (e1 : c / 2 ^ (b + 1) = d / 2 ^ (b + 1)) (e2 : c / 2 ^ b % 2 ≠ d / 2 ^ b % 2) (hu : hh[7 - b]? = some u) :
    Sibs reg' (upd val d v) c (hs.set (7 - b) u) := by
  have p2 : ∀ (x k : Nat), x / 2 ^ (k + 1) = x / 2 ^ k / 2 := fun x k => by rw [Nat.pow_succ, Nat.div_div_eq_div_mul]
  refine ⟨by rw [List.length_set]; exact sb.1, fun i h e => ?_⟩
  have hi : i < 8 := by
    have := (List.getElem?_eq_some_iff.mp e).1
    rw [List.length_set, sb.1] at this; exact this
  by_cases q : i = 7 - b
  · subst q
    rw [List.getElem?_set_self (by rw [sb.1]; omega)] at e
    obtain rfl := Option.some.inj e
    have := al.2 _ _ hu
    rw [show 7 - (7 - b) = b by omega] at this ⊢
    rw [p2, p2] at e1
    have : sib (c / 2 ^ b) = d / 2 ^ b := by
      generalize c / 2 ^ b = p at e1 e2
      generalize d / 2 ^ b = q at e1 e2
      unfold sib; split <;> omega
    rwa [this]
  · rw [List.getElem?_set_ne (fun q' => q q'.symm)] at e
    refine upd_off ((sb.2 i h e).grow g) fun z => ?_
    generalize hk : 7 - i = k at z
    rcases Nat.lt_or_ge b k with hbk | hbk
    · have ek : c / 2 ^ k = d / 2 ^ k := by
        obtain ⟨j, rfl⟩ : ∃ j, k = b + 1 + j := ⟨k - (b + 1), by omega⟩
        rw [Nat.pow_add, ← Nat.div_div_eq_div_mul, ← Nat.div_div_eq_div_mul, e1]
      rw [← ek] at z
      exact sib_ne _ z.symm
    · have hkb : k < b := by omega
      have ek : c / 2 ^ (k + 1) = d / 2 ^ (k + 1) := by rw [p2, p2, z, sib_half]
      have : c / 2 ^ b = d / 2 ^ b := by
        obtain ⟨j, rfl⟩ : ∃ j, b = k + 1 + j := ⟨b - (k + 1), by omega⟩
        rw [Nat.pow_add, ← Nat.div_div_eq_div_mul, ← Nat.div_div_eq_div_mul, ek]
      exact e2 (by rw [this])
theorem bvals_set {u : Value} {h : Bts} {t : Tok} : ∀ {vs : List Value} {hs : List Bts} (i : Nat), BVals vs hs → u = .bytes h t → BVals (vs.set i u) (hs.set i h)
  | [], [], _, _, _ => trivial
  | v :: vs, a :: hs, 0, q, e => ⟨⟨t, e⟩, q.2⟩
  | v :: vs, a :: hs, i + 1, q, e => ⟨q.1, bvals_set (vs := vs) (hs := hs) i q.2 e⟩
  | [], _ :: _, _, q, _ => q.elim
  | _ :: _, [], _, q, _ => q.elim
section
variable {w : World} {A : Around} {E : Value → Shared → Prop} {s : Shared} {h₀ : Heap} {L : Addr} {m : Str → Option Value} {news news' : List (Addr × Obj)}
theorem tup_item {value slice : PySem.Expr} {nt : Addr} {us : List Value} {i : Nat} {k : Int} {u : Tok} {v : Value} {Q : Value → Shared → Prop} (N : News h₀ L s.heap news) (hm : (nt, tupObj us) ∈ news) (hk : k = (i : Int)) (hi : us[i]? = some v) (hl : us.length ≤ 1000) (h : Q v s)
    (hs : subscripted slice false (.ref nt) (.int k u) = operate [.ref nt, .int k u] (getItem (.ref nt) (.int k u))) : wpAny (model pw w) A (subscriptTail value slice (.ref nt) (.int k u)) Q E s := by
  have ht := N.isTup hm
  have hb : i < us.length := (List.getElem?_eq_some_iff.mp hi).1
  subst hk
  exact tail_any ht.typeIs slot_tuple_getitem.lookup (getItem_tuple ht (by omega) (by omega) (j := i) (x := v) (seqIndex_of (k := (i : Int)) (by omega) (by rw [List.size_toArray]; omega)) (by simpa using hi) h) hs
theorem list_put {D : Addr} {vs : List Value} {n i : Nat} {k : Int} {t : Tok} {x : Value} {Q : Unit → Shared → Prop} (F : Fr h₀ L s.heap m) (N : News h₀ L s.heap news) (U : Upd D (listOf vs.toArray n) (listOf (vs.set i x).toArray n) news news') (hk : k = (i : Int)) (hi : i < vs.length) (hl : vs.length ≤ 1000)
    (h : ∀ h', Fr h₀ L h' m → News h₀ L h' news' → Q () { s with heap := h' }) : wpAny (model pw w) A (setItem (.ref D) (.int k t) x) Q E s := by
  obtain ⟨pre, post, rfl, rfl, a, b⟩ := U.split
  have z := N (D, listOf vs.toArray n) (List.mem_append.mpr (.inr (.head _)))
  subst hk
  refine ki_setAt z.1 (by omega) (by omega) (by rw [List.size_toArray]; omega) (h _ (F.change (Heap.SameBut.update ..) z.2.1 z.2.2) (ki_turn _ N a b ?_ ?_))
  · show vs.toArray.setIfInBounds (Int.toNat (i : Int)) x = (vs.set i x).toArray
    apply Array.toList_inj.mp
    simp
  · simp
end
local macro_rules | `(tactic| k_mem) => `(tactic| exact In2.at (by assumption) _ _)
local macro_rules | `(tactic| k_mem) => `(tactic| (rename G2 _ _ _ => U2; first | exact UpdF.mem (U2.a _ _) | exact UpdF.mem (U2.b _ _)))
local macro_rules | `(tactic| k_upd) => `(tactic| (rename G2 _ _ _ => U2; first | exact UpdF.toUpd _ (U2.a _ _) | exact UpdF.toUpd _ (U2.b _ _)))
section
variable {w : World} {z : Heap} {A : Around} {s : Shared} {base : Heap} {L : Addr} {m mg mb : Str → Option Value} {news : List (Addr × Obj)} {loose : List Str} {R : Result → Shared → Prop}
theorem update_ok {x td hf bl nt : Addr} {od : Obj} {ep : Nat} {reg reg' : List Bts} {val : Nat → Bts} {n : Nat} {c d : UInt8} {v : Bts} {vs us : List Value} {hs hh : List Bts} {t u : Tok} {G : Obj → Obj → List (Addr × Obj)} (P : Inn w z A L base) (F : Fr base L s.heap m) (N : News base L s.heap (G od (listOf vs.toArray ep))) (X : (frag w.params).In base) (T : TopRead topProg loose mg mb base) (hr : Rm 3 A)
    (U : G2 td bl G) (hx : In2 (x, instObj 132 td) G) (hn : In2 (nt, tupObj us) G) (PD : ProofD w od hf bl c (val c.toNat)) (bv : BVals vs hs) (sb : Sibs reg val c.toNat hs) (g : Grow n reg reg') (bu : BVals us hh) (al : Along reg' (upd val d.toNat v) d.toNat hh)
    (k : ∀ h' tk od' vs' hs' ep', Fr base L h' m → News base L h' (G od' (listOf vs'.toArray ep')) → ProofD w od' hf bl c (upd val d.toNat v c.toNat) → BVals vs' hs' → Sibs reg' (upd val d.toNat v) c.toNat hs' → R (.ok (.ret .none)) { s with heap := h', toks := tk }) :
    codeAny (model pw w) A (.call (.ref 129) ⟨[.ref x, .bytes #[d] t, .bytes v u, .ref nt], []⟩) R s := by
  refine enter (binds := [("self", .ref x), ("key", .bytes #[d] t), ("value", .bytes v u), ("node_updates", .ref nt)]) P F N X T (by k_is) (by k_is) hr (BindsTo.of_eq rfl) rfl rfl ?_
  clear P F N X T
  intro g0 L' h₁ a1 a2 a3 a4 Q E F N X T P lt st hr' hQ hE hO
  have hlen := (bv.length.trans sb.1)
  have ulen := (bu.length.trans al.1)
  have hsz : vs.toArray.size = 8 := by rw [List.size_toArray]; exact hlen
  have hsu : us.toArray.size = 8 := by rw [List.size_toArray]; exact ulen
  have PA : ProofAt w (G od (listOf vs.toArray ep)) x hf bl c (val c.toNat) vs := ⟨⟨td, od, ep, hx _ _, UpdF.mem (U.a _ _), PD, UpdF.mem (U.b _ _)⟩, hlen⟩
  obtain ⟨k1, k2, k3, k4, k5, k6, t1, t2, t3, t5, n5, e5, rfl⟩ := id PD
  subst e5
  repeat' ((fail_if_success (with_reducible show wpAny _ _ (call (Value.type "reversed") _) _ _ _)); walk1)
  · have ecd : c.toNat = d.toNat := xor_same (by assumption)
    rename News _ _ _ _ => N9
    exact hQ _ _ (leaveK_ (by assumption) N9 (fun kF kN => k _ _ _ vs hs ep kF kN ⟨_, _, _, _, _, _, _, _, _, _, _, rfl, by unfold upd; rw [if_pos ecd]⟩ bv (by rw [← ecd]; exact sib_same sb g)))
  · refine rev8_K (by k_asm) (by k_asm) (by assumption) (fun I h2 F2 N2 l2 => ?_)
    rename Builtin.bitXor _ _ ≠ 0 => hx0
    (try dsimp only)
    refine loop_rev8 hr'.2.2 rfl F2 N2 (fun p hp => Nat.ne_of_lt (l2 p hp)) (fun i m nw => m "self" = some (.ref x) ∧ m "node_updates" = some (.ref nt) ∧ (∃ t, m "path_diff" = some (.int (Builtin.bitXor (c.toNat : Int) (d.toNat : Int)) t)) ∧ (∃ od, nw = G od (listOf vs.toArray ep) ∧ ProofD w od hf bl c (val c.toNat)) ∧ c.toNat / 2 ^ (8 - i) = d.toNat / 2 ^ (8 - i)) ?_ ?_ ?_
    · exact ⟨rfl, rfl, ⟨_, rfl⟩, ⟨_, rfl, PD⟩, by rw [Nat.div_eq_of_lt (show c.toNat < 2 ^ 8 from c.toNat_lt), Nat.div_eq_of_lt (show d.toNat < 2 ^ 8 from d.toNat_lt)]⟩
    · rintro i t0 m₁ nw h tk oI' hi ⟨m1, m2, ⟨tp, m3⟩, ⟨od, rfl, PD2⟩, he⟩ F₁ N₁ off Q' hQ'
      obtain ⟨k1, k2, k3, k4, k5, k6, t1, t2, t3, t5, n5, e5, rfl⟩ := id PD2
      subst e5
      repeat' walk1
      · rename 0 < Builtin.bitAnd _ _ => hq0
        rw [shl_eq, ← gt_iff_lt, xor_bit] at hq0
        refine hQ' Flow.brk _ ?_
        unfold TurnP
        dsimp only
        repeat' walk1
        obtain ⟨uv, ub, hub, huv⟩ : ∃ uv ub, us[i]? = some uv ∧ hh[i]? = some ub ∧ ∃ t, uv = .bytes ub t := by
          have hu : us[i]? = some (us[i]'(by omega)) := List.getElem?_eq_getElem _
          obtain ⟨ub, t, h1, h2⟩ := BVals.get bu hu
          exact ⟨_, ub, hu, h1, t, h2⟩
        obtain ⟨huh, ut, rfl⟩ := huv
        refine tup_item (i := i) (by k_asm) (by k_mem) (by omega) hub (by omega) ?_ (by with_unfolding_all rfl)
        repeat' ((fail_if_success (with_reducible show wpAny _ _ (setItem _ _ _) _ _ _)); walk1)
        have oI2 : Off2 I G := fun a b p hp => UpdF.off ((U.a _ _)) (fun q hq => UpdF.off (U.b _ _) off b q hq) a p hp
        have hbI : @Ne Nat bl I := off _ (UpdF.mem (U.b _ _))
        refine list_put (i := i) (by k_asm) (by k_asm) (by k_upd) (by omega) (by omega) (by omega) (fun h3 F3 N3 => ?_)
        repeat' walk1
        have eb := sib_set (b := 7 - i) sb g al (by omega) (by rw [show 7 - i + 1 = 8 - i by omega]; exact he) hq0 (by rw [show 7 - (7 - i) = i by omega]; exact huh)
        rw [show 7 - (7 - i) = i by omega] at eb
        have ecd : c.toNat ≠ d.toNat := fun q => hx0 (by rw [q, bitXor_nat, Nat.xor_self]; rfl)
        rename News _ _ _ _ => N9
        exact hQ _ _ (leaveK_ (by assumption) N9 (fun kF kN => k _ _ _ (vs.set i _) (hs.set i ub) ep kF (fun p hp => kN p (.tail _ hp)) (by unfold upd; rw [if_neg ecd]; exact PD2) (bvals_set (hs := hs) i bv rfl) eb))
      · rename ¬ 0 < Builtin.bitAnd _ _ => hq0
        rw [shl_eq, ← gt_iff_lt, xor_bit, Classical.not_not] at hq0
        refine' hQ' _ _ (TurnP.mk ?b1x1 ?b1x2 ?b1x3 ?b1x4)
        (case b1x1 => assumption)
        (case b1x2 => assumption)
        (case b1x3 => exact off)
        refine ⟨by repeat (first | with_reducible exact lk_hit | refine' lk_skip (by decide) ?_ | assumption | exact rfl), by repeat (first | with_reducible exact lk_hit | refine' lk_skip (by decide) ?_ | assumption | exact rfl), ⟨_, by repeat (first | with_reducible exact lk_hit | refine' lk_skip (by decide) ?_ | assumption | exact rfl)⟩, ⟨_, rfl, PD2⟩, ?_⟩
        rw [show 8 - (i + 1) = 7 - i by omega]
        rw [show 8 - i = (7 - i) + 1 by omega, Nat.pow_succ, ← Nat.div_div_eq_div_mul, ← Nat.div_div_eq_div_mul] at he
        omega
    · rintro m₁ nw h tk ⟨m1, m2, ⟨tp, m3⟩, ⟨od, rfl, PD2⟩, he⟩ F₁ N₁
      rw [show 8 - 8 = 0 by rfl, Nat.pow_zero, Nat.div_one, Nat.div_one] at he
      exact absurd (by rw [he, bitXor_nat, Nat.xor_self]; rfl) hx0
end

section
variable {w : World} {A : Around} {E : Value → Shared → Prop} {hp : Heap} {gs : Array GenState} {d : Drawn} {os : OsState} {tk : Nat} {a b : Int} {t u : Tok} {Q : Value → Shared → Prop}
theorem ar_add (h : ∀ t k, Q (.int (a + b) t) ⟨hp, gs, d, k, os⟩) : wpAny (model pw w) A (binaryOp .Add (.int a t) (.int b u)) Q E ⟨hp, gs, d, tk, os⟩ := add_int (h _ _)
theorem ar_sub (h : ∀ t k, Q (.int (a - b) t) ⟨hp, gs, d, k, os⟩) : wpAny (model pw w) A (binaryOp .Sub (.int a t) (.int b u)) Q E ⟨hp, gs, d, tk, os⟩ := sub_int' (h _ _)
theorem ar_mul (hm : IntMulOk a b) (h : ∀ t k, Q (.int (a * b) t) ⟨hp, gs, d, k, os⟩) : wpAny (model pw w) A (binaryOp .Mult (.int a t) (.int b u)) Q E ⟨hp, gs, d, tk, os⟩ := mul_int (h _ _) hm
theorem ar_fdiv (hb : b ≠ 0) (hn : b.natAbs < 1073741824) (h : ∀ t k, Q (.int (a.fdiv b) t) ⟨hp, gs, d, k, os⟩) : wpAny (model pw w) A (binaryOp .FloorDiv (.int a t) (.int b u)) Q E ⟨hp, gs, d, tk, os⟩ := floordiv_int hb (h _ _) (Or.inl (PyProof.noPylong_small hn))
theorem ar_mod (hb : b ≠ 0) (h : ∀ t k, Q (.int (a.fmod b) t) ⟨hp, gs, d, k, os⟩) : wpAny (model pw w) A (binaryOp .Mod (.int a t) (.int b u)) Q E ⟨hp, gs, d, tk, os⟩ := mod_int' hb (h _ _)
theorem ar_xor (h : ∀ t k, Q (.int (Builtin.bitXor a b) t) ⟨hp, gs, d, k, os⟩) : wpAny (model pw w) A (binaryOp .BitXor (.int a t) (.int b u)) Q E ⟨hp, gs, d, tk, os⟩ := xor_int (h _ _)
end

/-- the script stands in a ground -/
def ScriptAt (base : Heap) (sa : Addr) (ns : List Int) : Prop := ∃ vs : List Value, base.IsList sa vs.toArray ∧ IntsAre vs ns ∧ ns.length ≤ 63
theorem ScriptAt.keeps {g h : Heap} {sa : Addr} {ns : List Int} (H : ScriptAt g sa ns) (k : ∀ b o, g.get? b = some o → h.get? b = some o) : ScriptAt h sa ns := by
  obtain ⟨vs, h1, h2, h3⟩ := H
  exact ⟨vs, h1.at fun o e => k _ o e, h2, h3⟩
section
variable {w : World} {z : Heap} {A : Around} {s : Shared} {base : Heap} {L : Addr} {m mg mb : Str → Option Value} {news : List (Addr × Obj)} {loose : List Str} {R : Result → Shared → Prop}
theorem cell_ok {sa : Addr} {ns : List Int} {i : Int} {t : Tok} (P : Inn w z A L base) (F : Fr base L s.heap m) (N : News base L s.heap news) (X : (frag w.params).In base) (T : TopRead topProg loose mg mb base) (hr : Rm 1 A)
    (S : ScriptAt base sa ns) (h0 : 0 ≤ i) (h1 : i ≤ 1000)
    (k : ∀ h' tk (n : Nat) t', Fr base L h' m → News base L h' news → R (.ok (.ret (.int (n : Int) t'))) { s with heap := h', toks := tk }) :
    codeAny (model pw w) A (.call (.ref 246) ⟨[.ref sa, .int i t], []⟩) R s := by
  refine enter (binds := [("script", .ref sa), ("k", .int i t)]) P F N X T (by k_is) (by k_is) hr (BindsTo.of_eq rfl) rfl rfl ?_
  clear P F N X T
  intro g L' h₁ a1 a2 a3 a4 Q E F N X T P lt st hr' hQ hE hO
  obtain ⟨vs, hl, hi, hn⟩ := S.keeps st
  repeat' walk1
  · rw [show (if ns.getD i.toNat 0 < 0 then -ns.getD i.toNat 0 else ns.getD i.toNat 0) = ((ns.getD i.toNat 0).natAbs : Int) by split <;> omega]
    exact hQ _ _ (leaveK_ (by assumption) (by assumption) fun kF kN => k _ _ _ _ kF kN)
  · exact hQ _ _ (leaveK_ (by assumption) (by assumption) fun kF kN => k _ _ 0 _ kF kN)
end

local macro_rules | `(tactic| walk_at "binaryOp Add int int") => `(tactic| refine ar_add (fun _ _ => ?_))
local macro_rules | `(tactic| walk_at "binaryOp Sub int int") => `(tactic| refine ar_sub (fun _ _ => ?_))
local macro_rules | `(tactic| walk_at "binaryOp Mult int int") => `(tactic| refine ar_mul (by mul_fits) (fun _ _ => ?_))
local macro_rules | `(tactic| walk_at "binaryOp FloorDiv int int") => `(tactic| refine ar_fdiv (by decide) (by decide) (fun _ _ => ?_))
local macro_rules | `(tactic| walk_at "binaryOp Mod int int") => `(tactic| refine ar_mod (by decide) (fun _ _ => ?_))
local macro_rules | `(tactic| walk_at "binaryOp BitXor int int") => `(tactic| refine ar_xor (fun _ _ => ?_))
section
variable {w : World} {z : Heap} {A : Around} {s : Shared} {base : Heap} {L : Addr} {m mg mb : Str → Option Value} {news : List (Addr × Obj)} {loose : List Str}
  {R : Result → Shared → Prop} {name qual : Str} {params : Arguments} {b0 : Stmt} {bs : List Stmt} {ns : List (Str × NameKind)} {mo : List (Str × Const)} {dV kV doc pm cdv ct oc : Value} {an od : Option Addr} {osl : Array (Option Value)} {f : Addr} {args : Args} {binds : List (Str × Value)} {dd : Nat}
theorem enterC (P : Inn w z A L base) (F : Fr base L s.heap m) (N : News base L s.heap news) (X : (frag w.params).In base) (T : TopRead topProg loose mg mb base)
    (ho : (frag w.params).lookup f = some ⟨oc, od, .func (fnOf name qual params (b0 :: bs) (Scope.mk .function ns false false mo) dV kV doc pm an cdv ct), osl⟩) (hcd : codeIn (frag w.params) cdv qual = true) (hr : Rm (dd + 1) A)
    (hbind : BindsTo s (fnOf name qual params (b0 :: bs) (Scope.mk .function ns false false mo) dV kV doc pm an cdv ct) args binds)
    (hkind : ∀ n, ∀ x ∈ binds, ns.lookup x.1 = some .local ∨ (ns.lookup x.1 = some .cell ∧ ((cellsFrom n ns []).lookup x.1).isSome = true)) (hnd : ((cellsFrom 0 ns []).map (·.1)).Nodup)
    (h : ∀ g L' h₁ tk cells a1 a2 a3 a4 (Q : Flow → Shared → Prop) (E : Value → Shared → Prop), Fr g L' h₁ (bindL (envOfC qual (Scope.mk .function ns false false mo) L' f cdv).kindOf binds fun _ => none) → News g L' h₁ (cells ++ news) →
      CellsAre (bindC (envOfC qual (Scope.mk .function ns false false mo) L' f cdv).kindOf binds fun _ => none) (cellsFrom (L' + 1) ns []) cells → (frag w.params).In g → TopRead topProg loose mg mb g → (∀ p ∈ news, p.1 < L') → Rm dd ⟨none, a1, a2, a3, a4⟩ →
      (∀ fl s', LeaveK base L m g R (match fl with | .ret v => v | _ => .none) s' → Q fl s') → PassesOwn (model pw w) ⟨none, a1, a2, a3, a4⟩ (envOfC qual (Scope.mk .function ns false false mo) L' f cdv) E →
      wpAny (model pw w) ⟨none, a1, a2, a3, a4⟩ (execs (b0 :: bs) (envOfC qual (Scope.mk .function ns false false mo) L' f cdv)) Q E { s with heap := h₁, toks := tk }) : codeAny (model pw w) A (.call (.ref f) args) R s := by
  obtain ⟨A₀, outer, cn, cs, aa, ccd, B, hA, hck, XB, TB, D⟩ := P
  obtain ⟨hd0, b1, b2, b3, b4⟩ := A
  obtain rfl : hd0 = none := hr.2.2
  refine callX_cells (scope := Scope.mk .function ns false false mo) B F N T.nolimit hA rfl hck ((X.keeps F.keep) _ _ ho) rfl (codeRec_of (X.keeps F.keep) hcd) hr.lt hbind hkind hnd (fun g L' h₁ tk cells FG F' N' C' B' st lt => ?_) rfl rfl rfl
  exact h g L' h₁ tk cells _ _ _ _ _ _ F' N' C' (X.keeps st) (T.keeps st) lt hr.deep (fun _ _ z => z) PassesOwn.leaving
end
theorem byte_fmod (y : Int) : ∃ c : UInt8, y.fmod 256 = (c.toNat : Int) := by
  have h1 := Int.fmod_nonneg_of_pos y (show (0 : Int) < 256 by decide)
  have h2 := Int.fmod_lt_of_pos y (show (0 : Int) < 256 by decide)
  refine ⟨UInt8.ofNatLT (y.fmod 256).toNat (by show _ < 256; omega), ?_⟩
  rw [UInt8.toNat_ofNatLT]
  omega
open LCg in
theorem comp_bytes {prog : Program} {w : World} {A : Around} {h₀ : Heap} {L : Addr} {m : Str → Option Value} {env : Env} {elt : PySem.Expr} {x : Str} {scope : Scope} {cl : List (Str × Addr)} {s : Shared} {P : Nat → Value → Prop} {Fin : List Value → List (Addr × Obj) → Prop} {news : List (Addr × Obj)} {n : Nat}
    (step : ∀ i ys v I oI C oC D m₂ h tk (E' : Value → Shared → Prop), i < n → P i v → NsObj oC m₂ → m₂ x = some v → Fr h₀ L h m → News h₀ L h ((I, oI) :: (C, oC) :: (D, lst ys) :: news) → ∀ Q' : Value → Shared → Prop,
      (∀ (c : UInt8) t h' tk', Fr h₀ L h' m → News h₀ L h' ((I, oI) :: (C, oC) :: (D, lst ys) :: news) → Q' (.int (c.toNat : Int) t) { s with heap := h', toks := tk' }) → wpAny (model prog w) A (eval elt (compEnvC scope cl C env)) Q' E' { s with heap := h, toks := tk })
    (fin : ∀ ys (cs : List UInt8), cs.length = n → IntsAre ys (cs.map fun c => (c.toNat : Int)) → Fin ys news) :
    ∀ k i ys (cs : List UInt8), i + k = n → cs.length = i → IntsAre ys (cs.map fun c => (c.toNat : Int)) → CompRest prog w A h₀ L m env elt x scope cl s (fun _ => True) P Fin k i ys news
  | 0, i, ys, cs, e, hl, hi => fin ys cs (by omega) hi
  | k + 1, i, ys, cs, e, hl, hi => fun v I oI C oC D m₂ h tk E' hP hns hx F N off ne => by
    refine step i ys v I oI C oC D m₂ h tk E' (by omega) hP hns hx F N _ fun c t h' tk' F' N' => ?_
    refine CompEnd.intro F' N' news (fun p hp => hp) off trivial ?_
    refine comp_bytes step fin k (i + 1) _ (cs ++ [c]) (by omega) (by rw [List.length_append, hl]; rfl) ?_
    rw [List.map_append]
    exact IntsAre.append hi (.cons _ t .nil)
section
variable {w : World} {z : Heap} {A : Around} {s : Shared} {base : Heap} {L : Addr} {m mg mb : Str → Option Value} {news : List (Addr × Obj)} {loose : List Str} {R : Result → Shared → Prop}
theorem octets_ok {n : Nat} {k0 : Nat} {t u : Tok} (P : Inn w z A L base) (F : Fr base L s.heap m) (N : News base L s.heap news) (X : (frag w.params).In base) (T : TopRead topProg loose mg mb base) (hr : Rm 1 A)
    (h1 : k0 ≤ 40)
    (k : ∀ h' tk (b : Bts) t', b.size = k0 → Fr base L h' m → News base L h' news → R (.ok (.ret (.bytes b t'))) { s with heap := h', toks := tk }) :
    codeAny (model pw w) A (.call (.ref 286) ⟨[.int (n : Int) t, .int (k0 : Int) u], []⟩) R s := by
  refine enterC (binds := [("left", .int (n : Int) t), ("size", .int (k0 : Int) u)]) P F N X T (by k_is) (by k_is) hr (BindsTo.of_eq rfl) (fun n x hx => by
    rcases List.mem_cons.mp hx with rfl | hx
    · exact .inr ⟨rfl, rfl⟩
    · rw [List.mem_singleton.mp hx]; exact .inl rfl) (by decide) ?_
  clear P F N X T
  intro g L' h₁ tk cells a1 a2 a3 a4 Q E F N C X T lt hr' hQ hO
  replace F : Fr g L' h₁ (fun y => if y = "size" then some (.int (k0 : Int) u) else none) := F
  k_cells C
  simp only [List.cons_append, List.nil_append] at N
  repeat' ((fail_if_success (with_reducible show wpAny _ _ (eval (PySem.Expr.ListComp _ _ _ _) _) _ _ _)); walk1)
  refine LCg.ListComp_U F (by with_unfolding_all rfl) (by decide) (by rfl) (by decide) (by rfl) ?_
  repeat' ((fail_if_success (with_reducible show LCg.CompSrc _ _ _ _ _ _ _ _ _ _ _ _ _ _)); walk1)
  rotate_left; rotate_left; rotate_left
  refine LCg.CompSrc.range (n := k0) hr'.2.2 (by assumption) (by assumption) (by assumption) ((by decide +kernel : ∀ k : Fin 41, Builtin.Range.small 0 ((k.1 : Nat) : Int) 1 = true) ⟨k0, by omega⟩) ((by decide +kernel : ∀ k : Fin 41, Builtin.Range.rangeSize 0 ((k.1 : Nat) : Int) 1 = ((k.1 : Nat) : Int)) ⟨k0, by omega⟩) (by rw [sizeLine_eq]; omega) (fun g2 => ?_)
  refine comp_bytes (n := k0) ?_ ?_ k0 0 [] [] (by omega) rfl .nil
  · intro i ys v I oI C oC D m₂ h tk E' hi hP hns hx F N Q' hQ'
    obtain ⟨ti, rfl⟩ := hP
    repeat' ((fail_if_success (with_reducible show wpAny _ _ (binaryOp .FloorDiv _ _) _ _ _)); walk1)
    obtain ⟨hp0, hp1⟩ := (by decide +kernel : ∀ k : Fin 41, (3 : Int) ^ (0 + ((k.1 : Nat) : Int)).toNat ≠ 0 ∧ ((3 : Int) ^ (0 + ((k.1 : Nat) : Int)).toNat).natAbs < 2 ^ 66) ⟨i, by omega⟩
    generalize (3 : Int) ^ (0 + (i : Int)).toNat = X at hp0 hp1 ⊢
    refine floordiv_int hp0 ?_ (Or.inl ?_)
    · repeat' walk1
      obtain ⟨c, hc⟩ := byte_fmod ((n : Int).fdiv X + 41 * (0 + (i : Int)))
      rw [hc]
      exact hQ' c _ _ _ (by assumption) (by assumption)
    · refine PyProof.noPylong_of_log2 (Nat.lt_of_lt_of_le ((Nat.log2_lt (by omega)).mpr hp1) (by decide))
  · intro ys cs hl hi
    intro D h tk F N off
    repeat' ((fail_if_success (with_reducible show wpAny _ _ (call (Value.type "bytes") _) _ _ _)); walk1)
    refine KBa.make_K (vs := ys) F (by assumption) hr'.2.2 (News.isList N (.head _)) hi (fun x hx => ?_) (by rw [List.length_map]; omega) (fun h' t' k' F' N' _ => ?_)
    · obtain ⟨c, _, rfl⟩ := List.mem_map.mp hx
      have := c.toNat_lt
      omega
    repeat' walk1
    exact hQ _ _ (leaveK_ (by assumption) (by assumption) fun kF kN => k _ _ _ _ (by unfold byteArr; rw [List.size_toArray, List.length_map, List.length_map]; exact hl) kF fun p hp => kN p (.tail _ (.tail _ hp)))
  all_goals exact default
end

/-- what the held values say of a tree's leaves -/
structure HeldOk (hl : List (Bts × Bts)) (val : Nat → Bts) (dflt : Bts) : Prop where
  key : ∀ k v, lookB hl k = some v → ∃ c : UInt8, k = #[c] ∧ val c.toNat = v
  rest : ∀ q, (∀ c : UInt8, c.toNat = q → lookB hl #[c] = none) → val q = dflt
/-- a level of the law's tree -/
structure Lv (reg : List Bts) (val : Nat → Bts) (dflt : Bts) (k : Nat) (ll : List (Int × Bts)) : Prop where
  has : ∀ (p : Int) h, lookB ll p = some h → ∃ q : Nat, p = (q : Int) ∧ Nd reg val k q h
  no : ∀ q : Nat, lookB ll (q : Int) = none → ∀ x, x / 2 ^ k = q → val x = dflt
/-- the empty nodes -/
def Emp (reg : List Bts) (dflt : Bts) (k : Nat) (e : Bts) : Prop := ∀ p, Nd reg (fun _ => dflt) k p e
section
variable {reg reg' : List Bts} {val : Nat → Bts} {dflt e : Bts} {k n : Nat} {ll : List (Int × Bts)}
theorem Emp.grow (h : Emp reg dflt k e) (g : Grow n reg reg') : Emp reg' dflt k e := fun p => (h p).grow g
theorem Lv.grow (h : Lv reg val dflt k ll) (g : Grow n reg reg') : Lv reg' val dflt k ll := ⟨fun p x e => let ⟨q, a, b⟩ := h.has p x e; ⟨q, a, b.grow g⟩, h.no⟩
theorem Emp.zero (h : Hs reg dflt e) : Emp reg dflt 0 e := fun p => ⟨dflt, rfl, h⟩
theorem Emp.succ {x : Bts} (h : Emp reg dflt k e) (g : Grow n reg reg') (hs : Hs reg' (e ++ e) x) : Emp reg' dflt (k + 1) x := fun p => Nd.succ ((h _).grow g) ((h _).grow g) hs
theorem Emp.size (h : Emp reg dflt k e) : e.size = 32 := (h 0).size
/-- the node that a level tells, or the empty one -/
theorem Lv.node (h : Lv reg val dflt k ll) (he : Emp reg dflt k e) (q : Nat) : Nd reg val k q ((lookB ll (q : Int)).getD e) := by
  cases hl : lookB ll (q : Int) with
  | none => exact (he q).congr fun x hx => (h.no q hl x hx).symm
  | some v =>
    obtain ⟨q', a, b⟩ := h.has _ _ hl
    have : q = q' := by omega
    subst this; exact b
/-- a level while it is built from the one below: the places told so far -/
structure Lup (reg : List Bts) (val : Nat → Bts) (k : Nat) (ll al : List (Int × Bts)) (i : Nat) : Prop where
  has : ∀ (p : Int) h, lookB al p = some h → ∃ q : Nat, p = (q : Int) ∧ Nd reg val (k + 1) q h
  put : ∀ j q v, j < i → ll[j]? = some (((q : Nat) : Int), v) → (q % 2 = 0 ∨ lookB ll (((q - q % 2 : Nat)) : Int) = none) → (lookB al (((q / 2 : Nat)) : Int)).isSome = true
theorem Lup.nil : Lup reg val k ll [] 0 := ⟨fun p h e => by simp [lookB] at e, fun j q v h => absurd h (Nat.not_lt_zero _)⟩
theorem Lup.grow {al : List (Int × Bts)} {i : Nat} (h : Lup reg val k ll al i) (g : Grow n reg reg') : Lup reg' val k ll al i := ⟨fun p x e => let ⟨q, a, b⟩ := h.has p x e; ⟨q, a, b.grow g⟩, h.put⟩
theorem Lup.skip {al : List (Int × Bts)} {i q : Nat} {v : Bts} (h : Lup reg val k ll al i) (hi : ll[i]? = some ((q : Int), v)) (h1 : q % 2 ≠ 0) (h2 : lookB ll (((q - q % 2 : Nat)) : Int) ≠ none) : Lup reg val k ll al (i + 1) :=
  ⟨h.has, fun j q' v' hj hq hc => by
    rcases Nat.lt_or_ge j i with z | z
    · exact h.put j q' v' z hq hc
    · obtain rfl : j = i := by omega
      rw [hi] at hq
      have := Option.some.inj hq
      have e : q' = q := by have := congrArg (·.1) this; dsimp only at this; omega
      subst e
      rcases hc with hc | hc
      · exact absurd hc h1
      · exact absurd hc h2⟩
theorem Lup.add {al : List (Int × Bts)} {i q : Nat} {v x : Bts} (h : Lup reg val k ll al i) (g : Grow n reg reg') (hi : ll[i]? = some ((q : Int), v)) (nd : Nd reg' val (k + 1) (q / 2) x) : Lup reg' val k ll (putB al (((q / 2 : Nat)) : Int) x) (i + 1) :=
  ⟨fun p y e => by
    rw [lookB_put] at e
    split at e
    · rename_i hp; exact ⟨q / 2, hp, by rw [← Option.some.inj e]; exact nd⟩
    · obtain ⟨q', a, b⟩ := h.has p y e; exact ⟨q', a, b.grow g⟩,
   fun j q' v' hj hq hc => by
    rw [lookB_put]
    split
    · rfl
    · rename_i hne
      rcases Nat.lt_or_ge j i with z | z
      · exact h.put j q' v' z hq hc
      · obtain rfl : j = i := by omega
        rw [hi] at hq
        have := congrArg (·.1) (Option.some.inj hq)
        dsimp only at this
        exact absurd (by omega) hne⟩
theorem mem_lookB {K : Type} [DecidableEq K] {l : List (K × Bts)} {x : K} (h : lookB l x ≠ none) : ∃ (j : Nat) (v : Bts), l[j]? = some (x, v) := by
  unfold lookB at h
  cases hf : l.find? (fun q => decide (q.1 = x)) with
  | none => rw [hf] at h; exact absurd rfl h
  | some q =>
    have h1 := List.find?_some hf
    have h2 := List.mem_of_find?_eq_some hf
    obtain ⟨j, hj⟩ := List.mem_iff_getElem?.mp h2
    have h3 : q.1 = x := by simpa using h1
    exact ⟨j, q.2, by rw [hj, ← h3]⟩
theorem Lup.done {al : List (Int × Bts)} (h : Lup reg val k ll al ll.length) (L : Lv reg val dflt k ll) : Lv reg val dflt (k + 1) al := by
  refine ⟨h.has, fun q hq x hx => ?_⟩
  have lo : ∀ (j : Nat) (v : Bts), ll[j]? = some (((2 * q : Nat) : Int), v) → False := fun j v e => by
    have hj : j < ll.length := (List.getElem?_eq_some_iff.mp e).1
    have := h.put j (2 * q) v hj e (.inl (by omega))
    rw [show 2 * q / 2 = q by omega, hq] at this; cases this
  have n0 : lookB ll ((2 * q : Nat) : Int) = none := by
    cases z : lookB ll ((2 * q : Nat) : Int) with
    | none => rfl
    | some y => obtain ⟨j, v, e⟩ := mem_lookB (by rw [z]; exact Option.some_ne_none _); exact (lo j v e).elim
  have n1 : lookB ll ((2 * q + 1 : Nat) : Int) = none := by
    cases z : lookB ll ((2 * q + 1 : Nat) : Int) with
    | none => rfl
    | some y =>
      obtain ⟨j, v, e⟩ := mem_lookB (by rw [z]; exact Option.some_ne_none _)
      have hj : j < ll.length := (List.getElem?_eq_some_iff.mp e).1
      have := h.put j (2 * q + 1) v hj e (.inr (by rw [show 2 * q + 1 - (2 * q + 1) % 2 = 2 * q by omega]; exact n0))
      rw [show (2 * q + 1) / 2 = q by omega, hq] at this; cases this
  have e2 : x / 2 ^ k / 2 = q := by rw [Nat.div_div_eq_div_mul, ← Nat.pow_succ]; exact hx
  rcases Nat.mod_two_eq_zero_or_one (x / 2 ^ k) with z | z
  · exact L.no (2 * q) n0 x (by omega)
  · exact L.no (2 * q + 1) n1 x (by omega)
/-- the leaves while they are told -/
structure Lf (reg : List Bts) (val : Nat → Bts) (hl : List (Bts × Bts)) (al : List (Int × Bts)) (i : Nat) : Prop where
  has : ∀ (p : Int) h, lookB al p = some h → ∃ q : Nat, p = (q : Int) ∧ Nd reg val 0 q h
  put : ∀ j (c : UInt8) v, j < i → hl[j]? = some (#[c], v) → (lookB al (c.toNat : Int)).isSome = true
theorem Lf.nil {hl : List (Bts × Bts)} : Lf reg val hl [] 0 := ⟨fun p h e => by simp [lookB] at e, fun j q v h => absurd h (Nat.not_lt_zero _)⟩
theorem Lf.add {hl : List (Bts × Bts)} {al : List (Int × Bts)} {i : Nat} {c : UInt8} {v x : Bts} (h : Lf reg val hl al i) (g : Grow n reg reg') (hi : hl[i]? = some (#[c], v)) (hv : val c.toNat = v) (hs : Hs reg' v x) : Lf reg' val hl (putB al (c.toNat : Int) x) (i + 1) :=
  ⟨fun p y e => by
    rw [lookB_put] at e
    split at e
    · rename_i hp; exact ⟨c.toNat, hp, by rw [← Option.some.inj e]; exact ⟨v, hv.symm, hs⟩⟩
    · obtain ⟨q', a, b⟩ := h.has p y e; exact ⟨q', a, b.grow g⟩,
   fun j c' v' hj hq => by
    rw [lookB_put]
    split
    · rfl
    · rename_i hne
      rcases Nat.lt_or_ge j i with z | z
      · exact h.put j c' v' z hq
      · obtain rfl : j = i := by omega
        rw [hi] at hq
        have h1 := congrArg (·.1) (Option.some.inj hq)
        have h2 : c = c' := by simpa using h1
        rw [h2] at hne
        exact absurd rfl hne⟩
theorem Lf.done {hl : List (Bts × Bts)} {al : List (Int × Bts)} (h : Lf reg val hl al hl.length) (H : HeldOk hl val dflt) : Lv reg val dflt 0 al := by
  refine ⟨h.has, fun q hq x hx => ?_⟩
  rw [Nat.pow_zero, Nat.div_one] at hx
  subst hx
  refine H.rest x fun c hc => ?_
  cases z : lookB hl #[c] with
  | none => rfl
  | some v =>
    obtain ⟨j, v', e⟩ := mem_lookB (l := hl) (x := (#[c] : Bts)) (by rw [z]; exact Option.some_ne_none _)
    have := h.put j c v' (List.getElem?_eq_some_iff.mp e).1 e
    rw [hc, hq] at this; cases this
end

section
variable {w : World} {A : Around} {E : Value → Shared → Prop} {s : Shared} {env : Env} {h₀ : Heap} {x : Str} {body : List Stmt} {L : Addr}
theorem loop_dict {K : Type} [DecidableEq K] {knd : KeyKind pw w K} {d : Addr} {o : Obj} {l : List (K × Bts)} {m₀ : Str → Option Value} {news₀ : List (Addr × Obj)} {Q : Flow → Shared → Prop} (hh : A.handled = none) (hloc : env.locals = L) (BD : BDict knd o l) (lo : (d == sysModules) = false)
    (F : Fr h₀ L s.heap m₀) (N : News h₀ L s.heap news₀) (hm : (d, o) ∈ news₀) (J : Nat → (Str → Option Value) → List (Addr × Obj) → Prop) (hJ0 : J 0 m₀ news₀) (src : ∀ i m nw, J i m nw → (d, o) ∈ nw)
    (turn : ∀ I i k v y m₁ news₁ h tk oI, l[i]? = some (k, y) → knd.is k v = true → J i m₁ news₁ → Fr h₀ L h (fun y => if y = x then some v else m₁ y) → News h₀ L h ((I, oI) :: news₁) → (∀ p ∈ news₁, p.1 ≠ I) → (∀ p ∈ news₀, p.1 < I) →
      ∀ Q' : Flow → Shared → Prop, (∀ fl s', TurnP h₀ L I oI (J (i + 1)) { s with heap := h, toks := tk } Q fl s' → Q' fl s') → wpAny (model pw w) A (execs body env) Q' E { s with heap := h, toks := tk })
    (done : ∀ m' news' h' tk, J l.length m' news' → Fr h₀ L h' m' → News h₀ L h' news' → Q .next { s with heap := h', toks := tk }) :
    wpAny (model pw w) A (pyIter (.ref d)) (fun it s₂ => LoopAtV pw w A h₀ env x body Q E it s₂) E s := by
  subst hloc
  have hd := N _ hm
  obtain ⟨kvs, ⟨es, ep, h1, h2, h3, h4, h5⟩, e2, _⟩ := BD
  have hD : s.heap.DictAt knd d kvs ep := ⟨o, es, hd.1, h1, h2, h3, h4, h5⟩
  have hlen : kvs.length = l.length := by simpa using congrArg List.length e2
  have hne : d ≠ s.heap.objs.size := Nat.ne_of_lt (Heap.lt_size hd.1)
  have lt : ∀ p ∈ news₀, p.1 < s.heap.objs.size := fun p hp => Heap.lt_size (N p hp).1
  refine wpAny_pyIter_dict lo hD ?_
  have W := Walks.dictKeys (prog := pw) (w := w) (knd := knd) hh s.heap.objs.size d hne kvs ep
  refine loopJ W (fun _ => o) (fun i h q => let ⟨o, ho, _⟩ := q.1; ⟨o, ho⟩) ?_ (.head _) (next_is_new F) (fun p hp => Nat.ne_of_lt (lt p hp)) ⟨⟨_, Heap.get?_push_size _ rfl, rfl, rfl⟩, hD.at' fun o e => Heap.get?_push_of_some _ e⟩ (F.push _) (fun p hp => ⟨Heap.get?_push_of_some _ (N p hp).1, (N p hp).2⟩) J hJ0 ?_ ?_ ?_
  · intro hmm
    rcases List.mem_cons.mp hmm with e | hmm
    · exact absurd F.ns.lt (e ▸ Nat.lt_irrefl _)
    · exact hd.2.1 (List.mem_singleton.mp hmm).symm
  · intro i m news hJ b hb hn
    rcases List.mem_cons.mp hb with e | hb
    · exact absurd e hn
    · obtain rfl := List.mem_singleton.mp hb
      exact .inr (src i m news hJ)
  · rintro i v m₁ news₁ h tk oI hi ⟨k, y, hk, hv⟩ hJ F₁ N₁ off
    have h6 : (l.map (·.1))[i]? = some k := by rw [← e2, List.getElem?_map, hk]; rfl
    rw [List.getElem?_map] at h6
    obtain ⟨q, hq, rfl⟩ := Option.map_eq_some_iff.mp h6
    exact turn _ i q.1 v q.2 m₁ news₁ h tk oI hq hv hJ F₁ N₁ off lt _ (fun _ _ z => z)
  · intro m' news' h' tk hJ F' N'
    rw [hlen] at hJ
    exact done m' news' h' tk hJ F' N'
theorem list_item {value slice : PySem.Expr} {D : Addr} {vs : List Value} {n i : Nat} {k : Int} {u : Tok} {v : Value} {news : List (Addr × Obj)} {Q : Value → Shared → Prop} (N : News h₀ L s.heap news) (hm : (D, listOf vs.toArray n) ∈ news) (hk : k = (i : Int)) (hi : vs[i]? = some v) (hl : vs.length ≤ 1000) (h : Q v s)
    (hs : subscripted slice false (.ref D) (.int k u) = operate [.ref D, .int k u] (getItem (.ref D) (.int k u))) : wpAny (model pw w) A (subscriptTail value slice (.ref D) (.int k u)) Q E s := by
  have hL := N.isList hm
  have hb : i < vs.length := (List.getElem?_eq_some_iff.mp hi).1
  subst hk
  exact tail_any hL.typeIs slot_list_getitem.lookup (wpAny_getItem_list hL (by omega) (by omega) (by simpa using hi) h) hs
end
/-- what the law knows of a tree's levels, in a ledger -/
def KnownAt (w : World) (news : List (Addr × Obj)) (kt : Addr) (reg : List Bts) (val : Nat → Bts) (dflt : Bts) : Prop :=
  ∃ el lv es ep refs ep2, (kt, tupObj [.ref el, .ref lv]) ∈ news ∧ (el, listOf (List.toArray es) ep) ∈ news ∧ (lv, listOf (List.toArray refs) ep2) ∈ news ∧ es.length = 9 ∧ refs.length = 9 ∧
    ∀ k, k ≤ 8 → ∃ e t a o ll, es[k]? = some (.bytes e t) ∧ refs[k]? = some (.ref a) ∧ (a, o) ∈ news ∧ (a == sysModules) = false ∧ BDict (intKind pw w) o ll ∧ Lv reg val dflt k ll ∧ Emp reg dflt k e
theorem KnownAt.sub {w : World} {news news' : List (Addr × Obj)} {kt : Addr} {reg : List Bts} {val : Nat → Bts} {dflt : Bts} (H : KnownAt w news kt reg val dflt) (q : ∀ p ∈ news, p ∈ news') : KnownAt w news' kt reg val dflt := by
  obtain ⟨el, lv, es, ep, refs, ep2, h1, h2, h3, h4, h5, h6⟩ := H
  exact ⟨el, lv, es, ep, refs, ep2, q _ h1, q _ h2, q _ h3, h4, h5, fun k hk => let ⟨e, t, a, o, ll, a1, a2, a3, a4⟩ := h6 k hk; ⟨e, t, a, o, ll, a1, a2, q _ a3, a4⟩⟩
theorem ar_shr {w : World} {A : Around} {E : Value → Shared → Prop} {hp : Heap} {gs : Array GenState} {d : Drawn} {os : OsState} {tk : Nat} {n i : Nat} {x : Int} {t u : Tok} {Q : Value → Shared → Prop} (hx : x = ((2 ^ i : Nat) : Int)) (hi : i ≤ 20) (h : ∀ t k, Q (.int ((n / 2 ^ i : Nat) : Int) t) ⟨hp, gs, d, k, os⟩) :
    wpAny (model pw w) A (binaryOp .FloorDiv (.int (n : Int) t) (.int x u)) Q E ⟨hp, gs, d, tk, os⟩ := by
  subst hx
  have h1 : 2 ^ i ≤ 2 ^ 20 := Nat.pow_le_pow_right (by decide) hi
  have h2 := Nat.two_pow_pos i
  refine ar_fdiv (by omega) (by rw [Int.natAbs_natCast]; exact Nat.lt_of_le_of_lt h1 (by decide)) (fun t k => ?_)
  rw [Int.fdiv_eq_ediv_of_nonneg _ (by omega)]
  exact h t k
theorem pow_eq (i : Nat) : (2 : Int) ^ (0 + (i : Int)).toNat = ((2 ^ i : Nat) : Int) := by
  rw [Int.zero_add, Int.toNat_natCast]; push_cast; rfl

local macro_rules | `(tactic| walk_at "getMethod ref") => `(tactic| ((with_reducible show wpAny _ _ (getMethod (Value.ref _) (PySem.Str.ofString "get") _) _ _ _); first | refine b_method (knd := intKind _ _) (by k_asm) (by k_mem) (by k_asm) ?_ | refine b_method (knd := bkind _) (by k_asm) (by k_mem) (by k_asm) ?_))
local macro_rules | `(tactic| walk_at "call builtin:dict.get") => `(tactic| first | refine b_get2 (knd := intKind _ _) (by k_asm) (by k_mem) (by k_asm) (by k_asm) (ik_is _ _ _) (fun _ => ?_) | refine b_get2 (knd := bkind _) (by k_asm) (by k_mem) (by k_asm) (by k_asm) (bk_is _ _ _) (fun _ => ?_))
section
variable {w : World} {z : Heap} {A : Around} {s : Shared} {base : Heap} {L : Addr} {m mg mb : Str → Option Value} {news : List (Addr × Obj)} {loose : List Str} {R : Result → Shared → Prop}
theorem node_ok {kt : Addr} {reg : List Bts} {val : Nat → Bts} {dflt : Bts} {i q : Int} {j p : Nat} {t u : Tok} (P : Inn w z A L base) (F : Fr base L s.heap m) (N : News base L s.heap news) (X : (frag w.params).In base) (T : TopRead topProg loose mg mb base) (hr : Rm 1 A)
    (K : KnownAt w news kt reg val dflt) (hi : i = (j : Int)) (hj : j ≤ 8) (hq : q = (p : Int))
    (k : ∀ h' tk x t', Nd reg val j p x → Fr base L h' m → News base L h' news → R (.ok (.ret (.bytes x t'))) { s with heap := h', toks := tk }) :
    codeAny (model pw w) A (.call (.ref 267) ⟨[.ref kt, .int i t, .int q u], []⟩) R s := by
  refine enter (binds := [("known", .ref kt), ("height", .int i t), ("at", .int q u)]) P F N X T (by k_is) (by k_is) hr (BindsTo.of_eq rfl) rfl rfl ?_
  clear P F N X T
  intro g L' h₁ a1 a2 a3 a4 Q E F N X T P lt st hr' hQ hE hO
  obtain ⟨el, lv, es, ep, refs, ep2, h1, h2, h3, h4, h5, h6⟩ := K
  obtain ⟨e, te, a, o, ll, e1, e2, e3, e4, e5, e6, e7⟩ := h6 j hj
  have hlo := e4
  repeat' walk1
  refine list_item (i := j) (by k_asm) h3 hi e2 (by omega) ?_ (by with_unfolding_all rfl)
  repeat' walk1
  refine list_item (i := j) (by k_asm) h2 hi e1 (by omega) ?_ (by with_unfolding_all rfl)
  repeat' walk1
  subst hq
  exact hQ _ _ (leaveK_ (by assumption) (by assumption) fun kF kN => k _ _ _ _ (e6.node e7 p) kF kN)
end

local macro_rules | `(tactic| walk_at "call ref") => `(tactic| ((with_reducible show wpAny _ _ (call (Value.ref 267) [Value.ref _, Value.int _ _, Value.int _ _]) _ _ _); (with_reducible rename KnownAt _ _ _ _ _ _ => hKN); refine' wpAny_call (node_ok ?P ?F ?N ?X ?T ?hr ?K ?hi ?hj ?hq ?_); (case P => k_asm); (case F => k_asm); (case N => k_asm); (case K => exact (hKN.sub (by intro p hp; repeat (first | exact hp | refine List.Mem.tail _ ?_)))); (case X => k_asm); (case T => k_asm); (case hr => exact Rm.le (by k_asm) (by decide)); (case hi => first | assumption | exact (Int.zero_add _) | exact rfl); (case hj => first | assumption | decide | omega); (case hq => first | assumption | exact rfl); (refine fun h' tk' x' t' nd' F' N' => ?_); (try k_sweep); (try dsimp only)))
theorem bv_cons {vs : List Value} {hs : List Bts} {h : Bts} {t : Tok} (b : BVals vs hs) : BVals (.bytes h t :: vs) (h :: hs) := ⟨⟨t, rfl⟩, b⟩
theorem nd_cons {P : Nat → Bts → Prop} {i : Nat} {hs : List Bts} {x : Bts} (h : ∀ j h, hs[j]? = some h → P (i - 1 - j) h) (hx : P i x) : ∀ j h, (x :: hs)[j]? = some h → P (i + 1 - 1 - j) h
  | 0, q, e => by obtain rfl := Option.some.inj e; exact hx
  | j + 1, q, e => by
    have := h j q (by simpa using e)
    rwa [show i + 1 - 1 - (j + 1) = i - 1 - j by omega]
section
variable {w : World} {z : Heap} {A : Around} {s : Shared} {base : Heap} {L : Addr} {m mg mb : Str → Option Value} {news : List (Addr × Obj)} {loose : List Str} {R : Result → Shared → Prop}
theorem along_ok {kt : Addr} {reg : List Bts} {val : Nat → Bts} {dflt : Bts} {c : UInt8} {t : Tok} (P : Inn w z A L base) (F : Fr base L s.heap m) (N : News base L s.heap news) (X : (frag w.params).In base) (T : TopRead topProg loose mg mb base) (hr : Rm 2 A)
    (K : KnownAt w news kt reg val dflt)
    (k : ∀ h' tk bt vs hs, Fr base L h' m → News base L h' ((bt, tupObj vs) :: news) → (∀ p ∈ news, p.1 < bt) → BVals vs hs → Along reg val c.toNat hs → R (.ok (.ret (.ref bt))) { s with heap := h', toks := tk }) :
    codeAny (model pw w) A (.call (.ref 281) ⟨[.ref kt, .bytes #[c] t], []⟩) R s := by
  refine enter (binds := [("known", .ref kt), ("key", .bytes #[c] t)]) P F N X T (by k_is) (by k_is) hr (BindsTo.of_eq rfl) rfl rfl ?_
  clear P F N X T
  intro g L' h₁ a1 a2 a3 a4 Q E F N X T P lt st hr' hQ hE hO
  repeat' ((fail_if_success (with_reducible show wpAny _ _ (pyIter _) _ _ _)); walk1)
  refine loop_range (n := 8) (L := L') hr'.2.2 rfl (by assumption) (by simp only [List.size_toArray, List.length_cons, List.length_nil]; decide) (by simp only [List.size_toArray, List.length_cons, List.length_nil]; decide) (by k_asm) (by rename News _ _ _ _ => N9; exact News.drop1 N9)
    (fun i m nw => m "known" = some (.ref kt) ∧ (∃ t, m "at" = some (.int (c.toNat : Int) t)) ∧
      ∃ rw vs hs ep, m "rows" = some (.ref rw) ∧ nw = (rw, listOf (List.toArray vs) ep) :: news ∧ (∀ p ∈ news, p.1 < rw) ∧ BVals vs hs ∧ hs.length = i ∧ ∀ j h, hs[j]? = some h → Nd reg val (i - 1 - j) (c.toNat / 2 ^ (i - 1 - j)) h) ?_ ?_ ?_
  · exact ⟨rfl, ⟨_, by show some (Value.int (0 * 256 + _) _) = _; rw [Int.zero_mul, Int.zero_add]⟩, _, [], [], 0, rfl, rfl, by (rename _ ∧ AllLt _ news => hA; exact allLt_mem hA.2), trivial, rfl, fun j h e => by simp at e⟩
  · rintro I i t0 m₁ nw h tk oI hi ⟨m1, ⟨t1, m2⟩, rw, vs, hs, ep, m3, rfl, hlt, bv, hl, hnd⟩ F₁ N₁ off lt2 Q' hQ'
    have hIl : @Ne Nat rw I := off _ (.head _)
    have hne : ∀ p ∈ news, p.1 ≠ rw := fun p hp => Nat.ne_of_lt (hlt p hp)
    have hvl := bv.length
    repeat' ((fail_if_success (with_reducible show wpAny _ _ (binaryOp .FloorDiv _ _) _ _ _)); walk1)
    refine ar_shr (i := i) (pow_eq i) (by omega) (fun t2 k2 => ?_)
    repeat' ((fail_if_success (with_reducible show wpAny _ _ (call (Value.builtin "list.insert") _) _ _ _)); walk1)
    refine kl_insert (its := vs.toArray) (l := _ :: vs) (by k_asm) (by k_asm) rfl (by cases vs <;> rfl) (by k_upd) (by show vs.length ≤ _; rw [sizeLine_eq]; omega) (fun h3 F3 N3 => ?_)
    repeat' walk1
    rename Nd reg val i _ _ => nd9
    refine' hQ' _ _ (TurnP.mk ?b1x1 ?b1x2 ?b1x3 ?b1x4)
    (case b1x1 => assumption)
    (case b1x2 => assumption)
    (case b1x3 => exact (fun p hp => (List.mem_cons.mp hp).elim (fun e => by subst e; exact hIl) (fun hp => off p (.tail _ hp))))
    exact ⟨by repeat (first | with_reducible exact lk_hit | refine' lk_skip (by decide) ?_ | assumption | exact rfl), ⟨_, by repeat (first | with_reducible exact lk_hit | refine' lk_skip (by decide) ?_ | assumption | exact rfl)⟩, _, _, _ :: hs, _, by repeat (first | with_reducible exact lk_hit | refine' lk_skip (by decide) ?_ | assumption | exact rfl), rfl, hlt, bv_cons bv, by rw [List.length_cons, hl], nd_cons (P := fun k h => Nd reg val k (c.toNat / 2 ^ k) h) hnd nd9⟩
  · rintro m₁ nw h tk ⟨m1, ⟨t1, m2⟩, rw, vs, hs, ep, m3, rfl, hlt, bv, hl, hnd⟩ F₁ N₁
    have hvl := bv.length
    repeat' ((fail_if_success (with_reducible show wpAny _ _ (call (Value.type "tuple") _) _ _ _)); walk1)
    refine kde_tupleOf (zs := vs) (by k_asm) (by k_asm) (News.isList (by k_asm) (.head _)) (by simp only [List.size_toArray]; omega) rfl (fun D' h' F' N' l1 => ?_)
    (try dsimp only)
    repeat' walk1
    exact hQ _ _ (leaveK_ F' N' fun kF kN => k _ _ _ _ hs kF (fun p hp => kN p (by
      rcases List.mem_cons.mp hp with rfl | hp
      · exact .head _
      · exact .tail _ (.tail _ hp))) (fun p hp => l1 p (.tail _ hp)) bv ⟨hl, hnd⟩)
end

theorem sib_int (p : Nat) : ((p : Int).fmod 2 = 0 → (p : Int) + 1 = ((sib p : Nat) : Int)) ∧ ((p : Int).fmod 2 ≠ 0 → (p : Int) - 1 = ((sib p : Nat) : Int)) := by
  rw [Int.fmod_eq_emod_of_nonneg _ (by decide)]
  unfold sib
  constructor
  · intro h; rw [if_pos (by omega)]; omega
  · intro h; rw [if_neg (by omega)]; omega
section
variable {w : World} {z : Heap} {A : Around} {s : Shared} {base : Heap} {L : Addr} {m mg mb : Str → Option Value} {news : List (Addr × Obj)} {loose : List Str} {R : Result → Shared → Prop}
theorem beside_ok {kt : Addr} {reg : List Bts} {val : Nat → Bts} {dflt : Bts} {c : UInt8} {t : Tok} (P : Inn w z A L base) (F : Fr base L s.heap m) (N : News base L s.heap news) (X : (frag w.params).In base) (T : TopRead topProg loose mg mb base) (hr : Rm 2 A)
    (K : KnownAt w news kt reg val dflt)
    (k : ∀ h' tk bt vs hs, Fr base L h' m → News base L h' ((bt, tupObj vs) :: news) → (∀ p ∈ news, p.1 < bt) → BVals vs hs → Sibs reg val c.toNat hs → R (.ok (.ret (.ref bt))) { s with heap := h', toks := tk }) :
    codeAny (model pw w) A (.call (.ref 274) ⟨[.ref kt, .bytes #[c] t], []⟩) R s := by
  refine enter (binds := [("known", .ref kt), ("key", .bytes #[c] t)]) P F N X T (by k_is) (by k_is) hr (BindsTo.of_eq rfl) rfl rfl ?_
  clear P F N X T
  intro g L' h₁ a1 a2 a3 a4 Q E F N X T P lt st hr' hQ hE hO
  repeat' ((fail_if_success (with_reducible show wpAny _ _ (pyIter _) _ _ _)); walk1)
  refine loop_range (n := 8) (L := L') hr'.2.2 rfl (by assumption) (by simp only [List.size_toArray, List.length_cons, List.length_nil]; decide) (by simp only [List.size_toArray, List.length_cons, List.length_nil]; decide) (by k_asm) (by rename News _ _ _ _ => N9; exact News.drop1 N9)
    (fun i m nw => m "known" = some (.ref kt) ∧ (∃ t, m "at" = some (.int (c.toNat : Int) t)) ∧
      ∃ rw vs hs ep, m "rows" = some (.ref rw) ∧ nw = (rw, listOf (List.toArray vs) ep) :: news ∧ (∀ p ∈ news, p.1 < rw) ∧ BVals vs hs ∧ hs.length = i ∧ ∀ j h, hs[j]? = some h → Nd reg val (i - 1 - j) (sib (c.toNat / 2 ^ (i - 1 - j))) h) ?_ ?_ ?_
  · exact ⟨rfl, ⟨_, by show some (Value.int (0 * 256 + _) _) = _; rw [Int.zero_mul, Int.zero_add]⟩, _, [], [], 0, rfl, rfl, by (rename _ ∧ AllLt _ news => hA; exact allLt_mem hA.2), trivial, rfl, fun j h e => by simp at e⟩
  · rintro I i t0 m₁ nw h tk oI hi ⟨m1, ⟨t1, m2⟩, rw, vs, hs, ep, m3, rfl, hlt, bv, hl, hnd⟩ F₁ N₁ off lt2 Q' hQ'
    have hIl : @Ne Nat rw I := off _ (.head _)
    have hne : ∀ p ∈ news, p.1 ≠ rw := fun p hp => Nat.ne_of_lt (hlt p hp)
    have hvl := bv.length
    repeat' ((fail_if_success (with_reducible show wpAny _ _ (binaryOp .FloorDiv _ _) _ _ _)); walk1)
    refine ar_shr (i := i) (pow_eq i) (by omega) (fun t2 k2 => ?_)
    have si := sib_int (c.toNat / 2 ^ i)
    repeat' ((fail_if_success (with_reducible show wpAny _ _ (call (Value.ref 267) _) _ _ _)); walk1)
    · have e1 := si.1 (by assumption)
      repeat' ((fail_if_success (with_reducible show wpAny _ _ (call (Value.builtin "list.insert") _) _ _ _)); walk1)
      refine kl_insert (its := vs.toArray) (l := _ :: vs) (by k_asm) (by k_asm) rfl (by cases vs <;> rfl) (by k_upd) (by show vs.length ≤ _; rw [sizeLine_eq]; omega) (fun h3 F3 N3 => ?_)
      repeat' walk1
      rename Nd reg val i _ _ => nd9
      refine' hQ' _ _ (TurnP.mk ?b1x1 ?b1x2 ?b1x3 ?b1x4)
      (case b1x1 => assumption)
      (case b1x2 => assumption)
      (case b1x3 => exact (fun p hp => (List.mem_cons.mp hp).elim (fun e => by subst e; exact hIl) (fun hp => off p (.tail _ hp))))
      exact ⟨by repeat (first | with_reducible exact lk_hit | refine' lk_skip (by decide) ?_ | assumption | exact rfl), ⟨_, by repeat (first | with_reducible exact lk_hit | refine' lk_skip (by decide) ?_ | assumption | exact rfl)⟩, _, _, _ :: hs, _, by repeat (first | with_reducible exact lk_hit | refine' lk_skip (by decide) ?_ | assumption | exact rfl), rfl, hlt, bv_cons bv, by rw [List.length_cons, hl], nd_cons (P := fun k h => Nd reg val k (sib (c.toNat / 2 ^ k)) h) hnd nd9⟩
    · have e1 := si.2 (by assumption)
      repeat' ((fail_if_success (with_reducible show wpAny _ _ (call (Value.builtin "list.insert") _) _ _ _)); walk1)
      refine kl_insert (its := vs.toArray) (l := _ :: vs) (by k_asm) (by k_asm) rfl (by cases vs <;> rfl) (by k_upd) (by show vs.length ≤ _; rw [sizeLine_eq]; omega) (fun h3 F3 N3 => ?_)
      repeat' walk1
      rename Nd reg val i _ _ => nd9
      refine' hQ' _ _ (TurnP.mk ?b2x1 ?b2x2 ?b2x3 ?b2x4)
      (case b2x1 => assumption)
      (case b2x2 => assumption)
      (case b2x3 => exact (fun p hp => (List.mem_cons.mp hp).elim (fun e => by subst e; exact hIl) (fun hp => off p (.tail _ hp))))
      exact ⟨by repeat (first | with_reducible exact lk_hit | refine' lk_skip (by decide) ?_ | assumption | exact rfl), ⟨_, by repeat (first | with_reducible exact lk_hit | refine' lk_skip (by decide) ?_ | assumption | exact rfl)⟩, _, _, _ :: hs, _, by repeat (first | with_reducible exact lk_hit | refine' lk_skip (by decide) ?_ | assumption | exact rfl), rfl, hlt, bv_cons bv, by rw [List.length_cons, hl], nd_cons (P := fun k h => Nd reg val k (sib (c.toNat / 2 ^ k)) h) hnd nd9⟩
  · rintro m₁ nw h tk ⟨m1, ⟨t1, m2⟩, rw, vs, hs, ep, m3, rfl, hlt, bv, hl, hnd⟩ F₁ N₁
    have hvl := bv.length
    repeat' ((fail_if_success (with_reducible show wpAny _ _ (call (Value.type "tuple") _) _ _ _)); walk1)
    refine kde_tupleOf (zs := vs) (by k_asm) (by k_asm) (News.isList (by k_asm) (.head _)) (by simp only [List.size_toArray]; omega) rfl (fun D' h' F' N' l1 => ?_)
    (try dsimp only)
    repeat' walk1
    exact hQ _ _ (leaveK_ F' N' fun kF kN => k _ _ _ _ hs kF (fun p hp => kN p (by
      rcases List.mem_cons.mp hp with rfl | hp
      · exact .head _
      · exact .tail _ (.tail _ hp))) (fun p hp => l1 p (.tail _ hp)) bv ⟨hl, hnd⟩)
end

theorem lookB_get {K : Type} [DecidableEq K] : ∀ {l : List (K × Bts)} {i : Nat} {k : K} {v : Bts}, (l.map (·.1)).Nodup → l[i]? = some (k, v) → lookB l k = some v
  | [], i, k, v, _, e => by simp at e
  | q :: l, 0, k, v, nd, e => by
    obtain rfl := Option.some.inj e
    unfold lookB; simp
  | q :: l, i + 1, k, v, nd, e => by
    have e' : l[i]? = some (k, v) := by simpa using e
    rw [List.map_cons, List.nodup_cons] at nd
    have ih := lookB_get nd.2 e'
    have hm : k ∈ l.map (·.1) := List.mem_map.mpr ⟨(k, v), List.mem_of_getElem? e', rfl⟩
    have : ¬ q.1 = k := fun z => nd.1 (z ▸ hm)
    unfold lookB at ih ⊢
    rw [List.find?_cons_of_neg (by simpa using this)]
    exact ih
theorem UpdF.app {d : Addr} {o : Obj} {l : List (Addr × Obj)} {g : Obj → List (Addr × Obj)} (U : UpdF d o l g) : ∀ {dl : List (Addr × Obj)}, (∀ p ∈ dl, p.1 ≠ d) → UpdF d o (dl ++ l) (fun o => dl ++ g o)
  | [], _ => U
  | _ :: dl, h => .tail (h _ (.head _)) (UpdF.app U fun p hp => h p (.tail _ hp))
theorem emp_snoc {es : List Value} {i n : Nat} {reg reg' : List Bts} {dflt e x : Bts} {t tx : Tok} (hel : es.length = i + 1) (hem : ∀ j, j ≤ i → ∃ e t, es[j]? = some (.bytes e t) ∧ Emp reg dflt j e) (g : Grow n reg reg') (he : es[i]? = some (.bytes e t)) (hs : Hs reg' (e ++ e) x) :
    ∀ j, j ≤ i + 1 → ∃ e t, (es ++ [.bytes x tx])[j]? = some (.bytes e t) ∧ Emp reg' dflt j e := by
  intro j hj
  rcases Nat.lt_or_ge j (i + 1) with z | z
  · obtain ⟨e', t', a, b⟩ := hem j (by omega)
    exact ⟨e', t', by rw [List.getElem?_append_left (by omega)]; exact a, b.grow g⟩
  · obtain rfl : j = i + 1 := by omega
    refine ⟨x, tx, by rw [List.getElem?_append_right (by omega), hel]; simp, ?_⟩
    obtain ⟨e', t', a, b⟩ := hem i (Nat.le_refl _)
    rw [he] at a
    have : e = e' := by injection (Option.some.inj a)
    subst this
    exact b.succ g hs
/-- the empty nodes of every height, in a list -/
def Emps (reg : List Bts) (dflt : Bts) (es : List Value) : Prop := ∀ j, j ≤ 8 → ∃ e t, es[j]? = some (.bytes e t) ∧ Emp reg dflt j e
theorem Emps.grow {reg reg' : List Bts} {dflt : Bts} {es : List Value} {n : Nat} (h : Emps reg dflt es) (g : Grow n reg reg') : Emps reg' dflt es := fun j hj => let ⟨e, t, a, b⟩ := h j hj; ⟨e, t, a, b.grow g⟩
/-- the levels told so far, as dicts -/
def Lvls (w : World) (reg : List Bts) (val : Nat → Bts) (dflt : Bts) (dl : List (Addr × Obj)) (refs : List Value) (i : Nat) : Prop :=
  refs.length = i + 1 ∧ ∀ j, j ≤ i → ∃ a o ll, refs[j]? = some (.ref a) ∧ (a, o) ∈ dl ∧ (a == sysModules) = false ∧ BDict (intKind pw w) o ll ∧ ll.length ≤ 7 ∧ Lv reg val dflt j ll
theorem Lvls.grow {w : World} {reg reg' : List Bts} {val : Nat → Bts} {dflt : Bts} {dl : List (Addr × Obj)} {refs : List Value} {i n : Nat} (h : Lvls w reg val dflt dl refs i) (g : Grow n reg reg') : Lvls w reg' val dflt dl refs i :=
  ⟨h.1, fun j hj => let ⟨a, o, ll, h1, h2, h3, h4, h5, h6⟩ := h.2 j hj; ⟨a, o, ll, h1, h2, h3, h4, h5, h6.grow g⟩⟩
theorem Lvls.add {w : World} {reg : List Bts} {val : Nat → Bts} {dflt : Bts} {dl : List (Addr × Obj)} {refs : List Value} {i : Nat} {a : Addr} {o : Obj} {ll : List (Int × Bts)} (h : Lvls w reg val dflt dl refs i) (h3 : (a == sysModules) = false) (h4 : BDict (intKind pw w) o ll) (h5 : ll.length ≤ 7) (h6 : Lv reg val dflt (i + 1) ll) :
    Lvls w reg val dflt ((a, o) :: dl) (refs ++ [.ref a]) (i + 1) := by
  refine ⟨by rw [List.length_append, h.1]; rfl, fun j hj => ?_⟩
  rcases Nat.lt_or_ge j (i + 1) with z | z
  · obtain ⟨a', o', ll', h1, h2, r⟩ := h.2 j (by omega)
    exact ⟨a', o', ll', by rw [List.getElem?_append_left (by rw [h.1]; exact z)]; exact h1, .tail _ h2, r⟩
  · obtain rfl : j = i + 1 := by omega
    exact ⟨a, o, ll, by rw [List.getElem?_append_right (by rw [h.1]; omega), h.1]; simp, .head _, h3, h4, h5, h6⟩
theorem off_cons {a I : Addr} {o : Obj} {l : List (Addr × Obj)} (h : @Ne Nat a I) (t : ∀ p ∈ l, p.1 ≠ I) : ∀ p ∈ (a, o) :: l, p.1 ≠ I := fun p hp => (List.mem_cons.mp hp).elim (fun e => by subst e; exact h) (t p)
theorem perm3 {a b c : Addr × Obj} {l : List (Addr × Obj)} : ∀ p ∈ b :: c :: a :: l, p ∈ a :: b :: c :: l := fun p hp => by
  rcases List.mem_cons.mp hp with rfl | hp
  · exact .tail _ (.head _)
  rcases List.mem_cons.mp hp with rfl | hp
  · exact .tail _ (.tail _ (.head _))
  rcases List.mem_cons.mp hp with rfl | hp
  · exact .head _
  exact .tail _ (.tail _ (.tail _ hp))
theorem ik_shape {w : World} {k : Int} {v : Value} (h : (intKind pw w).is k v = true) : ∃ t, v = .int k t := by
  cases v <;> simp [intKind, Value.isInt] at h
  exact ⟨_, by rw [h]⟩
section
variable {w : World} {z : Heap} {A : Around} {s : Shared} {base : Heap} {L : Addr} {m mg mb : Str → Option Value} {loose : List Str} {R : Result → Shared → Prop}
theorem levels_ok {ha hf Rg : Addr} {o oh : Obj} {reg : List Bts} {val : Nat → Bts} {dflt : Bts} {hl : List (Bts × Bts)} {gg : Obj → List (Addr × Obj)} {t u : Tok} (P : Inn w z A L base) (F : Fr base L s.heap m) (N : News base L s.heap (gg o)) (X : (frag w.params).In base) (T : TopRead topProg loose mg mb base) (hr : Rm 2 A)
    (H : HashG base hf Rg) (U : UpdF Rg o (gg o) gg) (B : RegOf w o reg) (small : reg.length ≤ 8800) (hh : In1 (ha, oh) gg) (hlo : (ha == sysModules) = false) (BH : BDict (bkind w) oh hl) (HO : HeldOk hl val dflt) (hl7 : hl.length ≤ 7)
    (k : ∀ h' tk o' reg' kt kl, Fr base L h' m → News base L h' (kl ++ gg o') → RegOf w o' reg' → Grow 100 reg reg' → KnownAt w kl kt reg' val dflt → (∀ p ∈ kl, OffAll p.1 gg) → R (.ok (.ret (.ref kt))) { s with heap := h', toks := tk }) :
    codeAny (model pw w) A (.call (.ref 260) ⟨[.ref ha, .int 8 t, .bytes dflt u, .ref hf], []⟩) R s := by
  refine enter (binds := [("held", .ref ha), ("depth", .int 8 t), ("default", .bytes dflt u), ("hash_of", .ref hf)]) P F N X T (by k_is) (by k_is) hr (BindsTo.of_eq rfl) rfl rfl ?_
  clear P F N X T
  intro g L' h₁ a1 a2 a3 a4 Q E F N X T P lt st hr' hQ hE hO
  have H := H.keeps st
  repeat' ((fail_if_success (with_reducible show wpAny _ _ (pyIter _) _ _ _)); walk1)
  rename Grow 1 reg _ => G1
  rename Hs _ dflt _ => S1
  rename RegOf w _ _ => B1
  rename ∀ p ∈ gg _, _ < _ => lE
  refine loop_range (n := 8) (L := L') hr'.2.2 rfl (by assumption) (by decide) (by decide) (by k_asm) (by k_asm)
    (fun i m nw => m "held" = some (.ref ha) ∧ m "hash_of" = some (.ref hf) ∧ (∃ t, m "depth" = some (.int 8 t)) ∧ ∃ el es ep o' reg', m "empty" = some (.ref el) ∧ nw = (el, listOf (List.toArray es) ep) :: gg o' ∧ RegOf w o' reg' ∧ Grow (i + 1) reg reg' ∧ OffAll el gg ∧ es.length = i + 1 ∧
      ∀ j, j ≤ i → ∃ e t, es[j]? = some (.bytes e t) ∧ Emp reg' dflt j e) ?_ ?_ ?_
  · refine ⟨rfl, rfl, ⟨_, rfl⟩, _, [_], 0, _, _, rfl, rfl, B1, G1, OffAll.of (UpdF.again U _) (fun p hp => Nat.ne_of_lt (lE p hp)), rfl, fun j hj => ?_⟩
    obtain rfl : j = 0 := by omega
    exact ⟨_, _, rfl, Emp.zero S1⟩
  · clear lE
    rintro I i t0 m₁ nw h tk oI hi ⟨m1, m2, ⟨td, m3⟩, el, es, ep, o', reg', m4, rfl, B', G', oE, hel, hem⟩ F₁ N₁ off lt2 Q' hQ'
    obtain ⟨e, te, he1, he2⟩ := hem i (Nat.le_refl _)
    have hez := he2.size
    have hIe : @Ne Nat el I := off _ (.head _)
    have U' := UpdF.again U o'
    have hRI : @Ne Nat Rg I := off _ (.tail _ (UpdF.mem U'))
    have hRe : @Ne Nat Rg el := oE o' _ (UpdF.mem U')
    have oI := OffAll.of U' (fun p hp => off p (.tail _ hp))
    have hgl := G'.len
    repeat' ((fail_if_success (with_reducible show wpAny _ _ (subscriptTail _ _ _ _) _ _ _)); walk1)
    refine list_item (i := i) (by k_asm) (.tail _ (.head _)) (Int.zero_add _) he1 (by omega) ?_ (by with_unfolding_all rfl)
    repeat' ((fail_if_success (with_reducible show wpAny _ _ (subscriptTail _ _ _ _) _ _ _)); walk1)
    refine list_item (i := i) (by k_asm) (.tail _ (.head _)) (Int.zero_add _) he1 (by omega) ?_ (by with_unfolding_all rfl)
    repeat' walk1
    rename Grow 1 reg' _ => G2
    rename Hs _ (e ++ e) _ => S2
    rename RegOf w _ _ => B2
    exact hQ' _ _ (TurnP.mk (by assumption) (by assumption) (fun p hp => (List.mem_cons.mp hp).elim (fun q => by subst q; exact hIe) (fun hp => oI _ p hp)) ⟨by repeat (first | with_reducible exact lk_hit | refine' lk_skip (by decide) ?_ | assumption | exact rfl), by repeat (first | with_reducible exact lk_hit | refine' lk_skip (by decide) ?_ | assumption | exact rfl), ⟨_, by repeat (first | with_reducible exact lk_hit | refine' lk_skip (by decide) ?_ | assumption | exact rfl)⟩, _, es ++ [_], _, _, _, by repeat (first | with_reducible exact lk_hit | refine' lk_skip (by decide) ?_ | assumption | exact rfl), by rw [List.push_toArray], B2, G'.trans G2, oE, by rw [List.length_append, hel]; rfl, emp_snoc hel hem G2 he1 S2⟩)
  · clear lE
    rintro m₁ nw h tk ⟨m1, m2, ⟨td, m3⟩, el, es, ep, o', reg', m4, rfl, B', G', oE, hel, hem⟩ F₁ N₁
    have hkn := BH.nodup
    have hRe : @Ne Nat Rg el := oE o' _ (UpdF.mem (UpdF.again U o'))
    repeat' ((fail_if_success (with_reducible show wpAny _ _ (exec (Stmt.For _ _ _ _ _) _) _ _ _)); walk1)
    rename Obj.IsDictOf (strKind _ _) _ [] => hs0
    rename Obj.IsDictOf (intKind _ _) _ [] => hi0
    rename _ ∧ AllLt _ (gg _) => lD
    rename (_ == sysModules) = false => hlo0
    have oD := OffAll.of (UpdF.again U o') (allLt_ne lD.2)
    have hed : @Ne Nat el _ := Nat.ne_of_lt lD.1
    clear hs0
    refine For_invV g rfl rfl ?_ (by intro _; rfl) hO
    repeat' ((fail_if_success (with_reducible show wpAny _ _ (pyIter _) _ _ _)); walk1)
    refine loop_dict (L := L') hr'.2.2 rfl BH hlo (by k_asm) (by k_asm) (.tail _ (.tail _ (hh _)))
      (fun i m nw => m "hash_of" = some (.ref hf) ∧ m "held" = some (.ref ha) ∧ (∃ t, m "depth" = some (.int 8 t)) ∧ m "empty" = some (.ref el) ∧ ∃ d0 od al o' reg', m "level" = some (.ref d0) ∧ nw = (d0, od) :: (el, listOf (List.toArray es) ep) :: gg o' ∧ RegOf w o' reg' ∧ Grow (9 + i) reg reg' ∧ OffAll d0 gg ∧ @Ne Nat el d0 ∧ (d0 == sysModules) = false ∧
        BDict (intKind pw w) od al ∧ al.length ≤ i ∧ Lf reg' val hl al i ∧ ∀ j, j ≤ 8 → ∃ e t, es[j]? = some (.bytes e t) ∧ Emp reg' dflt j e) ?_ ?_ ?_ ?_
    · exact ⟨by repeat (first | with_reducible exact lk_hit | refine' lk_skip (by decide) ?_ | assumption | exact rfl), by repeat (first | with_reducible exact lk_hit | refine' lk_skip (by decide) ?_ | assumption | exact rfl), ⟨_, by repeat (first | with_reducible exact lk_hit | refine' lk_skip (by decide) ?_ | assumption | exact rfl)⟩, by repeat (first | with_reducible exact lk_hit | refine' lk_skip (by decide) ?_ | assumption | exact rfl), _, _, [], o', reg', rfl, rfl, B', G', oD, hed, hlo0, BDict.nil hi0, Nat.le_refl _, Lf.nil, hem⟩
    · rintro i m nw ⟨_, _, _, _, d0, od, al, o', reg', _, rfl, _⟩
      exact .tail _ (.tail _ (hh _))
    · clear lD hi0 hed oD B' G' hem hlo0
      rintro I i kk v0 y m₁ nw h tk oI hi hv0 ⟨m1, m2, ⟨td, m3⟩, m4, d0, od, al, o', reg', m5, rfl, B', G', oD, hed, hlo0, BD, hal, LF, hem⟩ F₁ N₁ off lt2 Q' hQ'
      have hlk := lookB_get hkn hi
      obtain ⟨c, rfl, hvc⟩ := HO.key _ _ hlk
      obtain ⟨tc, rfl⟩ := isB_shape hv0
      have hlt : i < hl.length := (List.getElem?_eq_some_iff.mp hi).1
      have hId : @Ne Nat d0 I := off _ (.head _)
      have hIe : @Ne Nat el I := off _ (.tail _ (.head _))
      have U' := UpdF.again U o'
      have hRI : @Ne Nat Rg I := off _ (.tail _ (.tail _ (UpdF.mem U')))
      have hRd : @Ne Nat Rg d0 := oD o' _ (UpdF.mem U')
      have oI := OffAll.of U' (fun p hp => off p (.tail _ (.tail _ hp)))
      have hgl := G'.len
      have hha : (ha, oh) ∈ gg o' := hh _
      repeat' walk1
      rw [Int.zero_mul, Int.zero_add]
      rename Grow 1 reg' _ => G2
      rename Hs _ _ _ => S2
      rename RegOf w _ _ => B2
      refine b_set (knd := intKind _ _) (by k_asm) (by k_asm) (by k_updF) BD (ik_is _ _ _) (by omega) (fun h3 o3 F3 N3 B3 => ?_)
      repeat' walk1
      exact hQ' _ _ (TurnP.mk F3 (fun p hp => N3 p (.tail _ hp)) (fun p hp => (List.mem_cons.mp hp).elim (fun q => by subst q; exact hId) (fun hp => (List.mem_cons.mp hp).elim (fun q => by subst q; exact hIe) (fun hp => oI _ p hp)))
        ⟨by repeat (first | with_reducible exact lk_hit | refine' lk_skip (by decide) ?_ | assumption | exact rfl), by repeat (first | with_reducible exact lk_hit | refine' lk_skip (by decide) ?_ | assumption | exact rfl), ⟨_, by repeat (first | with_reducible exact lk_hit | refine' lk_skip (by decide) ?_ | assumption | exact rfl)⟩, by repeat (first | with_reducible exact lk_hit | refine' lk_skip (by decide) ?_ | assumption | exact rfl), d0, o3, _, _, _, by repeat (first | with_reducible exact lk_hit | refine' lk_skip (by decide) ?_ | assumption | exact rfl), rfl, B2, G'.trans G2, oD, hed, hlo0, B3, Nat.le_trans (putB_length _ _ _) (Nat.succ_le_succ hal), LF.add G2 hi hvc S2, fun j hj => let ⟨e, t, a, b⟩ := hem j hj; ⟨e, t, a, b.grow G2⟩⟩)
    · clear lD hi0 hed oD B' G' hem hlo0
      rintro m₁ nw h tk ⟨m1, m2, ⟨td, m3⟩, m4, d0, od, al, o', reg', m5, rfl, B', G', oD, hed, hlo0, BD, hal, LF, hem⟩ F₁ N₁
      have LV := LF.done HO
      have U' := UpdF.again U o'
      have hRd : @Ne Nat Rg d0 := oD o' _ (UpdF.mem U')
      repeat' ((fail_if_success (with_reducible show wpAny _ _ (exec (Stmt.For _ _ _ _ _) _) _ _ _)); walk1)
      rename _ ∧ _ ∧ AllLt _ (gg _) => lV
      have oV := OffAll.of U' (allLt_ne lV.2.2)
      have hdv : @Ne Nat d0 _ := Nat.ne_of_lt lV.1
      have hev : @Ne Nat el _ := Nat.ne_of_lt lV.2.1
      have oE' := oE
      clear lV
      refine For_invV g rfl rfl ?_ (by intro _; rfl) hO
      repeat' ((fail_if_success (with_reducible show wpAny _ _ (pyIter _) _ _ _)); walk1)
      rename_i lv _ _ _ _ _ _ _ _ _ _ _ _
      refine loop_range (n := 8) (L := L') hr'.2.2 rfl (by assumption) (by decide) (by decide) (by k_asm) (by k_asm)
        (fun i m nw => m "hash_of" = some (.ref hf) ∧ m "empty" = some (.ref el) ∧ ∃ lv dl refs ep2 o' reg', m "levels" = some (.ref lv) ∧ nw = (lv, listOf (List.toArray refs) ep2) :: (dl ++ gg o') ∧ RegOf w o' reg' ∧ Grow (16 + 7 * i) reg reg' ∧ (el, listOf (List.toArray es) ep) ∈ dl ∧ (∀ p ∈ dl, OffAll p.1 gg) ∧ OffAll lv gg ∧ (∀ p ∈ dl, p.1 ≠ lv) ∧
          (∃ a, refs[i]? = some (.ref a) ∧ m "level" = some (.ref a)) ∧ Lvls w reg' val dflt dl refs i ∧ Emps reg' dflt es) ?_ ?_ ?_
      · refine ⟨by repeat (first | with_reducible exact lk_hit | refine' lk_skip (by decide) ?_ | assumption | exact rfl), by repeat (first | with_reducible exact lk_hit | refine' lk_skip (by decide) ?_ | assumption | exact rfl), _, [(d0, od), (el, listOf (List.toArray es) ep)], [.ref d0], 0, o', reg', rfl, rfl, B', G'.le (by omega), .tail _ (.head _), ?_, oV, ?_, ⟨d0, rfl, by repeat (first | with_reducible exact lk_hit | refine' lk_skip (by decide) ?_ | assumption | exact rfl)⟩, ⟨rfl, ?_⟩, hem⟩
        · intro p hp
          rcases List.mem_cons.mp hp with rfl | hp
          · exact oD
          · rw [List.mem_singleton.mp hp]; exact oE'
        · intro p hp
          rcases List.mem_cons.mp hp with rfl | hp
          · exact hdv
          · rw [List.mem_singleton.mp hp]; exact hev
        · intro j hj
          obtain rfl : j = 0 := by omega
          exact ⟨d0, od, al, rfl, .head _, hlo0, BD, by omega, LV⟩
      · clear hem LV LF BD B' G' oD oE' hed hdv hev oV hlo0 hRd U'
        rintro I i t0 m₁ nw h tk oI_ hi ⟨m1, m4, lv, dl, refs, ep2, o', reg', m5, rfl, B', G', hel2, odl, oV, dlv, ⟨a, hra, m6⟩, LL, EE⟩ F₁ N₁ off lt2 Q' hQ'
        obtain ⟨a', oa, ll, hra', hma, hla, BA, hll, LV⟩ := LL.2 i (Nat.le_refl _)
        obtain rfl : a = a' := by rw [hra] at hra'; injection (Option.some.inj hra')
        have hIv : @Ne Nat lv I := off _ (.head _)
        have U' := UpdF.again U o'
        have odR : ∀ p ∈ dl, p.1 ≠ Rg := fun p hp e => odl p hp o' _ (UpdF.mem U') e.symm
        have U2 := UpdF.app U' odR
        have hRv : @Ne Nat Rg lv := oV o' _ (UpdF.mem U')
        have hRI : @Ne Nat Rg I := off _ (.tail _ (UpdF.mem U2))
        have offd : ∀ p ∈ dl, p.1 ≠ I := fun p hp => off p (.tail _ (List.mem_append_left _ hp))
        have oI := OffAll.of U' (fun p hp => off p (.tail _ (List.mem_append_right _ hp)))
        repeat' ((fail_if_success (with_reducible show wpAny _ _ (exec (Stmt.For _ _ _ _ _) _) _ _ _)); walk1)
        rename Obj.IsDictOf (intKind _ _) _ [] => hi0
        rename _ ∧ _ ∧ AllLt _ (dl ++ gg _) => lD
        rename (_ == sysModules) = false => hlo0
        rename_i ab _ oab0 _ _ _ _ _ _
        have oab := OffAll.of U2 (allLt_ne lD.2.2)
        have hIa : @Ne Nat I ab := Nat.ne_of_lt lD.1
        have hva : @Ne Nat lv ab := Nat.ne_of_lt lD.2.1
        have hRa : @Ne Nat Rg ab := oab o' _ (UpdF.mem U2)
        clear lD
        refine For_invV g rfl rfl ?_ (by intro _; rfl) hO
        repeat' ((fail_if_success (with_reducible show wpAny _ _ (pyIter _) _ _ _)); walk1)
        have hkn2 := BA.nodup
        refine loop_dict (L := L') hr'.2.2 rfl BA hla (by k_asm) (by k_asm) (.tail _ (.tail _ (.tail _ (List.mem_append_left _ hma))))
          (fun j m nw => m "hash_of" = some (.ref hf) ∧ m "empty" = some (.ref el) ∧ m "levels" = some (.ref lv) ∧ m "level" = some (.ref a) ∧ m "above" = some (.ref ab) ∧ (∃ t, m "k" = some (.int (0 + (i : Int)) t)) ∧ ∃ oab al o'' reg'', nw = (ab, oab) :: (I, oI_) :: (lv, listOf (List.toArray refs) ep2) :: (dl ++ gg o'') ∧ RegOf w o'' reg'' ∧ Grow j reg' reg'' ∧
            BDict (intKind pw w) oab al ∧ al.length ≤ j ∧ Lup reg'' val i ll al j) ?_ ?_ ?_ ?_
        · exact ⟨by repeat (first | with_reducible exact lk_hit | refine' lk_skip (by decide) ?_ | assumption | exact rfl), by repeat (first | with_reducible exact lk_hit | refine' lk_skip (by decide) ?_ | assumption | exact rfl), by repeat (first | with_reducible exact lk_hit | refine' lk_skip (by decide) ?_ | assumption | exact rfl), by repeat (first | with_reducible exact lk_hit | refine' lk_skip (by decide) ?_ | assumption | exact rfl), by repeat (first | with_reducible exact lk_hit | refine' lk_skip (by decide) ?_ | assumption | exact rfl), ⟨_, by repeat (first | with_reducible exact lk_hit | refine' lk_skip (by decide) ?_ | assumption | exact rfl)⟩, _, [], o', reg', rfl, B', Grow.refl, BDict.nil hi0, Nat.le_refl _, Lup.nil⟩
        · rintro j m nw ⟨_, _, _, _, _, _, oab, al, o'', reg'', rfl, _⟩
          exact .tail _ (.tail _ (.tail _ (List.mem_append_left _ hma)))
        · clear hi0
          rintro I2 j kk v0 y m₁ nw h tk oI2 hj hv0 ⟨m1, m4, m5, m6, m7, ⟨tk0, m8⟩, oab1, al, o'', reg'', rfl, B'', G'', BD, hal, LU⟩ F₁ N₁ off2 lt3 Q'' hQ''
          have hlk := lookB_get hkn2 hj
          obtain ⟨q, rfl, hnq⟩ := LV.has _ _ hlk
          obtain ⟨tq, rfl⟩ := ik_shape hv0
          have hjl : j < ll.length := (List.getElem?_eq_some_iff.mp hj).1
          have e1 : (q : Int) - (q : Int).fmod 2 = ((q - q % 2 : Nat) : Int) := by rw [Int.fmod_eq_emod_of_nonneg _ (by decide)]; omega
          have hma2 : (a, oa) ∈ dl ++ gg o'' := List.mem_append_left _ hma
          have hel3 : (el, listOf (List.toArray es) ep) ∈ dl ++ gg o'' := List.mem_append_left _ hel2
          have U3 := UpdF.app (UpdF.again U o'') odR
          have hR2 : @Ne Nat Rg I2 := off2 _ (.tail _ (.tail _ (.tail _ (UpdF.mem U3))))
          have hI2a : @Ne Nat ab I2 := off2 _ (.head _)
          have hI2I : @Ne Nat I I2 := off2 _ (.tail _ (.head _))
          have hI2v : @Ne Nat lv I2 := off2 _ (.tail _ (.tail _ (.head _)))
          have hgl := G''.len
          have hgl1 := G'.len
          have off4 := UpdF.off U3 (fun p hp => off2 p (.tail _ (.tail _ (.tail _ hp))))
          obtain ⟨e, te, he1, he2⟩ := EE i (by omega)
          have he3 := he2.grow G''
          have LV3 := LV.grow G''
          have n1 := LV3.node he3 (q - q % 2)
          have n2 := LV3.node he3 (q - q % 2 + 1)
          have s1 := n1.size
          have s2 := n2.size
          have e3 : ((q - q % 2 : Nat) : Int) + 1 = ((q - q % 2 + 1 : Nat) : Int) := by omega
          have e4 : (q : Int).fdiv 2 = ((q / 2 : Nat) : Int) := by rw [Int.fdiv_eq_ediv_of_nonneg _ (by decide)]; omega
          rw [← e3] at n2 s2
          repeat' ((fail_if_success (with_reducible show wpAny _ _ (storeName _ _ _) _ _ _)); walk1)
          rw [e1]
          repeat' ((fail_if_success (with_reducible show wpAny _ _ (subscriptTail _ _ _ _) _ _ _)); walk1)
          rotate_left
          · rename lookB ll _ = some _ => hsome
            rename (q : Int) ≠ _ => hne
            exact hQ'' _ _ (TurnP.mk (by assumption) (by assumption) (off_cons hI2a (off_cons hI2I (off_cons hI2v (off4 _)))) ⟨by repeat (first | with_reducible exact lk_hit | refine' lk_skip (by decide) ?_ | assumption | exact rfl), by repeat (first | with_reducible exact lk_hit | refine' lk_skip (by decide) ?_ | assumption | exact rfl), by repeat (first | with_reducible exact lk_hit | refine' lk_skip (by decide) ?_ | assumption | exact rfl), by repeat (first | with_reducible exact lk_hit | refine' lk_skip (by decide) ?_ | assumption | exact rfl), by repeat (first | with_reducible exact lk_hit | refine' lk_skip (by decide) ?_ | assumption | exact rfl), ⟨_, by repeat (first | with_reducible exact lk_hit | refine' lk_skip (by decide) ?_ | assumption | exact rfl)⟩, _, _, _, _, rfl, B'', G''.le (Nat.le_succ _), BD, Nat.le_succ_of_le hal, LU.skip hj (fun z => hne (by omega)) (by rw [hsome]; exact Option.some_ne_none _)⟩)
          all_goals
            refine list_item (i := i) (by k_asm) (.tail _ (.tail _ (.tail _ (.tail _ hel3)))) (Int.zero_add _) he1 (by omega) ?_ (by with_unfolding_all rfl)
            repeat' ((fail_if_success (with_reducible show wpAny _ _ (subscriptTail _ _ _ _) _ _ _)); walk1)
            refine list_item (i := i) (by k_asm) (.tail _ (.tail _ (.tail _ (.tail _ hel3)))) (Int.zero_add _) he1 (by omega) ?_ (by with_unfolding_all rfl)
            repeat' ((fail_if_success (with_reducible show wpAny _ _ (setItem _ _ _) _ _ _)); walk1)
            rw [e4]
            rename Grow 1 reg'' _ => G2
            rename Hs _ (_ ++ _) _ => S2
            rename RegOf w _ _ => B2
            have nd := Nd.succ (p := q / 2) (by rw [show 2 * (q / 2) = q - q % 2 by omega]; exact n1.grow G2) (by rw [show 2 * (q / 2) + 1 = q - q % 2 + 1 by omega]; exact n2.grow G2) S2
            refine b_set (knd := intKind _ _) (by k_asm) (by k_asm) (.tail (fun z => hI2a z.symm) (.head (off_cons hIa (off_cons hva (oab _))))) BD (ik_is _ _ _) (by omega) (fun h3 o3 F3 N3 B3 => ?_)
            repeat' walk1
            exact hQ'' _ _ (TurnP.mk F3 N3 (off_cons hI2a (off_cons hI2I (off_cons hI2v (off4 _)))) ⟨by repeat (first | with_reducible exact lk_hit | refine' lk_skip (by decide) ?_ | assumption | exact rfl), by repeat (first | with_reducible exact lk_hit | refine' lk_skip (by decide) ?_ | assumption | exact rfl), by repeat (first | with_reducible exact lk_hit | refine' lk_skip (by decide) ?_ | assumption | exact rfl), by repeat (first | with_reducible exact lk_hit | refine' lk_skip (by decide) ?_ | assumption | exact rfl), by repeat (first | with_reducible exact lk_hit | refine' lk_skip (by decide) ?_ | assumption | exact rfl), ⟨_, by repeat (first | with_reducible exact lk_hit | refine' lk_skip (by decide) ?_ | assumption | exact rfl)⟩, o3, _, _, _, rfl, B2, G''.trans G2, B3, Nat.le_trans (putB_length _ _ _) (Nat.succ_le_succ hal), LU.add G2 hj nd⟩)
        · clear hi0
          rintro m₁ nw h tk ⟨m1, m4, m5, m6, m7, ⟨tk0, m8⟩, oab1, al, o'', reg'', rfl, B'', G'', BD, hal, LU⟩ F₁ N₁
          have LV2 := LU.done (LV.grow G'')
          have hal7 : al.length ≤ 7 := Nat.le_trans hal hll
          have hrl : refs.length ≤ 100 := by rw [LL.1]; omega
          have offv : ∀ p ∈ dl ++ gg o'', p.1 ≠ lv := fun p hp => (List.mem_append.mp hp).elim (dlv p) (oV o'' p)
          have hva2 : @Ne Nat ab lv := fun z => hva z.symm
          repeat' walk1
          rename News _ _ _ (_ :: _ :: _ :: (dl ++ gg o'')) => N9
          rw [List.push_toArray] at N9
          exact hQ' _ _ (TurnP.mk (by assumption) (fun p hp => N9 p (perm3 p hp)) (off_cons hIv (off_cons (fun z => hIa z.symm) (fun p hp => (List.mem_append.mp hp).elim (offd p) (oI o'' p)))) ⟨by repeat (first | with_reducible exact lk_hit | refine' lk_skip (by decide) ?_ | assumption | exact rfl), by repeat (first | with_reducible exact lk_hit | refine' lk_skip (by decide) ?_ | assumption | exact rfl), lv, (ab, oab1) :: dl, refs ++ [.ref ab], _, o'', reg'', by repeat (first | with_reducible exact lk_hit | refine' lk_skip (by decide) ?_ | assumption | exact rfl), rfl, B'', (G'.trans G'').le (by omega), .tail _ hel2,
            fun p hp => (List.mem_cons.mp hp).elim (fun e => by subst e; exact fun o p hp => oab o p (List.mem_append_right _ hp)) (odl p), oV, off_cons hva2 dlv, ⟨ab, by rw [List.getElem?_append_right (by rw [LL.1]; omega), LL.1]; simp, by repeat (first | with_reducible exact lk_hit | refine' lk_skip (by decide) ?_ | assumption | exact rfl)⟩, (LL.grow G'').add hlo0 BD hal7 LV2, EE.grow G''⟩)
      · clear hem LV LF BD B' G' oD oE' hed hdv hev oV hlo0 hRd U'
        rintro m₁ nw h tk ⟨m1, m4, lv, dl, refs, ep2, o', reg', m5, rfl, B', G', hel2, odl, oV, dlv, _, LL, EE⟩ F₁ N₁
        have N10 : ∀ p ∈ gg o', p.1 < h.objs.size := fun p hp => Heap.lt_size (N₁ p (.tail _ (List.mem_append_right _ hp))).1
        repeat' walk1
        rename News _ _ _ _ => N9
        refine hQ _ _ (leaveK_ (by assumption) N9 fun kF kN => k _ _ o' reg' _ (_ :: (lv, listOf (List.toArray refs) ep2) :: dl) kF kN B' (G'.le (by omega)) ⟨el, lv, es, ep, refs, ep2, .head _, .tail _ (.tail _ hel2), .tail _ (.head _), hel, LL.1, fun j hj => ?_⟩ (fun p hp => ?_))
        · obtain ⟨a, o, ll, l1, l2, l3, l4, l5, l6⟩ := LL.2 j hj
          obtain ⟨e, te, e1, e2⟩ := EE j hj
          exact ⟨e, te, a, o, ll, e1, l1, .tail _ (.tail _ l2), l3, l4, l6, e2⟩
        · rcases List.mem_cons.mp hp with rfl | hp
          · exact OffAll.of (UpdF.again U o') fun p hp => Nat.ne_of_lt (N10 p hp)
          rcases List.mem_cons.mp hp with rfl | hp
          · exact oV
          · exact odl p hp
end

section
variable {w : World} {z : Heap} {A₀ A : Around} {s : Shared} {L a : Addr} {m mg mb : Str → Option Value} {mean : ExcName → Option Value} {news : List (Addr × Obj)} {loose : List Str} {cn : Str} {cs : Scope} {ccd : Value}
  {R : Result → Shared → Prop} {name qual : Str} {params : Arguments} {b0 : Stmt} {bs : List Stmt} {ns : List (Str × NameKind)} {mo : List (Str × Const)} {dV kV doc pm cdv ct oc : Value} {an od : Option Addr} {osl : Array (Option Value)} {f : Addr} {args : Args} {binds : List (Str × Value)} {dd : Nat}
/-- a call out of the first frame: what the ledger leaves out stands in the ground -/
theorem enterH (B : Below A₀ z [] z) (F : Fr z L s.heap m) (N : News z L s.heap news) (X : (frag w.params).In z) (T : Top topProg loose mean mg mb z) (hA : A.frames = some [envOf cn cs L a ccd]) (hck : cs.kind = .function)
    (ho : (frag w.params).lookup f = some ⟨oc, od, .func (fnOf name qual params (b0 :: bs) (Scope.mk .function ns false false mo) dV kV doc pm an cdv ct), osl⟩) (hcd : codeIn (frag w.params) cdv qual = true) (hr : Rm (dd + 1) A)
    (hbind : BindsTo s (fnOf name qual params (b0 :: bs) (Scope.mk .function ns false false mo) dV kV doc pm an cdv ct) args binds) (hloc : (binds.all fun y => decide (ns.lookup y.1 = some .local)) = true) (hcell : (ns.all fun x => decide (x.2 ≠ .cell)) = true)
    (h : ∀ g L' h₁ a1 a2 a3 a4 (Q : Flow → Shared → Prop) (E : Value → Shared → Prop), (∀ b o, s.heap.get? b = some o → b ∉ news.map (·.1) → g.get? b = some o) → Fr g L' h₁ (fun y => binds.reverse.lookup y) → News g L' h₁ news → (frag w.params).In g → TopRead topProg loose mg mb g → Inn w z ⟨none, a1, a2, a3, a4⟩ L' g → z.StaysIn g → Rm dd ⟨none, a1, a2, a3, a4⟩ →
      (∀ fl s', (∃ g' L₂ m' news', Turn ⟨none, a1, a2, a3, a4⟩ g g' ∧ Fr g' L₂ s'.heap m' ∧ News g' L₂ s'.heap news' ∧ (Fr z L s'.heap m → News z L s'.heap news' → R (.ok (.ret (match fl with | .ret v => v | _ => .none))) s')) → Q fl s') →
      PassesOwn (model pw w) ⟨none, a1, a2, a3, a4⟩ (envOf qual (Scope.mk .function ns false false mo) L' f cdv) E → Stands w z A ⟨none, a1, a2, a3, a4⟩ (envOf qual (Scope.mk .function ns false false mo) L' f cdv) g → (∀ hd, PassesOwnAt (model pw w) (Around.mark ⟨none, a1, a2, a3, a4⟩ hd) ⟨none, a1, a2, a3, a4⟩ (envOf qual (Scope.mk .function ns false false mo) L' f cdv) E) →
      wpAny (model pw w) ⟨none, a1, a2, a3, a4⟩ (execs (b0 :: bs) (envOf qual (Scope.mk .function ns false false mo) L' f cdv)) Q E { s with heap := h₁, toks := s.toks + binds.length }) : codeAny (model pw w) A (.call (.ref f) args) R s := by
  obtain ⟨hd0, b1, b2, b3, b4⟩ := A
  obtain rfl : hd0 = none := hr.2.2
  have X' := X.keeps F.keep
  refine codeAny_call_def (fd := fnOf name qual params (b0 :: bs) (Scope.mk .function ns false false mo) dV kV doc pm an cdv ct) (body := b0 :: bs) (binds := binds) hr.lt (X' _ _ ho) rfl (T.nolimit.keeps F.keep) (codeRec_of X' hcd) rfl hbind
    (fun x hx => of_decide_eq_true (List.all_eq_true.mp hcell x hx)) (fun x hx => of_decide_eq_true (List.all_eq_true.mp hloc x hx)) (fun h₁ hns hk₁ => ?_) rfl rfl rfl
  obtain ⟨oL, es, ep, hLg, hLd, hN, hNs, st, B₂⟩ := kts_enter B F N hA hck
  have nL₀ : z.get? L = none := kts_self F
  have D₂ : KtsDicts ([envOf cn cs L a ccd].filterMap (·.frame)) (hideAll s.heap (news.map (·.1))) := fun b hb => by
    rcases kts_mem hb with rfl | zz
    · exact ⟨oL, es, ep, hLg, hLd⟩
    · simp at zz
  have XX : (frag w.params).In (hideAll s.heap (news.map (·.1))) := X.keeps st
  have TT : TopRead topProg loose mg mb (hideAll s.heap (news.map (·.1))) := (topRead_of T).keeps st
  have hA' := Around.frames_deeper (A := ⟨none, b1, b2, b3, b4⟩) (env := envOf qual (Scope.mk .function ns false false mo) s.heap.objs.size f cdv) hA
  refine h (hideAll s.heap (news.map (·.1))) s.heap.objs.size h₁ _ _ _ _ _ _ (fun b o e hb => hideAll_get _ e hb) ⟨hns, fun b o e => hk₁ b o (of_hideAll _ e), Nat.le_of_eq (hideAll_size _ _)⟩
    (fun p hp => ⟨hk₁ _ _ (N p hp).1, Nat.ne_of_lt (Heap.lt_size (N p hp).1), hideAll_none _ (List.mem_map_of_mem hp)⟩) XX TT ⟨_, _, qual, _, f, cdv, B₂, hA', rfl, X, ⟨_, _, _, _, T⟩, D₂⟩ st hr.deep
    (fun fl s' q => ?_) PassesOwn.leaving ⟨rfl, _, B₂, X, ⟨_, _, _, _, T⟩, D₂⟩ (fun hd => PassesOwnAt.leaving)
  obtain ⟨g', L₂, m', news', Tn, F', N', k⟩ := q
  have T' := Tn.kts
  replace T' : KtsTurn ([envOf cn cs L a ccd].filterMap (·.frame)) (hideAll s.heap (news.map (·.1))) g' := (fsOf_eq hA') ▸ T'
  obtain ⟨sl, hs⟩ := T'.up hLg
  refine k ⟨hNs sl _ (F'.keep _ _ hs), fun b o e => F'.keep b o (T'.other b o (st b o e) (fun q => by
    rcases kts_mem q with zz | zz
    · rw [zz, nL₀] at e
      cases e
    · simp at zz)), F.above⟩ fun p hp => ⟨(N' p hp).1, fun q => ?_, ?_⟩
  · have := (N' p hp).2.2; rw [q, hs] at this; cases this
  · cases q : z.get? p.1 with
    | none => rfl
    | some o =>
      obtain ⟨sl', hs'⟩ := T'.up (st _ _ q)
      have := (N' p hp).2.2
      rw [hs'] at this
      cases this
end

/-- octets in their order, for sorted -/
theorem order_nat : ∀ a b : List UInt8, (Builtin.Bytes.order a b == .lt) = decide (a.map UInt8.toNat < b.map UInt8.toNat)
  | [], [] => by decide
  | [], _ :: _ => by simp [Builtin.Bytes.order]
  | _ :: _, [] => by simp [Builtin.Bytes.order]
  | x :: a, y :: b => by
    have ih := order_nat a b
    simp only [Builtin.Bytes.order, List.map_cons, List.cons_lt_cons_iff]
    by_cases h1 : x < y
    · have h1' : x.toNat < y.toNat := UInt8.lt_iff_toNat_lt.mp h1
      rw [if_pos h1, decide_eq_true (.inl h1')]; rfl
    · have h1' : ¬ x.toNat < y.toNat := fun q => h1 (UInt8.lt_iff_toNat_lt.mpr q)
      rw [if_neg h1]
      by_cases h2 : x > y
      · have h2' : y.toNat < x.toNat := UInt8.lt_iff_toNat_lt.mp h2
        rw [if_pos h2, decide_eq_false (fun q => q.elim h1' (fun q => Nat.ne_of_gt h2' q.1))]; rfl
      · have e : x = y := UInt8.le_antisymm (UInt8.not_lt.mp h2) (UInt8.not_lt.mp h1)
        rw [if_neg h2, ih]
        subst e
        exact decide_eq_decide.mpr ⟨fun q => .inr ⟨rfl, q⟩, fun q => q.elim (fun q => absurd q h1') (·.2)⟩
@[reducible] def octKind : PyProof.Rows.KeyKind where
  α := List Nat
  blt a b := decide (a < b)
  irrefl a := by simpa using List.lt_irrefl a
  trans a b c h1 h2 := by simp only [decide_eq_true_eq] at *; exact List.lt_trans h1 h2
  negTrans a b c h := by
    simp only [decide_eq_true_eq] at *
    by_cases hab : a < b
    · exact .inl hab
    · exact .inr (List.lt_of_le_of_lt (List.not_lt.mp hab) h)
  total a b h1 h2 := by simp only [decide_eq_false_iff_not] at *; exact List.le_antisymm (List.not_lt.mp h2) (List.not_lt.mp h1)
  keyOf v := match v with | .bytes x _ => some (x.toList.map UInt8.toNat) | _ => none
  dflt := []
theorem slot_oct_lt : Slot "bytes" (cmpInfo .Lt).2.1 "bytes.__lt__" :=
  .of (owner := "bytes") (n := "__lt__") (by rw [typeLookup_type, builtinLookup_eq_fast]; kernel_rfl) (by decide +kernel) (by decide +kernel) (by decide +kernel)
    (by first | exact .inl (by decide +kernel) | exact .inr (by decide +kernel)) (by rw [isSubtype_type]; kernel_rfl)
theorem entry_oct_lt : entryFor table "bytes.__lt__" = some Builtin.«bytes.__lt__» := entryFor_of_tree (by kernel_rfl)
theorem args_oct_lt (a b : Value) : argsOk "bytes.__lt__" ⟨[a, b], []⟩ := by
  unfold argsOk; rw [signature?_of (id := "bytes.__lt__") (n := ['_', '_', 't', 'l', '_', '_']) (o := ['s', 'e', 't', 'y', 'b']) (by kernel_rfl) FB.owner_bytes]; kernel_rfl
theorem call_oct_lt {prog : Program} {w : World} {A : Around} {E : Value → Shared → Prop} {s : Shared} {a b : Bts} {t u : Tok} {Q : Value → Shared → Prop} (h : Q (.bool (Builtin.Bytes.order a.toList b.toList == .lt)) s) :
    wpAny (model prog w) A (call (.builtin "bytes.__lt__") [.bytes a t, .bytes b u]) Q E s := by
  refine wpAny_call_entry slot_oct_lt (typeIs_bytes s a t) entry_oct_lt ?_ (args_oct_lt _ _)
  show wpAny _ _ (isInstance (.bytes b u) (.type "bytes") >>= fun r => _) _ _ s
  refine wpAny_bind (wpAny_isInstance (typeIs_bytes s b u) F.sub_bytes_bytes ?_)
  exact wpAny_pure ⟨_, rfl, h⟩
theorem octKind_oneLt : octKind.OneLt := by
  intro prog w A E s x y a b Q ha hb h
  cases x <;> simp only [octKind, reduceCtorEq, Option.some.injEq] at ha
  cases y <;> simp only [octKind, reduceCtorEq, Option.some.injEq] at hb
  rename_i bx tx bY ty
  subst ha hb
  rw [PyProof.Rows.oneLt'_eq]
  simp only [if_true]
  refine wpAny_bind (wpAny_cRoomFor_byValue rfl ?_)
  refine wpAny_bind (wpAny_callSpecialIfBound?_slot (typeIs_bytes s bx tx) slot_oct_lt (call_oct_lt ?_))
  exact wpAny_truthy_bool (by rw [order_nat]; exact h)
def OctsAre (vs : List Value) : Prop := ∀ v ∈ vs, ∃ b t, v = .bytes b t
theorem OctsAre.keysOf {vs : List Value} (h : OctsAre vs) : PyProof.Rows.KeysOf octKind (pairsOf vs) := by
  intro p hp
  rw [pairsOf_toList] at hp
  obtain ⟨x, t, e⟩ := h _ (mem_zip_self hp).2
  exact ⟨x.toList.map UInt8.toNat, by rw [e]⟩
theorem mapM_first_octs : ∀ {vs : List Value}, OctsAre vs → vs.mapM firstOfTuple' = pure (vs.map fun _ => none)
  | [], _ => by simp
  | v :: vs, h => by
    obtain ⟨b, t, rfl⟩ := h v (.head _)
    rw [List.mapM_cons, show firstOfTuple' (.bytes b t) = pure none from rfl, mapM_first_octs fun v hv => h v (.tail _ hv)]
    simp
theorem mapM_type_octs : ∀ {vs : List Value}, OctsAre vs → vs.mapM typeOf = pure (vs.map fun _ => Value.type "bytes")
  | [], _ => by simp
  | v :: vs, h => by
    obtain ⟨b, t, rfl⟩ := h v (.head _)
    rw [List.mapM_cons, mapM_type_octs fun v hv => h v (.tail _ hv)]
    show (pure (Value.type "bytes") >>= fun b => pure _ >>= fun bs => pure (b :: bs)) = _
    simp
theorem keyKind_octs {v₁ v₂ : Value} {vs : List Value} (hS : OctsAre (v₁ :: v₂ :: vs)) : keyKind' (v₁ :: v₂ :: vs).toArray = pure oneType' := by
  rw [keyKind'_eq, List.mapM_toArray, mapM_first_octs hS]
  simp only [map_pure, pure_bind]
  rw [if_neg (by simp), if_neg (by simp)]
  rw [oneTypeOnly'_eq, List.mapM_toArray, mapM_type_octs hS]
  simp only [map_pure, pure_bind]
  have hall : ((List.map (fun _ => Value.type "bytes") (v₁ :: v₂ :: vs)).toArray.all fun x => x == Value.type "bytes") = true := by
    simp only [List.all_toArray, List.all_map, List.all_eq_true]
    intro _ _
    rfl
  have h0 : (List.map (fun _ => Value.type "bytes") (v₁ :: v₂ :: vs)).toArray[0]? = some (Value.type "bytes") := by simp
  rw [h0]
  simp only [hall, if_true, pure_bind, Option.isSome_some]
section
variable {prog : Program} {w : World} {A : Around} {E : Value → Shared → Prop} {s : Shared} {h₀ : Heap} {L : Addr} {m : Str → Option Value} {news : List (Addr × Obj)} {Q : Value → Shared → Prop}
theorem mem_pairs {vs : List Value} {xs : Array Keyed} (hp : xs.Perm (pairsOf vs)) : (xs.map (·.2)).toList.length = vs.length ∧ ∀ v ∈ (xs.map (·.2)).toList, v ∈ vs := by
  have hl : xs.toList.Perm (vs.zip vs) := by rw [← pairsOf_toList]; exact Array.perm_iff_toList_perm.mp hp
  refine ⟨by rw [Array.toList_map, List.length_map, hl.length_eq, List.length_zip, Nat.min_self], fun v hv => ?_⟩
  rw [Array.toList_map] at hv
  obtain ⟨p, hp', rfl⟩ := List.mem_map.mp hv
  have h := mem_zip_self (hl.mem_iff.mp hp')
  rw [← h.1]; exact h.2
theorem sorted_held {d : Addr} {o : Obj} {l : List (Bts × Bts)} (hh : A.handled = none) (F : Fr h₀ L s.heap m) (N : News h₀ L s.heap news) (hm : (d, o) ∈ news) (lo : (d == sysModules) = false) (BD : BDict (bkind w) o l) (hl : l.length < 64)
    (h : ∀ (D : Addr) h' tk (vs : List Value) ep, Fr h₀ L h' m → News h₀ L h' ((D, listOf vs.toArray ep) :: news) → (∀ q ∈ news, q.1 < D) → vs.length = l.length → (∀ v ∈ vs, ∃ k x t, (k, x) ∈ l ∧ v = .bytes k t) → Q (.ref D) { s with heap := h', toks := tk }) :
    wpAny (model pw w) A (call (.builtin "sorted") [.ref d]) Q E s := by
  have hd := N _ hm
  obtain ⟨kvs, ⟨es, ep, h1, h2, h3, h4, h5⟩, e2, _⟩ := BD
  have hD : s.heap.DictAt (bkind w) d kvs ep := ⟨o, es, hd.1, h1, h2, h3, h4, h5⟩
  have hlen : kvs.length = l.length := by simpa using congrArg List.length e2
  refine kdu_sorted (kdl_dict (knd := bkind w) (kvs := kvs) (ep := ep) lo) hh F N hD (by rw [hlen, sizeLine_eq]; omega) fun D h' tk vs F' N' l1 hl' hv => ?_
  have ho : OctsAre vs ∧ ∀ v ∈ vs, ∃ k x t, (k, x) ∈ l ∧ v = .bytes k t := by
    have : ∀ v ∈ vs, ∃ k x t, (k, x) ∈ l ∧ v = .bytes k t := fun v hvm => by
      obtain ⟨j, hj⟩ := List.mem_iff_getElem?.mp hvm
      obtain ⟨k, x, hk, his⟩ := hv j v hj
      have h6 : (l.map (·.1))[j]? = some k := by rw [← e2, List.getElem?_map, hk]; rfl
      rw [List.getElem?_map] at h6
      obtain ⟨q, hq, rfl⟩ := Option.map_eq_some_iff.mp h6
      obtain ⟨t, rfl⟩ := isB_shape his
      exact ⟨q.1, q.2, t, List.mem_of_getElem? hq, rfl⟩
    exact ⟨fun v hv => let ⟨k, _, t, _, e⟩ := this v hv; ⟨k, t, e⟩, this⟩
  have hDo : h'.get? D = some (seqObj "list" vs.toArray 0) := (N' _ (.head _)).1
  refine wpAny_call_entry slot_list_sort ⟨_, hDo, rfl⟩ entry_list_sort (list_sort_treeK octKind_oneLt hDo ho.1.keysOf (fun v₁ v₂ rest e => keyKind_octs (by rw [← e]; exact ho.1)) (by omega) fun st' a1 a2 => ⟨_, rfl, ?_⟩) (args_list_sort _)
  have mp := mem_pairs a1
  obtain ⟨e, he⟩ := sortedHeap_at (vs := vs) (out := (arrOf st').map (·.2)) hDo
  have N2 : News h₀ L (sortedHeap h' D vs ((arrOf st').map (·.2))) ((D, listOf ((arrOf st').map (·.2)) e) :: news) := fun p hp => by
    rcases List.mem_cons.mp hp with rfl | hp
    · exact ⟨he, (N' _ (.head _)).2⟩
    · have np : p.1 ≠ D := Nat.ne_of_lt (l1 p hp)
      have q := N' p (.tail _ hp)
      exact ⟨by rw [sortedHeap_old np (Heap.lt_size q.1)]; exact q.1, q.2⟩
  have F2 : Fr h₀ L (sortedHeap h' D vs ((arrOf st').map (·.2))) m := by
    have hDn := (N' _ (.head _)).2
    have k : ∀ b o, b ≠ D → h'.get? b = some o → (sortedHeap h' D vs ((arrOf st').map (·.2))).get? b = some o := fun b o nb e => by rw [sortedHeap_old nb (Heap.lt_size e)]; exact e
    obtain ⟨oL, q1, q2, hL, q3⟩ := F'.ns
    exact ⟨⟨oL, q1, q2, k _ _ (fun e => hDn.1 e.symm) hL, q3⟩, fun b o e => k b o (fun q => by rw [q] at e; have := hDn.2; dsimp only at this; rw [this] at e; cases e) (F'.keep b o e), F'.above⟩
  have := h D _ tk ((arrOf st').map (·.2)).toList e F2 (by rw [Array.toArray_toList]; exact N2) l1 (by rw [mp.1, hl', hlen]) fun v hv => ho.2 v (mp.2 v hv)
  exact this
end

section
variable {w : World} {A : Around} {E : Value → Shared → Prop} {s : Shared} {h₀ : Heap} {L : Addr} {news : List (Addr × Obj)} {Q : Value → Shared → Prop}
theorem eqAt_bytes (A : Around) (s : Shared) (b : Bts) (t u : Tok) : SeqAt.EqAt A s (.bytes b t) (.bytes b u) true := fun prog w E Q hq => eqBool_bytes (by rw [decide_eq_true rfl]; exact hq)
theorem bvals_eqAt {us vs : List Value} {hs : List Bts} (bu : BVals us hs) (bv : BVals vs hs) (A : Around) (s : Shared) (j : Nat) (h1 : j < us.toArray.size) (h2 : j < vs.toArray.size) : SeqAt.EqAt A s us.toArray[j] vs.toArray[j] true := by
  rw [List.getElem_toArray, List.getElem_toArray]
  rw [List.size_toArray] at h1 h2
  obtain ⟨b, t, g1, e1⟩ := BVals.get bu (List.getElem?_eq_getElem h1)
  obtain ⟨c, u, g2, e2⟩ := BVals.get bv (List.getElem?_eq_getElem h2)
  rw [g1] at g2
  obtain rfl := Option.some.inj g2
  rw [e1, e2]
  exact eqAt_bytes _ _ _ _ _
/-- two tuples of the same octets are the same -/
theorem tups_ne {a b : Addr} {us vs : List Value} {hs : List Bts} (N : News h₀ L s.heap news) (ha : (a, tupObj us) ∈ news) (hb : (b, tupObj vs) ∈ news) (bu : BVals us hs) (bv : BVals vs hs) (hu : A.units < cLine) (h : Q (.bool false) s) :
    wpAny (model pw w) A (compareOp .NotEq (.ref a) (.ref b)) Q E s := by
  refine SeqAt.RcNeAt.tuples (e := fun _ => true) (N.isTup ha) (N.isTup hb) hu (fun j h1 h2 => bvals_eqAt bu bv _ _ j h1 h2) pw w E Q ?_
  have e1 := bu.length
  have e2 := bv.length
  rw [show us.toArray.size = vs.toArray.size by rw [List.size_toArray, List.size_toArray, e1, e2]]
  have : ((List.range (min vs.toArray.size vs.toArray.size)).all (fun _ => true) && vs.toArray.size == vs.toArray.size) = true := by simp
  rw [this]
  exact h
end
theorem along_fn {reg : List Bts} {val : Nat → Bts} {c : Nat} {hs hh : List Bts} (nd : reg.Nodup) (a : Along reg val c hs) (b : Along reg val c hh) : hs = hh := by
  apply List.ext_getElem?
  intro i
  rcases Nat.lt_or_ge i 8 with hi | hi
  · have h1 : hs[i]? = some (hs[i]'(by rw [a.1]; exact hi)) := List.getElem?_eq_getElem _
    have h2 : hh[i]? = some (hh[i]'(by rw [b.1]; exact hi)) := List.getElem?_eq_getElem _
    rw [h1, h2, Nd.fn nd (a.2 _ _ h1) (b.2 _ _ h2)]
  · rw [List.getElem?_eq_none (by rw [a.1]; exact hi), List.getElem?_eq_none (by rw [b.1]; exact hi)]
theorem sibs_fn {reg : List Bts} {val : Nat → Bts} {c : Nat} {hs hh : List Bts} (nd : reg.Nodup) (a : Sibs reg val c hs) (b : Sibs reg val c hh) : hs = hh := by
  apply List.ext_getElem?
  intro i
  rcases Nat.lt_or_ge i 8 with hi | hi
  · have h1 : hs[i]? = some (hs[i]'(by rw [a.1]; exact hi)) := List.getElem?_eq_getElem _
    have h2 : hh[i]? = some (hh[i]'(by rw [b.1]; exact hi)) := List.getElem?_eq_getElem _
    rw [h1, h2, Nd.fn nd (a.2 _ _ h1) (b.2 _ _ h2)]
  · rw [List.getElem?_eq_none (by rw [a.1]; exact hi), List.getElem?_eq_none (by rw [b.1]; exact hi)]
theorem DbOk.grow {w : World} {o : Obj} {reg reg' : List Bts} {val : Nat → Bts} {db : List (Bts × Bts)} {n : Nat} {root : Bts} (D : DbOk w o reg val db) (rt : Nd reg val 8 0 root) (g : Grow n reg reg') (nd : reg'.Nodup) : DbOk w o reg' val db :=
  ⟨D.dict, fun h t e => (D.sound h t e).grow g, fun k p h hk hp q => by
    obtain ⟨h', q'⟩ := rt.every hk hp
    obtain rfl := Nd.fn nd q (q'.grow g)
    exact D.whole k p _ hk hp q'⟩
theorem Along.grow {reg reg' : List Bts} {val : Nat → Bts} {c n : Nat} {hs : List Bts} (a : Along reg val c hs) (g : Grow n reg reg') : Along reg' val c hs := ⟨a.1, fun i h e => (a.2 i h e).grow g⟩
theorem Sibs.grow {reg reg' : List Bts} {val : Nat → Bts} {c n : Nat} {hs : List Bts} (a : Sibs reg val c hs) (g : Grow n reg reg') : Sibs reg' val c hs := ⟨a.1, fun i h e => (a.2 i h e).grow g⟩
theorem HeldOk.nil {dflt : Bts} : HeldOk [] (fun _ => dflt) dflt := ⟨fun k v e => by simp [lookB] at e, fun _ _ => rfl⟩
theorem HeldOk.put {hl : List (Bts × Bts)} {val : Nat → Bts} {dflt : Bts} (H : HeldOk hl val dflt) (c : UInt8) (v : Bts) : HeldOk (putB hl #[c] v) (upd val c.toNat v) dflt := by
  refine ⟨fun k v' e => ?_, fun q hq => ?_⟩
  · rw [lookB_put] at e
    split at e
    · rename_i hk
      exact ⟨c, hk, by unfold upd; rw [if_pos rfl]; exact Option.some.inj e⟩
    · rename_i hk
      obtain ⟨c', rfl, hv⟩ := H.key k v' e
      refine ⟨c', rfl, ?_⟩
      unfold upd
      rw [if_neg fun e => hk (by rw [UInt8.toNat_inj.mp e])]
      exact hv
  · unfold upd
    by_cases e : q = c.toNat
    · have := hq c e.symm
      rw [lookB_put, if_pos rfl] at this
      cases this
    · rw [if_neg e]
      refine H.rest q fun c' hc' => ?_
      have := hq c' hc'
      rw [lookB_put] at this
      split at this
      · cases this
      · exact this
theorem HeldOk.at {hl : List (Bts × Bts)} {val : Nat → Bts} {dflt : Bts} (H : HeldOk hl val dflt) (c : UInt8) : (lookB hl #[c]).getD dflt = val c.toNat := by
  cases e : lookB hl #[c] with
  | none => exact (H.rest _ fun c' hc' => by rw [UInt8.toNat_inj.mp hc']; exact e).symm
  | some v =>
    obtain ⟨c', hk, hv⟩ := H.key _ _ e
    have : c = c' := by simpa using hk
    subst this
    exact hv.symm
theorem HeldOk.oct {hl : List (Bts × Bts)} {val : Nat → Bts} {dflt : Bts} (H : HeldOk hl val dflt) {k v : Bts} (hm : (k, v) ∈ hl) : ∃ c : UInt8, k = #[c] := by
  cases e : lookB hl k with
  | none =>
    unfold lookB at e
    rw [Option.map_eq_none_iff, List.find?_eq_none] at e
    exact absurd (decide_eq_true rfl) (e _ hm)
  | some v' => obtain ⟨c, hk, _⟩ := H.key _ _ e; exact ⟨c, hk⟩
/-- a ledger of the law: six objects change, the rest stands -/
abbrev LG := Obj → Obj → Obj → Obj → Obj → Obj → List (Addr × Obj)
structure St4 (Rg D td ha x tb : Addr) (ot : Obj) (G : LG) : Prop where
  a : ∀ a b c d e f, UpdF Rg a (G a b c d e f) (fun o => G o b c d e f)
  b : ∀ a b c d e f, UpdF D b (G a b c d e f) (fun o => G a o c d e f)
  c : ∀ a b c d e f, UpdF td c (G a b c d e f) (fun o => G a b o d e f)
  d : ∀ a b c d e f, UpdF ha d (G a b c d e f) (fun o => G a b c o e f)
  mx : ∀ a b c d e f, (x, instObj 235 td) ∈ G a b c d e f
  mt : ∀ a b c d e f, (tb, ot) ∈ G a b c d e f
structure St (Rg D td ha pd bl x x2 tb : Addr) (ot : Obj) (G : LG) : Prop extends St4 Rg D td ha x tb ot G where
  e : ∀ a b c d e f, UpdF pd e (G a b c d e f) (fun o => G a b c d o f)
  f : ∀ a b c d e f, UpdF bl f (G a b c d e f) (fun o => G a b c d e o)
  mp : ∀ a b c d e f, (x2, instObj 132 pd) ∈ G a b c d e f
theorem UpdF.pre {d : Addr} {o : Obj} {l : List (Addr × Obj)} {g : Obj → List (Addr × Obj)} : ∀ {kl : List (Addr × Obj)}, (∀ p ∈ kl, p.1 ≠ d) → UpdF d o l g → UpdF d o (kl ++ l) (fun o => kl ++ g o)
  | [], _, U => U
  | p :: kl, h, U => UpdF.tail (h p (.head _)) (UpdF.pre (fun q hq => h q (.tail _ hq)) U)
section
variable {Rg D td ha pd bl x x2 tb : Addr} {ot : Obj} {G : LG} {a b c d e f a' b' c' d' e' f' : Obj}
theorem St4.pre (S : St4 Rg D td ha x tb ot G) (kl : List (Addr × Obj)) (off : ∀ p ∈ kl, ∀ q ∈ G a b c d e f, q.1 ≠ p.1) : St4 Rg D td ha x tb ot (fun a b c d e f => kl ++ G a b c d e f) :=
  ⟨fun _ _ _ _ _ _ => UpdF.pre (fun p hp q => off p hp _ (UpdF.mem (S.a a b c d e f)) q.symm) (S.a ..), fun _ _ _ _ _ _ => UpdF.pre (fun p hp q => off p hp _ (UpdF.mem (S.b a b c d e f)) q.symm) (S.b ..),
    fun _ _ _ _ _ _ => UpdF.pre (fun p hp q => off p hp _ (UpdF.mem (S.c a b c d e f)) q.symm) (S.c ..), fun _ _ _ _ _ _ => UpdF.pre (fun p hp q => off p hp _ (UpdF.mem (S.d a b c d e f)) q.symm) (S.d ..),
    fun _ _ _ _ _ _ => List.mem_append_right _ (S.mx ..), fun _ _ _ _ _ _ => List.mem_append_right _ (S.mt ..)⟩
theorem St.pre (S : St Rg D td ha pd bl x x2 tb ot G) (kl : List (Addr × Obj)) (off : ∀ p ∈ kl, ∀ q ∈ G a b c d e f, q.1 ≠ p.1) : St Rg D td ha pd bl x x2 tb ot (fun a b c d e f => kl ++ G a b c d e f) :=
  ⟨S.toSt4.pre kl off, fun _ _ _ _ _ _ => UpdF.pre (fun p hp q => off p hp _ (UpdF.mem (S.e a b c d e f)) q.symm) (S.e ..), fun _ _ _ _ _ _ => UpdF.pre (fun p hp q => off p hp _ (UpdF.mem (S.f a b c d e f)) q.symm) (S.f ..),
    fun _ _ _ _ _ _ => List.mem_append_right _ (S.mp ..)⟩
/-- a ledger with more ahead, its holes kept -/
theorem St4.ahead (S : St4 Rg D td ha x tb ot G) (kl : List (Addr × Obj)) (off : ∀ p ∈ kl, ∀ q ∈ G a b c d e f, q.1 ≠ p.1) : ∃ G' : LG, (∀ a b c d e f, G' a b c d e f = kl ++ G a b c d e f) ∧ St4 Rg D td ha x tb ot G' := ⟨_, fun _ _ _ _ _ _ => rfl, S.pre kl off⟩
theorem St.ahead (S : St Rg D td ha pd bl x x2 tb ot G) (kl : List (Addr × Obj)) (off : ∀ p ∈ kl, ∀ q ∈ G a b c d e f, q.1 ≠ p.1) : ∃ G' : LG, (∀ a b c d e f, G' a b c d e f = kl ++ G a b c d e f) ∧ St Rg D td ha pd bl x x2 tb ot G' := ⟨_, fun _ _ _ _ _ _ => rfl, S.pre kl off⟩
theorem St4.off (S : St4 Rg D td ha x tb ot G) {I : Addr} (h : ∀ p ∈ G a b c d e f, p.1 ≠ I) : ∀ p ∈ G a' b' c' d' e f, p.1 ≠ I :=
  UpdF.off (S.d a' b' c' d e f) (UpdF.off (S.c a' b' c d e f) (UpdF.off (S.b a' b c d e f) (UpdF.off (S.a a b c d e f) h a') b') c') d'
theorem St.off6 (S : St Rg D td ha pd bl x x2 tb ot G) {I : Addr} (h : ∀ p ∈ G a b c d e f, p.1 ≠ I) : ∀ p ∈ G a' b' c' d' e' f', p.1 ≠ I :=
  UpdF.off (S.f a' b' c' d' e' f) (UpdF.off (S.e a' b' c' d' e f) (S.toSt4.off h) e') f'
theorem St4.g3 (S : St4 Rg D td ha x tb ot G) : G3 Rg D td (fun a b c => G a b c d e f) := ⟨fun _ _ _ => S.a .., fun _ _ _ => S.b .., fun _ _ _ => S.c ..⟩
theorem St.g2 (S : St Rg D td ha pd bl x x2 tb ot G) : G2 pd bl (fun e f => G a b c d e f) := ⟨fun _ _ => S.e .., fun _ _ => S.f ..⟩
/-- the first ledger -/
theorem St4.make (h1 : @LT.lt Nat _ tb Rg) (h2 : @LT.lt Nat _ Rg td) (h3 : @LT.lt Nat _ td x) (h4 : @LT.lt Nat _ x D) (h5 : @LT.lt Nat _ D ha) :
    ∃ G : LG, (∀ a b c d e f, G a b c d e f = [(ha, d), (D, b), (x, instObj 235 td), (td, c), (Rg, a), (tb, ot)]) ∧ St4 Rg D td ha x tb ot G := by
  have ne : ∀ {u v : Nat}, u < v → u ≠ v := fun h => Nat.ne_of_lt h
  have en : ∀ {u v : Nat}, u < v → v ≠ u := fun h => Nat.ne_of_gt h
  refine ⟨_, fun _ _ _ _ _ _ => rfl, ?_, ?_, ?_, ?_, ?_, ?_⟩
  · intro a b c d e f
    refine .tail (en (by omega)) (.tail (en (by omega)) (.tail (en (by omega)) (.tail (en (by omega)) (.head fun p hp => ?_))))
    obtain rfl := List.mem_singleton.mp hp
    exact ne h1
  · intro a b c d e f
    refine .tail (en (by omega)) (.head fun p hp => ?_)
    rcases List.mem_cons.mp hp with rfl | hp
    · exact ne h4
    rcases List.mem_cons.mp hp with rfl | hp
    · exact ne (Nat.lt_trans h3 h4)
    rcases List.mem_cons.mp hp with rfl | hp
    · exact ne (Nat.lt_trans h2 (Nat.lt_trans h3 h4))
    obtain rfl := List.mem_singleton.mp hp
    exact ne (Nat.lt_trans h1 (Nat.lt_trans h2 (Nat.lt_trans h3 h4)))
  · intro a b c d e f
    refine .tail (en (by omega)) (.tail (en (by omega)) (.tail (en (by omega)) (.head fun p hp => ?_)))
    rcases List.mem_cons.mp hp with rfl | hp
    · exact ne h2
    obtain rfl := List.mem_singleton.mp hp
    exact ne (Nat.lt_trans h1 h2)
  · intro a b c d e f
    refine .head fun p hp => ?_
    rcases List.mem_cons.mp hp with rfl | hp
    · exact ne h5
    rcases List.mem_cons.mp hp with rfl | hp
    · exact ne (Nat.lt_trans h4 h5)
    rcases List.mem_cons.mp hp with rfl | hp
    · exact ne (Nat.lt_trans h3 (Nat.lt_trans h4 h5))
    rcases List.mem_cons.mp hp with rfl | hp
    · exact ne (Nat.lt_trans h2 (Nat.lt_trans h3 (Nat.lt_trans h4 h5)))
    obtain rfl := List.mem_singleton.mp hp
    exact ne (Nat.lt_trans h1 (Nat.lt_trans h2 (Nat.lt_trans h3 (Nat.lt_trans h4 h5))))
  · intro a b c d e f; exact .tail _ (.tail _ (.head _))
  · intro a b c d e f; exact .tail _ (.tail _ (.tail _ (.tail _ (.tail _ (.head _)))))
/-- the ledger once the proof stands -/
theorem St.make (S : St4 Rg D td ha x tb ot G) (h1 : ∀ p ∈ G a b c d e f, p.1 < pd) (h2 : @LT.lt Nat _ pd x2) (h3 : @LT.lt Nat _ x2 bl) :
    ∃ G' : LG, (∀ a b c d e' f', G' a b c d e' f' = (bl, f') :: (x2, instObj 132 pd) :: (pd, e') :: G a b c d e f) ∧ St Rg D td ha pd bl x x2 tb ot G' := by
  have ne : ∀ {u v : Nat}, u < v → u ≠ v := fun h => Nat.ne_of_lt h
  have en : ∀ {u v : Nat}, u < v → v ≠ u := fun h => Nat.ne_of_gt h
  have lt : ∀ p ∈ G a b c d e f, @LT.lt Nat _ p.1 pd := h1
  have up : ∀ {q : Addr} {o : Obj} {l : List (Addr × Obj)} {g : Obj → List (Addr × Obj)}, (q, o) ∈ G a b c d e f → UpdF q o l g → ∀ (y z w : Obj), UpdF q o ((bl, y) :: (x2, z) :: (pd, w) :: l) (fun o => (bl, y) :: (x2, z) :: (pd, w) :: g o) := fun {q o l g} hm U y z w => by
    have := lt _ hm
    exact .tail (en (Nat.lt_trans this (Nat.lt_trans h2 h3))) (.tail (en (Nat.lt_trans this h2)) (.tail (en this) U))
  have up' : ∀ {q : Addr} {o o' : Obj} {l : List (Addr × Obj)} {g : Obj → List (Addr × Obj)}, (q, o') ∈ G a b c d e f → UpdF q o l g → ∀ (y z w : Obj), UpdF q o ((bl, y) :: (x2, z) :: (pd, w) :: l) (fun o => (bl, y) :: (x2, z) :: (pd, w) :: g o) := fun {q o o' l g} hm U y z w => by
    have := lt _ hm
    exact .tail (en (Nat.lt_trans this (Nat.lt_trans h2 h3))) (.tail (en (Nat.lt_trans this h2)) (.tail (en this) U))
  have off : ∀ (I : Addr), (∀ p ∈ G a b c d e f, p.1 ≠ I) → ∀ a' b' c' d', ∀ p ∈ G a' b' c' d' e f, p.1 ≠ I := fun I h a' b' c' d' => S.off h
  refine ⟨_, fun _ _ _ _ _ _ => rfl, ⟨?_, ?_, ?_, ?_, ?_, ?_⟩, ?_, ?_, ?_⟩
  · intro _ _ _ _ _ _; exact up' (UpdF.mem (S.a a b c d e f)) (S.a ..) _ _ _
  · intro _ _ _ _ _ _; exact up' (UpdF.mem (S.b a b c d e f)) (S.b ..) _ _ _
  · intro _ _ _ _ _ _; exact up' (UpdF.mem (S.c a b c d e f)) (S.c ..) _ _ _
  · intro _ _ _ _ _ _; exact up' (UpdF.mem (S.d a b c d e f)) (S.d ..) _ _ _
  · intro _ _ _ _ _ _; exact .tail _ (.tail _ (.tail _ (S.mx ..)))
  · intro _ _ _ _ _ _; exact .tail _ (.tail _ (.tail _ (S.mt ..)))
  · intro a' b' c' d' e' f'
    refine .tail (en (Nat.lt_trans h2 h3)) (.tail (en h2) (.head (off pd (fun p hp => ne (lt p hp)) a' b' c' d')))
  · intro a' b' c' d' e' f'
    refine .head fun p hp => ?_
    rcases List.mem_cons.mp hp with rfl | hp
    · exact ne h3
    rcases List.mem_cons.mp hp with rfl | hp
    · exact ne (Nat.lt_trans h2 h3)
    exact off bl (fun p hp => ne (Nat.lt_trans (lt p hp) (Nat.lt_trans h2 h3))) a' b' c' d' p hp
  · intro _ _ _ _ _ _; exact .tail _ (.head _)
end
section
variable {w : World} {A : Around} {E : Value → Shared → Prop} {s : Shared} {h₀ : Heap} {L : Addr} {news : List (Addr × Obj)} {Q : Value → Shared → Prop}
theorem two_item {value slice : PySem.Expr} {D : Addr} {a b : Bts} {t u v : Tok} {e n : Nat} (N : News h₀ L s.heap news) (hm : (D, listOf #[.bytes a t, .bytes b u] e) ∈ news) (h : ∀ x tk, Q (.bytes x tk) s)
    (hs : subscripted slice false (.ref D) (.int ((n : Int).fmod 2) v) = operate [.ref D, .int ((n : Int).fmod 2) v] (getItem (.ref D) (.int ((n : Int).fmod 2) v)) := by with_unfolding_all rfl) :
    wpAny (model pw w) A (subscriptTail value slice (.ref D) (.int ((n : Int).fmod 2) v)) Q E s := by
  have h1 : (n : Int).fmod 2 = ((n % 2 : Nat) : Int) := by rw [Int.fmod_eq_emod_of_nonneg _ (by decide)]; omega
  have h2 : n % 2 = 0 ∨ n % 2 = 1 := by omega
  rcases h2 with h2 | h2
  · exact list_item (i := 0) (vs := [_, _]) N hm (by rw [h1, h2]) rfl (Nat.le_of_ble_eq_true rfl) (h _ _) hs
  · exact list_item (i := 1) (vs := [_, _]) N hm (by rw [h1, h2]) rfl (Nat.le_of_ble_eq_true rfl) (h _ _) hs
theorem four_item {value slice : PySem.Expr} {D : Addr} {a b c d : Int} {t1 t2 t3 t4 v : Tok} {e : Nat} (N : News h₀ L s.heap news) (hm : (D, listOf #[.int a t1, .int b t2, .int c t3, .int d t4] e) ∈ news)
    (ha : 0 ≤ a ∧ a < 256) (hb : 0 ≤ b ∧ b < 256) (hc : 0 ≤ c ∧ c < 256) (hd : 0 ≤ d ∧ d < 256) {y : Int} (hy : 0 ≤ y ∧ y < 4) (h : ∀ (x : Int) tk, 0 ≤ x → x < 256 → Q (.int x tk) s)
    (hs : subscripted slice false (.ref D) (.int y v) = operate [.ref D, .int y v] (getItem (.ref D) (.int y v)) := by with_unfolding_all rfl) :
    wpAny (model pw w) A (subscriptTail value slice (.ref D) (.int y v)) Q E s := by
  have h2 : y = 0 ∨ y = 1 ∨ y = 2 ∨ y = 3 := by omega
  rcases h2 with h2 | h2 | h2 | h2
  · exact list_item (i := 0) (vs := [_, _, _, _]) N hm (by rw [h2]; rfl) rfl (Nat.le_of_ble_eq_true rfl) (h _ _ ha.1 ha.2) hs
  · exact list_item (i := 1) (vs := [_, _, _, _]) N hm (by rw [h2]; rfl) rfl (Nat.le_of_ble_eq_true rfl) (h _ _ hb.1 hb.2) hs
  · exact list_item (i := 2) (vs := [_, _, _, _]) N hm (by rw [h2]; rfl) rfl (Nat.le_of_ble_eq_true rfl) (h _ _ hc.1 hc.2) hs
  · exact list_item (i := 3) (vs := [_, _, _, _]) N hm (by rw [h2]; rfl) rfl (Nat.le_of_ble_eq_true rfl) (h _ _ hd.1 hd.2) hs
/-- one octet made of a number -/
theorem one_oct {m : Str → Option Value} {D : Addr} {x : Int} {t : Tok} {e : Nat} (F : Fr h₀ L s.heap m) (N : News h₀ L s.heap news) (hh : A.handled = none) (hm : (D, listOf #[.int x t] e) ∈ news) (h0 : 0 ≤ x) (h1 : x < 256)
    (h : ∀ h' t' k (c : UInt8), Fr h₀ L h' m → News h₀ L h' news → Q (.bytes #[c] t') { s with heap := h', toks := k }) : wpAny (model pw w) A (call (.type "bytes") [.ref D]) Q E s := by
  refine KBa.make_K (vs := [.int x t]) (ns := [x]) F N hh (News.isList N hm) (.cons _ t .nil) (fun y hy => ?_) (Nat.le_of_ble_eq_true rfl) (fun h' t' k F' N' _ => h h' t' k _ F' N')
  obtain rfl := List.mem_singleton.mp hy
  omega
theorem ne_same {b : Bts} {t u : Tok} (h : Q (.bool false) s) : wpAny (model pw w) A (compareOp .NotEq (.bytes b t) (.bytes b u)) Q E s :=
  ne_bytes (by rw [bne_self_eq_false]; exact h)
theorem fdiv_nn {a b : Int} (h : 0 ≤ a) (hb : 0 < b) : 0 ≤ a.fdiv b := by rw [Int.fdiv_eq_ediv_of_nonneg _ (Int.le_of_lt hb)]; exact Int.ediv_nonneg h (Int.le_of_lt hb)
theorem fmod_in {a b : Int} (hb : 0 < b) : 0 ≤ a.fmod b ∧ a.fmod b < b := ⟨Int.fmod_nonneg_of_pos a hb, Int.fmod_lt_of_pos a hb⟩
theorem xor_in (c : UInt8) {k : Nat} (hk : k < 256) : 0 ≤ Builtin.bitXor (c.toNat : Int) (k : Int) ∧ Builtin.bitXor (c.toNat : Int) (k : Int) < 256 := by
  rw [bitXor_nat]
  have := Nat.xor_lt_two_pow (n := 8) (show c.toNat < 2 ^ 8 from c.toNat_lt) (show k < 2 ^ 8 from hk)
  omega
end
theorem made_weight (C : Addr) (rest : List Value) (kw : List (Str × Value)) : (Code.builtin "type.__call__" ⟨.ref C :: rest, kw⟩).weight = 1 ∧ (Code.builtin "type.__call__" ⟨.ref C :: rest, kw⟩).cUnits ≤ 4 ∧ (Code.builtin "type.__call__" ⟨.ref C :: rest, kw⟩).envs = [] := by
  refine ⟨by kernel_rfl, ?_, by kernel_rfl⟩
  have : (Code.builtin "type.__call__" ⟨.ref C :: rest, kw⟩).cUnits = 1 + 3 * (Code.builtin "type.__call__" ⟨.ref C :: rest, kw⟩).frames := rfl
  rw [this]
  have : (Code.builtin "type.__call__" ⟨.ref C :: rest, kw⟩).frames ≤ 1 := by
    have : (Code.builtin "type.__call__" ⟨.ref C :: rest, kw⟩).frames = 0 := by kernel_rfl
    omega
  omega
theorem Inn.made {w : World} {z base : Heap} {A : Around} {L : Addr} (P : Inn w z A L base) (C : Addr) (rest : List Value) (kw : List (Str × Value)) : Inn w z (A.under (.builtin "type.__call__" ⟨.ref C :: rest, kw⟩)) L base := by
  obtain ⟨A₀, outer, cn, cs, a, ccd, B, hA, r⟩ := P
  refine ⟨A₀, outer, cn, cs, a, ccd, B, ?_, r⟩
  show pushEnvs (Code.envs (.builtin "type.__call__" ⟨.ref C :: rest, kw⟩)) A.frames = _
  rw [(made_weight C rest kw).2.2, hA]
  rfl
theorem Rm.made {d : Nat} {A : Around} (h : Rm (d + 1) A) (C : Addr) (rest : List Value) (kw : List (Str × Value)) : Rm d (A.under (.builtin "type.__call__" ⟨.ref C :: rest, kw⟩)) := by
  have q := made_weight C rest kw
  refine ⟨?_, ?_, h.2.2⟩
  · show A.depth + Code.weight (.builtin "type.__call__" ⟨.ref C :: rest, kw⟩) + d ≤ 900
    rw [q.1]; have := h.1; omega
  · show A.units + Code.cUnits (.builtin "type.__call__" ⟨.ref C :: rest, kw⟩) + 20 * d ≤ 9000
    have := h.2.1; have := q.2.1; omega
theorem lo_of {d : Addr} (h : @LT.lt Nat _ 1 d) : (d == sysModules) = false := beq_eq_false_iff_ne.mpr (Nat.ne_of_gt h)
section
variable {w : World} {z : Heap} {A : Around} {s : Shared} {base : Heap} {L : Addr} {m mg mb : Str → Option Value} {news : List (Addr × Obj)} {loose : List Str} {R : Result → Shared → Prop}
theorem octets_any {x y : Int} {t u : Tok} (P : Inn w z A L base) (F : Fr base L s.heap m) (N : News base L s.heap news) (X : (frag w.params).In base) (T : TopRead topProg loose mg mb base) (hr : Rm 1 A)
    (hx : 0 ≤ x) (hy : 0 ≤ y) (hy2 : y ≤ 40)
    (k : ∀ h' tk (b : Bts) t', (b.size : Int) = y → Fr base L h' m → News base L h' news → R (.ok (.ret (.bytes b t'))) { s with heap := h', toks := tk }) :
    codeAny (model pw w) A (.call (.ref 286) ⟨[.int x t, .int y u], []⟩) R s := by
  obtain ⟨n, rfl⟩ := Int.eq_ofNat_of_zero_le hx
  obtain ⟨k0, rfl⟩ := Int.eq_ofNat_of_zero_le hy
  exact octets_ok P F N X T hr (by omega) (fun h' tk b t' hb => k h' tk b t' (by rw [hb]))
end
/-- what holds between the law's turns -/
def LawAt (w : World) (G : LG) (hf D bl : Addr) (dflt : Bts) (c : UInt8) (i : Nat) (nw : List (Addr × Obj)) : Prop :=
  ∃ o oD od oh opd ep reg val db root hl vs hs, nw = G o oD od oh opd (listOf (List.toArray vs) ep) ∧ RegOf w o reg ∧ reg.length ≤ 130 + 300 * i ∧ TreeD w od hf D dflt root ∧ DbOk w oD reg val db ∧ Nd reg val 8 0 root ∧ db.length ≤ 18 + 9 * i ∧
    BDict (bkind w) oh hl ∧ HeldOk hl val dflt ∧ hl.length ≤ 1 + i ∧ ProofD w opd hf bl c (val c.toNat) ∧ BVals vs hs ∧ Sibs reg val c.toNat hs
theorem range6 {h : Heap} {r : Addr} {y : Int} {t u v : Tok} (hR : IsRange h r 0 (y.fmod 6) 1 t u v) : ∃ nn : Nat, nn < 6 ∧ IsRange h r 0 (nn : Int) 1 t u v := by
  have q := fmod_in (a := y) (show (0 : Int) < 6 by decide)
  obtain ⟨nn, e⟩ := Int.eq_ofNat_of_zero_le q.1
  rw [e] at hR q
  exact ⟨nn, by omega, hR⟩
theorem one_plus (a : Int) : 0 ≤ 1 + a.fmod 40 ∧ 1 + a.fmod 40 ≤ 40 := by
  have := fmod_in (a := a) (show (0 : Int) < 40 by decide)
  omega
theorem oct_in (c : UInt8) : 0 ≤ (c.toNat : Int) ∧ (c.toNat : Int) < 256 := by
  have := c.toNat_lt
  omega
/-- a value told, the frame and the ledger as they were -/
def Cut (g : Heap) (L : Addr) (m : Str → Option Value) (news : List (Addr × Obj)) (s : Shared) (C : Value → Prop) (v : Value) (s' : Shared) : Prop := C v ∧ ∃ h' tk, s' = { s with heap := h', toks := tk } ∧ Fr g L h' m ∧ News g L h' news
theorem cut_at {M : Model} {A : Around} {E : Value → Shared → Prop} {t : Sem Value} {Q : Value → Shared → Prop} {s : Shared} {g : Heap} {L : Addr} {m : Str → Option Value} {news : List (Addr × Obj)} (C : Value → Prop) (_ : Fr g L s.heap m) (_ : News g L s.heap news) (h1 : wpAny M A t (Cut g L m news s C) E s)
    (h2 : ∀ v h' tk, C v → Fr g L h' m → News g L h' news → Q v { s with heap := h', toks := tk }) : wpAny M A t Q E s :=
  wpAny_mono h1 (fun v s' q => by
    obtain ⟨c, h', tk, rfl, F, N⟩ := q
    exact h2 v h' tk c F N) (fun _ _ e => e)
section
variable {w : World} {z : Heap} {A : Around} {s : Shared} {base : Heap} {L : Addr} {m mg mb : Str → Option Value} {loose : List Str} {R : Result → Shared → Prop}
theorem proot_at {Rg D td ha pd bl x x2 tb hf : Addr} {ot o oD od oh opd : Obj} {ep : Nat} {G : LG} {reg reg0 : List Bts} {n : Nat} {val : Nat → Bts} {c : UInt8} {vs : List Value} {hs : List Bts} (S : St Rg D td ha pd bl x x2 tb ot G) (P : Inn w z A L base) (F : Fr base L s.heap m) (N : News base L s.heap (G o oD od oh opd (listOf vs.toArray ep))) (X : (frag w.params).In base) (T : TopRead topProg loose mg mb base) (hr : Rm 3 A)
    (H : HashG base hf Rg) (B : RegOf w o reg) (small : reg.length ≤ 8900) (PD : ProofD w opd hf bl c (val c.toNat)) (bv : BVals vs hs) (sb : Sibs reg0 val c.toNat hs) (g0 : Grow n reg0 reg)
    (k : ∀ h' tk o' reg' root t', Fr base L h' m → News base L h' (G o' oD od oh opd (listOf vs.toArray ep)) → RegOf w o' reg' → Grow 9 reg reg' → Nd reg' val 8 0 root → R (.ok (.ret (.bytes root t'))) { s with heap := h', toks := tk }) :
    codeAny (model pw w) A (.call (.ref 121) ⟨[.ref x2], []⟩) R s :=
  proot_ok (gg := fun o => G o oD od oh opd (listOf vs.toArray ep)) P F N X T hr H (S.a _ _ _ _ _ _) B small (fun o => ⟨⟨pd, opd, ep, S.mp _ _ _ _ _ _, UpdF.mem (S.e _ _ _ _ _ _), PD, UpdF.mem (S.f _ _ _ _ _ _)⟩, bv.length.trans sb.1⟩) bv (sb.grow g0) rfl k
end
/-- what set or delete leaves -/
def SetPost (w : World) (g : Heap) (L : Addr) (m : Str → Option Value) (s : Shared) (G : LG) (hf D : Addr) (oh opd obl : Obj) (dflt V : Bts) (c : UInt8) (reg : List Bts) (val : Nat → Bts) (n : Nat) (v : Value) (s' : Shared) : Prop :=
  ∃ tp us hs o od oD reg' db' root' h' tk, v = .ref tp ∧ s' = { s with heap := h', toks := tk } ∧ Fr g L h' m ∧ News g L h' ((tp, tupObj us) :: G o oD od oh opd obl) ∧ (∀ p ∈ G o oD od oh opd obl, p.1 < tp) ∧ RegOf w o reg' ∧ Grow 9 reg reg' ∧ TreeD w od hf D dflt root' ∧
    DbOk w oD reg' (upd val c.toNat V) db' ∧ Nd reg' (upd val c.toNat V) 8 0 root' ∧ db'.length ≤ n + 9 ∧ BVals us hs ∧ Along reg' (upd val c.toNat V) c.toNat hs
theorem setpost_at {M : Model} {A : Around} {E : Value → Shared → Prop} {t : Sem Value} {Q : Value → Shared → Prop} {s : Shared} {w : World} {g : Heap} {L : Addr} {m : Str → Option Value} (G : LG) (hf D : Addr) (oh opd obl : Obj) (dflt V : Bts) (c : UInt8) (reg : List Bts) (val : Nat → Bts) (n : Nat) (_ : Fr g L s.heap m)
    (h1 : wpAny M A t (SetPost w g L m s G hf D oh opd obl dflt V c reg val n) E s) (h2 : ∀ v s', SetPost w g L m s G hf D oh opd obl dflt V c reg val n v s' → Q v s') : wpAny M A t Q E s := wpAny_mono h1 h2 (fun _ _ e => e)
theorem proof_of {w : World} {h base : Heap} {L : Addr} {Rg D td ha pd bl x x2 tb hf : Addr} {ot o oD od oh opd : Obj} {ep : Nat} {G : LG} {reg0 : List Bts} {val : Nat → Bts} {c : UInt8} {vs : List Value} {hs : List Bts} (S : St Rg D td ha pd bl x x2 tb ot G) (_ : News base L h (G o oD od oh opd (listOf vs.toArray ep)))
    (PD : ProofD w opd hf bl c (val c.toNat)) (bv : BVals vs hs) (sb : Sibs reg0 val c.toNat hs) : ProofAt w (G o oD od oh opd (listOf vs.toArray ep)) x2 hf bl c (val c.toNat) vs :=
  ⟨⟨pd, opd, ep, S.mp _ _ _ _ _ _, UpdF.mem (S.e _ _ _ _ _ _), PD, UpdF.mem (S.f _ _ _ _ _ _)⟩, bv.length.trans sb.1⟩
theorem news_back {g h : Heap} {L : Addr} {G3 G2 G1 : LG} {kl il : List (Addr × Obj)} {x y : Addr × Obj} {a b c d e f : Obj} (e3 : ∀ a b c d e f, G3 a b c d e f = kl ++ G2 a b c d e f) (e2 : ∀ a b c d e f, G2 a b c d e f = il ++ G1 a b c d e f) (N : News g L h (x :: y :: G3 a b c d e f)) : News g L h (il ++ G1 a b c d e f) :=
  fun p hp => N p (.tail _ (.tail _ (by rw [e3, e2]; exact List.mem_append_right _ hp)))
theorem there_eq (v : Bts) : (v.toList != #[].toList) = decide (v ≠ #[]) := by
  by_cases h : v = #[]
  · subst h; rfl
  · rw [decide_eq_true h]
    have : v.toList ≠ #[].toList := fun e => h (Array.toList_inj.mp e)
    simpa using this

local macro_rules | `(tactic| k_in) => `(tactic| exact Frag.In.keeps (by with_reducible assumption) (Fr.keep (by with_reducible assumption)))
local macro_rules | `(tactic| k_mem) => `(tactic| ((with_reducible rename St _ _ _ _ _ _ _ _ _ _ _ => SG'); (repeat (first | exact SG'.mp _ _ _ _ _ _ | exact UpdF.mem (SG'.e _ _ _ _ _ _) | exact SG'.mx _ _ _ _ _ _ | exact UpdF.mem (SG'.c _ _ _ _ _ _) | exact UpdF.mem (SG'.d _ _ _ _ _ _) | refine List.Mem.tail _ ?_)); done))
local macro_rules | `(tactic| k_mem) => `(tactic| ((with_reducible rename St4 _ _ _ _ _ _ _ _ => SG'); (repeat (first | exact SG'.mx _ _ _ _ _ _ | exact UpdF.mem (SG'.c _ _ _ _ _ _) | exact UpdF.mem (SG'.d _ _ _ _ _ _) | refine List.Mem.tail _ ?_)); done))
local macro_rules | `(tactic| k_mem) => `(tactic| with_reducible_and_instances assumption)
local macro_rules | `(tactic| k_enter) => `(tactic| ((with_reducible show codeAny _ _ (Code.call (Value.ref 121) _) _ _); (with_reducible rename St _ _ _ _ _ _ _ _ _ _ _ => SG'); refine proot_at SG' (Inn.in1 (by k_asm)) (by k_asm) (by k_asm) (by k_asm) (by k_asm) (Rm.le (Rm.in1 (by k_asm)) (by decide)) (by k_asm) (by k_asm) (by omega) (by k_asm) (by k_asm) (by k_asm) (by k_asm) (fun h' tk' o' reg' root' t' F' N' B' G' nd' => ?_); refine handed_on rfl ?_; (try k_sweep); (try dsimp only)))
local macro_rules | `(tactic| walk_at "call ref") => `(tactic| ((with_reducible show wpAny _ _ (call (Value.ref 246) [Value.ref _, Value.int _ _]) _ _ _); refine wpAny_call (cell_ok (by k_asm) (by k_asm) (by k_asm) (by k_asm) (by k_asm) (Rm.le (by k_asm) (by decide)) (by k_asm) (by omega) (by omega) (fun h' tk' n' t' F' N' => ?_)); (try k_sweep); (try dsimp only)))
section
variable {w : World} {z : Heap} {A₀ A : Around} {s : Shared} {L : Addr} {m mg mb : Str → Option Value} {mean : ExcName → Option Value} {loose : List Str} {R : Result → Shared → Prop}
set_option maxHeartbeats 40000000 in
theorem sparse_ok {sa hf Rg tb : Addr} {o ot : Obj} {ns : List Int} (B : Below A₀ z [] z) (F : Fr z L s.heap m) (N : News z L s.heap [(Rg, o), (tb, ot)]) (X : (frag w.params).In z) (T : Top topProg loose mean mg mb z) (hA : ∃ cn cs a ccd, A.frames = some [envOf cn cs L a ccd] ∧ cs.kind = .function) (hr : Rm 20 A)
    (htR : @LT.lt Nat _ tb Rg) (S : ScriptAt z sa ns) (H : ∀ g : Heap, (∀ b o, s.heap.get? b = some o → b ∉ [Rg, tb] → g.get? b = some o) → HashG g hf Rg) (BR : RegOf w o [])
    (k : ∀ h' tk o', Fr z L h' m → News z L h' [(Rg, o'), (tb, ot)] → R (.ok (.ret (.bool true))) { s with heap := h', toks := tk }) :
    codeAny (model pw w) A (.call (.ref 307) ⟨[.ref sa, .ref hf], []⟩) R s := by
  obtain ⟨cn, cs, a, ccd, hA, hck⟩ := hA
  refine enterH (binds := [("script", .ref sa), ("hash_of", .ref hf)]) B F N X T hA hck (by k_is) (by k_is) hr (BindsTo.of_eq rfl) rfl rfl ?_
  intro g L' h₁ a1 a2 a3 a4 Q E hg F1 N1 X1 T1 P st hr' hQ hO S1 hOA
  have H1 := H g (fun b o e hb => hg b o e hb)
  have SC := S.keeps st
  clear F N X T B S H hg hA hck hr
  clear ccd cs cn a
  repeat' ((fail_if_success (with_reducible show wpAny _ _ (subscriptTail _ _ _ _) _ _ _)); walk1)
  refine two_item (by k_asm) (.head _) (fun dflt td0 => ?_)
  repeat' ((fail_if_success (with_reducible show wpAny _ _ (call (Value.ref 235) _) _ _ _)); walk1)
  rename Fr g L' _ _ => F2
  rename News g L' _ _ => N2
  replace N2 : News g L' _ [(Rg, o), (tb, ot)] := fun p hp => N2 p (.tail _ hp)
  refine call_cls (fI := 151) F2 X1 N2 (by k_is) (by k_is) (by k_is) (fun x td h3 F3 N3 l1 l2 => ?_)
  refine init_ok (reg := []) (gg := fun o => [(Rg, o), (tb, ot)]) (P.made _ _ _) F3 N3 X1 T1 (Rm.le (hr'.made _ _ _) (by decide)) l1 l2 H1 (.head (fun p hp => by obtain rfl := List.mem_singleton.mp hp; exact Nat.ne_of_lt htR)) BR (Nat.zero_le _) (fun h4 tk4 D oD od o4 reg4 db4 root4 F4 N4 lD BR4 GR4 TD4 DB4 rt4 dl4 => ?_)
  refine ⟨rfl, ?_⟩
  (try dsimp only)
  have lR : @LT.lt Nat _ Rg td := l1 _ (.head _)
  have loD : (D == sysModules) = false := lo_of (Nat.lt_of_le_of_lt (Nat.succ_le_of_lt (Nat.lt_of_le_of_lt (Nat.zero_le _) lR)) (Nat.lt_trans l2 lD))
  clear F2 N2 F3 N3 l1 BR
  have TD5 := TD4
  obtain ⟨q1, q2, q3, q4, q5, q6, u1, u2, u3, u6, rfl⟩ := TD4
  repeat' ((fail_if_success (with_reducible show wpAny _ _ (call (Value.type "bytes") _) _ _ _)); walk1)
  rename Fr g L' _ _ => F5
  rename News g L' _ _ => N5
  refine one_oct F5 N5 hr'.2.2 (.head _) (fmod_in (by decide)).1 (fmod_in (by decide)).2 (fun h6 t6 k6 c0 F6 N6 => ?_)
  obtain ⟨ha, oh, N7, lha, hs0, loh, F7⟩ : ∃ ha oh, News g L' h6 [(ha, oh), (D, oD), (x, instObj 235 td), (td, _), (Rg, o4), (tb, ot)] ∧ @LT.lt Nat _ D ha ∧ Obj.IsDictOf (intKind pw w) oh [] ∧ (ha == sysModules) = false ∧ Fr g L' h6 (fun y => if y = Str.ofString "held" then some (Value.ref ha) else if y = Str.ofString "tree" then some (Value.ref x) else if y = Str.ofString "default" then some (Value.bytes dflt td0) else List.lookup y [(Str.ofString "script", Value.ref sa), (Str.ofString "hash_of", Value.ref hf)].reverse) :=
    ⟨_, _, fun p hp => N6 p (.tail _ hp), And.left (by assumption), by assumption, by assumption, F6⟩
  clear F5 N5 F6 N6
  obtain ⟨G, eG, SG⟩ := St4.make (ot := ot) htR lR l2 lD lha
  rw [← eG _ _ _ _ ot ot] at N7
  have HB0 := BDict.nil (knd := bkind w) (empty_kind hs0)
  clear hs0 eG
  repeat' ((fail_if_success (with_reducible show wpAny _ _ (call (Value.ref 286) _) _ _ _)); walk1)
  rename Fr g L' _ _ => F8
  rename News g L' _ _ => N8
  refine wpAny_call (octets_any P F8 N8 X1 T1 (Rm.le hr' (by decide)) (fdiv_nn (by omega) (by decide)) (by decide) (by decide) (fun h9 tk9 v0 t9 vs9 F9 N9 => ?_))
  (try dsimp only)
  clear F8 N8
  repeat' ((fail_if_success (with_reducible show wpAny _ _ (setItem _ _ _) _ _ _)); walk1)
  refine b_set (knd := bkind _) F9 N9 (SG.d _ _ _ _ _ _) HB0 (bk_is _ _ _) (Nat.zero_le _) (fun h10 oh1 F10 N10 HB1 => ?_)
  (try dsimp only at N10)
  clear F9 N9 HB0
  have hlk : lookB (putB [] (#[c0] : Bts) v0) #[c0] = some v0 := by rw [lookB_put, if_pos rfl]
  repeat' ((fail_if_success (with_reducible show wpAny _ _ (call (Value.ref 190) _) _ _ _)); walk1)
  have l4 := GR4.len
  refine wpAny_call (set_ok (G := fun a b c => G a b c oh1 ot ot) P F10 N10 X1 T1 (Rm.le hr' (by decide)) SG.g3 (fun _ _ _ => SG.mx _ _ _ _ _ _) TD5 DB4 rt4 H1 BR4 (by simp only [List.length_nil] at l4; omega) (by omega) loD (fun h11 tk11 o5 oD5 od5 reg5 db5 root5 tp us hs5 F11 N11 ltp BR5 GR5 TD6 DB5 rt5 dl5 bu al => ?_))
  (try dsimp only at N11 ltp)
  (try dsimp only)
  clear F10 N10 TD5 DB4 rt4 BR4
  have l5 := GR5.len
  repeat' ((fail_if_success (with_reducible show wpAny _ _ (call (Value.ref 260) _) _ _ _)); walk1)
  rename Fr g L' _ _ => F12
  rename News g L' _ _ => N12
  have HO := (HeldOk.nil (dflt := dflt)).put c0 v0
  refine wpAny_call (levels_ok (gg := fun o => (tp, tupObj us) :: G o oD5 od5 oh1 ot ot) P F12 N12 X1 T1 (Rm.le hr' (by decide)) H1 (UpdF.tail (fun e => Nat.ne_of_lt (ltp _ (UpdF.mem (SG.a _ _ _ _ _ _))) e.symm) (SG.a _ _ _ _ _ _)) BR5 (by simp only [List.length_nil] at l4; omega) (fun o => .tail _ (UpdF.mem (SG.d _ _ _ _ _ _))) loh HB1 HO (by show 1 ≤ 7; decide) (fun h13 tk13 o6 reg6 kt kl F13 N13 BR6 GR6 KN offk => ?_))
  (try dsimp only at N13)
  (try dsimp only)
  clear F12 N12
  repeat' ((fail_if_success (with_reducible show wpAny _ _ (call (Value.ref 281) _) _ _ _)); walk1)
  rename Fr g L' _ _ => F14
  rename News g L' _ _ => N14
  refine wpAny_call (along_ok P F14 N14 X1 T1 (Rm.le hr' (by decide)) (KN.sub (fun p hp => List.mem_append_left _ hp)) (fun h15 tk15 bt vs hs F15 N15 lbt bv al2 => ?_))
  (try dsimp only)
  obtain rfl := along_fn (RegOf.nodup BR6) (al.grow GR6) al2
  clear F14 N14
  repeat' ((fail_if_success (with_reducible show wpAny _ _ (compareOp .NotEq _ _) _ _ _)); walk1)
  rename Fr g L' _ _ => F16
  rename News g L' _ _ => N16
  refine tups_ne N16 (.tail _ (List.mem_append_right _ (.head _))) (.head _) bu bv ?_ ?_
  · show a4 < 9900
    have := hr'.2.1
    (try dsimp only at this)
    omega
  replace N16 : News g L' _ (G o6 oD5 od5 oh1 ot ot) := fun p hp => N16 p (.tail _ (List.mem_append_right _ (.tail _ hp)))
  have DB6 := DB5.grow rt5 GR6 (RegOf.nodup BR6)
  have rt6 := rt5.grow GR6
  have l6 := GR6.len
  have sm6 : reg6.length ≤ 130 := by simp only [List.length_nil] at l4; omega
  have v5 : upd (fun _ => dflt) c0.toNat v0 c0.toNat = v0 := by unfold upd; rw [if_pos rfl]
  have ne5 : upd (fun _ => dflt) c0.toNat v0 c0.toNat ≠ #[] := by rw [v5]; intro e; rw [e] at vs9; exact absurd vs9 (by decide)
  clear DB5 rt5 KN offk lbt bv al2 al bu GR5 GR4 GR6 BR5 ltp
  have TA6 : TreeAt w (G o6 oD5 od5 oh1 ot ot) x td D hf dflt root5 reg6 (upd (fun _ => dflt) c0.toNat v0) := ⟨⟨od5, oD5, db5, SG.mx _ _ _ _ _ _, UpdF.mem (SG.c _ _ _ _ _ _), UpdF.mem (SG.b _ _ _ _ _ _), TD6, DB6⟩, rt6, by omega, loD⟩
  have TD7 := TD6
  obtain ⟨q1, q2, q3, q4, q5, q6, u1, u2, u3, u6, rfl⟩ := TD6
  repeat' ((fail_if_success (with_reducible show wpAny _ _ (call (Value.ref 176) _) _ _ _)); walk1)
  rename Fr g L' _ _ => F17
  rename News g L' _ _ => N17
  refine wpAny_call (branchv P F17 N17 X1 T1 (Rm.le hr' (by decide)) TA6 ne5 (fun h18 tk18 bt vs hs F18 N18a lbt bv sb => ?_))
  (try dsimp only)
  clear F17 N17 TA6
  obtain ⟨od6, TD8, N18⟩ : ∃ od6, TreeD w od6 hf D dflt root5 ∧ News g L' h18 ((bt, tupObj vs) :: G o6 oD5 od6 oh1 ot ot) := ⟨_, TD7, N18a⟩
  clear lbt TD7 N18a
  repeat' ((fail_if_success (with_reducible show wpAny _ _ (call (Value.type "tuple") _) _ _ _)); walk1)
  rename Fr g L' _ _ => F18
  rename News g L' _ _ => N18
  refine call_tuple_same (N18.isTup (.head _)) ?_
  repeat' ((fail_if_success (with_reducible show wpAny _ _ (call (Value.ref 132) _) _ _ _)); walk1)
  rename Fr g L' _ _ => F19
  rename News g L' _ _ => N19
  refine call_cls (fI := 90) F19 X1 N19 (by k_is) (by k_is) (by k_is) (fun x2 pd h20 F20 N20 l20 l21 => ?_)
  refine pinit_ok (P.made _ _ _) F20 N20 X1 T1 (Rm.le (hr'.made _ _ _) (by decide)) l20 l21 (.head _) (bv.length.trans sb.1) (fun h22 tk22 bl opd ep F22 N22 lbl PD => ?_)
  refine ⟨rfl, ?_⟩
  (try dsimp only)
  obtain ⟨G1, eG1, S1'⟩ := St.make (bl := bl) SG (fun p hp => l20 p (.tail _ hp)) l21 lbl
  have N23 : News g L' h22 (G1 o6 oD5 od6 oh1 opd (listOf vs.toArray ep)) := by
    rw [eG1]
    intro p hp
    rcases List.mem_cons.mp hp with rfl | hp
    · exact N22 _ (.head _)
    rcases List.mem_cons.mp hp with rfl | hp
    · exact N22 _ (.tail _ (.head _))
    rcases List.mem_cons.mp hp with rfl | hp
    · exact N22 _ (.tail _ (.tail _ (.head _)))
    exact N22 _ (.tail _ (.tail _ (.tail _ (.tail _ hp))))
  have LA : LawAt w G1 hf D bl dflt c0 0 (G1 o6 oD5 od6 oh1 opd (listOf vs.toArray ep)) := ⟨_, _, _, _, _, _, reg6, _, _, _, _, vs, hs, rfl, BR6, by omega, TD8, DB6, rt6, by omega, HB1, HO, by show 1 ≤ 1; decide, by rw [v5]; exact PD, bv, sb⟩
  clear N22 F20 N20 F19 N19 l20 HO HB1 DB6 rt6 BR6 TD8 PD bv sb hlk
  repeat' ((fail_if_success (with_reducible show wpAny _ _ (pyIter _) _ _ _)); walk1)
  rename Fr g L' _ _ => F24
  rename News g L' _ _ => N24
  rename IsRange _ _ _ _ _ _ _ _ => hR
  have FN := And.intro F24 N24
  clear F24 N24
  rename Fr g L' _ _ => F24
  rename News g L' _ _ => N24
  clear F24 N24
  obtain ⟨F24, N24⟩ := FN
  obtain ⟨nn, hn6, hR⟩ := range6 hR
  refine loop_range (n := nn) (L := L') hr'.2.2 rfl hR ((by decide +kernel : ∀ k : Fin 6, Builtin.Range.small 0 ((k.1 : Nat) : Int) 1 = true) ⟨nn, hn6⟩) ((by decide +kernel : ∀ k : Fin 6, Builtin.Range.rangeSize 0 ((k.1 : Nat) : Int) 1 = ((k.1 : Nat) : Int)) ⟨nn, hn6⟩) F24 N24
    (fun i m nw => m "script" = some (.ref sa) ∧ m "hash_of" = some (.ref hf) ∧ (∃ t, m "default" = some (.bytes dflt t)) ∧ m "tree" = some (.ref x) ∧ m "held" = some (.ref ha) ∧ (∃ t, m "mine" = some (.bytes #[c0] t)) ∧ m "proof" = some (.ref x2) ∧ LawAt w G1 hf D bl dflt c0 i nw) ?_ ?_ ?_
  · exact ⟨rfl, rfl, ⟨_, rfl⟩, rfl, rfl, ⟨_, rfl⟩, rfl, LA⟩
  · clear F24 N24 LA hR SG eG1
    rintro I i t0 m₁ nw h tk oI hi ⟨m1, m2, ⟨t1, m3⟩, m4, m5, ⟨t2, m6⟩, m7, o, oD, od, oh, opd, ep, reg, val, db, root, hl, vs, hs, rfl, BR, sm, TD, DB, rt, dl, HB, HO, hl6, PD, bv, sb⟩ F₁ N₁ off lt Q' hQ'
    obtain ⟨G2, eG2, S2⟩ := S1'.ahead [(I, oI)] (fun p hp q hq => by obtain rfl := List.mem_singleton.mp hp; exact off q hq)
    replace N₁ : News g L' h (G2 o oD od oh opd (listOf vs.toArray ep)) := by rw [eG2]; exact N₁
    repeat' ((fail_if_success (with_reducible show wpAny _ _ (subscriptTail (PySem.Expr.List _ _) _ _ _) _ _ _)); walk1)
    rename Fr g L' _ _ => F30
    rename News g L' _ _ => N30
    refine four_item N30 (.head _) (fmod_in (by decide)) (xor_in c0 (k := 1) (by decide)) (xor_in c0 (k := 128) (by decide)) (oct_in c0) (fmod_in (by decide)) (fun x30 tk30 h30 h31 => ?_)
    replace N30 : News g L' _ (G2 o oD od oh opd (listOf vs.toArray ep)) := fun p hp => N30 p (.tail _ hp)
    repeat' ((fail_if_success (with_reducible show wpAny _ _ (call (Value.type "bytes") _) _ _ _)); walk1)
    rename Fr g L' _ _ => F31
    rename News g L' _ _ => N31
    refine one_oct F31 N31 hr'.2.2 (.head _) h30 h31 (fun h32 t32 k32 c1 F32 N32 => ?_)
    clear F31 N31
    replace N32 : News g L' h32 (G2 o oD od oh opd (listOf vs.toArray ep)) := fun p hp => N32 p (.tail _ hp)
    repeat' ((fail_if_success (with_reducible show wpAny _ _ (call (Value.ref 286) _) _ _ _)); walk1)
    rename Fr g L' _ _ => F33
    rename News g L' _ _ => N33
    refine wpAny_call (octets_any P F33 N33 X1 T1 (Rm.le hr' (by decide)) (fdiv_nn (by omega) (by decide)) (one_plus _).1 (one_plus _).2 (fun h34 tk34 v1 t34 vs34 F34 N34 => ?_))
    (try dsimp only)
    clear F33 N33
    repeat' ((fail_if_success (with_reducible show wpAny _ _ (eval (PySem.Expr.BoolOp _ _ _) _) _ _ _)); walk1)
    rename Fr g L' _ _ => F35
    rename News g L' _ _ => N35
    refine cut_at (fun v => ∃ b, v = .bool b) F35 N35 ?_ (fun v h36 tk36 hv F36 N36 => ?_)
    · repeat' walk1
      all_goals exact ⟨⟨_, rfl⟩, _, _, rfl, by assumption, by assumption⟩
    obtain ⟨gb, rfl⟩ := hv
    obtain ⟨V, hV⟩ : ∃ V, V = cond gb dflt v1 := ⟨_, rfl⟩
    clear F35 N35
    repeat' ((fail_if_success (with_reducible show wpAny _ _ (eval (PySem.Expr.IfExp _ _ _ _) _) _ _ _)); walk1)
    rename Fr g L' _ _ => F37
    rename News g L' _ _ => N37
    refine cut_at (fun v => ∃ t, v = .bytes V t) F37 N37 ?_ (fun v h38 tk38 hv F38 N38 => ?_)
    · cases gb
      all_goals
        repeat' walk1
        rw [hV]
        exact ⟨⟨_, rfl⟩, _, _, rfl, by assumption, by assumption⟩
    obtain ⟨t38, rfl⟩ := hv
    clear F37 N37
    repeat' ((fail_if_success (with_reducible show wpAny _ _ (setItem _ _ _) _ _ _)); walk1)
    rename Fr g L' _ _ => F39
    rename News g L' _ _ => N39
    refine b_set (knd := bkind _) F39 N39 (S2.d _ _ _ _ _ _) HB (bk_is _ _ _) (by omega) (fun h40 oh2 F40 N40 HB2 => ?_)
    (try dsimp only at N40)
    have hlk : lookB (putB hl (#[c1] : Bts) V) #[c1] = some V := by rw [lookB_put, if_pos rfl]
    have HO2 := HO.put c1 V
    have hl2 : (putB hl (#[c1] : Bts) V).length ≤ 2 + i := Nat.le_trans (putB_length _ _ _) (by omega)
    clear F39 N39 HB
    repeat' ((fail_if_success (with_reducible show wpAny _ _ (eval (PySem.Expr.IfExp _ _ _ _) _) _ _ _)); walk1)
    rename Fr g L' _ _ => F41
    rename News g L' _ _ => N41
    refine setpost_at G2 hf D oh2 opd (listOf vs.toArray ep) dflt V c1 reg val db.length F41 (w := w) ?_ (fun v s42 hv => ?_)
    · have TD0 := TD
      obtain ⟨q1, q2, q3, q4, q5, q6, u1, u2, u3, u6, rfl⟩ := TD
      cases gb
      · obtain rfl : V = v1 := hV
        repeat' ((fail_if_success (with_reducible show wpAny _ _ (call (Value.ref 190) _) _ _ _)); walk1)
        rename Fr g L' _ _ => F42
        rename News g L' _ _ => N42
        refine wpAny_call (set_ok (G := fun a b c => G2 a b c oh2 opd (listOf vs.toArray ep)) P F42 N42 X1 T1 (Rm.le hr' (by decide)) S2.g3 (fun _ _ _ => S2.mx _ _ _ _ _ _) TD0 DB rt H1 BR (by omega) (by omega) loD (fun h43 tk43 o5 oD5 od5 reg5 db5 root5 tp us hs5 F43 N43 ltp BR5 GR5 TD6 DB5 rt5 dl5 bu al => ?_))
        exact ⟨tp, us, hs5, o5, od5, oD5, reg5, db5, root5, _, _, rfl, rfl, F43, N43, ltp, BR5, GR5, TD6, DB5, rt5, dl5, bu, al⟩
      · obtain rfl : V = dflt := hV
        repeat' ((fail_if_success (with_reducible show wpAny _ _ (call (Value.ref 204) _) _ _ _)); walk1)
        rename Fr g L' _ _ => F42
        rename News g L' _ _ => N42
        refine wpAny_call (delete_ok (G := fun a b c => G2 a b c oh2 opd (listOf vs.toArray ep)) P F42 N42 X1 T1 (Rm.le hr' (by decide)) S2.g3 (fun _ _ _ => S2.mx _ _ _ _ _ _) TD0 DB rt H1 BR (by omega) (by omega) loD (fun h43 tk43 o5 oD5 od5 reg5 db5 root5 tp us hs5 F43 N43 ltp BR5 GR5 TD6 DB5 rt5 dl5 bu al => ?_))
        exact ⟨tp, us, hs5, o5, od5, oD5, reg5, db5, root5, _, _, rfl, rfl, F43, N43, ltp, BR5, GR5, TD6, DB5, rt5, dl5, bu, al⟩
    obtain ⟨tp, us, hs2, o2, od2, oD2, reg2, db2, root2, h44, tk44, rfl, rfl, F44, N44, ltp, BR2, GR2, TD2, DB2, rt2, dl2, bu, al⟩ := hv
    clear F41 N41 TD DB rt BR hV
    have lg2 := GR2.len
    repeat' ((fail_if_success (with_reducible show wpAny _ _ (call (Value.ref 260) _) _ _ _)); walk1)
    rename Fr g L' _ _ => F45
    rename News g L' _ _ => N45
    refine wpAny_call (levels_ok (gg := fun o => (tp, tupObj us) :: G2 o oD2 od2 oh2 opd (listOf vs.toArray ep)) P F45 N45 X1 T1 (Rm.le hr' (by decide)) H1 (UpdF.tail (fun e => Nat.ne_of_lt (ltp _ (UpdF.mem (S2.a _ _ _ _ _ _))) e.symm) (S2.a _ _ _ _ _ _)) BR2 (by omega) (fun o => .tail _ (UpdF.mem (S2.d _ _ _ _ _ _))) loh HB2 HO2 (by omega) (fun h46 tk46 o3 reg3 kt kl F46 N46 BR3 GR3 KN offk => ?_))
    (try dsimp only at N46)
    (try dsimp only)
    clear F45 N45
    obtain ⟨G3', eG3, S3⟩ := S2.ahead (a := o2) (b := oD2) (c := od2) (d := oh2) (e := opd) (f := listOf vs.toArray ep) (kl ++ [(tp, tupObj us)]) (fun p hp q hq => by
      rcases List.mem_append.mp hp with hp | hp
      · exact offk p hp o2 q (.tail _ hq)
      · obtain rfl := List.mem_singleton.mp hp
        exact Nat.ne_of_lt (ltp q hq))
    replace N46 : News g L' h46 (G3' o3 oD2 od2 oh2 opd (listOf vs.toArray ep)) := by rw [eG3, List.append_assoc]; exact N46
    have KN3 : ∀ a b c d e f, KnownAt w (G3' a b c d e f) kt reg3 (upd val c1.toNat V) dflt := fun a b c d e f => KN.sub (fun p hp => by rw [eG3]; exact List.mem_append_left _ (List.mem_append_left _ hp))
    have Hn : ∀ a b c d e f, (tp, tupObj us) ∈ G3' a b c d e f := fun a b c d e f => by rw [eG3]; exact List.mem_append_left _ (List.mem_append_right _ (.head _))
    have al3 := al.grow GR3
    have lg3 := GR3.len
    clear KN offk ltp BR2
    have hn1 := Hn o3 oD2 od2 oh2 opd (listOf vs.toArray ep)
    repeat' ((fail_if_success (with_reducible show wpAny _ _ (call (Value.ref 281) _) _ _ _)); walk1)
    rename Fr g L' _ _ => F47
    rename News g L' _ _ => N47
    refine wpAny_call (along_ok P F47 N47 X1 T1 (Rm.le hr' (by decide)) (KN3 _ _ _ _ _ _) (fun h48 tk48 bt ws hs3 F48 N48 lbt bv3 al4 => ?_))
    (try dsimp only)
    obtain rfl := along_fn (RegOf.nodup BR3) al3 al4
    clear F47 N47
    repeat' ((fail_if_success (with_reducible show wpAny _ _ (compareOp .NotEq _ _) _ _ _)); walk1)
    rename Fr g L' _ _ => F49
    rename News g L' _ _ => N49
    refine tups_ne N49 (.tail _ hn1) (.head _) bu bv3 ?_ ?_
    · show a4 < 9900
      have := hr'.2.1
      dsimp only at this
      omega
    replace N49 : News g L' h48 (G3' o3 oD2 od2 oh2 opd (listOf vs.toArray ep)) := fun p hp => N49 p (.tail _ hp)
    clear lbt bv3 al4 hn1 al3
    have PD0 := PD
    obtain ⟨q1, q2, q3, q4, q5, q6, u1, u2, u3, u5, n5, e5, rfl⟩ := PD
    repeat' ((fail_if_success (with_reducible show wpAny _ _ (call (Value.ref 129) _) _ _ _)); walk1)
    rename Fr g L' _ _ => F50
    rename News g L' _ _ => N50
    refine wpAny_call (update_ok (G := fun e f => G3' o3 oD2 od2 oh2 e f) P F50 N50 X1 T1 (Rm.le hr' (by decide)) S3.g2 (fun _ _ => S3.mp _ _ _ _ _ _) (fun _ _ => Hn _ _ _ _ _ _) PD0 bv sb GR2 bu al (fun h51 tk51 opd2 vs2 hs4 ep2 F51 N51 PD2 bv2 sb2 => ?_))
    (try dsimp only at N51)
    (try dsimp only)
    clear F50 N50 PD0 bv sb bu al Hn
    have TD0 := TD2
    obtain ⟨y1, y2, y3, y4, y5, y6, z1, z2, z3, z6, rfl⟩ := TD2
    repeat' ((fail_if_success (with_reducible show wpAny _ _ (compareOp .NotEq _ _) _ _ _)); walk1)
    rename Fr g L' _ _ => F52
    rename News g L' _ _ => N52
    rename Grow 9 reg3 _ => GR4
    rename Nd _ _ 8 0 _ => nd4
    rename RegOf w _ _ => BR4
    have nod := RegOf.nodup BR4
    have lg4 := GR4.len
    obtain rfl := Nd.fn nod nd4 ((rt2.grow GR3).grow GR4)
    refine ne_same ?_
    repeat' ((fail_if_success (with_reducible show wpAny _ _ (call (Value.ref 267) _) _ _ _)); walk1)
    rename Fr g L' _ _ => F53
    rename News g L' _ _ => N53
    refine wpAny_call (node_ok (j := 8) (p := 0) P F53 N53 X1 T1 (Rm.le hr' (by decide)) (KN3 _ _ _ _ _ _) rfl (by decide) rfl (fun h54 tk54 r54 t54 nd5 F54 N54 => ?_))
    (try dsimp only)
    obtain rfl := Nd.fn nod (nd5.grow GR4) nd4
    clear F53 N53
    repeat' ((fail_if_success (with_reducible show wpAny _ _ (compareOp .NotEq _ _) _ _ _)); walk1)
    refine ne_same ?_
    rename News g L' _ _ => N55
    rename St _ _ _ _ _ _ _ _ _ _ _ => S3
    have PA := proof_of S3 N55 PD2 bv2 sb2
    repeat' ((fail_if_success (with_reducible show wpAny _ _ (call (Value.ref 274) _) _ _ _)); walk1)
    rename Fr g L' _ _ => F56
    rename News g L' _ _ => N56
    refine wpAny_call (beside_ok P F56 N56 X1 T1 (Rm.le hr' (by decide)) ((KN3 _ _ _ _ _ _).sub (fun p hp => .tail _ hp)) (fun h57 tk57 bt9 ws9 hs9 F57 N57 lbt9 bv9 sb9 => ?_))
    (try dsimp only)
    obtain rfl := sibs_fn nod (sb2.grow (GR3.trans GR4)) (sb9.grow GR4)
    clear F56 N56
    repeat' ((fail_if_success (with_reducible show wpAny _ _ (compareOp .NotEq _ _) _ _ _)); walk1)
    rename Fr g L' _ _ => F58
    rename News g L' _ _ => N58
    refine tups_ne N58 (.tail _ (.head _)) (.head _) bv2 bv9 ?_ ?_
    · show a4 < 9900
      have := hr'.2.1
      dsimp only at this
      omega
    repeat' walk1
    rename Fr g L' _ _ => F59
    rename News g L' _ _ => N59
    refine hQ' _ _ (TurnP.mk F59 (news_back eG3 eG2 N59) (S1'.off6 off) ?_)
    refine ⟨?_, ?_, ⟨t1, ?_⟩, ?_, ?_, ⟨t2, ?_⟩, ?_, _, _, _, _, _, ep2, _, upd val c1.toNat V, db2, _, putB hl #[c1] V, vs2, _, rfl, BR4, by omega, TD0, DB2.grow rt2 (GR3.trans GR4) nod, nd4, by omega, HB2, HO2, by omega, PD2, bv2, sb2.grow (GR3.trans GR4)⟩
    all_goals repeat (first | with_reducible exact lk_hit | assumption | refine' lk_skip (by decide) ?_)
  · rintro m₁ nw h tk ⟨m1, m2, ⟨t1, m3⟩, m4, m5, ⟨t2, m6⟩, m7, o, oD, od, oh, opd, ep, reg, val, db, root, hl, vs, hs, rfl, BR, sm, TD, DB, rt, dl, HB, HO, hl6, PD, bv, sb⟩ F₁ N₁
    repeat' ((fail_if_success (with_reducible show wpAny _ _ (call (Value.ref 300) _) _ _ _)); walk1)
    rename Fr g L' _ _ => F61
    rename News g L' _ _ => N61
    have TA : TreeAt w (G1 o oD od oh opd (listOf vs.toArray ep)) x td D hf dflt root reg val := ⟨⟨od, oD, db, S1'.mx _ _ _ _ _ _, UpdF.mem (S1'.c _ _ _ _ _ _), UpdF.mem (S1'.b _ _ _ _ _ _), TD, DB⟩, rt, by omega, loD⟩
    refine wpAny_call (refuses_ok P F61 N61 X1 T1 (Rm.le hr' (by decide)) TA (fun g1 lo1 mg1 mb1 h62 tk62 Tn1 F62 N62 X2 T2 P2 => ?_))
    (try dsimp only)
    clear F61 N61 X1 T1 P F24 N24 hR LA SG eG1 BR DB rt PD bv sb
    obtain ⟨q1, q2, q3, q4, q5, q6, u1, u2, u3, u6, rfl⟩ := TD
    repeat' ((fail_if_success (with_reducible show wpAny _ _ (exec (Stmt.For _ _ _ _ _) _) _ _ _)); walk1)
    refine For_invV (hid ⟨none, a1, a2, a3, a4⟩ g1) rfl rfl ?_ (by intro _; rfl) hO
    repeat' ((fail_if_success (with_reducible show wpAny _ _ (call (Value.builtin "sorted") _) _ _ _)); walk1)
    rename Fr g1 L' _ _ => F63
    rename News g1 L' _ _ => N63
    refine sorted_held hr'.2.2 F63 N63 (UpdF.mem (S1'.d _ _ _ _ _ _)) loh HB (by omega) (fun D2 h64 tk64 ws ep4 F64 N64 l64 lw hw => ?_)
    (try dsimp only)
    clear F63 N63
    repeat' ((fail_if_success (with_reducible show wpAny _ _ (call (Value.type "bytes") _) _ _ _)); walk1)
    rename Fr g1 L' _ _ => F65
    rename News g1 L' _ _ => N65
    refine one_oct F65 N65 hr'.2.2 (.head _) (fmod_in (by decide)).1 (fmod_in (by decide)).2 (fun h66 t66 k66 c9 F66 N66 => ?_)
    replace N66 : News g1 L' h66 ((D2, listOf ws.toArray ep4) :: G1 o oD _ oh opd (listOf vs.toArray ep)) := fun p hp => N66 p (.tail _ hp)
    clear F65 N65
    repeat' ((fail_if_success (with_reducible show wpAny _ _ (binaryOp .Add (Value.ref _) _) _ _ _)); walk1)
    rename Fr g1 L' _ _ => F67
    rename News g1 L' _ _ => N67
    refine kmk_add_lit (zs := ws ++ [Value.bytes #[c9] t66]) F67 N67 (News.isList N67 (.tail _ (.head _))) (News.isList N67 (.head _)) (by simp) (fun D3 h68 F68 N68 l68 => ?_) (by rw [sizeLine_eq]; simp; omega)
    replace N68 : News g1 L' h68 ((D3, listOf (ws ++ [Value.bytes #[c9] t66]).toArray 0) :: G1 o oD _ oh opd (listOf vs.toArray ep)) := fun p hp => N68 p (by
      rcases List.mem_cons.mp hp with rfl | hp
      · exact .head _
      · exact .tail _ (.tail _ (.tail _ hp)))
    clear F67 N67 l68 l64
    have hz : ∀ v ∈ ws ++ [Value.bytes #[c9] t66], ∃ (c : UInt8) (t : Tok), v = .bytes #[c] t := fun v hv => by
      rcases List.mem_append.mp hv with hv | hv
      · obtain ⟨k0, x0, t0, hm0, rfl⟩ := hw v hv
        obtain ⟨c, rfl⟩ := HO.oct hm0
        exact ⟨c, t0, rfl⟩
      · obtain rfl := List.mem_singleton.mp hv
        exact ⟨c9, t66, rfl⟩
    generalize ws ++ [Value.bytes #[c9] t66] = zs at N68 hz
    clear hw lw
    repeat' ((fail_if_success (with_reducible show wpAny _ _ (pyIter _) _ _ _)); walk1)
    refine loop_listT (L := L') hr'.2.2 rfl P2 F68 N68 (.head _) (fun i m nw => (∃ t, m "default" = some (.bytes dflt t)) ∧ m "tree" = some (.ref x) ∧ m "held" = some (.ref ha) ∧ nw = (D3, listOf zs.toArray 0) :: G1 o oD _ oh opd (listOf vs.toArray ep)) ⟨⟨_, m3⟩, m4, m5, rfl⟩ ?_ ?_ ?_
    · rintro i m nw ⟨_, _, _, rfl⟩
      exact .head _
    · clear F68 N68 P2 X2 T2
      rintro I i v m₂ nw h tk oI g2 lo2 mg2 mb2 hv ⟨⟨t3, n3⟩, n4, n5, rfl⟩ Tn2 P3 X3 T3 F₁ N₁ off lt Q' hQ'
      obtain ⟨c, t, rfl⟩ := hz v (List.mem_of_getElem? hv)
      replace TA := TA.sub (news' := (I, oI) :: (D3, listOf zs.toArray 0) :: G1 o oD _ oh opd (listOf vs.toArray ep)) (fun p hp => .tail _ (.tail _ hp))
      repeat' ((fail_if_success (with_reducible show wpAny _ _ (storeName _ _ _) _ _ _)); walk1)
      rw [HO.at c]
      walk1
      repeat' ((fail_if_success (with_reducible show wpAny _ _ (storeName _ _ _) _ _ _)); walk1)
      rw [there_eq]
      by_cases hv0 : val c.toNat ≠ #[]
      · rw [decide_eq_true hv0]
        repeat' ((fail_if_success (with_reducible show wpAny _ _ (call (Value.ref 293) _) _ _ _)); walk1)
        rename Fr g2 L' _ _ => F70
        rename News g2 L' _ _ => N70
        refine wpAny_call (said_ok P3 F70 N70 X3 T3 (Rm.le hr' (by decide)) TA (fun sv hsv g3 lo3 mg3 mb3 h71 tk71 Tn3 F71 N71 X4 T4 P4 => ?_))
        (try dsimp only)
        unfold saidV at hsv
        rw [if_pos hv0] at hsv
        obtain ⟨t9, rfl⟩ := hsv
        clear F70 N70 X3 T3
        repeat' ((fail_if_success (with_reducible show wpAny _ _ (compareOp .NotEq _ _) _ _ _)); walk1)
        refine ne_same ?_
        repeat' ((fail_if_success (with_reducible show wpAny _ _ (call (Value.ref 197) _) _ _ _)); walk1)
        rename Fr g3 L' _ _ => F72
        rename News g3 L' _ _ => N72
        refine wpAny_call (exists_ok P4 F72 N72 X4 T4 (Rm.le hr' (by decide)) TA (fun g4 lo4 mg4 mb4 h73 tk73 Tn4 F73 N73 X5 T5 P5 => ?_))
        (try dsimp only)
        rw [decide_eq_true hv0]
        clear F72 N72 X4 T4
        repeat' ((fail_if_success (with_reducible show wpAny _ _ (call (Value.ref 232) _) _ _ _)); walk1)
        rename Fr g4 L' _ _ => F74
        rename News g4 L' _ _ => N74
        refine wpAny_call (contains_ok P5 F74 N74 X5 T5 (Rm.le hr' (by decide)) TA (fun g5 lo5 mg5 mb5 h75 tk75 Tn5 F75 N75 X6 T6 P6 => ?_))
        (try dsimp only)
        rw [decide_eq_true hv0]
        clear F74 N74 X5 T5
        repeat' walk1
        rename Fr g5 L' _ _ => F76
        rename News g5 L' _ _ => N76
        exact hQ' _ _ ⟨_, _, _, _, _, rfl, ((Tn2.trans Tn3).trans Tn4).trans Tn5, F76, N76, off, ⟨t3, by repeat (first | with_reducible exact lk_hit | assumption | refine' lk_skip (by decide) ?_)⟩, by repeat (first | with_reducible exact lk_hit | assumption | refine' lk_skip (by decide) ?_), by repeat (first | with_reducible exact lk_hit | assumption | refine' lk_skip (by decide) ?_), rfl⟩
      · rw [decide_eq_false hv0]
        repeat' ((fail_if_success (with_reducible show wpAny _ _ (call (Value.ref 293) _) _ _ _)); walk1)
        rename Fr g2 L' _ _ => F70
        rename News g2 L' _ _ => N70
        refine wpAny_call (said_ok P3 F70 N70 X3 T3 (Rm.le hr' (by decide)) TA (fun sv hsv g3 lo3 mg3 mb3 h71 tk71 Tn3 F71 N71 X4 T4 P4 => ?_))
        (try dsimp only)
        unfold saidV at hsv
        rw [if_neg hv0] at hsv
        obtain rfl := hsv
        clear F70 N70 X3 T3
        repeat' ((fail_if_success (with_reducible show wpAny _ _ (compareOp .NotEq _ _) _ _ _)); walk1)
        refine SeqAt.RcNeAt.none_none pw w _ _ ?_
        repeat' ((fail_if_success (with_reducible show wpAny _ _ (call (Value.ref 197) _) _ _ _)); walk1)
        rename Fr g3 L' _ _ => F72
        rename News g3 L' _ _ => N72
        refine wpAny_call (exists_ok P4 F72 N72 X4 T4 (Rm.le hr' (by decide)) TA (fun g4 lo4 mg4 mb4 h73 tk73 Tn4 F73 N73 X5 T5 P5 => ?_))
        (try dsimp only)
        rw [decide_eq_false hv0]
        clear F72 N72 X4 T4
        repeat' ((fail_if_success (with_reducible show wpAny _ _ (call (Value.ref 232) _) _ _ _)); walk1)
        rename Fr g4 L' _ _ => F74
        rename News g4 L' _ _ => N74
        refine wpAny_call (contains_ok P5 F74 N74 X5 T5 (Rm.le hr' (by decide)) TA (fun g5 lo5 mg5 mb5 h75 tk75 Tn5 F75 N75 X6 T6 P6 => ?_))
        (try dsimp only)
        rw [decide_eq_false hv0]
        clear F74 N74 X5 T5
        repeat' walk1
        rename Fr g5 L' _ _ => F76
        rename News g5 L' _ _ => N76
        exact hQ' _ _ ⟨_, _, _, _, _, rfl, ((Tn2.trans Tn3).trans Tn4).trans Tn5, F76, N76, off, ⟨t3, by repeat (first | with_reducible exact lk_hit | assumption | refine' lk_skip (by decide) ?_)⟩, by repeat (first | with_reducible exact lk_hit | assumption | refine' lk_skip (by decide) ?_), by repeat (first | with_reducible exact lk_hit | assumption | refine' lk_skip (by decide) ?_), rfl⟩
    · rintro m₂ nw h tk g2 lo2 mg2 mb2 ⟨⟨t3, n3⟩, n4, n5, rfl⟩ Tn2 P3 X3 T3 F₁ N₁
      clear F68 N68 P2 X2 T2
      repeat' walk1
      rename Fr g2 L' _ _ => F78
      rename News g2 L' _ _ => N78
      exact hQ _ _ ⟨g2, L', _, _, Tn1.trans Tn2, F78, N78, fun kF kN => k _ _ o kF (fun p hp => kN p (by
        rcases List.mem_cons.mp hp with rfl | hp
        · exact .tail _ (UpdF.mem (S1'.a _ _ _ _ _ _))
        · obtain rfl := List.mem_singleton.mp hp
          exact .tail _ (S1'.mt _ _ _ _ _ _)))⟩
end

theorem law_ok : PySem.Challenge.rw_jw0037_01.Holds := by
  refine hd ?_
  w_strict k_go0
  repeat' ((fail_if_success (with_reducible show wpAny _ _ (call (Value.ref 307) _) _ _ _)); walk1)
  all_goals (try k_data)
  rename IntsAre _ _ => hI
  rename News _ _ _ [_, (_, _), _, _, _] => N5
  rename ¬ (63 : Int) < _ => h63
  rename Below callerA _ [] _ => B0
  rename Obj.IsDictOf (PySem.strKind _ _) _ [] => hs0
  rename (_ == sysModules) = false => lo0
  refine wpAny_call (sparse_ok B0 (by k_asm) (fun p hp => N5 p (by
    rcases List.mem_cons.mp hp with rfl | hp
    · exact .tail _ (.tail _ (.head _))
    · exact .tail _ (.tail _ (.tail _ (.tail _ hp))))) (by assumption) (by assumption) ⟨_, _, _, _, rfl, rfl⟩ ?_ ?_ ⟨_, by assumption, hI, by omega⟩ ?_ ?_ ?_)
  · exact ⟨by show 1 + claimMargin + 1 + 20 ≤ 900; decide, by show 4 + 3 + 20 * 20 ≤ 9000; decide, rfl⟩
  · exact And.right (by assumption)
  · intro g hg
    have n1 := (N5 _ (.head _)).1
    have n2 := (N5 _ (.tail _ (.head _))).1
    have n3 := (N5 _ (.tail _ (.tail _ (.tail _ (.head _))))).1
    refine ⟨lo0, _, _, _, _, _, _, _, hg _ _ n1 ?_, ⟨_, _, _, _, rfl, hg _ _ n2 ?_, by assumption, by assumption⟩, hg _ _ n3 ?_, by assumption⟩
    all_goals (simp only [List.mem_cons, List.not_mem_nil, or_false, not_or]; refine ⟨neN ?_, neN ?_⟩ <;> omega)
  · exact BDict.nil (empty_kind hs0)
  · intro h' tk o' F' N'
    repeat' walk1
    (k_end; kc_close)

end Mine
set_option maxRecDepth 100000 in
set_option maxHeartbeats 8000000 in
theorem PySem.Challenge.cw_jw0037_01_holds : PySem.Challenge.rw_jw0037_01.Holds := by
  exact Mine.law_ok
