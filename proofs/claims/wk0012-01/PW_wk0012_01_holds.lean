import PyProof.Rows.All
import Wide.All
import OpenK.AllK
import Wide.FinOn
import PySem.Challenge.RW_wk0012_01
set_option Elab.async false

-- H0
noncomputable section
open PySem PySem.W PyProof.Rows
set_option maxRecDepth 100000
set_option maxHeartbeats 0
namespace Mine
noncomputable abbrev P0 : Program := PySem.Challenge.pw_wk0012_01
noncomputable def fdOf : Option Stmt → Arguments × List Stmt × Scope
  | some (.FunctionDef _ a b _ _ _ s _ _ _) => (a, b, s)
  | _ => (default, [], default)
noncomputable def clsBody : Option Stmt → List Stmt
  | some (.ClassDef _ _ _ b _ _ _ _ _ _ _) => b
  | _ => []
noncomputable def topd (i : Nat) : Arguments × List Stmt × Scope := fdOf P0.main.body[i]?
noncomputable def meth (i : Nat) : Arguments × List Stmt × Scope := fdOf (clsBody P0.main.body[12]?)[i]?
noncomputable def envH : Env := { scope := P0.main.scope, locals := mainNs, globals := mainNs, cells := [], code := .ref 13, frame := some 14 }
noncomputable def codeH : Code := .body (behindTheImports P0) envH
noncomputable def p00 : Pos := ⟨0, 0, 0, 0⟩
noncomputable abbrev BH : List Frame := [topFrame p00]
noncomputable def d0 : Drawn := ⟨0, 0, 0, 0⟩
noncomputable def g0 : Array GenState := Array.mk []
noncomputable def sl (a n : Nat) : List Stmt := (P0.main.body.drop a).take n
noncomputable def o11 (_P : Params) : Obj := ⟨(.type "tuple"), none, (.seq #[] 0), #[]⟩
noncomputable def o12 (_P : Params) : Obj := ⟨.none, none, (.fields #[]), #[]⟩
noncomputable def o13 (_P : Params) : Obj := ⟨(.type "code"), none, (.fields #[(.str (Str.ofString "<module>") 182), (.str (Str.ofString "<module>") 183), (.str (Str.ofString "/claim/cut.py") 184), (.int 1 0), (.int 0 0), (.int 0 0), (.int 0 0), (.int 0 0), (.ref 11), (.bool false), (.int 181 0), (.ref 12), .none, .none, .none, .none, (.int 185 0), (.int 1 0), (.str (Str.ofString "/claim/cut.py") 186)]), #[]⟩
noncomputable def o14 (_P : Params) : Obj := ⟨(.type "frame"), none, .plain, #[(some (.ref 13)), (some (.ref 3)), (some (.ref 3)), none, (some (.str (Str.ofString "__main__") 164)), none, (some (.ref 0))]⟩
noncomputable def o3_g3 (P : Params) : Obj := ⟨(.type "dict"), none, (.dict (List.toArray [⟨PyData.keyHash P (Str.ofString "__name__"), (.str (Str.ofString "__name__") 165), (.str (Str.ofString "cpy313.stringprep") 194)⟩, ⟨PyData.keyHash P (Str.ofString "__doc__"), (.str (Str.ofString "__doc__") 166), .none⟩, ⟨PyData.keyHash P (Str.ofString "__package__"), (.str (Str.ofString "__package__") 167), .none⟩, ⟨PyData.keyHash P (Str.ofString "__loader__"), (.str (Str.ofString "__loader__") 168), (.builtin "__main__.__loader__#opaque")⟩, ⟨PyData.keyHash P (Str.ofString "__spec__"), (.str (Str.ofString "__spec__") 169), .none⟩, ⟨PyData.keyHash P (Str.ofString "__annotations__"), (.str (Str.ofString "__annotations__") 170), (.ref 6)⟩, ⟨PyData.keyHash P (Str.ofString "__builtins__"), (.str (Str.ofString "__builtins__") 171), (.ref 4)⟩, ⟨PyData.keyHash P (Str.ofString "__file__"), (.str (Str.ofString "__file__") 173), (.str (Str.ofString "/claim/cut.py") 172)⟩, ⟨PyData.keyHash P (Str.ofString "__cached__"), (.str (Str.ofString "__cached__") 174), .none⟩, ⟨PyData.keyHash P (Str.ofString "_wall"), (.str (Str.ofString "_wall") 193), (.ref 21)⟩, ⟨PyData.keyHash P (Str.ofString "c7_set"), (.str (Str.ofString "c7_set") 223), (.ref 23)⟩, ⟨PyData.keyHash P (Str.ofString "in_table_c7"), (.str (Str.ofString "in_table_c7") 230), (.ref 33)⟩]) 12), #[]⟩
noncomputable def o12_g3 (_P : Params) : Obj := ⟨.none, none, (.fields #[(.int 1 0), (.int 0 0), (.ref 20), (.int 6 0), (.int 0 0), (.ref 32)]), #[]⟩
noncomputable def o15 (_P : Params) : Obj := ⟨(.type "tuple"), none, (.seq #[] 0), #[]⟩
noncomputable def o16 (_P : Params) : Obj := ⟨.none, none, (.fields #[]), #[]⟩
noncomputable def o17 (_P : Params) : Obj := ⟨(.type "tuple"), none, (.seq #[(.str (Str.ofString "k") 190)] 0), #[]⟩
noncomputable def o18 (_P : Params) : Obj := ⟨(.type "tuple"), none, (.seq #[] 0), #[]⟩
noncomputable def o19 (_P : Params) : Obj := ⟨.none, none, (.func { name := (Str.ofString "_wall"), qualname := (Str.ofString "_wall"), params := (topd 0).1, body := .stmts (topd 0).2.1, scope := (topd 0).2.2, globals := 0, closure := [], defaults := .none, kwdefaults := .none, doc := .none, pyModule := .none, annotations := none, code := .none, closureTuple := .none, builtins := 0 }), #[]⟩
noncomputable def o20 (_P : Params) : Obj := ⟨(.type "code"), none, (.fields #[(.str (Str.ofString "_wall") 187), (.str (Str.ofString "_wall") 188), (.str (Str.ofString "/claim/cut.py") 189), (.int 1 0), (.int 1 0), (.int 0 0), (.int 0 0), (.int 3 0), (.ref 15), (.bool true), (.int 181 0), (.ref 16), .none, (.ref 17), (.ref 18), (.ref 19), (.int 191 0), (.int 1 0), (.str (Str.ofString "/claim/cut.py") 192)]), #[]⟩
noncomputable def o21 (_P : Params) : Obj := ⟨(.type "function"), none, (.func { name := (Str.ofString "_wall"), qualname := (Str.ofString "_wall"), params := (topd 0).1, body := .stmts (topd 0).2.1, scope := (topd 0).2.2, globals := 3, closure := [], defaults := .none, kwdefaults := .none, doc := .none, pyModule := (.str (Str.ofString "__main__") 164), annotations := none, code := (.ref 20), closureTuple := .none, builtins := 0 }), #[]⟩
noncomputable def o22 (_P : Params) : Obj := ⟨(.type "range"), none, (.fields #[(.int 12272 196), (.int 12284 197), (.int 1 198)]), #[]⟩
noncomputable def o23 (P : Params) : Obj := ⟨(.type "set"), none, (.set #[(12272, (.int 12272 199)), (12273, (.int 12273 201)), (12274, (.int 12274 203)), (12275, (.int 12275 205)), (12276, (.int 12276 207)), (12277, (.int 12277 209)), (12278, (.int 12278 211)), (12279, (.int 12279 213)), (12280, (.int 12280 215)), (12281, (.int 12281 217)), (12282, (.int 12282 219)), (12283, (.int 12283 221))] 13 { mask := 31, place := #[16, 17, 18, 19, 20, 21, 22, 23, 24, 25, 26, 27], dummies := #[], finger := 0, led := !P.followText "set-order", moves := 1, plain := true }), #[]⟩
noncomputable def o24 (_P : Params) : Obj := ⟨(.type "range_iterator"), none, (.fields #[(.int 12284 0), (.int 0 0), (.int 1 0)]), #[]⟩
noncomputable def o25 (_P : Params) : Obj := ⟨(.type "tuple"), none, (.seq #[] 0), #[]⟩
noncomputable def o26 (_P : Params) : Obj := ⟨(.type "StopIteration"), none, (.fields #[(.ref 25), .none, .none, .none, (.bool false), .none]), #[]⟩
noncomputable def o27 (_P : Params) : Obj := ⟨(.type "tuple"), none, (.seq #[] 0), #[]⟩
noncomputable def o28 (_P : Params) : Obj := ⟨.none, none, (.fields #[]), #[]⟩
noncomputable def o29 (_P : Params) : Obj := ⟨(.type "tuple"), none, (.seq #[(.str (Str.ofString "code") 227)] 0), #[]⟩
noncomputable def o30 (_P : Params) : Obj := ⟨(.type "tuple"), none, (.seq #[] 0), #[]⟩
noncomputable def o31 (_P : Params) : Obj := ⟨.none, none, (.func { name := (Str.ofString "in_table_c7"), qualname := (Str.ofString "in_table_c7"), params := (topd 3).1, body := .stmts (topd 3).2.1, scope := (topd 3).2.2, globals := 0, closure := [], defaults := .none, kwdefaults := .none, doc := .none, pyModule := .none, annotations := none, code := .none, closureTuple := .none, builtins := 0 }), #[]⟩
noncomputable def o32 (_P : Params) : Obj := ⟨(.type "code"), none, (.fields #[(.str (Str.ofString "in_table_c7") 224), (.str (Str.ofString "in_table_c7") 225), (.str (Str.ofString "/claim/cut.py") 226), (.int 6 0), (.int 1 0), (.int 0 0), (.int 0 0), (.int 3 0), (.ref 27), (.bool true), (.int 181 0), (.ref 28), .none, (.ref 29), (.ref 30), (.ref 31), (.int 228 0), (.int 6 0), (.str (Str.ofString "/claim/cut.py") 229)]), #[]⟩
noncomputable def o33 (_P : Params) : Obj := ⟨(.type "function"), none, (.func { name := (Str.ofString "in_table_c7"), qualname := (Str.ofString "in_table_c7"), params := (topd 3).1, body := .stmts (topd 3).2.1, scope := (topd 3).2.2, globals := 3, closure := [], defaults := .none, kwdefaults := .none, doc := .none, pyModule := (.str (Str.ofString "cpy313.stringprep") 194), annotations := none, code := (.ref 32), closureTuple := .none, builtins := 0 }), #[]⟩
noncomputable def o3_g4 (P : Params) : Obj := ⟨(.type "dict"), none, (.dict (List.toArray [⟨PyData.keyHash P (Str.ofString "__name__"), (.str (Str.ofString "__name__") 165), (.str (Str.ofString "cpy313.stringprep") 194)⟩, ⟨PyData.keyHash P (Str.ofString "__doc__"), (.str (Str.ofString "__doc__") 166), .none⟩, ⟨PyData.keyHash P (Str.ofString "__package__"), (.str (Str.ofString "__package__") 167), .none⟩, ⟨PyData.keyHash P (Str.ofString "__loader__"), (.str (Str.ofString "__loader__") 168), (.builtin "__main__.__loader__#opaque")⟩, ⟨PyData.keyHash P (Str.ofString "__spec__"), (.str (Str.ofString "__spec__") 169), .none⟩, ⟨PyData.keyHash P (Str.ofString "__annotations__"), (.str (Str.ofString "__annotations__") 170), (.ref 6)⟩, ⟨PyData.keyHash P (Str.ofString "__builtins__"), (.str (Str.ofString "__builtins__") 171), (.ref 4)⟩, ⟨PyData.keyHash P (Str.ofString "__file__"), (.str (Str.ofString "__file__") 173), (.str (Str.ofString "/claim/cut.py") 172)⟩, ⟨PyData.keyHash P (Str.ofString "__cached__"), (.str (Str.ofString "__cached__") 174), .none⟩, ⟨PyData.keyHash P (Str.ofString "_wall"), (.str (Str.ofString "_wall") 193), (.ref 21)⟩, ⟨PyData.keyHash P (Str.ofString "c7_set"), (.str (Str.ofString "c7_set") 223), (.ref 23)⟩, ⟨PyData.keyHash P (Str.ofString "in_table_c7"), (.str (Str.ofString "in_table_c7") 230), (.ref 33)⟩, ⟨PyData.keyHash P (Str.ofString "c8_set"), (.str (Str.ofString "c8_set") 271), (.ref 47)⟩]) 13), #[]⟩
noncomputable def o34 (_P : Params) : Obj := ⟨(.type "list"), none, (.seq #[(.int 832 231), (.int 833 232), (.int 8206 233), (.int 8207 234)] 0), #[]⟩
noncomputable def o35 (_P : Params) : Obj := ⟨(.type "range"), none, (.fields #[(.int 8234 235), (.int 8239 236), (.int 1 237)]), #[]⟩
noncomputable def o36 (_P : Params) : Obj := ⟨(.type "list"), none, (.seq #[(.int 8234 240), (.int 8235 241), (.int 8236 242), (.int 8237 243), (.int 8238 244)] 7), #[]⟩
noncomputable def o37 (_P : Params) : Obj := ⟨(.type "range_iterator"), none, (.fields #[(.int 8239 0), (.int 0 0), (.int 1 0)]), #[]⟩
noncomputable def o38 (_P : Params) : Obj := ⟨(.type "tuple"), none, (.seq #[] 0), #[]⟩
noncomputable def o39 (_P : Params) : Obj := ⟨(.type "StopIteration"), none, (.fields #[(.ref 38), .none, .none, .none, (.bool false), .none]), #[]⟩
noncomputable def o40 (_P : Params) : Obj := ⟨(.type "list"), none, (.seq #[(.int 832 231), (.int 833 232), (.int 8206 233), (.int 8207 234), (.int 8234 240), (.int 8235 241), (.int 8236 242), (.int 8237 243), (.int 8238 244)] 0), #[]⟩
noncomputable def o41 (_P : Params) : Obj := ⟨(.type "range"), none, (.fields #[(.int 8298 245), (.int 8304 246), (.int 1 247)]), #[]⟩
noncomputable def o42 (_P : Params) : Obj := ⟨(.type "list"), none, (.seq #[(.int 8298 250), (.int 8299 251), (.int 8300 252), (.int 8301 253), (.int 8302 254), (.int 8303 255)] 8), #[]⟩
noncomputable def o43 (_P : Params) : Obj := ⟨(.type "range_iterator"), none, (.fields #[(.int 8304 0), (.int 0 0), (.int 1 0)]), #[]⟩
noncomputable def o44 (_P : Params) : Obj := ⟨(.type "tuple"), none, (.seq #[] 0), #[]⟩
noncomputable def o45 (_P : Params) : Obj := ⟨(.type "StopIteration"), none, (.fields #[(.ref 44), .none, .none, .none, (.bool false), .none]), #[]⟩
noncomputable def o46 (_P : Params) : Obj := ⟨(.type "list"), none, (.seq #[(.int 832 231), (.int 833 232), (.int 8206 233), (.int 8207 234), (.int 8234 240), (.int 8235 241), (.int 8236 242), (.int 8237 243), (.int 8238 244), (.int 8298 250), (.int 8299 251), (.int 8300 252), (.int 8301 253), (.int 8302 254), (.int 8303 255)] 0), #[]⟩
noncomputable def o47 (P : Params) : Obj := ⟨(.type "set"), none, (.set #[(832, (.int 832 231)), (833, (.int 833 232)), (8234, (.int 8234 240)), (8235, (.int 8235 241)), (8236, (.int 8236 242)), (8237, (.int 8237 243)), (8206, (.int 8206 233)), (8207, (.int 8207 234)), (8238, (.int 8238 244)), (8298, (.int 8298 250)), (8299, (.int 8299 251)), (8300, (.int 8300 252)), (8301, (.int 8301 253)), (8302, (.int 8302 254)), (8303, (.int 8303 255))] 16 { mask := 31, place := #[0, 1, 10, 11, 12, 13, 14, 15, 16, 17, 18, 19, 20, 21, 22], dummies := #[], finger := 0, led := !P.followText "set-order", moves := 1, plain := true }), #[]⟩
noncomputable def o48 (_P : Params) : Obj := ⟨(.type "list_iterator"), none, (.fields #[.none, (.int 15 0)]), #[]⟩
noncomputable def o49 (_P : Params) : Obj := ⟨(.type "tuple"), none, (.seq #[] 0), #[]⟩
noncomputable def o50 (_P : Params) : Obj := ⟨(.type "StopIteration"), none, (.fields #[(.ref 49), .none, .none, .none, (.bool false), .none]), #[]⟩
noncomputable def o3_g11 (P : Params) : Obj := ⟨(.type "dict"), none, (.dict (List.toArray [⟨PyData.keyHash P (Str.ofString "__name__"), (.str (Str.ofString "__name__") 165), (.str (Str.ofString "cpy313.email.header") 331)⟩, ⟨PyData.keyHash P (Str.ofString "__doc__"), (.str (Str.ofString "__doc__") 166), .none⟩, ⟨PyData.keyHash P (Str.ofString "__package__"), (.str (Str.ofString "__package__") 167), .none⟩, ⟨PyData.keyHash P (Str.ofString "__loader__"), (.str (Str.ofString "__loader__") 168), (.builtin "__main__.__loader__#opaque")⟩, ⟨PyData.keyHash P (Str.ofString "__spec__"), (.str (Str.ofString "__spec__") 169), .none⟩, ⟨PyData.keyHash P (Str.ofString "__annotations__"), (.str (Str.ofString "__annotations__") 170), (.ref 6)⟩, ⟨PyData.keyHash P (Str.ofString "__builtins__"), (.str (Str.ofString "__builtins__") 171), (.ref 4)⟩, ⟨PyData.keyHash P (Str.ofString "__file__"), (.str (Str.ofString "__file__") 173), (.str (Str.ofString "/claim/cut.py") 172)⟩, ⟨PyData.keyHash P (Str.ofString "__cached__"), (.str (Str.ofString "__cached__") 174), .none⟩, ⟨PyData.keyHash P (Str.ofString "_wall"), (.str (Str.ofString "_wall") 193), (.ref 21)⟩, ⟨PyData.keyHash P (Str.ofString "c7_set"), (.str (Str.ofString "c7_set") 223), (.ref 23)⟩, ⟨PyData.keyHash P (Str.ofString "in_table_c7"), (.str (Str.ofString "in_table_c7") 230), (.ref 33)⟩, ⟨PyData.keyHash P (Str.ofString "c8_set"), (.str (Str.ofString "c8_set") 271), (.ref 47)⟩, ⟨PyData.keyHash P (Str.ofString "in_table_c8"), (.str (Str.ofString "in_table_c8") 278), (.ref 57)⟩, ⟨PyData.keyHash P (Str.ofString "COMPILER_FLAG_NAMES"), (.str (Str.ofString "COMPILER_FLAG_NAMES") 311), (.ref 58)⟩, ⟨PyData.keyHash P (Str.ofString "pretty_flags"), (.str (Str.ofString "pretty_flags") 321), (.ref 65)⟩, ⟨PyData.keyHash P (Str.ofString "_parse_varint"), (.str (Str.ofString "_parse_varint") 330), (.ref 72)⟩, ⟨PyData.keyHash P (Str.ofString "EMPTYSTRING"), (.str (Str.ofString "EMPTYSTRING") 334), (.str (Str.ofString "") 333)⟩]) 18), #[]⟩
noncomputable def o12_g11 (_P : Params) : Obj := ⟨.none, none, (.fields #[(.int 1 0), (.int 0 0), (.ref 20), (.int 6 0), (.int 0 0), (.ref 32), (.int 9 0), (.int 0 0), (.ref 56), (.int 13 0), (.int 0 0), (.ref 64), (.int 25 0), (.int 0 0), (.ref 71)]), #[]⟩
noncomputable def o51 (_P : Params) : Obj := ⟨(.type "tuple"), none, (.seq #[] 0), #[]⟩
noncomputable def o52 (_P : Params) : Obj := ⟨.none, none, (.fields #[]), #[]⟩
noncomputable def o53 (_P : Params) : Obj := ⟨(.type "tuple"), none, (.seq #[(.str (Str.ofString "code") 275)] 0), #[]⟩
noncomputable def o54 (_P : Params) : Obj := ⟨(.type "tuple"), none, (.seq #[] 0), #[]⟩
noncomputable def o55 (_P : Params) : Obj := ⟨.none, none, (.func { name := (Str.ofString "in_table_c8"), qualname := (Str.ofString "in_table_c8"), params := (topd 5).1, body := .stmts (topd 5).2.1, scope := (topd 5).2.2, globals := 0, closure := [], defaults := .none, kwdefaults := .none, doc := .none, pyModule := .none, annotations := none, code := .none, closureTuple := .none, builtins := 0 }), #[]⟩
noncomputable def o56 (_P : Params) : Obj := ⟨(.type "code"), none, (.fields #[(.str (Str.ofString "in_table_c8") 272), (.str (Str.ofString "in_table_c8") 273), (.str (Str.ofString "/claim/cut.py") 274), (.int 9 0), (.int 1 0), (.int 0 0), (.int 0 0), (.int 3 0), (.ref 51), (.bool true), (.int 181 0), (.ref 52), .none, (.ref 53), (.ref 54), (.ref 55), (.int 276 0), (.int 9 0), (.str (Str.ofString "/claim/cut.py") 277)]), #[]⟩
noncomputable def o57 (_P : Params) : Obj := ⟨(.type "function"), none, (.func { name := (Str.ofString "in_table_c8"), qualname := (Str.ofString "in_table_c8"), params := (topd 5).1, body := .stmts (topd 5).2.1, scope := (topd 5).2.2, globals := 3, closure := [], defaults := .none, kwdefaults := .none, doc := .none, pyModule := (.str (Str.ofString "cpy313.stringprep") 194), annotations := none, code := (.ref 56), closureTuple := .none, builtins := 0 }), #[]⟩
noncomputable def o58 (_P : Params) : Obj := ⟨(.type "dict"), none, (.dict (List.toArray [⟨1, (.int 1 281), (.str (Str.ofString "OPTIMIZED") 282)⟩, ⟨2, (.int 2 283), (.str (Str.ofString "NEWLOCALS") 284)⟩, ⟨4, (.int 4 285), (.str (Str.ofString "VARARGS") 286)⟩, ⟨8, (.int 8 287), (.str (Str.ofString "VARKEYWORDS") 288)⟩, ⟨16, (.int 16 289), (.str (Str.ofString "NESTED") 290)⟩, ⟨32, (.int 32 291), (.str (Str.ofString "GENERATOR") 292)⟩, ⟨64, (.int 64 293), (.str (Str.ofString "NOFREE") 294)⟩, ⟨128, (.int 128 295), (.str (Str.ofString "COROUTINE") 296)⟩, ⟨256, (.int 256 297), (.str (Str.ofString "ITERABLE_COROUTINE") 298)⟩, ⟨512, (.int 512 299), (.str (Str.ofString "ASYNC_GENERATOR") 300)⟩]) 10), #[]⟩
noncomputable def o59 (_P : Params) : Obj := ⟨(.type "tuple"), none, (.seq #[] 0), #[]⟩
noncomputable def o60 (_P : Params) : Obj := ⟨.none, none, (.fields #[]), #[]⟩
noncomputable def o61 (_P : Params) : Obj := ⟨(.type "tuple"), none, (.seq #[(.str (Str.ofString "flags") 315), (.str (Str.ofString "names") 316), (.str (Str.ofString "i") 317), (.str (Str.ofString "flag") 318)] 0), #[]⟩
noncomputable def o62 (_P : Params) : Obj := ⟨(.type "tuple"), none, (.seq #[] 0), #[]⟩
noncomputable def o63 (_P : Params) : Obj := ⟨.none, none, (.func { name := (Str.ofString "pretty_flags"), qualname := (Str.ofString "pretty_flags"), params := (topd 8).1, body := .stmts (topd 8).2.1, scope := (topd 8).2.2, globals := 0, closure := [], defaults := .none, kwdefaults := .none, doc := .none, pyModule := .none, annotations := none, code := .none, closureTuple := .none, builtins := 0 }), #[]⟩
noncomputable def o64 (_P : Params) : Obj := ⟨(.type "code"), none, (.fields #[(.str (Str.ofString "pretty_flags") 312), (.str (Str.ofString "pretty_flags") 313), (.str (Str.ofString "/claim/cut.py") 314), (.int 13 0), (.int 1 0), (.int 0 0), (.int 0 0), (.int 3 0), (.ref 59), (.bool true), (.int 181 0), (.ref 60), .none, (.ref 61), (.ref 62), (.ref 63), (.int 319 0), (.int 13 0), (.str (Str.ofString "/claim/cut.py") 320)]), #[]⟩
noncomputable def o65 (_P : Params) : Obj := ⟨(.type "function"), none, (.func { name := (Str.ofString "pretty_flags"), qualname := (Str.ofString "pretty_flags"), params := (topd 8).1, body := .stmts (topd 8).2.1, scope := (topd 8).2.2, globals := 3, closure := [], defaults := .none, kwdefaults := .none, doc := .none, pyModule := (.str (Str.ofString "cpy313.dis") 279), annotations := none, code := (.ref 64), closureTuple := .none, builtins := 0 }), #[]⟩
noncomputable def o66 (_P : Params) : Obj := ⟨(.type "tuple"), none, (.seq #[] 0), #[]⟩
noncomputable def o67 (_P : Params) : Obj := ⟨.none, none, (.fields #[]), #[]⟩
noncomputable def o68 (_P : Params) : Obj := ⟨(.type "tuple"), none, (.seq #[(.str (Str.ofString "iterator") 325), (.str (Str.ofString "b") 326), (.str (Str.ofString "val") 327)] 0), #[]⟩
noncomputable def o69 (_P : Params) : Obj := ⟨(.type "tuple"), none, (.seq #[] 0), #[]⟩
noncomputable def o70 (_P : Params) : Obj := ⟨.none, none, (.func { name := (Str.ofString "_parse_varint"), qualname := (Str.ofString "_parse_varint"), params := (topd 9).1, body := .stmts (topd 9).2.1, scope := (topd 9).2.2, globals := 0, closure := [], defaults := .none, kwdefaults := .none, doc := .none, pyModule := .none, annotations := none, code := .none, closureTuple := .none, builtins := 0 }), #[]⟩
noncomputable def o71 (_P : Params) : Obj := ⟨(.type "code"), none, (.fields #[(.str (Str.ofString "_parse_varint") 322), (.str (Str.ofString "_parse_varint") 323), (.str (Str.ofString "/claim/cut.py") 324), (.int 25 0), (.int 1 0), (.int 0 0), (.int 0 0), (.int 3 0), (.ref 66), (.bool true), (.int 181 0), (.ref 67), .none, (.ref 68), (.ref 69), (.ref 70), (.int 328 0), (.int 25 0), (.str (Str.ofString "/claim/cut.py") 329)]), #[]⟩
noncomputable def o72 (_P : Params) : Obj := ⟨(.type "function"), none, (.func { name := (Str.ofString "_parse_varint"), qualname := (Str.ofString "_parse_varint"), params := (topd 9).1, body := .stmts (topd 9).2.1, scope := (topd 9).2.2, globals := 3, closure := [], defaults := .none, kwdefaults := .none, doc := .none, pyModule := (.str (Str.ofString "cpy313.dis") 279), annotations := none, code := (.ref 71), closureTuple := .none, builtins := 0 }), #[]⟩
noncomputable def o3_g12 (P : Params) : Obj := ⟨(.type "dict"), none, (.dict (List.toArray [⟨PyData.keyHash P (Str.ofString "__name__"), (.str (Str.ofString "__name__") 165), (.str (Str.ofString "cpy313.email.header") 331)⟩, ⟨PyData.keyHash P (Str.ofString "__doc__"), (.str (Str.ofString "__doc__") 166), .none⟩, ⟨PyData.keyHash P (Str.ofString "__package__"), (.str (Str.ofString "__package__") 167), .none⟩, ⟨PyData.keyHash P (Str.ofString "__loader__"), (.str (Str.ofString "__loader__") 168), (.builtin "__main__.__loader__#opaque")⟩, ⟨PyData.keyHash P (Str.ofString "__spec__"), (.str (Str.ofString "__spec__") 169), .none⟩, ⟨PyData.keyHash P (Str.ofString "__annotations__"), (.str (Str.ofString "__annotations__") 170), (.ref 6)⟩, ⟨PyData.keyHash P (Str.ofString "__builtins__"), (.str (Str.ofString "__builtins__") 171), (.ref 4)⟩, ⟨PyData.keyHash P (Str.ofString "__file__"), (.str (Str.ofString "__file__") 173), (.str (Str.ofString "/claim/cut.py") 172)⟩, ⟨PyData.keyHash P (Str.ofString "__cached__"), (.str (Str.ofString "__cached__") 174), .none⟩, ⟨PyData.keyHash P (Str.ofString "_wall"), (.str (Str.ofString "_wall") 193), (.ref 21)⟩, ⟨PyData.keyHash P (Str.ofString "c7_set"), (.str (Str.ofString "c7_set") 223), (.ref 23)⟩, ⟨PyData.keyHash P (Str.ofString "in_table_c7"), (.str (Str.ofString "in_table_c7") 230), (.ref 33)⟩, ⟨PyData.keyHash P (Str.ofString "c8_set"), (.str (Str.ofString "c8_set") 271), (.ref 47)⟩, ⟨PyData.keyHash P (Str.ofString "in_table_c8"), (.str (Str.ofString "in_table_c8") 278), (.ref 57)⟩, ⟨PyData.keyHash P (Str.ofString "COMPILER_FLAG_NAMES"), (.str (Str.ofString "COMPILER_FLAG_NAMES") 311), (.ref 58)⟩, ⟨PyData.keyHash P (Str.ofString "pretty_flags"), (.str (Str.ofString "pretty_flags") 321), (.ref 65)⟩, ⟨PyData.keyHash P (Str.ofString "_parse_varint"), (.str (Str.ofString "_parse_varint") 330), (.ref 72)⟩, ⟨PyData.keyHash P (Str.ofString "EMPTYSTRING"), (.str (Str.ofString "EMPTYSTRING") 334), (.str (Str.ofString "") 333)⟩, ⟨PyData.keyHash P (Str.ofString "_Accumulator"), (.str (Str.ofString "_Accumulator") 430), (.ref 152)⟩]) 19), #[]⟩
noncomputable def o12_g12 (_P : Params) : Obj := ⟨.none, none, (.fields #[(.int 1 0), (.int 0 0), (.ref 20), (.int 6 0), (.int 0 0), (.ref 32), (.int 9 0), (.int 0 0), (.ref 56), (.int 13 0), (.int 0 0), (.ref 64), (.int 25 0), (.int 0 0), (.ref 71), (.int 35 0), (.int 0 0), (.ref 79)]), #[]⟩
noncomputable def o73 (_P : Params) : Obj := ⟨(.type "tuple"), none, (.seq #[(.type "list")] 0), #[]⟩
noncomputable def o74 (_P : Params) : Obj := ⟨(.type "builtin_function_or_method"), none, (.fields #[(.builtin "type.__prepare__"), (.type "type")]), #[]⟩
noncomputable def o75 (P : Params) : Obj := ⟨(.type "dict"), none, (.dict (List.toArray [⟨PyData.keyHash P (Str.ofString "__module__"), (.str (Str.ofString "__module__") 342), (.str (Str.ofString "cpy313.email.header") 331)⟩, ⟨PyData.keyHash P (Str.ofString "__qualname__"), (.str (Str.ofString "__qualname__") 344), (.str (Str.ofString "_Accumulator") 343)⟩, ⟨PyData.keyHash P (Str.ofString "__firstlineno__"), (.str (Str.ofString "__firstlineno__") 346), (.int 35 345)⟩, ⟨PyData.keyHash P (Str.ofString "__init__"), (.str (Str.ofString "__init__") 356), (.ref 89)⟩, ⟨PyData.keyHash P (Str.ofString "push"), (.str (Str.ofString "push") 365), (.ref 96)⟩, ⟨PyData.keyHash P (Str.ofString "pop_from"), (.str (Str.ofString "pop_from") 375), (.ref 104)⟩, ⟨PyData.keyHash P (Str.ofString "pop"), (.str (Str.ofString "pop") 383), (.ref 112)⟩, ⟨PyData.keyHash P (Str.ofString "__len__"), (.str (Str.ofString "__len__") 390), (.ref 119)⟩, ⟨PyData.keyHash P (Str.ofString "__str__"), (.str (Str.ofString "__str__") 397), (.ref 126)⟩, ⟨PyData.keyHash P (Str.ofString "reset"), (.str (Str.ofString "reset") 405), (.ref 134)⟩, ⟨PyData.keyHash P (Str.ofString "is_onlyws"), (.str (Str.ofString "is_onlyws") 412), (.ref 141)⟩, ⟨PyData.keyHash P (Str.ofString "part_count"), (.str (Str.ofString "part_count") 420), (.ref 149)⟩, ⟨PyData.keyHash P (Str.ofString "__static_attributes__"), (.str (Str.ofString "__static_attributes__") 422), (.ref 150)⟩, ⟨PyData.keyHash P (Str.ofString "__classcell__"), (.str (Str.ofString "__classcell__") 423), (.ref 76)⟩]) 14), #[]⟩
noncomputable def o76 (_P : Params) : Obj := ⟨(.type "cell"), none, (.cell (some (.ref 152))), #[]⟩
noncomputable def o77 (_P : Params) : Obj := ⟨(.type "tuple"), none, (.seq #[] 0), #[]⟩
noncomputable def o78 (_P : Params) : Obj := ⟨.none, none, (.fields #[(.int 37 0), (.int 4 0), (.ref 88), (.int 41 0), (.int 4 0), (.ref 95), (.int 44 0), (.int 4 0), (.ref 103), (.int 49 0), (.int 4 0), (.ref 111), (.int 54 0), (.int 4 0), (.ref 118), (.int 57 0), (.int 4 0), (.ref 125), (.int 60 0), (.int 4 0), (.ref 133), (.int 63 0), (.int 4 0), (.ref 140), (.int 66 0), (.int 4 0), (.ref 148)]), #[]⟩
noncomputable def o79 (_P : Params) : Obj := ⟨(.type "code"), none, (.fields #[(.str (Str.ofString "_Accumulator") 337), (.str (Str.ofString "_Accumulator") 338), (.str (Str.ofString "/claim/cut.py") 339), (.int 35 0), (.int 0 0), (.int 0 0), (.int 0 0), (.int 0 0), (.ref 77), (.bool false), (.int 181 0), (.ref 78), .none, .none, .none, .none, (.int 340 0), (.int 35 0), (.str (Str.ofString "/claim/cut.py") 341)]), #[]⟩
noncomputable def o80 (_P : Params) : Obj := ⟨(.type "frame"), none, .plain, #[(some (.ref 79)), (some (.ref 3)), (some (.ref 75)), none, (some (.str (Str.ofString "cpy313.email.header") 331)), none, (some (.ref 0))]⟩
noncomputable def o81 (_P : Params) : Obj := ⟨(.type "tuple"), none, (.seq #[(.int 0 347)] 0), #[]⟩
noncomputable def o82 (_P : Params) : Obj := ⟨(.type "tuple"), none, (.seq #[(.ref 76)] 0), #[]⟩
noncomputable def o83 (_P : Params) : Obj := ⟨(.type "tuple"), none, (.seq #[(.str (Str.ofString "__class__") 351)] 0), #[]⟩
noncomputable def o84 (_P : Params) : Obj := ⟨.none, none, (.fields #[]), #[]⟩
noncomputable def o85 (_P : Params) : Obj := ⟨(.type "tuple"), none, (.seq #[(.str (Str.ofString "self") 352), (.str (Str.ofString "initial_size") 353)] 0), #[]⟩
noncomputable def o86 (_P : Params) : Obj := ⟨(.type "tuple"), none, (.seq #[] 0), #[]⟩
noncomputable def o87 (_P : Params) : Obj := ⟨.none, none, (.func { name := (Str.ofString "__init__"), qualname := (Str.ofString "_Accumulator.__init__"), params := (meth 0).1, body := .stmts (meth 0).2.1, scope := (meth 0).2.2, globals := 0, closure := [], defaults := .none, kwdefaults := .none, doc := .none, pyModule := .none, annotations := none, code := .none, closureTuple := .none, builtins := 0 }), #[]⟩
noncomputable def o88 (_P : Params) : Obj := ⟨(.type "code"), none, (.fields #[(.str (Str.ofString "__init__") 348), (.str (Str.ofString "_Accumulator.__init__") 349), (.str (Str.ofString "/claim/cut.py") 350), (.int 37 0), (.int 2 0), (.int 0 0), (.int 0 0), (.int 3 0), (.ref 83), (.bool true), (.int 181 0), (.ref 84), .none, (.ref 85), (.ref 86), (.ref 87), (.int 354 0), (.int 37 0), (.str (Str.ofString "/claim/cut.py") 355)]), #[]⟩
noncomputable def o89 (_P : Params) : Obj := ⟨(.type "function"), none, (.func { name := (Str.ofString "__init__"), qualname := (Str.ofString "_Accumulator.__init__"), params := (meth 0).1, body := .stmts (meth 0).2.1, scope := (meth 0).2.2, globals := 3, closure := [((Str.ofString "__class__"), 76)], defaults := (.ref 81), kwdefaults := .none, doc := .none, pyModule := (.str (Str.ofString "cpy313.email.header") 331), annotations := none, code := (.ref 88), closureTuple := (.ref 82), builtins := 0 }), #[]⟩
noncomputable def o90 (_P : Params) : Obj := ⟨(.type "tuple"), none, (.seq #[] 0), #[]⟩
noncomputable def o91 (_P : Params) : Obj := ⟨.none, none, (.fields #[]), #[]⟩
noncomputable def o92 (_P : Params) : Obj := ⟨(.type "tuple"), none, (.seq #[(.str (Str.ofString "self") 360), (.str (Str.ofString "fws") 361), (.str (Str.ofString "string") 362)] 0), #[]⟩
noncomputable def o93 (_P : Params) : Obj := ⟨(.type "tuple"), none, (.seq #[] 0), #[]⟩
noncomputable def o94 (_P : Params) : Obj := ⟨.none, none, (.func { name := (Str.ofString "push"), qualname := (Str.ofString "_Accumulator.push"), params := (meth 1).1, body := .stmts (meth 1).2.1, scope := (meth 1).2.2, globals := 0, closure := [], defaults := .none, kwdefaults := .none, doc := .none, pyModule := .none, annotations := none, code := .none, closureTuple := .none, builtins := 0 }), #[]⟩
noncomputable def o95 (_P : Params) : Obj := ⟨(.type "code"), none, (.fields #[(.str (Str.ofString "push") 357), (.str (Str.ofString "_Accumulator.push") 358), (.str (Str.ofString "/claim/cut.py") 359), (.int 41 0), (.int 3 0), (.int 0 0), (.int 0 0), (.int 3 0), (.ref 90), (.bool true), (.int 181 0), (.ref 91), .none, (.ref 92), (.ref 93), (.ref 94), (.int 363 0), (.int 41 0), (.str (Str.ofString "/claim/cut.py") 364)]), #[]⟩
noncomputable def o96 (_P : Params) : Obj := ⟨(.type "function"), none, (.func { name := (Str.ofString "push"), qualname := (Str.ofString "_Accumulator.push"), params := (meth 1).1, body := .stmts (meth 1).2.1, scope := (meth 1).2.2, globals := 3, closure := [], defaults := .none, kwdefaults := .none, doc := .none, pyModule := (.str (Str.ofString "cpy313.email.header") 331), annotations := none, code := (.ref 95), closureTuple := .none, builtins := 0 }), #[]⟩
noncomputable def o97 (_P : Params) : Obj := ⟨(.type "tuple"), none, (.seq #[(.int 0 366)] 0), #[]⟩
noncomputable def o98 (_P : Params) : Obj := ⟨(.type "tuple"), none, (.seq #[] 0), #[]⟩
noncomputable def o99 (_P : Params) : Obj := ⟨.none, none, (.fields #[]), #[]⟩
noncomputable def o100 (_P : Params) : Obj := ⟨(.type "tuple"), none, (.seq #[(.str (Str.ofString "self") 370), (.str (Str.ofString "i") 371), (.str (Str.ofString "popped") 372)] 0), #[]⟩
noncomputable def o101 (_P : Params) : Obj := ⟨(.type "tuple"), none, (.seq #[] 0), #[]⟩
noncomputable def o102 (_P : Params) : Obj := ⟨.none, none, (.func { name := (Str.ofString "pop_from"), qualname := (Str.ofString "_Accumulator.pop_from"), params := (meth 2).1, body := .stmts (meth 2).2.1, scope := (meth 2).2.2, globals := 0, closure := [], defaults := .none, kwdefaults := .none, doc := .none, pyModule := .none, annotations := none, code := .none, closureTuple := .none, builtins := 0 }), #[]⟩
noncomputable def o103 (_P : Params) : Obj := ⟨(.type "code"), none, (.fields #[(.str (Str.ofString "pop_from") 367), (.str (Str.ofString "_Accumulator.pop_from") 368), (.str (Str.ofString "/claim/cut.py") 369), (.int 44 0), (.int 2 0), (.int 0 0), (.int 0 0), (.int 3 0), (.ref 98), (.bool true), (.int 181 0), (.ref 99), .none, (.ref 100), (.ref 101), (.ref 102), (.int 373 0), (.int 44 0), (.str (Str.ofString "/claim/cut.py") 374)]), #[]⟩
noncomputable def o104 (_P : Params) : Obj := ⟨(.type "function"), none, (.func { name := (Str.ofString "pop_from"), qualname := (Str.ofString "_Accumulator.pop_from"), params := (meth 2).1, body := .stmts (meth 2).2.1, scope := (meth 2).2.2, globals := 3, closure := [], defaults := (.ref 97), kwdefaults := .none, doc := .none, pyModule := (.str (Str.ofString "cpy313.email.header") 331), annotations := none, code := (.ref 103), closureTuple := .none, builtins := 0 }), #[]⟩
noncomputable def o105 (_P : Params) : Obj := ⟨(.type "tuple"), none, (.seq #[(.ref 76)] 0), #[]⟩
noncomputable def o106 (_P : Params) : Obj := ⟨(.type "tuple"), none, (.seq #[(.str (Str.ofString "__class__") 379)] 0), #[]⟩
noncomputable def o107 (_P : Params) : Obj := ⟨.none, none, (.fields #[]), #[]⟩
noncomputable def o108 (_P : Params) : Obj := ⟨(.type "tuple"), none, (.seq #[(.str (Str.ofString "self") 380)] 0), #[]⟩
noncomputable def o109 (_P : Params) : Obj := ⟨(.type "tuple"), none, (.seq #[] 0), #[]⟩
noncomputable def o110 (_P : Params) : Obj := ⟨.none, none, (.func { name := (Str.ofString "pop"), qualname := (Str.ofString "_Accumulator.pop"), params := (meth 3).1, body := .stmts (meth 3).2.1, scope := (meth 3).2.2, globals := 0, closure := [], defaults := .none, kwdefaults := .none, doc := .none, pyModule := .none, annotations := none, code := .none, closureTuple := .none, builtins := 0 }), #[]⟩
noncomputable def o111 (_P : Params) : Obj := ⟨(.type "code"), none, (.fields #[(.str (Str.ofString "pop") 376), (.str (Str.ofString "_Accumulator.pop") 377), (.str (Str.ofString "/claim/cut.py") 378), (.int 49 0), (.int 1 0), (.int 0 0), (.int 0 0), (.int 3 0), (.ref 106), (.bool true), (.int 181 0), (.ref 107), .none, (.ref 108), (.ref 109), (.ref 110), (.int 381 0), (.int 49 0), (.str (Str.ofString "/claim/cut.py") 382)]), #[]⟩
noncomputable def o112 (_P : Params) : Obj := ⟨(.type "function"), none, (.func { name := (Str.ofString "pop"), qualname := (Str.ofString "_Accumulator.pop"), params := (meth 3).1, body := .stmts (meth 3).2.1, scope := (meth 3).2.2, globals := 3, closure := [((Str.ofString "__class__"), 76)], defaults := .none, kwdefaults := .none, doc := .none, pyModule := (.str (Str.ofString "cpy313.email.header") 331), annotations := none, code := (.ref 111), closureTuple := (.ref 105), builtins := 0 }), #[]⟩
noncomputable def o113 (_P : Params) : Obj := ⟨(.type "tuple"), none, (.seq #[] 0), #[]⟩
noncomputable def o114 (_P : Params) : Obj := ⟨.none, none, (.fields #[]), #[]⟩
noncomputable def o115 (_P : Params) : Obj := ⟨(.type "tuple"), none, (.seq #[(.str (Str.ofString "self") 387)] 0), #[]⟩
noncomputable def o116 (_P : Params) : Obj := ⟨(.type "tuple"), none, (.seq #[] 0), #[]⟩
noncomputable def o117 (_P : Params) : Obj := ⟨.none, none, (.func { name := (Str.ofString "__len__"), qualname := (Str.ofString "_Accumulator.__len__"), params := (meth 4).1, body := .stmts (meth 4).2.1, scope := (meth 4).2.2, globals := 0, closure := [], defaults := .none, kwdefaults := .none, doc := .none, pyModule := .none, annotations := none, code := .none, closureTuple := .none, builtins := 0 }), #[]⟩
noncomputable def o118 (_P : Params) : Obj := ⟨(.type "code"), none, (.fields #[(.str (Str.ofString "__len__") 384), (.str (Str.ofString "_Accumulator.__len__") 385), (.str (Str.ofString "/claim/cut.py") 386), (.int 54 0), (.int 1 0), (.int 0 0), (.int 0 0), (.int 3 0), (.ref 113), (.bool true), (.int 181 0), (.ref 114), .none, (.ref 115), (.ref 116), (.ref 117), (.int 388 0), (.int 54 0), (.str (Str.ofString "/claim/cut.py") 389)]), #[]⟩
noncomputable def o119 (_P : Params) : Obj := ⟨(.type "function"), none, (.func { name := (Str.ofString "__len__"), qualname := (Str.ofString "_Accumulator.__len__"), params := (meth 4).1, body := .stmts (meth 4).2.1, scope := (meth 4).2.2, globals := 3, closure := [], defaults := .none, kwdefaults := .none, doc := .none, pyModule := (.str (Str.ofString "cpy313.email.header") 331), annotations := none, code := (.ref 118), closureTuple := .none, builtins := 0 }), #[]⟩
noncomputable def o120 (_P : Params) : Obj := ⟨(.type "tuple"), none, (.seq #[] 0), #[]⟩
noncomputable def o121 (_P : Params) : Obj := ⟨.none, none, (.fields #[]), #[]⟩
noncomputable def o122 (_P : Params) : Obj := ⟨(.type "tuple"), none, (.seq #[(.str (Str.ofString "self") 394)] 0), #[]⟩
noncomputable def o123 (_P : Params) : Obj := ⟨(.type "tuple"), none, (.seq #[] 0), #[]⟩
noncomputable def o124 (_P : Params) : Obj := ⟨.none, none, (.func { name := (Str.ofString "__str__"), qualname := (Str.ofString "_Accumulator.__str__"), params := (meth 5).1, body := .stmts (meth 5).2.1, scope := (meth 5).2.2, globals := 0, closure := [], defaults := .none, kwdefaults := .none, doc := .none, pyModule := .none, annotations := none, code := .none, closureTuple := .none, builtins := 0 }), #[]⟩
noncomputable def o125 (_P : Params) : Obj := ⟨(.type "code"), none, (.fields #[(.str (Str.ofString "__str__") 391), (.str (Str.ofString "_Accumulator.__str__") 392), (.str (Str.ofString "/claim/cut.py") 393), (.int 57 0), (.int 1 0), (.int 0 0), (.int 0 0), (.int 3 0), (.ref 120), (.bool true), (.int 181 0), (.ref 121), .none, (.ref 122), (.ref 123), (.ref 124), (.int 395 0), (.int 57 0), (.str (Str.ofString "/claim/cut.py") 396)]), #[]⟩
noncomputable def o126 (_P : Params) : Obj := ⟨(.type "function"), none, (.func { name := (Str.ofString "__str__"), qualname := (Str.ofString "_Accumulator.__str__"), params := (meth 5).1, body := .stmts (meth 5).2.1, scope := (meth 5).2.2, globals := 3, closure := [], defaults := .none, kwdefaults := .none, doc := .none, pyModule := (.str (Str.ofString "cpy313.email.header") 331), annotations := none, code := (.ref 125), closureTuple := .none, builtins := 0 }), #[]⟩
noncomputable def o127 (_P : Params) : Obj := ⟨(.type "tuple"), none, (.seq #[.none] 0), #[]⟩
noncomputable def o128 (_P : Params) : Obj := ⟨(.type "tuple"), none, (.seq #[] 0), #[]⟩
noncomputable def o129 (_P : Params) : Obj := ⟨.none, none, (.fields #[]), #[]⟩
noncomputable def o130 (_P : Params) : Obj := ⟨(.type "tuple"), none, (.seq #[(.str (Str.ofString "self") 401), (.str (Str.ofString "startval") 402)] 0), #[]⟩
noncomputable def o131 (_P : Params) : Obj := ⟨(.type "tuple"), none, (.seq #[] 0), #[]⟩
noncomputable def o132 (_P : Params) : Obj := ⟨.none, none, (.func { name := (Str.ofString "reset"), qualname := (Str.ofString "_Accumulator.reset"), params := (meth 6).1, body := .stmts (meth 6).2.1, scope := (meth 6).2.2, globals := 0, closure := [], defaults := .none, kwdefaults := .none, doc := .none, pyModule := .none, annotations := none, code := .none, closureTuple := .none, builtins := 0 }), #[]⟩
noncomputable def o133 (_P : Params) : Obj := ⟨(.type "code"), none, (.fields #[(.str (Str.ofString "reset") 398), (.str (Str.ofString "_Accumulator.reset") 399), (.str (Str.ofString "/claim/cut.py") 400), (.int 60 0), (.int 2 0), (.int 0 0), (.int 0 0), (.int 3 0), (.ref 128), (.bool true), (.int 181 0), (.ref 129), .none, (.ref 130), (.ref 131), (.ref 132), (.int 403 0), (.int 60 0), (.str (Str.ofString "/claim/cut.py") 404)]), #[]⟩
noncomputable def o134 (_P : Params) : Obj := ⟨(.type "function"), none, (.func { name := (Str.ofString "reset"), qualname := (Str.ofString "_Accumulator.reset"), params := (meth 6).1, body := .stmts (meth 6).2.1, scope := (meth 6).2.2, globals := 3, closure := [], defaults := (.ref 127), kwdefaults := .none, doc := .none, pyModule := (.str (Str.ofString "cpy313.email.header") 331), annotations := none, code := (.ref 133), closureTuple := .none, builtins := 0 }), #[]⟩
noncomputable def o135 (_P : Params) : Obj := ⟨(.type "tuple"), none, (.seq #[] 0), #[]⟩
noncomputable def o136 (_P : Params) : Obj := ⟨.none, none, (.fields #[]), #[]⟩
noncomputable def o137 (_P : Params) : Obj := ⟨(.type "tuple"), none, (.seq #[(.str (Str.ofString "self") 409)] 0), #[]⟩
noncomputable def o138 (_P : Params) : Obj := ⟨(.type "tuple"), none, (.seq #[] 0), #[]⟩
noncomputable def o139 (_P : Params) : Obj := ⟨.none, none, (.func { name := (Str.ofString "is_onlyws"), qualname := (Str.ofString "_Accumulator.is_onlyws"), params := (meth 7).1, body := .stmts (meth 7).2.1, scope := (meth 7).2.2, globals := 0, closure := [], defaults := .none, kwdefaults := .none, doc := .none, pyModule := .none, annotations := none, code := .none, closureTuple := .none, builtins := 0 }), #[]⟩
noncomputable def o140 (_P : Params) : Obj := ⟨(.type "code"), none, (.fields #[(.str (Str.ofString "is_onlyws") 406), (.str (Str.ofString "_Accumulator.is_onlyws") 407), (.str (Str.ofString "/claim/cut.py") 408), (.int 63 0), (.int 1 0), (.int 0 0), (.int 0 0), (.int 3 0), (.ref 135), (.bool true), (.int 181 0), (.ref 136), .none, (.ref 137), (.ref 138), (.ref 139), (.int 410 0), (.int 63 0), (.str (Str.ofString "/claim/cut.py") 411)]), #[]⟩
noncomputable def o141 (_P : Params) : Obj := ⟨(.type "function"), none, (.func { name := (Str.ofString "is_onlyws"), qualname := (Str.ofString "_Accumulator.is_onlyws"), params := (meth 7).1, body := .stmts (meth 7).2.1, scope := (meth 7).2.2, globals := 3, closure := [], defaults := .none, kwdefaults := .none, doc := .none, pyModule := (.str (Str.ofString "cpy313.email.header") 331), annotations := none, code := (.ref 140), closureTuple := .none, builtins := 0 }), #[]⟩
noncomputable def o142 (_P : Params) : Obj := ⟨(.type "tuple"), none, (.seq #[(.ref 76)] 0), #[]⟩
noncomputable def o143 (_P : Params) : Obj := ⟨(.type "tuple"), none, (.seq #[(.str (Str.ofString "__class__") 416)] 0), #[]⟩
noncomputable def o144 (_P : Params) : Obj := ⟨.none, none, (.fields #[]), #[]⟩
noncomputable def o145 (_P : Params) : Obj := ⟨(.type "tuple"), none, (.seq #[(.str (Str.ofString "self") 417)] 0), #[]⟩
noncomputable def o146 (_P : Params) : Obj := ⟨(.type "tuple"), none, (.seq #[] 0), #[]⟩
noncomputable def o147 (_P : Params) : Obj := ⟨.none, none, (.func { name := (Str.ofString "part_count"), qualname := (Str.ofString "_Accumulator.part_count"), params := (meth 8).1, body := .stmts (meth 8).2.1, scope := (meth 8).2.2, globals := 0, closure := [], defaults := .none, kwdefaults := .none, doc := .none, pyModule := .none, annotations := none, code := .none, closureTuple := .none, builtins := 0 }), #[]⟩
noncomputable def o148 (_P : Params) : Obj := ⟨(.type "code"), none, (.fields #[(.str (Str.ofString "part_count") 413), (.str (Str.ofString "_Accumulator.part_count") 414), (.str (Str.ofString "/claim/cut.py") 415), (.int 66 0), (.int 1 0), (.int 0 0), (.int 0 0), (.int 3 0), (.ref 143), (.bool true), (.int 181 0), (.ref 144), .none, (.ref 145), (.ref 146), (.ref 147), (.int 418 0), (.int 66 0), (.str (Str.ofString "/claim/cut.py") 419)]), #[]⟩
noncomputable def o149 (_P : Params) : Obj := ⟨(.type "function"), none, (.func { name := (Str.ofString "part_count"), qualname := (Str.ofString "_Accumulator.part_count"), params := (meth 8).1, body := .stmts (meth 8).2.1, scope := (meth 8).2.2, globals := 3, closure := [((Str.ofString "__class__"), 76)], defaults := .none, kwdefaults := .none, doc := .none, pyModule := (.str (Str.ofString "cpy313.email.header") 331), annotations := none, code := (.ref 148), closureTuple := (.ref 142), builtins := 0 }), #[]⟩
noncomputable def o150 (_P : Params) : Obj := ⟨(.type "tuple"), none, (.seq #[(.str (Str.ofString "_initial_size") 421)] 0), #[]⟩
noncomputable def o151 (P : Params) : Obj := ⟨(.type "dict"), none, (.dict (List.toArray [⟨PyData.keyHash P (Str.ofString "__module__"), (.str (Str.ofString "__module__") 342), (.str (Str.ofString "cpy313.email.header") 331)⟩, ⟨PyData.keyHash P (Str.ofString "__firstlineno__"), (.str (Str.ofString "__firstlineno__") 346), (.int 35 345)⟩, ⟨PyData.keyHash P (Str.ofString "__init__"), (.str (Str.ofString "__init__") 356), (.ref 89)⟩, ⟨PyData.keyHash P (Str.ofString "push"), (.str (Str.ofString "push") 365), (.ref 96)⟩, ⟨PyData.keyHash P (Str.ofString "pop_from"), (.str (Str.ofString "pop_from") 375), (.ref 104)⟩, ⟨PyData.keyHash P (Str.ofString "pop"), (.str (Str.ofString "pop") 383), (.ref 112)⟩, ⟨PyData.keyHash P (Str.ofString "__len__"), (.str (Str.ofString "__len__") 390), (.ref 119)⟩, ⟨PyData.keyHash P (Str.ofString "__str__"), (.str (Str.ofString "__str__") 397), (.ref 126)⟩, ⟨PyData.keyHash P (Str.ofString "reset"), (.str (Str.ofString "reset") 405), (.ref 134)⟩, ⟨PyData.keyHash P (Str.ofString "is_onlyws"), (.str (Str.ofString "is_onlyws") 412), (.ref 141)⟩, ⟨PyData.keyHash P (Str.ofString "part_count"), (.str (Str.ofString "part_count") 420), (.ref 149)⟩, ⟨PyData.keyHash P (Str.ofString "__static_attributes__"), (.str (Str.ofString "__static_attributes__") 422), (.ref 150)⟩, ⟨PyData.keyHash P (Str.ofString "__dict__"), (.str (Str.ofString "__dict__") 425), (.ref 153)⟩, ⟨PyData.keyHash P (Str.ofString "__weakref__"), (.str (Str.ofString "__weakref__") 427), (.ref 154)⟩, ⟨PyData.keyHash P (Str.ofString "__doc__"), (.str (Str.ofString "__doc__") 428), .none⟩]) 5), #[]⟩
noncomputable def o152 (_P : Params) : Obj := ⟨(.type "type"), none, (.cls { name := (Str.ofString "_Accumulator"), bases := [(.type "list")], mro := [(.ref 152), (.type "list"), (.type "object")], ns := 151, qualname := (Str.ofString "_Accumulator"), hasDict := true, slotNames := [], subclasses := [], abstract := false, collection := none, hasDel := false }), #[(some (.ref 73)), none, (some (.str (Str.ofString "_Accumulator") 335)), (some (.str (Str.ofString "_Accumulator") 343)), (some (.builtin "list.__new__")), (some (.bool true))]⟩
noncomputable def o153 (_P : Params) : Obj := ⟨(.type "getset_descriptor"), none, (.fields #[(.str (Str.ofString "__dict__") 424), (.ref 152), (.builtin "function.__dict__"), (.builtin "function.__dict__#set")]), #[]⟩
noncomputable def o154 (_P : Params) : Obj := ⟨(.type "getset_descriptor"), none, (.fields #[(.str (Str.ofString "__weakref__") 426), (.ref 152), (.builtin "ExceptionGroup.__weakref__"), .none]), #[]⟩
noncomputable def o155 (_P : Params) : Obj := ⟨(.type "super"), none, (.fields #[(.ref 152), (.ref 152), (.ref 152)]), #[]⟩
noncomputable def o156 (_P : Params) : Obj := ⟨(.type "builtin_function_or_method"), none, (.fields #[(.builtin "object.__init_subclass__"), (.ref 152)]), #[]⟩
noncomputable def o3_g19 (P : Params) : Obj := ⟨(.type "dict"), none, (.dict (List.toArray [⟨PyData.keyHash P (Str.ofString "__name__"), (.str (Str.ofString "__name__") 165), (.str (Str.ofString "law_wk0012_01") 431)⟩, ⟨PyData.keyHash P (Str.ofString "__doc__"), (.str (Str.ofString "__doc__") 166), .none⟩, ⟨PyData.keyHash P (Str.ofString "__package__"), (.str (Str.ofString "__package__") 167), .none⟩, ⟨PyData.keyHash P (Str.ofString "__loader__"), (.str (Str.ofString "__loader__") 168), (.builtin "__main__.__loader__#opaque")⟩, ⟨PyData.keyHash P (Str.ofString "__spec__"), (.str (Str.ofString "__spec__") 169), .none⟩, ⟨PyData.keyHash P (Str.ofString "__annotations__"), (.str (Str.ofString "__annotations__") 170), (.ref 6)⟩, ⟨PyData.keyHash P (Str.ofString "__builtins__"), (.str (Str.ofString "__builtins__") 171), (.ref 4)⟩, ⟨PyData.keyHash P (Str.ofString "__file__"), (.str (Str.ofString "__file__") 173), (.str (Str.ofString "/claim/cut.py") 172)⟩, ⟨PyData.keyHash P (Str.ofString "__cached__"), (.str (Str.ofString "__cached__") 174), .none⟩, ⟨PyData.keyHash P (Str.ofString "_wall"), (.str (Str.ofString "_wall") 193), (.ref 21)⟩, ⟨PyData.keyHash P (Str.ofString "c7_set"), (.str (Str.ofString "c7_set") 223), (.ref 23)⟩, ⟨PyData.keyHash P (Str.ofString "in_table_c7"), (.str (Str.ofString "in_table_c7") 230), (.ref 33)⟩, ⟨PyData.keyHash P (Str.ofString "c8_set"), (.str (Str.ofString "c8_set") 271), (.ref 47)⟩, ⟨PyData.keyHash P (Str.ofString "in_table_c8"), (.str (Str.ofString "in_table_c8") 278), (.ref 57)⟩, ⟨PyData.keyHash P (Str.ofString "COMPILER_FLAG_NAMES"), (.str (Str.ofString "COMPILER_FLAG_NAMES") 311), (.ref 58)⟩, ⟨PyData.keyHash P (Str.ofString "pretty_flags"), (.str (Str.ofString "pretty_flags") 321), (.ref 65)⟩, ⟨PyData.keyHash P (Str.ofString "_parse_varint"), (.str (Str.ofString "_parse_varint") 330), (.ref 72)⟩, ⟨PyData.keyHash P (Str.ofString "EMPTYSTRING"), (.str (Str.ofString "EMPTYSTRING") 334), (.str (Str.ofString "") 333)⟩, ⟨PyData.keyHash P (Str.ofString "_Accumulator"), (.str (Str.ofString "_Accumulator") 430), (.ref 152)⟩, ⟨PyData.keyHash P (Str.ofString "_law_signs"), (.str (Str.ofString "_law_signs") 443), (.ref 163)⟩, ⟨PyData.keyHash P (Str.ofString "_law_hung"), (.str (Str.ofString "_law_hung") 454), (.ref 170)⟩, ⟨PyData.keyHash P (Str.ofString "_law_octets"), (.str (Str.ofString "_law_octets") 464), (.ref 177)⟩, ⟨PyData.keyHash P (Str.ofString "_law_moved"), (.str (Str.ofString "_law_moved") 475), (.ref 184)⟩, ⟨PyData.keyHash P (Str.ofString "_law_fewest"), (.str (Str.ofString "_law_fewest") 489), (.ref 191)⟩, ⟨PyData.keyHash P (Str.ofString "law"), (.str (Str.ofString "law") 495), (.ref 196)⟩]) 25), #[]⟩
noncomputable def o12_g19 (_P : Params) : Obj := ⟨.none, none, (.fields #[(.int 1 0), (.int 0 0), (.ref 20), (.int 6 0), (.int 0 0), (.ref 32), (.int 9 0), (.int 0 0), (.ref 56), (.int 13 0), (.int 0 0), (.ref 64), (.int 25 0), (.int 0 0), (.ref 71), (.int 35 0), (.int 0 0), (.ref 79), (.int 69 0), (.int 0 0), (.ref 162), (.int 77 0), (.int 0 0), (.ref 169), (.int 87 0), (.int 0 0), (.ref 176), (.int 97 0), (.int 0 0), (.ref 183), (.int 103 0), (.int 0 0), (.ref 190), (.int 119 0), (.int 0 0), (.ref 195)]), #[]⟩
noncomputable def o157 (_P : Params) : Obj := ⟨(.type "tuple"), none, (.seq #[] 0), #[]⟩
noncomputable def o158 (_P : Params) : Obj := ⟨.none, none, (.fields #[]), #[]⟩
noncomputable def o159 (_P : Params) : Obj := ⟨(.type "tuple"), none, (.seq #[(.str (Str.ofString "numbers") 436), (.str (Str.ofString "leaves") 437), (.str (Str.ofString "beside") 438), (.str (Str.ofString "text") 439), (.str (Str.ofString "x") 440)] 0), #[]⟩
noncomputable def o160 (_P : Params) : Obj := ⟨(.type "tuple"), none, (.seq #[] 0), #[]⟩
noncomputable def o161 (_P : Params) : Obj := ⟨.none, none, (.func { name := (Str.ofString "_law_signs"), qualname := (Str.ofString "_law_signs"), params := (topd 14).1, body := .stmts (topd 14).2.1, scope := (topd 14).2.2, globals := 0, closure := [], defaults := .none, kwdefaults := .none, doc := .none, pyModule := .none, annotations := none, code := .none, closureTuple := .none, builtins := 0 }), #[]⟩
noncomputable def o162 (_P : Params) : Obj := ⟨(.type "code"), none, (.fields #[(.str (Str.ofString "_law_signs") 433), (.str (Str.ofString "_law_signs") 434), (.str (Str.ofString "/claim/cut.py") 435), (.int 69 0), (.int 1 0), (.int 0 0), (.int 0 0), (.int 3 0), (.ref 157), (.bool true), (.int 181 0), (.ref 158), .none, (.ref 159), (.ref 160), (.ref 161), (.int 441 0), (.int 69 0), (.str (Str.ofString "/claim/cut.py") 442)]), #[]⟩
noncomputable def o163 (_P : Params) : Obj := ⟨(.type "function"), none, (.func { name := (Str.ofString "_law_signs"), qualname := (Str.ofString "_law_signs"), params := (topd 14).1, body := .stmts (topd 14).2.1, scope := (topd 14).2.2, globals := 3, closure := [], defaults := .none, kwdefaults := .none, doc := .none, pyModule := (.str (Str.ofString "law_wk0012_01") 431), annotations := none, code := (.ref 162), closureTuple := .none, builtins := 0 }), #[]⟩
noncomputable def o164 (_P : Params) : Obj := ⟨(.type "tuple"), none, (.seq #[] 0), #[]⟩
noncomputable def o165 (_P : Params) : Obj := ⟨.none, none, (.fields #[]), #[]⟩
noncomputable def o166 (_P : Params) : Obj := ⟨(.type "tuple"), none, (.seq #[(.str (Str.ofString "text") 447), (.str (Str.ofString "spine") 448), (.str (Str.ofString "ties") 449), (.str (Str.ofString "sign") 450), (.str (Str.ofString "further") 451)] 0), #[]⟩
noncomputable def o167 (_P : Params) : Obj := ⟨(.type "tuple"), none, (.seq #[] 0), #[]⟩
noncomputable def o168 (_P : Params) : Obj := ⟨.none, none, (.func { name := (Str.ofString "_law_hung"), qualname := (Str.ofString "_law_hung"), params := (topd 15).1, body := .stmts (topd 15).2.1, scope := (topd 15).2.2, globals := 0, closure := [], defaults := .none, kwdefaults := .none, doc := .none, pyModule := .none, annotations := none, code := .none, closureTuple := .none, builtins := 0 }), #[]⟩
noncomputable def o169 (_P : Params) : Obj := ⟨(.type "code"), none, (.fields #[(.str (Str.ofString "_law_hung") 444), (.str (Str.ofString "_law_hung") 445), (.str (Str.ofString "/claim/cut.py") 446), (.int 77 0), (.int 1 0), (.int 0 0), (.int 0 0), (.int 3 0), (.ref 164), (.bool true), (.int 181 0), (.ref 165), .none, (.ref 166), (.ref 167), (.ref 168), (.int 452 0), (.int 77 0), (.str (Str.ofString "/claim/cut.py") 453)]), #[]⟩
noncomputable def o170 (_P : Params) : Obj := ⟨(.type "function"), none, (.func { name := (Str.ofString "_law_hung"), qualname := (Str.ofString "_law_hung"), params := (topd 15).1, body := .stmts (topd 15).2.1, scope := (topd 15).2.2, globals := 3, closure := [], defaults := .none, kwdefaults := .none, doc := .none, pyModule := (.str (Str.ofString "law_wk0012_01") 431), annotations := none, code := (.ref 169), closureTuple := .none, builtins := 0 }), #[]⟩
noncomputable def o171 (_P : Params) : Obj := ⟨(.type "tuple"), none, (.seq #[] 0), #[]⟩
noncomputable def o172 (_P : Params) : Obj := ⟨.none, none, (.fields #[]), #[]⟩
noncomputable def o173 (_P : Params) : Obj := ⟨(.type "tuple"), none, (.seq #[(.str (Str.ofString "rows") 458), (.str (Str.ofString "octets") 459), (.str (Str.ofString "v") 460), (.str (Str.ofString "more") 461)] 0), #[]⟩
noncomputable def o174 (_P : Params) : Obj := ⟨(.type "tuple"), none, (.seq #[] 0), #[]⟩
noncomputable def o175 (_P : Params) : Obj := ⟨.none, none, (.func { name := (Str.ofString "_law_octets"), qualname := (Str.ofString "_law_octets"), params := (topd 16).1, body := .stmts (topd 16).2.1, scope := (topd 16).2.2, globals := 0, closure := [], defaults := .none, kwdefaults := .none, doc := .none, pyModule := .none, annotations := none, code := .none, closureTuple := .none, builtins := 0 }), #[]⟩
noncomputable def o176 (_P : Params) : Obj := ⟨(.type "code"), none, (.fields #[(.str (Str.ofString "_law_octets") 455), (.str (Str.ofString "_law_octets") 456), (.str (Str.ofString "/claim/cut.py") 457), (.int 87 0), (.int 1 0), (.int 0 0), (.int 0 0), (.int 3 0), (.ref 171), (.bool true), (.int 181 0), (.ref 172), .none, (.ref 173), (.ref 174), (.ref 175), (.int 462 0), (.int 87 0), (.str (Str.ofString "/claim/cut.py") 463)]), #[]⟩
noncomputable def o177 (_P : Params) : Obj := ⟨(.type "function"), none, (.func { name := (Str.ofString "_law_octets"), qualname := (Str.ofString "_law_octets"), params := (topd 16).1, body := .stmts (topd 16).2.1, scope := (topd 16).2.2, globals := 3, closure := [], defaults := .none, kwdefaults := .none, doc := .none, pyModule := (.str (Str.ofString "law_wk0012_01") 431), annotations := none, code := (.ref 176), closureTuple := .none, builtins := 0 }), #[]⟩
noncomputable def o178 (_P : Params) : Obj := ⟨(.type "tuple"), none, (.seq #[] 0), #[]⟩
noncomputable def o179 (_P : Params) : Obj := ⟨.none, none, (.fields #[]), #[]⟩
noncomputable def o180 (_P : Params) : Obj := ⟨(.type "tuple"), none, (.seq #[(.str (Str.ofString "mask") 468), (.str (Str.ofString "aim") 469), (.str (Str.ofString "rows") 470), (.str (Str.ofString "after") 471), (.str (Str.ofString "v") 472)] 0), #[]⟩
noncomputable def o181 (_P : Params) : Obj := ⟨(.type "tuple"), none, (.seq #[] 0), #[]⟩
noncomputable def o182 (_P : Params) : Obj := ⟨.none, none, (.func { name := (Str.ofString "_law_moved"), qualname := (Str.ofString "_law_moved"), params := (topd 17).1, body := .stmts (topd 17).2.1, scope := (topd 17).2.2, globals := 0, closure := [], defaults := .none, kwdefaults := .none, doc := .none, pyModule := .none, annotations := none, code := .none, closureTuple := .none, builtins := 0 }), #[]⟩
noncomputable def o183 (_P : Params) : Obj := ⟨(.type "code"), none, (.fields #[(.str (Str.ofString "_law_moved") 465), (.str (Str.ofString "_law_moved") 466), (.str (Str.ofString "/claim/cut.py") 467), (.int 97 0), (.int 3 0), (.int 0 0), (.int 0 0), (.int 3 0), (.ref 178), (.bool true), (.int 181 0), (.ref 179), .none, (.ref 180), (.ref 181), (.ref 182), (.int 473 0), (.int 97 0), (.str (Str.ofString "/claim/cut.py") 474)]), #[]⟩
noncomputable def o184 (_P : Params) : Obj := ⟨(.type "function"), none, (.func { name := (Str.ofString "_law_moved"), qualname := (Str.ofString "_law_moved"), params := (topd 17).1, body := .stmts (topd 17).2.1, scope := (topd 17).2.2, globals := 3, closure := [], defaults := .none, kwdefaults := .none, doc := .none, pyModule := (.str (Str.ofString "law_wk0012_01") 431), annotations := none, code := (.ref 183), closureTuple := .none, builtins := 0 }), #[]⟩
noncomputable def o185 (_P : Params) : Obj := ⟨(.type "tuple"), none, (.seq #[] 0), #[]⟩
noncomputable def o186 (_P : Params) : Obj := ⟨.none, none, (.fields #[]), #[]⟩
noncomputable def o187 (_P : Params) : Obj := ⟨(.type "tuple"), none, (.seq #[(.str (Str.ofString "rows") 479), (.str (Str.ofString "waiting") 480), (.str (Str.ofString "met") 481), (.str (Str.ofString "shots") 482), (.str (Str.ofString "sign") 483), (.str (Str.ofString "mask") 484), (.str (Str.ofString "aim") 485), (.str (Str.ofString "after") 486)] 0), #[]⟩
noncomputable def o188 (_P : Params) : Obj := ⟨(.type "tuple"), none, (.seq #[] 0), #[]⟩
noncomputable def o189 (_P : Params) : Obj := ⟨.none, none, (.func { name := (Str.ofString "_law_fewest"), qualname := (Str.ofString "_law_fewest"), params := (topd 18).1, body := .stmts (topd 18).2.1, scope := (topd 18).2.2, globals := 0, closure := [], defaults := .none, kwdefaults := .none, doc := .none, pyModule := .none, annotations := none, code := .none, closureTuple := .none, builtins := 0 }), #[]⟩
noncomputable def o190 (_P : Params) : Obj := ⟨(.type "code"), none, (.fields #[(.str (Str.ofString "_law_fewest") 476), (.str (Str.ofString "_law_fewest") 477), (.str (Str.ofString "/claim/cut.py") 478), (.int 103 0), (.int 1 0), (.int 0 0), (.int 0 0), (.int 3 0), (.ref 185), (.bool true), (.int 181 0), (.ref 186), .none, (.ref 187), (.ref 188), (.ref 189), (.int 487 0), (.int 103 0), (.str (Str.ofString "/claim/cut.py") 488)]), #[]⟩
noncomputable def o191 (_P : Params) : Obj := ⟨(.type "function"), none, (.func { name := (Str.ofString "_law_fewest"), qualname := (Str.ofString "_law_fewest"), params := (topd 18).1, body := .stmts (topd 18).2.1, scope := (topd 18).2.2, globals := 3, closure := [], defaults := .none, kwdefaults := .none, doc := .none, pyModule := (.str (Str.ofString "law_wk0012_01") 431), annotations := none, code := (.ref 190), closureTuple := .none, builtins := 0 }), #[]⟩
noncomputable def o192 (_P : Params) : Obj := ⟨(.type "tuple"), none, (.seq #[] 0), #[]⟩
noncomputable def o193 (_P : Params) : Obj := ⟨.none, none, (.fields #[]), #[]⟩
noncomputable def o194 (_P : Params) : Obj := ⟨.none, none, (.func { name := (Str.ofString "law"), qualname := (Str.ofString "law"), params := (topd 19).1, body := .stmts (topd 19).2.1, scope := (topd 19).2.2, globals := 0, closure := [], defaults := .none, kwdefaults := .none, doc := .none, pyModule := .none, annotations := none, code := .none, closureTuple := .none, builtins := 0 }), #[]⟩
noncomputable def o195 (_P : Params) : Obj := ⟨(.type "code"), none, (.fields #[(.str (Str.ofString "law") 490), (.str (Str.ofString "law") 491), (.str (Str.ofString "/claim/cut.py") 492), (.int 119 0), (.int 1 0), (.int 0 0), (.int 0 0), (.int 3 0), (.ref 192), (.bool true), (.int 181 0), (.ref 193), .none, .none, .none, (.ref 194), (.int 493 0), (.int 119 0), (.str (Str.ofString "/claim/cut.py") 494)]), #[]⟩
noncomputable def o196 (_P : Params) : Obj := ⟨(.type "function"), none, (.func { name := (Str.ofString "law"), qualname := (Str.ofString "law"), params := (topd 19).1, body := .stmts (topd 19).2.1, scope := (topd 19).2.2, globals := 3, closure := [], defaults := .none, kwdefaults := .none, doc := .none, pyModule := (.str (Str.ofString "law_wk0012_01") 431), annotations := none, code := (.ref 195), closureTuple := .none, builtins := 0 }), #[]⟩
noncomputable def heap_a (P : Params) : Heap := ⟨⟨[boot_o_0 P, boot_o_1 P, boot_o_2 P, boot_o_3 P, boot_o_4 P, boot_o_5 P, boot_o_6 P, boot_o_7 P, boot_o_8 P, boot_o_9 P, boot_o_10 P, o11 P, o12 P, o13 P, o14 P]⟩, {}⟩
noncomputable def tree_b (P : Params) : BT := (.node (boot_o_0 P) (.node (boot_o_1 P) (.node (boot_o_3 P) (.node (boot_o_7 P) .nil .nil) (.node (o11 P) .nil .nil)) (.node (boot_o_5 P) (.node (boot_o_9 P) .nil .nil) (.node (o13 P) .nil .nil))) (.node (boot_o_2 P) (.node (boot_o_4 P) (.node (boot_o_8 P) .nil .nil) (.node (o12 P) .nil .nil)) (.node (boot_o_6 P) (.node (boot_o_10 P) .nil .nil) (.node (o14 P) .nil .nil))))
noncomputable def tree_g3 (P : Params) : BT := (.node (boot_o_0 P) (.node (boot_o_1 P) (.node (o3_g3 P) (.node (boot_o_7 P) (.node (o15 P) (.node (o31 P) .nil .nil) .nil) (.node (o23 P) .nil .nil)) (.node (o11 P) (.node (o19 P) .nil .nil) (.node (o27 P) .nil .nil))) (.node (boot_o_5 P) (.node (boot_o_9 P) (.node (o17 P) (.node (o33 P) .nil .nil) .nil) (.node (o25 P) .nil .nil)) (.node (o13 P) (.node (o21 P) .nil .nil) (.node (o29 P) .nil .nil)))) (.node (boot_o_2 P) (.node (boot_o_4 P) (.node (boot_o_8 P) (.node (o16 P) (.node (o32 P) .nil .nil) .nil) (.node (o24 P) .nil .nil)) (.node (o12_g3 P) (.node (o20 P) .nil .nil) (.node (o28 P) .nil .nil))) (.node (boot_o_6 P) (.node (boot_o_10 P) (.node (o18 P) .nil .nil) (.node (o26 P) .nil .nil)) (.node (o14 P) (.node (o22 P) .nil .nil) (.node (o30 P) .nil .nil)))))
noncomputable def tree_g4 (P : Params) : BT := (.node (boot_o_0 P) (.node (boot_o_1 P) (.node (o3_g4 P) (.node (boot_o_7 P) (.node (o15 P) (.node (o31 P) .nil .nil) (.node (o47 P) .nil .nil)) (.node (o23 P) (.node (o39 P) .nil .nil) .nil)) (.node (o11 P) (.node (o19 P) (.node (o35 P) .nil .nil) .nil) (.node (o27 P) (.node (o43 P) .nil .nil) .nil))) (.node (boot_o_5 P) (.node (boot_o_9 P) (.node (o17 P) (.node (o33 P) .nil .nil) (.node (o49 P) .nil .nil)) (.node (o25 P) (.node (o41 P) .nil .nil) .nil)) (.node (o13 P) (.node (o21 P) (.node (o37 P) .nil .nil) .nil) (.node (o29 P) (.node (o45 P) .nil .nil) .nil)))) (.node (boot_o_2 P) (.node (boot_o_4 P) (.node (boot_o_8 P) (.node (o16 P) (.node (o32 P) .nil .nil) (.node (o48 P) .nil .nil)) (.node (o24 P) (.node (o40 P) .nil .nil) .nil)) (.node (o12_g3 P) (.node (o20 P) (.node (o36 P) .nil .nil) .nil) (.node (o28 P) (.node (o44 P) .nil .nil) .nil))) (.node (boot_o_6 P) (.node (boot_o_10 P) (.node (o18 P) (.node (o34 P) .nil .nil) (.node (o50 P) .nil .nil)) (.node (o26 P) (.node (o42 P) .nil .nil) .nil)) (.node (o14 P) (.node (o22 P) (.node (o38 P) .nil .nil) .nil) (.node (o30 P) (.node (o46 P) .nil .nil) .nil)))))
noncomputable def tree_g11 (P : Params) : BT := (.node (boot_o_0 P) (.node (boot_o_1 P) (.node (o3_g11 P) (.node (boot_o_7 P) (.node (o15 P) (.node (o31 P) (.node (o63 P) .nil .nil) .nil) (.node (o47 P) .nil .nil)) (.node (o23 P) (.node (o39 P) (.node (o71 P) .nil .nil) .nil) (.node (o55 P) .nil .nil))) (.node (o11 P) (.node (o19 P) (.node (o35 P) (.node (o67 P) .nil .nil) .nil) (.node (o51 P) .nil .nil)) (.node (o27 P) (.node (o43 P) .nil .nil) (.node (o59 P) .nil .nil)))) (.node (boot_o_5 P) (.node (boot_o_9 P) (.node (o17 P) (.node (o33 P) (.node (o65 P) .nil .nil) .nil) (.node (o49 P) .nil .nil)) (.node (o25 P) (.node (o41 P) .nil .nil) (.node (o57 P) .nil .nil))) (.node (o13 P) (.node (o21 P) (.node (o37 P) (.node (o69 P) .nil .nil) .nil) (.node (o53 P) .nil .nil)) (.node (o29 P) (.node (o45 P) .nil .nil) (.node (o61 P) .nil .nil))))) (.node (boot_o_2 P) (.node (boot_o_4 P) (.node (boot_o_8 P) (.node (o16 P) (.node (o32 P) (.node (o64 P) .nil .nil) .nil) (.node (o48 P) .nil .nil)) (.node (o24 P) (.node (o40 P) (.node (o72 P) .nil .nil) .nil) (.node (o56 P) .nil .nil))) (.node (o12_g11 P) (.node (o20 P) (.node (o36 P) (.node (o68 P) .nil .nil) .nil) (.node (o52 P) .nil .nil)) (.node (o28 P) (.node (o44 P) .nil .nil) (.node (o60 P) .nil .nil)))) (.node (boot_o_6 P) (.node (boot_o_10 P) (.node (o18 P) (.node (o34 P) (.node (o66 P) .nil .nil) .nil) (.node (o50 P) .nil .nil)) (.node (o26 P) (.node (o42 P) .nil .nil) (.node (o58 P) .nil .nil))) (.node (o14 P) (.node (o22 P) (.node (o38 P) (.node (o70 P) .nil .nil) .nil) (.node (o54 P) .nil .nil)) (.node (o30 P) (.node (o46 P) .nil .nil) (.node (o62 P) .nil .nil))))))
noncomputable def tree_g12 (P : Params) : BT := (.node (boot_o_0 P) (.node (boot_o_1 P) (.node (o3_g12 P) (.node (boot_o_7 P) (.node (o15 P) (.node (o31 P) (.node (o63 P) (.node (o127 P) .nil .nil) .nil) (.node (o95 P) .nil .nil)) (.node (o47 P) (.node (o79 P) (.node (o143 P) .nil .nil) .nil) (.node (o111 P) .nil .nil))) (.node (o23 P) (.node (o39 P) (.node (o71 P) (.node (o135 P) .nil .nil) .nil) (.node (o103 P) .nil .nil)) (.node (o55 P) (.node (o87 P) (.node (o151 P) .nil .nil) .nil) (.node (o119 P) .nil .nil)))) (.node (o11 P) (.node (o19 P) (.node (o35 P) (.node (o67 P) (.node (o131 P) .nil .nil) .nil) (.node (o99 P) .nil .nil)) (.node (o51 P) (.node (o83 P) (.node (o147 P) .nil .nil) .nil) (.node (o115 P) .nil .nil))) (.node (o27 P) (.node (o43 P) (.node (o75 P) (.node (o139 P) .nil .nil) .nil) (.node (o107 P) .nil .nil)) (.node (o59 P) (.node (o91 P) (.node (o155 P) .nil .nil) .nil) (.node (o123 P) .nil .nil))))) (.node (boot_o_5 P) (.node (boot_o_9 P) (.node (o17 P) (.node (o33 P) (.node (o65 P) (.node (o129 P) .nil .nil) .nil) (.node (o97 P) .nil .nil)) (.node (o49 P) (.node (o81 P) (.node (o145 P) .nil .nil) .nil) (.node (o113 P) .nil .nil))) (.node (o25 P) (.node (o41 P) (.node (o73 P) (.node (o137 P) .nil .nil) .nil) (.node (o105 P) .nil .nil)) (.node (o57 P) (.node (o89 P) (.node (o153 P) .nil .nil) .nil) (.node (o121 P) .nil .nil)))) (.node (o13 P) (.node (o21 P) (.node (o37 P) (.node (o69 P) (.node (o133 P) .nil .nil) .nil) (.node (o101 P) .nil .nil)) (.node (o53 P) (.node (o85 P) (.node (o149 P) .nil .nil) .nil) (.node (o117 P) .nil .nil))) (.node (o29 P) (.node (o45 P) (.node (o77 P) (.node (o141 P) .nil .nil) .nil) (.node (o109 P) .nil .nil)) (.node (o61 P) (.node (o93 P) .nil .nil) (.node (o125 P) .nil .nil)))))) (.node (boot_o_2 P) (.node (boot_o_4 P) (.node (boot_o_8 P) (.node (o16 P) (.node (o32 P) (.node (o64 P) (.node (o128 P) .nil .nil) .nil) (.node (o96 P) .nil .nil)) (.node (o48 P) (.node (o80 P) (.node (o144 P) .nil .nil) .nil) (.node (o112 P) .nil .nil))) (.node (o24 P) (.node (o40 P) (.node (o72 P) (.node (o136 P) .nil .nil) .nil) (.node (o104 P) .nil .nil)) (.node (o56 P) (.node (o88 P) (.node (o152 P) .nil .nil) .nil) (.node (o120 P) .nil .nil)))) (.node (o12_g12 P) (.node (o20 P) (.node (o36 P) (.node (o68 P) (.node (o132 P) .nil .nil) .nil) (.node (o100 P) .nil .nil)) (.node (o52 P) (.node (o84 P) (.node (o148 P) .nil .nil) .nil) (.node (o116 P) .nil .nil))) (.node (o28 P) (.node (o44 P) (.node (o76 P) (.node (o140 P) .nil .nil) .nil) (.node (o108 P) .nil .nil)) (.node (o60 P) (.node (o92 P) (.node (o156 P) .nil .nil) .nil) (.node (o124 P) .nil .nil))))) (.node (boot_o_6 P) (.node (boot_o_10 P) (.node (o18 P) (.node (o34 P) (.node (o66 P) (.node (o130 P) .nil .nil) .nil) (.node (o98 P) .nil .nil)) (.node (o50 P) (.node (o82 P) (.node (o146 P) .nil .nil) .nil) (.node (o114 P) .nil .nil))) (.node (o26 P) (.node (o42 P) (.node (o74 P) (.node (o138 P) .nil .nil) .nil) (.node (o106 P) .nil .nil)) (.node (o58 P) (.node (o90 P) (.node (o154 P) .nil .nil) .nil) (.node (o122 P) .nil .nil)))) (.node (o14 P) (.node (o22 P) (.node (o38 P) (.node (o70 P) (.node (o134 P) .nil .nil) .nil) (.node (o102 P) .nil .nil)) (.node (o54 P) (.node (o86 P) (.node (o150 P) .nil .nil) .nil) (.node (o118 P) .nil .nil))) (.node (o30 P) (.node (o46 P) (.node (o78 P) (.node (o142 P) .nil .nil) .nil) (.node (o110 P) .nil .nil)) (.node (o62 P) (.node (o94 P) .nil .nil) (.node (o126 P) .nil .nil)))))))
noncomputable def tree_g19 (P : Params) : BT := (.node (boot_o_0 P) (.node (boot_o_1 P) (.node (o3_g19 P) (.node (boot_o_7 P) (.node (o15 P) (.node (o31 P) (.node (o63 P) (.node (o127 P) .nil .nil) (.node (o191 P) .nil .nil)) (.node (o95 P) (.node (o159 P) .nil .nil) .nil)) (.node (o47 P) (.node (o79 P) (.node (o143 P) .nil .nil) .nil) (.node (o111 P) (.node (o175 P) .nil .nil) .nil))) (.node (o23 P) (.node (o39 P) (.node (o71 P) (.node (o135 P) .nil .nil) .nil) (.node (o103 P) (.node (o167 P) .nil .nil) .nil)) (.node (o55 P) (.node (o87 P) (.node (o151 P) .nil .nil) .nil) (.node (o119 P) (.node (o183 P) .nil .nil) .nil)))) (.node (o11 P) (.node (o19 P) (.node (o35 P) (.node (o67 P) (.node (o131 P) .nil .nil) (.node (o195 P) .nil .nil)) (.node (o99 P) (.node (o163 P) .nil .nil) .nil)) (.node (o51 P) (.node (o83 P) (.node (o147 P) .nil .nil) .nil) (.node (o115 P) (.node (o179 P) .nil .nil) .nil))) (.node (o27 P) (.node (o43 P) (.node (o75 P) (.node (o139 P) .nil .nil) .nil) (.node (o107 P) (.node (o171 P) .nil .nil) .nil)) (.node (o59 P) (.node (o91 P) (.node (o155 P) .nil .nil) .nil) (.node (o123 P) (.node (o187 P) .nil .nil) .nil))))) (.node (boot_o_5 P) (.node (boot_o_9 P) (.node (o17 P) (.node (o33 P) (.node (o65 P) (.node (o129 P) .nil .nil) (.node (o193 P) .nil .nil)) (.node (o97 P) (.node (o161 P) .nil .nil) .nil)) (.node (o49 P) (.node (o81 P) (.node (o145 P) .nil .nil) .nil) (.node (o113 P) (.node (o177 P) .nil .nil) .nil))) (.node (o25 P) (.node (o41 P) (.node (o73 P) (.node (o137 P) .nil .nil) .nil) (.node (o105 P) (.node (o169 P) .nil .nil) .nil)) (.node (o57 P) (.node (o89 P) (.node (o153 P) .nil .nil) .nil) (.node (o121 P) (.node (o185 P) .nil .nil) .nil)))) (.node (o13 P) (.node (o21 P) (.node (o37 P) (.node (o69 P) (.node (o133 P) .nil .nil) .nil) (.node (o101 P) (.node (o165 P) .nil .nil) .nil)) (.node (o53 P) (.node (o85 P) (.node (o149 P) .nil .nil) .nil) (.node (o117 P) (.node (o181 P) .nil .nil) .nil))) (.node (o29 P) (.node (o45 P) (.node (o77 P) (.node (o141 P) .nil .nil) .nil) (.node (o109 P) (.node (o173 P) .nil .nil) .nil)) (.node (o61 P) (.node (o93 P) (.node (o157 P) .nil .nil) .nil) (.node (o125 P) (.node (o189 P) .nil .nil) .nil)))))) (.node (boot_o_2 P) (.node (boot_o_4 P) (.node (boot_o_8 P) (.node (o16 P) (.node (o32 P) (.node (o64 P) (.node (o128 P) .nil .nil) (.node (o192 P) .nil .nil)) (.node (o96 P) (.node (o160 P) .nil .nil) .nil)) (.node (o48 P) (.node (o80 P) (.node (o144 P) .nil .nil) .nil) (.node (o112 P) (.node (o176 P) .nil .nil) .nil))) (.node (o24 P) (.node (o40 P) (.node (o72 P) (.node (o136 P) .nil .nil) .nil) (.node (o104 P) (.node (o168 P) .nil .nil) .nil)) (.node (o56 P) (.node (o88 P) (.node (o152 P) .nil .nil) .nil) (.node (o120 P) (.node (o184 P) .nil .nil) .nil)))) (.node (o12_g19 P) (.node (o20 P) (.node (o36 P) (.node (o68 P) (.node (o132 P) .nil .nil) (.node (o196 P) .nil .nil)) (.node (o100 P) (.node (o164 P) .nil .nil) .nil)) (.node (o52 P) (.node (o84 P) (.node (o148 P) .nil .nil) .nil) (.node (o116 P) (.node (o180 P) .nil .nil) .nil))) (.node (o28 P) (.node (o44 P) (.node (o76 P) (.node (o140 P) .nil .nil) .nil) (.node (o108 P) (.node (o172 P) .nil .nil) .nil)) (.node (o60 P) (.node (o92 P) (.node (o156 P) .nil .nil) .nil) (.node (o124 P) (.node (o188 P) .nil .nil) .nil))))) (.node (boot_o_6 P) (.node (boot_o_10 P) (.node (o18 P) (.node (o34 P) (.node (o66 P) (.node (o130 P) .nil .nil) (.node (o194 P) .nil .nil)) (.node (o98 P) (.node (o162 P) .nil .nil) .nil)) (.node (o50 P) (.node (o82 P) (.node (o146 P) .nil .nil) .nil) (.node (o114 P) (.node (o178 P) .nil .nil) .nil))) (.node (o26 P) (.node (o42 P) (.node (o74 P) (.node (o138 P) .nil .nil) .nil) (.node (o106 P) (.node (o170 P) .nil .nil) .nil)) (.node (o58 P) (.node (o90 P) (.node (o154 P) .nil .nil) .nil) (.node (o122 P) (.node (o186 P) .nil .nil) .nil)))) (.node (o14 P) (.node (o22 P) (.node (o38 P) (.node (o70 P) (.node (o134 P) .nil .nil) .nil) (.node (o102 P) (.node (o166 P) .nil .nil) .nil)) (.node (o54 P) (.node (o86 P) (.node (o150 P) .nil .nil) .nil) (.node (o118 P) (.node (o182 P) .nil .nil) .nil))) (.node (o30 P) (.node (o46 P) (.node (o78 P) (.node (o142 P) .nil .nil) .nil) (.node (o110 P) (.node (o174 P) .nil .nil) .nil)) (.node (o62 P) (.node (o94 P) (.node (o158 P) .nil .nil) .nil) (.node (o126 P) (.node (o190 P) .nil .nil) .nil)))))))
noncomputable def heap_f (P : Params) : Heap := ⟨⟨[boot_o_0 P, boot_o_1 P, boot_o_2 P, o3_g19 P, boot_o_4 P, boot_o_5 P, boot_o_6 P, boot_o_7 P, boot_o_8 P, boot_o_9 P, boot_o_10 P, o11 P, o12_g19 P, o13 P, o14 P, o15 P, o16 P, o17 P, o18 P, o19 P, o20 P, o21 P, o22 P, o23 P, o24 P, o25 P, o26 P, o27 P, o28 P, o29 P, o30 P, o31 P, o32 P, o33 P, o34 P, o35 P, o36 P, o37 P, o38 P, o39 P, o40 P, o41 P, o42 P, o43 P, o44 P, o45 P, o46 P, o47 P, o48 P, o49 P, o50 P, o51 P, o52 P, o53 P, o54 P, o55 P, o56 P, o57 P, o58 P, o59 P, o60 P, o61 P, o62 P, o63 P, o64 P, o65 P, o66 P, o67 P, o68 P, o69 P, o70 P, o71 P, o72 P, o73 P, o74 P, o75 P, o76 P, o77 P, o78 P, o79 P, o80 P, o81 P, o82 P, o83 P, o84 P, o85 P, o86 P, o87 P, o88 P, o89 P, o90 P, o91 P, o92 P, o93 P, o94 P, o95 P, o96 P, o97 P, o98 P, o99 P, o100 P, o101 P, o102 P, o103 P, o104 P, o105 P, o106 P, o107 P, o108 P, o109 P, o110 P, o111 P, o112 P, o113 P, o114 P, o115 P, o116 P, o117 P, o118 P, o119 P, o120 P, o121 P, o122 P, o123 P, o124 P, o125 P, o126 P, o127 P, o128 P, o129 P, o130 P, o131 P, o132 P, o133 P, o134 P, o135 P, o136 P, o137 P, o138 P, o139 P, o140 P, o141 P, o142 P, o143 P, o144 P, o145 P, o146 P, o147 P, o148 P, o149 P, o150 P, o151 P, o152 P, o153 P, o154 P, o155 P, o156 P, o157 P, o158 P, o159 P, o160 P, o161 P, o162 P, o163 P, o164 P, o165 P, o166 P, o167 P, o168 P, o169 P, o170 P, o171 P, o172 P, o173 P, o174 P, o175 P, o176 P, o177 P, o178 P, o179 P, o180 P, o181 P, o182 P, o183 P, o184 P, o185 P, o186 P, o187 P, o188 P, o189 P, o190 P, o191 P, o192 P, o193 P, o194 P, o195 P, o196 P]⟩, {}⟩
end Mine
end

-- H7
noncomputable section
open PySem PySem.W PyProof.Rows
set_option maxRecDepth 100000
set_option maxHeartbeats 0
namespace Mine
noncomputable abbrev seg (w : World) (n : Nat) (S : SharedT) (l : List Stmt) (p : Pos) := segRunT treeTable P0 w 11 (some (.ref 6)) 1 n S (piecesOf l envH codeH p BH)
noncomputable abbrev Sb (w : World) (os : OsState) : SharedT := ⟨tree_b w.params, 15, {}, g0, d0, 187, os⟩
noncomputable abbrev Sg3 (w : World) (os : OsState) : SharedT := ⟨tree_g3 w.params, 34, {}, g0, d0, 231, os⟩
noncomputable abbrev Sg4 (w : World) (os : OsState) : SharedT := ⟨tree_g4 w.params, 51, {}, g0, d0, 272, os⟩
noncomputable abbrev Sg11 (w : World) (os : OsState) : SharedT := ⟨tree_g11 w.params, 73, {}, g0, d0, 335, os⟩
noncomputable abbrev Sg12 (w : World) (os : OsState) : SharedT := ⟨tree_g12 w.params, 157, {}, g0, d0, 431, os⟩
noncomputable abbrev Sg19 (w : World) (os : OsState) : SharedT := ⟨tree_g19 w.params, 197, {}, g0, d0, 496, os⟩
noncomputable def W2 (w : World) (a b : Bool) : World := (w.withFollow "set-order" a).withFollow "special-get-raises" b
theorem allW {P : World → Prop} (h : ∀ w a b, P (W2 w a b)) (w : World) : P w := by
  have e1 := World.withFollow_self w "set-order"
  have e2 := World.withFollow_self (w.withFollow "set-order" (w.params.followText "set-order")) "special-get-raises"
  have := h w (w.params.followText "set-order") ((w.withFollow "set-order" (w.params.followText "set-order")).params.followText "special-get-raises")
  unfold W2 at this
  rw [e2, e1] at this
  exact this
theorem pa (w : World) (os : OsState) : topGo treeTable P0 w 11 (some (.ref 6)) 12 ⟨boot_heap w.params, Array.mk [], boot_drawn, boot_toks, os⟩ (topStub P0) =
    some (⟨heap_a w.params, g0, d0, 187, os⟩, ⟨denote treeTable codeH, codeH, p00, BH⟩) := by
  rw [PySem.W.Fast.te15667345088766844465, PySem.W.Fast.te14364793385576792824, PySem.W.Fast.te11892475500146522536]
  kernel_rfl
theorem pb (w : World) (os : OsState) : segRun treeTable P0 w 11 (some (.ref 6)) 1 1 ⟨heap_a w.params, g0, d0, 187, os⟩ (blockOf (behindTheImports P0) envH codeH p00 BH) =
    some (.next, SharedT.abs (Sb w os), codeH, p00) := by
  rw [PySem.W.Fast.te14374325043358763698, PySem.W.Fast.te14364793385576792824]
  kernel_rfl
theorem g3' (w : World) (os : OsState) (a b : Bool) : seg (W2 w a b) 428 (Sb (W2 w a b) os) (sl 0 4) p00 = some (.next, Sg3 (W2 w a b) os, codeH, ⟨6, 0, 7, 30⟩) := by
  unfold seg W2
  rw [PySem.W.Fast.te10110043849684766642, PySem.W.Fast.te14364793385576792824]
  cases a <;> cases b <;> kernel_rfl
theorem g3 (w : World) (os : OsState) : seg w 428 (Sb w os) (sl 0 4) p00 = some (.next, Sg3 w os, codeH, ⟨6, 0, 7, 30⟩) := allW (P := fun w => seg w 428 (Sb w os) (sl 0 4) p00 = some (.next, Sg3 w os, codeH, ⟨6, 0, 7, 30⟩)) (fun w => g3' w os) w
theorem g4' (w : World) (os : OsState) (a b : Bool) : seg (W2 w a b) 775 (Sg3 (W2 w a b) os) (sl 4 1) ⟨6, 0, 7, 30⟩ = some (.next, Sg4 (W2 w a b) os, codeH, ⟨8, 0, 8, 6⟩) := by
  unfold seg W2
  rw [PySem.W.Fast.te10110043849684766642, PySem.W.Fast.te14364793385576792824]
  cases a <;> cases b <;> kernel_rfl
theorem g4 (w : World) (os : OsState) : seg w 775 (Sg3 w os) (sl 4 1) ⟨6, 0, 7, 30⟩ = some (.next, Sg4 w os, codeH, ⟨8, 0, 8, 6⟩) := allW (P := fun w => seg w 775 (Sg3 w os) (sl 4 1) ⟨6, 0, 7, 30⟩ = some (.next, Sg4 w os, codeH, ⟨8, 0, 8, 6⟩)) (fun w => g4' w os) w
theorem g11' (w : World) (os : OsState) (a b : Bool) : seg (W2 w a b) 260 (Sg4 (W2 w a b) os) (sl 5 7) ⟨8, 0, 8, 6⟩ = some (.next, Sg11 (W2 w a b) os, codeH, ⟨34, 0, 34, 11⟩) := by
  unfold seg W2
  rw [PySem.W.Fast.te10110043849684766642, PySem.W.Fast.te14364793385576792824]
  cases b <;> kernel_rfl
theorem g11 (w : World) (os : OsState) : seg w 260 (Sg4 w os) (sl 5 7) ⟨8, 0, 8, 6⟩ = some (.next, Sg11 w os, codeH, ⟨34, 0, 34, 11⟩) := allW (P := fun w => seg w 260 (Sg4 w os) (sl 5 7) ⟨8, 0, 8, 6⟩ = some (.next, Sg11 w os, codeH, ⟨34, 0, 34, 11⟩)) (fun w => g11' w os) w
theorem g12 (w : World) (os : OsState) : seg w 505 (Sg11 w os) (sl 12 1) ⟨34, 0, 34, 11⟩ = some (.next, Sg12 w os, codeH, ⟨35, 0, 67, 32⟩) := by
  unfold seg
  rw [PySem.W.Fast.te10110043849684766642, PySem.W.Fast.te14364793385576792824]
  kernel_rfl
theorem g19 (w : World) (os : OsState) : seg w 203 (Sg12 w os) (sl 13 7) ⟨35, 0, 67, 32⟩ = some (.next, Sg19 w os, codeH, ⟨119, 0, 167, 54⟩) := by
  unfold seg
  rw [PySem.W.Fast.te10110043849684766642, PySem.W.Fast.te14364793385576792824]
  kernel_rfl
theorem pf (w : World) (os : OsState) : topRun treeTable P0 w 11 (some (.ref 6)) 2 (SharedT.abs (Sg19 w os)) ⟨doneF .next, codeH, ⟨119, 0, 167, 54⟩, BH⟩ = some ⟨heap_f w.params, g0, d0, 496, os⟩ := by
  rw [PySem.W.Fast.te14082659384304107361, PySem.W.Fast.te14364793385576792824]
  kernel_rfl
theorem body_split : behindTheImports P0 = sl 0 4 ++ (sl 4 1 ++ (sl 5 7 ++ (sl 12 1 ++ (sl 13 7 ++ [])))) := by kernel_rfl
theorem run_top (w : World) (os : OsState) : topRun treeTable P0 w 11 (some (.ref 6)) (12 + (1 + (428 + (775 + (260 + (505 + (203 + 2))))))) ⟨boot_heap w.params, Array.mk [], boot_drawn, boot_toks, os⟩ (topStub P0) = some ⟨heap_f w.params, g0, d0, 496, os⟩ := by
  refine go_top (pa w os) (piece_block (pb w os) ?_)
  rw [show restOf (behindTheImports P0) envH codeH p00 BH = restOf (sl 0 4 ++ (sl 4 1 ++ (sl 5 7 ++ (sl 12 1 ++ (sl 13 7 ++ []))))) envH codeH p00 BH from congrArg (fun l => restOf l envH codeH p00 BH) body_split]
  exact piece_app (segRun_of (g3 w os)) (piece_app (segRun_of (g4 w os)) (piece_app (segRun_of (g11 w os)) (piece_app (segRun_of (g12 w os)) (piece_app (segRun_of (g19 w os)) (piece_nil (pf w os))))))
end Mine
end

-- H9
noncomputable section
open PySem PySem.W PyProof.Rows
set_option maxRecDepth 100000
set_option maxHeartbeats 0
namespace Mine
noncomputable def qV : Program := view P0 [0, 2, 3, 4, 5, 7, 8, 9, 11, 12, 14, 15, 16, 17, 18, 19]
noncomputable abbrev looseV : List Str := [Str.ofString "c7_set", Str.ofString "c8_set", Str.ofString "COMPILER_FLAG_NAMES", Str.ofString "_Accumulator"]
noncomputable def KH (P : Params) : Frag := [(nat_lit 0, boot_o_0 P), (nat_lit 2, boot_o_2 P), (nat_lit 3, o3_g19 P), (nat_lit 15, o15 P), (nat_lit 17, o17 P), (nat_lit 18, o18 P), (nat_lit 20, o20 P), (nat_lit 21, o21 P), (nat_lit 23, o23 P), (nat_lit 27, o27 P), (nat_lit 29, o29 P), (nat_lit 30, o30 P), (nat_lit 32, o32 P), (nat_lit 33, o33 P), (nat_lit 47, o47 P), (nat_lit 51, o51 P), (nat_lit 53, o53 P), (nat_lit 54, o54 P), (nat_lit 56, o56 P), (nat_lit 57, o57 P), (nat_lit 58, o58 P), (nat_lit 59, o59 P), (nat_lit 61, o61 P), (nat_lit 62, o62 P), (nat_lit 64, o64 P), (nat_lit 65, o65 P), (nat_lit 66, o66 P), (nat_lit 68, o68 P), (nat_lit 69, o69 P), (nat_lit 71, o71 P), (nat_lit 72, o72 P), (nat_lit 73, o73 P), (nat_lit 76, o76 P), (nat_lit 81, o81 P), (nat_lit 82, o82 P), (nat_lit 83, o83 P), (nat_lit 85, o85 P), (nat_lit 86, o86 P), (nat_lit 88, o88 P), (nat_lit 89, o89 P), (nat_lit 90, o90 P), (nat_lit 92, o92 P), (nat_lit 93, o93 P), (nat_lit 95, o95 P), (nat_lit 96, o96 P), (nat_lit 97, o97 P), (nat_lit 98, o98 P), (nat_lit 100, o100 P), (nat_lit 101, o101 P), (nat_lit 103, o103 P), (nat_lit 104, o104 P), (nat_lit 105, o105 P), (nat_lit 106, o106 P), (nat_lit 108, o108 P), (nat_lit 109, o109 P), (nat_lit 111, o111 P), (nat_lit 112, o112 P), (nat_lit 113, o113 P), (nat_lit 115, o115 P), (nat_lit 116, o116 P), (nat_lit 118, o118 P), (nat_lit 119, o119 P), (nat_lit 120, o120 P), (nat_lit 122, o122 P), (nat_lit 123, o123 P), (nat_lit 125, o125 P), (nat_lit 126, o126 P), (nat_lit 127, o127 P), (nat_lit 128, o128 P), (nat_lit 130, o130 P), (nat_lit 131, o131 P), (nat_lit 133, o133 P), (nat_lit 134, o134 P), (nat_lit 135, o135 P), (nat_lit 137, o137 P), (nat_lit 138, o138 P), (nat_lit 140, o140 P), (nat_lit 141, o141 P), (nat_lit 142, o142 P), (nat_lit 143, o143 P), (nat_lit 145, o145 P), (nat_lit 146, o146 P), (nat_lit 148, o148 P), (nat_lit 149, o149 P), (nat_lit 150, o150 P), (nat_lit 151, o151 P), (nat_lit 152, o152 P), (nat_lit 153, o153 P), (nat_lit 154, o154 P), (nat_lit 157, o157 P), (nat_lit 159, o159 P), (nat_lit 160, o160 P), (nat_lit 162, o162 P), (nat_lit 163, o163 P), (nat_lit 164, o164 P), (nat_lit 166, o166 P), (nat_lit 167, o167 P), (nat_lit 169, o169 P), (nat_lit 170, o170 P), (nat_lit 171, o171 P), (nat_lit 173, o173 P), (nat_lit 174, o174 P), (nat_lit 176, o176 P), (nat_lit 177, o177 P), (nat_lit 178, o178 P), (nat_lit 180, o180 P), (nat_lit 181, o181 P), (nat_lit 183, o183 P), (nat_lit 184, o184 P), (nat_lit 185, o185 P), (nat_lit 187, o187 P), (nat_lit 188, o188 P), (nat_lit 190, o190 P), (nat_lit 191, o191 P), (nat_lit 192, o192 P), (nat_lit 195, o195 P), (nat_lit 196, o196 P)]
noncomputable def asH : List Addr := [nat_lit 0, nat_lit 2, nat_lit 3, nat_lit 15, nat_lit 17, nat_lit 18, nat_lit 20, nat_lit 21, nat_lit 23, nat_lit 27, nat_lit 29, nat_lit 30, nat_lit 32, nat_lit 33, nat_lit 47, nat_lit 51, nat_lit 53, nat_lit 54, nat_lit 56, nat_lit 57, nat_lit 58, nat_lit 59, nat_lit 61, nat_lit 62, nat_lit 64, nat_lit 65, nat_lit 66, nat_lit 68, nat_lit 69, nat_lit 71, nat_lit 72, nat_lit 73, nat_lit 76, nat_lit 81, nat_lit 82, nat_lit 83, nat_lit 85, nat_lit 86, nat_lit 88, nat_lit 89, nat_lit 90, nat_lit 92, nat_lit 93, nat_lit 95, nat_lit 96, nat_lit 97, nat_lit 98, nat_lit 100, nat_lit 101, nat_lit 103, nat_lit 104, nat_lit 105, nat_lit 106, nat_lit 108, nat_lit 109, nat_lit 111, nat_lit 112, nat_lit 113, nat_lit 115, nat_lit 116, nat_lit 118, nat_lit 119, nat_lit 120, nat_lit 122, nat_lit 123, nat_lit 125, nat_lit 126, nat_lit 127, nat_lit 128, nat_lit 130, nat_lit 131, nat_lit 133, nat_lit 134, nat_lit 135, nat_lit 137, nat_lit 138, nat_lit 140, nat_lit 141, nat_lit 142, nat_lit 143, nat_lit 145, nat_lit 146, nat_lit 148, nat_lit 149, nat_lit 150, nat_lit 151, nat_lit 152, nat_lit 153, nat_lit 154, nat_lit 157, nat_lit 159, nat_lit 160, nat_lit 162, nat_lit 163, nat_lit 164, nat_lit 166, nat_lit 167, nat_lit 169, nat_lit 170, nat_lit 171, nat_lit 173, nat_lit 174, nat_lit 176, nat_lit 177, nat_lit 178, nat_lit 180, nat_lit 181, nat_lit 183, nat_lit 184, nat_lit 185, nat_lit 187, nat_lit 188, nat_lit 190, nat_lit 191, nat_lit 192, nat_lit 195, nat_lit 196]
noncomputable abbrev rO : OpenRow := PySem.Challenge.rw_wk0012_01.row
noncomputable abbrev XtH : Shared → Bool := fun s => xlAt qV [] s && recOk (RowW.records rO.toRowW) s
noncomputable abbrev YfH : Shared → List (Option Obj) := fun s => asH.map s.heap.get?
noncomputable abbrev YaH : World → List (Option Obj) := fun w => (KH w.params).map fun p => some p.2
theorem opn : opening P0 = plainProg P0.main.scope.names := by kernel_rfl
theorem fenc (s : Shared) : fenceModules? P0 s = some s := by kernel_rfl
theorem size_ (w : World) : ((boot_heap w.params).isNs mainGlobals && (Array.mk [] : Array GenState).size == 0, (boot_heap w.params).objs.size, (boot_heap w.params).nsMap mainGlobals "__annotations__") = (true, 11, some (.ref 6)) := by kernel_rfl
noncomputable abbrev sF (w : World) (os : OsState) : Shared := ⟨heap_f w.params, g0, d0, 496, os⟩
theorem look1 (w : World) (os : OsState) : (staticsOk (importedModules P0.main.body) (boot_heap w.params) (heap_f w.params) && namesBound P0 (heap_f w.params) && gensDone (sF w os) && laidKept (boot_heap w.params) (heap_f w.params)) = true := by kernel_rfl
theorem look3 (w : World) (os : OsState) : YfH (sF w os) = YaH w := by kernel_rfl
theorem look2 (w : World) (os : OsState) : openSeen qV looseV (importedModules P0.main.body) XtH true (sF w os) = openGood qV looseV := by
  rw [PySem.W.Fast.te4187177175401517315]
  kernel_rfl
end Mine
end

-- H10
noncomputable section
open PySem PySem.W PyProof.Rows
set_option maxRecDepth 100000
set_option maxHeartbeats 0
namespace Mine
theorem leftH : LeftO P0 qV looseV XtH YfH YaH 4458 :=
  LeftO.of_pieces (H₀ := boot_heap) (H₁ := heap_f) (gs₀ := Array.mk []) (gs₁ := g0) (d₀ := boot_drawn) (d₁ := d0) (k₀ := boot_toks) (k₁ := 496) (m₀ := 11) (ann := some (.ref 6))
    (M := 12 + (1 + (428 + (775 + (260 + (505 + (203 + 2)))))))
    (boot_open opn (by decide) fenc) size_ (fun w os => run_top w os) (by decide)
    (fun w => funext fun os => Prod.ext (look1 w os) (Prod.ext (look2 w os) (look3 w os)))
theorem asK : ∀ P, asH = (KH P).map (·.1) := fun _ => by kernel_rfl
end Mine
end

-- F0
noncomputable section
open PySem PySem.W PyProof.Rows PySem.Calls
set_option maxRecDepth 100000
namespace Mine

noncomputable abbrev NoE : Value → Shared → Prop := fun _ _ => False
/-- everything of h (but at W) stands in h' -/
noncomputable def Kp (W : List Addr) (h h' : Heap) : Prop := ∀ b o, b ∉ W → h.get? b = some o → h'.get? b = some o
noncomputable abbrev Ex (h h' : Heap) : Prop := Kp [] h h'
theorem Kp.refl (W : List Addr) (h : Heap) : Kp W h h := fun _ _ _ e => e
theorem Kp.trans {W : List Addr} {a b c : Heap} (x : Kp W a b) (y : Kp W b c) : Kp W a c := fun d o n e => y d o n (x d o n e)
theorem Kp.mono {W W' : List Addr} {a b : Heap} (x : Kp W a b) (s : ∀ d ∈ W, d ∈ W') : Kp W' a b := fun d o n e => x d o (fun m => n (s d m)) e
theorem Ex.kp {W : List Addr} {a b : Heap} (x : Ex a b) : Kp W a b := fun d o _ e => x d o (by simp) e
theorem Ex.get {a b : Heap} (x : Ex a b) {d : Addr} {o : Obj} (e : a.get? d = some o) : b.get? d = some o := x d o (by simp) e
theorem Ex.push (h : Heap) (o : Obj) : Ex h (h.push o) := fun _ _ _ e => Heap.get?_push_of_some _ e
theorem Ex.old {a b : Heap} (x : Ex a b) {d : Addr} (n : b.get? d = none) : a.get? d = none := by
  cases e : a.get? d with
  | none => rfl
  | some o => rw [x.get e] at n; cases n
theorem kp_same {a : Addr} {h h' : Heap} (x : Heap.SameBut a h h') : Kp [a] h h' := fun d o n e => (x.2 d (fun q => n (by simp [q]))).trans e
theorem kp_ext {a : Addr} {h h' : Heap} (x : Heap.ExtBut a h h') : Kp [a] h h' := fun d o n e => x d o (fun q => n (by simp [q])) e
/-- what is new stays away from what lives -/
theorem ne_new {h : Heap} {a b : Addr} {o : Obj} (n : h.get? a = none) (e : h.get? b = some o) : b ≠ a := fun q => by rw [q, n] at e; cases e
theorem Kp.drop {W : List Addr} {h₀ h h' : Heap} (x : Ex h₀ h) (y : Kp W h h') (n : ∀ d ∈ W, h₀.get? d = none) : Ex h₀ h' :=
  fun d o _ e => y d o (fun m => by rw [n d m] at e; cases e) (x.get e)

noncomputable abbrev KB (w : World) (h : Heap) : Prop := (KH w.params).In h
theorem KB.ex {w : World} {h h' : Heap} (x : KB w h) (y : Ex h h') : KB w h' := Frag.In.keeps x fun _ _ e => y.get e

theorem ns_of {h : Heap} {a : Addr} {o : Obj} {es : Array DictEntry} {ep : Nat} (e : h.get? a = some o) (hd : o.data = .dict es ep) (k : es.all (fun e => match e.key with | .str .. => true | _ => false) = true) : h.Ns a (nsFind es) :=
  ⟨o, es, ep, e, hd, (fun x hx => by
    have := Array.all_eq_true'.mp k x hx
    cases q : x.key <;> rw [q] at this <;> first | exact ⟨_, _, rfl⟩ | cases this), fun _ => rfl⟩
theorem nolimit {w : World} {h : Heap} (X : KB w h) : h.NoLimit :=
  ⟨_, ns_of (X 2 (boot_o_2 w.params) (by kernel_rfl)) (by rfl) (by kernel_rfl), by kernel_rfl⟩

/-- a function's statement by its place -/
noncomputable def stm (f i : Nat) : Stmt := ((topd f).2.1).getD i (.Pass p00)
noncomputable def mst (f i : Nat) : Stmt := ((meth f).2.1).getD i (.Pass p00)
noncomputable def fdat (o : Obj) : Option FuncData := match o.data with | .func f => some f | _ => none

structure Room (A : Around) (n : Nat) : Prop where
  hd : A.handled = none
  dep : A.depth + n < recursionLimit
  uni : A.units + 20 * n < cLine
theorem Room.deeper {A : Around} {n : Nat} (r : Room A (n + 1)) (env : Env) : Room (A.deeper env) n := ⟨r.hd, by have := r.dep; show A.depth + 1 + n < _; omega, by have := r.uni; show A.units + 3 + 20 * n < _; omega⟩
theorem Room.less {A : Around} {n m : Nat} (r : Room A n) (h : m ≤ n) : Room A m := ⟨r.hd, by have := r.dep; omega, by have := r.uni; omega⟩
theorem Room.lt {A : Around} {n : Nat} (r : Room A n) : A.depth < recursionLimit := by have := r.dep; omega

section
variable {w : World} {A : Around} {G : Array GenState} {D : Drawn} {O : OsState} {h : Heap} {t : Nat} {env : Env}

theorem r_glob {x : Str} {pos : Pos} {v : Value} {Q : Value → Shared → Prop} (X : KB w h) (hk : env.scope.kind = .function) (hx : env.kindOf x = some .globalImplicit) (hg : env.globals = 3)
    (e : nsIn (KH w.params) 3 x = some (some v)) (q : Q v ⟨h, G, D, t, O⟩) (hd : (x == ("__debug__" : Str)) = false := by decide) : wpAny (model P0 w) A (eval (.Name x pos) env) Q NoE ⟨h, G, D, t, O⟩ := by
  refine Name_function_global hk hx ?_ hd
  unfold loadGlobal
  rw [hg]
  exact wpAny_bind ((looks_nsIn X e).here (wpAny_pure q))
theorem r_blt {x : Str} {pos : Pos} {v : Value} {Q : Value → Shared → Prop} (X : KB w h) (hk : env.scope.kind = .function) (hx : env.kindOf x = some .globalImplicit) (hg : env.globals = 3) (hb : env.builtins = 0)
    (e : nsIn (KH w.params) 3 x = some none) (e' : nsIn (KH w.params) 0 x = some (some v)) (q : Q v ⟨h, G, D, t, O⟩) (hd : (x == ("__debug__" : Str)) = false := by decide) : wpAny (model P0 w) A (eval (.Name x pos) env) Q NoE ⟨h, G, D, t, O⟩ := by
  refine Name_function_global hk hx ?_ hd
  unfold loadGlobal
  rw [hg, hb]
  refine wpAny_bind ((looks_nsIn X e).here ?_)
  exact wpAny_bind ((looks_nsIn X e').here (wpAny_pure q))

/-- a frame: its names, what stood ahead of it stands -/
structure Fx (h₀ : Heap) (L : Addr) (h : Heap) (m : Str → Option Value) : Prop where
  ns : h.Ns L m
  keep : Ex h₀ h
  new : h₀.get? L = none
theorem Fx.ex {h₀ h h' : Heap} {L : Addr} {m : Str → Option Value} (F : Fx h₀ L h m) (x : Ex h h') : Fx h₀ L h' m :=
  ⟨F.ns.at' fun o e => x.get e, F.keep.trans x, F.new⟩
theorem Fx.mut {h₀ h h' : Heap} {L : Addr} {m : Str → Option Value} {W : List Addr} (F : Fx h₀ L h m) (x : Kp W h h') (hL : L ∉ W) (n : ∀ d ∈ W, h₀.get? d = none) : Fx h₀ L h' m :=
  ⟨F.ns.at' fun o e => x _ _ hL e, Kp.drop F.keep x n, F.new⟩
theorem Fx.set {h₀ h h' : Heap} {L : Addr} {m m' : Str → Option Value} (F : Fx h₀ L h m) (hn : h'.Ns L m') (x : Heap.SameBut L h h') : Fx h₀ L h' m' :=
  ⟨hn, Kp.drop F.keep (kp_same x) (by simpa using F.new), F.new⟩
theorem Fx.live {h₀ h : Heap} {L : Addr} {m : Str → Option Value} (F : Fx h₀ L h m) : ∃ o, h.get? L = some o := let ⟨o, _, _, e, _⟩ := F.ns; ⟨o, e⟩

/-- an env of a def's frame -/
structure Ev (env : Env) (sc : Scope) : Prop where
  sc : env.scope = sc
  g : env.globals = 3
  b : env.builtins = 0
theorem Ev.kind {env : Env} {sc : Scope} {x : Str} {k : NameKind} (V : Ev env sc) (e : sc.names.lookup x = some k) : env.kindOf x = some k := by
  unfold Env.kindOf; rw [V.sc]; exact e

theorem r_call {f : Addr} {fo : Obj} {fd : FuncData} {body : List Stmt} {args : List Value} {binds : List (Str × Value)} {Q : Value → Shared → Prop} (X : KB w h) (hl : (KH w.params).lookup f = some fo) (hd : fo.data = .func fd)
    (hb : fd.body = .stmts body) (hcode : codeIn (KH w.params) fd.code fd.qualname = true) (hroom : A.depth < recursionLimit) (hbind : ∀ t, BindsTo ⟨h, G, D, t, O⟩ fd ⟨args, []⟩ binds)
    (hcell : fd.scope.names.all (fun x => x.2 != .cell) = true) (hloc : binds.all (fun x => fd.scope.names.lookup x.1 == some .local) = true)
    (hco : fd.scope.isCoroutine = false) (hge : fd.scope.isGenerator = false) (hk : fd.scope.kind = .function) (hg : fd.globals = 3) (hbu : fd.builtins = 0)
    (k : ∀ env h₀ t', Ev env fd.scope → env.cells = fd.closure → Fx h env.locals h₀ (fun x => binds.reverse.lookup x) →
      wpAny (model P0 w) (A.deeper env) (execs body env) (fun fl s' => Q (match fl with | .ret v => v | _ => .none) s') NoE ⟨h₀, G, D, t', O⟩) :
    wpAny (model P0 w) A (call (.ref f) args) Q NoE ⟨h, G, D, t, O⟩ := by
  refine wpAny_call (codeAny_call_def (fd := fd) (body := body) (binds := binds) hroom (X f fo hl) hd (nolimit X) (codeRec_of X hcode) hb (hbind t)
    (fun x hx => by have := List.all_eq_true.mp hcell x hx; simpa using this) (fun x hx => by have := List.all_eq_true.mp hloc x hx; simpa using this) (fun h₀ hn hk' => ?_) hco hge hk)
  exact wpAny_mono (k (callEnv fd h.objs.size f) h₀ _ ⟨rfl, hg, hbu⟩ rfl ⟨hn, fun b o _ e => hk' b o e, Heap.get?_none_of_le (Nat.le_refl _)⟩) (fun fl s' q => q) (fun _ _ q => q.elim)
end
end Mine
end

-- F1
noncomputable section
open PySem PySem.W PyProof.Rows PySem.Calls
set_option maxRecDepth 100000
set_option linter.unusedVariables false
namespace Mine

/-- m with x set to v -/
noncomputable def up (m : Str → Option Value) (x : Str) (v : Value) : Str → Option Value := fun y => if y = x then some v else m y
theorem up_eq {m : Str → Option Value} {x : Str} {v : Value} : up m x v x = some v := if_pos rfl
theorem up_ne {m : Str → Option Value} {x y : Str} {v : Value} {r : Option Value} (n : y ≠ x) (e : m y = r) : up m x v y = r := (if_neg n).trans e

section
variable {w : World} {A : Around} {G : Array GenState} {D : Drawn} {O : OsState} {h h₀ : Heap} {t : Nat} {env : Env} {m : Str → Option Value}

theorem r_ld {x : Str} {pos : Pos} {v : Value} {Q : Value → Shared → Prop} {E} (F : Fx h₀ env.locals h m) (hk : env.scope.kind = .function) (hx : env.kindOf x = some .local) (hv : m x = some v) (q : Q v ⟨h, G, D, t, O⟩)
    (hd : (x == ("__debug__" : Str)) = false := by decide) : wpAny (model P0 w) A (eval (.Name x pos) env) Q E ⟨h, G, D, t, O⟩ :=
  wpAny_Name (wpAny_loadName_local hk hx F.ns hv q) hd
theorem r_ldn {x : Str} {v : Value} {Q : Value → Shared → Prop} {E} (F : Fx h₀ env.locals h m) (hk : env.scope.kind = .function) (hx : env.kindOf x = some .local) (hv : m x = some v) (q : Q v ⟨h, G, D, t, O⟩) :
    wpAny (model P0 w) A (loadName env x) Q E ⟨h, G, D, t, O⟩ := wpAny_loadName_local hk hx F.ns hv q
theorem r_st {x : Str} {v : Value} {Q : Unit → Shared → Prop} {E} (F : Fx h₀ env.locals h m) (hk : env.scope.kind = .function) (hx : env.kindOf x = some .local)
    (q : ∀ h' t', Fx h₀ env.locals h' (up m x v) → Kp [env.locals] h h' → Q () ⟨h', G, D, t', O⟩) : wpAny (model P0 w) A (storeName env x v) Q E ⟨h, G, D, t, O⟩ :=
  wpAny_storeName_local hx F.ns (fun h' hn hs => q h' _ (F.set hn hs) (kp_same hs)) (by rw [hk]; rfl)

theorem r_seq {st : Stmt} {l rest : List Stmt} {Q : Flow → Shared → Prop} {E} {s : Shared} (e : l = st :: rest)
    (q : wpAny (model P0 w) A (exec st env) (fun f s' => match f with | .next => wpAny (model P0 w) A (execs rest env) Q E s' | f => Q f s') E s) : wpAny (model P0 w) A (execs l env) Q E s := by
  rw [e]; exact wpAny_execs_cons q

/-- a for over one name, by the library's walks -/
theorem r_for {I : Addr} {fp wr : List Addr} {n : Nat} {P : Nat → Value → Prop} {St : Nat → Heap → Prop} (W : Walks P0 w A I fp wr n P St) (J : Nat → Heap → Prop)
    {x : Str} {px : Pos} {body orelse : List Stmt} {Q : Flow → Shared → Prop}
    (fr : ∀ i h h', J i h → Kp wr h h' → J i h')
    (turn : ∀ i v h t, i < n → P i v → J i h → St (i + 1) h → wpAny (model P0 w) A (storeName env x v) (fun _ s₂ => wpAny (model P0 w) A (execs body env) (fun f s₃ => match f with
      | .next | .cont => ∃ h' t', s₃ = ⟨h', G, D, t', O⟩ ∧ J (i + 1) h' ∧ St (i + 1) h'
      | .brk => Q .next s₃
      | .ret v => Q (.ret v) s₃) NoE s₂) NoE ⟨h, G, D, t, O⟩)
    (done : ∀ h t, J n h → wpAny (model P0 w) A (execs orelse env) Q NoE ⟨h, G, D, t, O⟩) (j : J 0 h) (s0 : St 0 h) :
    codeAny (model P0 w) A (.forLoop (.Name x px) (.ref I) body orelse env) (fun r s' => match r with | .ok f => Q f s' | .error e => cameBackBy (model P0 w) A env NoE e s') ⟨h, G, D, t, O⟩ := by
  refine codeAny_forLoop_any (fun k s => ∃ i h t, s = ⟨h, G, D, t, O⟩ ∧ k = n - i ∧ i ≤ n ∧ J i h ∧ St i h) ?_ n ⟨0, h, t, rfl, rfl, Nat.zero_le _, j, s0⟩
  rintro k s ⟨i, h, t, rfl, rfl, hi, j, s0⟩
  by_cases hlt : i < n
  · refine W.item i _ _ _ hlt s0 fun v h' tk hP st' hk => ?_
    refine wpAny_of_eq (a := ()) (by rfl) ?_
    refine wpAny_assign_Name ?_
    refine wpAny_mono (turn i v h' tk hlt hP (fr i h h' j fun b o nb e => hk b o nb e) st') (fun _ s₂ h₂ => wpAny_mono h₂ (fun f s₃ h₃ => ?_) fun _ _ q => q.elim) fun _ _ q => q.elim
    cases f with
    | next => obtain ⟨h₄, t₄, rfl, j', s'⟩ := h₃; exact ⟨n - (i + 1), by omega, i + 1, h₄, t₄, rfl, rfl, hlt, j', s'⟩
    | cont => obtain ⟨h₄, t₄, rfl, j', s'⟩ := h₃; exact ⟨n - (i + 1), by omega, i + 1, h₄, t₄, rfl, rfl, hlt, j', s'⟩
    | brk => exact h₃
    | ret v => exact h₃
  · have : i = n := by omega
    subst this
    refine W.done _ _ _ s0 fun h' tk hk => ?_
    exact wpAny_mono (done h' tk (fr _ h h' j fun b o nb e => hk b o nb e)) (fun _ _ q => q) fun _ _ q => q.elim
end
end Mine
end

-- R1
noncomputable section
open PySem PySem.W PyProof.Rows PySem.Calls
set_option maxRecDepth 100000
set_option linter.unusedVariables false
namespace Mine
section
variable {w : World} {A : Around} {G : Array GenState} {D : Drawn} {O : OsState} {h h₀ : Heap} {t : Nat} {env : Env} {m : Str → Option Value} {Q : Value → Shared → Prop}

theorem r_int {i : Int} {k : Nat} {pos : Pos} (q : ∀ u t, Q (.int i u) ⟨h, G, D, t, O⟩) : wpAny (model P0 w) A (eval (.Constant (.int i) k pos) env) Q NoE ⟨h, G, D, t, O⟩ := wpAny_Constant_int (q _ _)
theorem r_str {x : Str} {k : Nat} {pos : Pos} (q : ∀ u t, Q (.str x u) ⟨h, G, D, t, O⟩) : wpAny (model P0 w) A (eval (.Constant (.str x) k pos) env) Q NoE ⟨h, G, D, t, O⟩ := Constant_str (q _ _)
-- arithmetic
theorem r_add {a b : Int} {u v : Tok} (q : ∀ u t, Q (.int (a + b) u) ⟨h, G, D, t, O⟩) : wpAny (model P0 w) A (binaryOp .Add (.int a u) (.int b v)) Q NoE ⟨h, G, D, t, O⟩ := PyProof.Rows.add_int (q _ _)
theorem r_sub {a b : Int} {u v : Tok} (q : ∀ u t, Q (.int (a - b) u) ⟨h, G, D, t, O⟩) : wpAny (model P0 w) A (binaryOp .Sub (.int a u) (.int b v)) Q NoE ⟨h, G, D, t, O⟩ := PyProof.Rows.sub_int (q _ _)
theorem r_mod {a b : Int} {u v : Tok} (hb : b ≠ 0) (q : ∀ u t, Q (.int (a.fmod b) u) ⟨h, G, D, t, O⟩) : wpAny (model P0 w) A (binaryOp .Mod (.int a u) (.int b v)) Q NoE ⟨h, G, D, t, O⟩ := PyProof.Rows.mod_int' hb (q _ _)
theorem nopylong {a b : Int} (hb : b.natAbs < 2 ^ 60) : Builtin.divisionGoesByPylong a b = false := by
  unfold Builtin.divisionGoesByPylong
  dsimp only
  have : (if (b == 0) = true then 0 else b.natAbs.log2 / 30 + 1) ≤ 300 := by
    split
    · omega
    · rename_i hz
      have : b.natAbs.log2 < 60 := (Nat.log2_lt (by simpa using hz)).mpr hb
      omega
  rw [Bool.and_eq_false_iff]
  exact .inl (decide_eq_false (by omega))
theorem r_fdiv {a b : Int} {u v : Tok} (hb : b ≠ 0) (hs : b.natAbs < 2 ^ 60) (q : ∀ u t, Q (.int (a.fdiv b) u) ⟨h, G, D, t, O⟩) : wpAny (model P0 w) A (binaryOp .FloorDiv (.int a u) (.int b v)) Q NoE ⟨h, G, D, t, O⟩ :=
  PyProof.Rows.floordiv_int hb (q _ _) (.inl (nopylong hs))
theorem r_and {a b : Int} {u v : Tok} (q : ∀ u t, Q (.int (Builtin.bitAnd a b) u) ⟨h, G, D, t, O⟩) : wpAny (model P0 w) A (binaryOp .BitAnd (.int a u) (.int b v)) Q NoE ⟨h, G, D, t, O⟩ := PyProof.Rows.and_int (q _ _)
theorem r_or {a b : Int} {u v : Tok} (q : ∀ u t, Q (.int (Builtin.bitOr a b) u) ⟨h, G, D, t, O⟩) : wpAny (model P0 w) A (binaryOp .BitOr (.int a u) (.int b v)) Q NoE ⟨h, G, D, t, O⟩ := PyProof.Rows.or_int (q _ _)
theorem r_shr {a b : Int} {u v : Tok} (hb : 0 ≤ b) (q : ∀ u t, Q (.int (a.fdiv (2 ^ b.toNat)) u) ⟨h, G, D, t, O⟩) : wpAny (model P0 w) A (binaryOp .RShift (.int a u) (.int b v)) Q NoE ⟨h, G, D, t, O⟩ := PyProof.Rows.rshift_int hb (q _ _)
theorem r_shl {a b : Int} {u v : Tok} (hb : 0 ≤ b) (hb' : b ≤ 1000000) (ha : a.natAbs < 2 ^ 64) (q : ∀ u t, Q (.int (a * 2 ^ b.toNat) u) ⟨h, G, D, t, O⟩) : wpAny (model P0 w) A (binaryOp .LShift (.int a u) (.int b v)) Q NoE ⟨h, G, D, t, O⟩ := PyProof.Rows.lshift_int_small hb hb' ha (q _ _)
theorem r_iadd {a b : Int} {u v : Tok} (q : ∀ u t, Q (.int (a + b) u) ⟨h, G, D, t, O⟩) : wpAny (model P0 w) A (inplaceOp .Add (.int a u) (.int b v)) Q NoE ⟨h, G, D, t, O⟩ := PyProof.Rows.iadd_int (q _ _)
theorem r_ior {a b : Int} {u v : Tok} (q : ∀ u t, Q (.int (Builtin.bitOr a b) u) ⟨h, G, D, t, O⟩) : wpAny (model P0 w) A (inplaceOp .BitOr (.int a u) (.int b v)) Q NoE ⟨h, G, D, t, O⟩ := PyProof.Rows.ior_int (q _ _)
theorem r_ixor {a b : Int} {u v : Tok} (q : ∀ u t, Q (.int (Builtin.bitXor a b) u) ⟨h, G, D, t, O⟩) : wpAny (model P0 w) A (inplaceOp .BitXor (.int a u) (.int b v)) Q NoE ⟨h, G, D, t, O⟩ := PyProof.Rows.ixor_int (q _ _)
theorem r_eq {a b : Int} {u v : Tok} (q : Q (.bool (a == b)) ⟨h, G, D, t, O⟩) : wpAny (model P0 w) A (compareOp .Eq (.int a u) (.int b v)) Q NoE ⟨h, G, D, t, O⟩ := PyProof.Rows.eq_int q
theorem r_ne {a b : Int} {u v : Tok} (q : Q (.bool (a != b)) ⟨h, G, D, t, O⟩) : wpAny (model P0 w) A (compareOp .NotEq (.int a u) (.int b v)) Q NoE ⟨h, G, D, t, O⟩ := PyProof.Rows.ne_int q
theorem r_lt {a b : Int} {u v : Tok} (q : Q (.bool (decide (a < b))) ⟨h, G, D, t, O⟩) : wpAny (model P0 w) A (compareOp .Lt (.int a u) (.int b v)) Q NoE ⟨h, G, D, t, O⟩ := PyProof.Rows.lt_int q
theorem r_gt {a b : Int} {u v : Tok} (q : Q (.bool (decide (b < a))) ⟨h, G, D, t, O⟩) : wpAny (model P0 w) A (compareOp .Gt (.int a u) (.int b v)) Q NoE ⟨h, G, D, t, O⟩ := PyProof.Rows.gt_int q
theorem r_tint {a : Int} {u : Tok} {Q : Bool → Shared → Prop} (q : Q (a != 0) ⟨h, G, D, t, O⟩) : wpAny (model P0 w) A (truthy (.int a u)) Q NoE ⟨h, G, D, t, O⟩ := PyProof.Rows.truthy_int q
theorem r_tbool {a : Bool} {Q : Bool → Shared → Prop} (q : Q a ⟨h, G, D, t, O⟩) : wpAny (model P0 w) A (truthy (.bool a)) Q NoE ⟨h, G, D, t, O⟩ := wpAny_pure q
-- tests
theorem r_tand {x : Expr} {rest : List Expr} {Q : Bool → Shared → Prop} {s : Shared}
    (q : wpAny (model P0 w) A (isTrue x env (eval x env)) (fun b s₁ => if b = true then wpAny (model P0 w) A (allTrue .And rest env) Q NoE s₁ else Q false s₁) NoE s) : wpAny (model P0 w) A (allTrue .And (x :: rest) env) Q NoE s := wpAny_allTrue_And_cons q
theorem if_t {P R : Prop} (q : P) : (if true = true then P else R) := by simpa using q
theorem if_f {P R : Prop} (q : R) : (if false = true then P else R) := by simpa using q
theorem if_b {b : Bool} {P R : Prop} (x : b = true → P) (y : b = false → R) : (if b = true then P else R) := by cases b <;> simp_all
-- range
theorem r_range1 {n : Int} {u : Tok} (q : ∀ r h' t', h.get? r = none → Ex h h' → (∃ a b c, IsRange h' r 0 n 1 a b c) → Q (.ref r) ⟨h', G, D, t', O⟩) : wpAny (model P0 w) A (call (.type "range") [.int n u]) Q NoE ⟨h, G, D, t, O⟩ :=
  call_range_1 (q _ _ _ (Heap.get?_none_of_le (Nat.le_refl _)) (Ex.push _ _) ⟨_, _, _, Heap.get?_push_size _ rfl⟩)
theorem r_range2 {a n : Int} {u v : Tok} (q : ∀ r h' t', h.get? r = none → Ex h h' → (∃ x b c, IsRange h' r a n 1 x b c) → Q (.ref r) ⟨h', G, D, t', O⟩) : wpAny (model P0 w) A (call (.type "range") [.int a u, .int n v]) Q NoE ⟨h, G, D, t, O⟩ :=
  call_range_2 (q _ _ _ (Heap.get?_none_of_le (Nat.le_refl _)) (Ex.push _ _) ⟨_, _, _, Heap.get?_push_size _ rfl⟩)
/-- what a range's iterator walks -/
noncomputable abbrev RSt (I : Addr) (a : Int) (n : Nat) (i : Nat) (h : Heap) : Prop := IsRangeIter h I (a + (i : Nat) * 1) ((n : Int) - (i : Nat)) 1
theorem r_iterRange {r : Addr} {a : Int} {n : Nat} (hs : Builtin.Range.small a (a + n) 1 = true) (hr : ∃ x b c, IsRange h r a (a + n) 1 x b c)
    (q : ∀ I h', h.get? I = none → Ex h h' → RSt I a n 0 h' → Q (.ref I) ⟨h', G, D, t, O⟩) : wpAny (model P0 w) A (pyIter (.ref r)) Q NoE ⟨h, G, D, t, O⟩ := by
  obtain ⟨x, b, c, hr⟩ := hr
  refine wpAny_pyIter_range hr hs (q _ _ (Heap.get?_none_of_le (Nat.le_refl _)) (Ex.push _ _) ?_)
  show IsRangeIter _ _ _ _ _
  have e : Builtin.Range.rangeSize a (a + n) 1 = (n : Int) := by rw [rangeSize_one]; split <;> omega
  rw [e]
  simpa using Heap.get?_push_size _ rfl
theorem walkRange (hh : A.handled = none) (I : Addr) (a : Int) (n : Nat) : Walks P0 w A I [I] [I] n (fun i v => ∃ t, v = .int (a + i * 1) t) (RSt I a n) := Walks.range hh I a 1 n
-- lists
theorem r_idx {l : Addr} {items : Array Value} {k : Int} {u : Tok} {x : Value} (hl : h.IsList l items) (h0 : 0 ≤ k) (hk : k < 2 ^ 63) (hx : items[k.toNat]? = some x) (q : Q x ⟨h, G, D, t, O⟩) :
    SubscriptOn (model P0 w) A (.ref l) (.int k u) Q NoE ⟨h, G, D, t, O⟩ := ⟨"list", _, slot_list_getitem.lookup, hl.typeIs, wpAny_getItem_list hl h0 hk hx q⟩
end
end Mine
end

-- M1
noncomputable section
open PySem PySem.W PyProof.Rows PySem.Calls
set_option maxRecDepth 100000
set_option linter.unusedVariables false
namespace Mine
section
variable {w : World} {A : Around} {G : Array GenState} {D : Drawn} {O : OsState} {h h₀ : Heap} {t : Nat} {env : Env} {m : Str → Option Value}
/-- a list of whole numbers -/
noncomputable def IL (h : Heap) (a : Addr) (ns : List Int) : Prop := ∃ vs : Array Value, h.IsList a vs ∧ vs.size = ns.length ∧ ∀ (i : Nat) (n : Int), ns[i]? = some n → ∃ u, vs[i]? = some (.int n u)
theorem isl_ex {h h' : Heap} {a : Addr} {vs : Array Value} (x : h.IsList a vs) (e : Ex h h') : h'.IsList a vs := x.at fun _ q => e.get q
theorem isl_kp {W : List Addr} {h h' : Heap} {a : Addr} {vs : Array Value} (x : h.IsList a vs) (e : Kp W h h') (n : a ∉ W) : h'.IsList a vs := x.at fun _ q => e _ _ n q
theorem IL.ex {h h' : Heap} {a : Addr} {ns : List Int} (x : IL h a ns) (e : Ex h h') : IL h' a ns := let ⟨vs, l, r⟩ := x; ⟨vs, isl_ex l e, r⟩
theorem IL.kp {W : List Addr} {h h' : Heap} {a : Addr} {ns : List Int} (x : IL h a ns) (e : Kp W h h') (n : a ∉ W) : IL h' a ns := let ⟨vs, l, r⟩ := x; ⟨vs, isl_kp l e n, r⟩
theorem IL.live {h : Heap} {a : Addr} {ns : List Int} (x : IL h a ns) : ∃ o, h.get? a = some o := let ⟨_, ⟨o, e, _⟩, _⟩ := x; ⟨o, e⟩
theorem r_idxIL {l : Addr} {ns : List Int} {k : Int} {u : Tok} {n : Int} {Q : Value → Shared → Prop} (hl : IL h l ns) (h0 : 0 ≤ k) (hk : k < 2 ^ 63) (hx : ns[k.toNat]? = some n) (q : ∀ u, Q (.int n u) ⟨h, G, D, t, O⟩) :
    SubscriptOn (model P0 w) A (.ref l) (.int k u) Q NoE ⟨h, G, D, t, O⟩ := by
  obtain ⟨vs, l1, _, l2⟩ := hl
  obtain ⟨u', e⟩ := l2 _ _ hx
  exact r_idx l1 h0 hk e (q u')

noncomputable def movedI (mask aim : Int) (rows : List Int) : Nat → Int
  | 0 => 0
  | i + 1 => if Builtin.bitAnd (mask.fdiv (2 ^ i)) 1 != 0 && ((i : Int) != aim) then Builtin.bitOr (movedI mask aim rows i) (rows.getD i 0) else movedI mask aim rows i

noncomputable def fMoved (P : Params) : FuncData := (fdat (o184 P)).getD default
theorem bMoved : (topd 17).2.1 = [stm 17 0, stm 17 1, stm 17 2] := by kernel_rfl
theorem moved_body {mask aim : Int} {t1 t2 : Tok} {ra : Addr} {rows : List Int} {Q : Flow → Shared → Prop} (X : KB w h₀) (hh : A.handled = none) (V : Ev env (topd 17).2.2) (F : Fx h₀ env.locals h m)
   (e1 : m "mask" = some (.int mask t1)) (e2 : m "aim" = some (.int aim t2)) (e3 : m "rows" = some (.ref ra)) (hr : IL h₀ ra rows) (hlen : rows.length = 7)
   (q : ∀ u h' t', Ex h₀ h' → Q (.ret (.int (movedI mask aim rows 7) u)) ⟨h', G, D, t', O⟩) :
   wpAny (model P0 w) A (execs [stm 17 0, stm 17 1, stm 17 2] env) Q NoE ⟨h, G, D, t, O⟩ := by
  have hk : env.scope.kind = .function := by rw [V.sc]; kernel_rfl
  have ka : env.kindOf "after" = some .local := V.kind (by kernel_rfl)
  have kv : env.kindOf "v" = some .local := V.kind (by kernel_rfl)
  have km : env.kindOf "mask" = some .local := V.kind (by kernel_rfl)
  have ki : env.kindOf "aim" = some .local := V.kind (by kernel_rfl)
  have kr : env.kindOf "rows" = some .local := V.kind (by kernel_rfl)
  have kg : env.kindOf "range" = some .globalImplicit := V.kind (by kernel_rfl)
  refine wpAny_execs_cons (wpAny_Assign_Name (r_int fun u t => r_st F hk ka fun h t F k1 => ?_))
  refine wpAny_execs_cons (wpAny_For ?_)
  refine wpAny_Call_NameR (r_blt (X.ex F.keep) hk kg V.g V.b (by kernel_rfl) (v := .type "range") (by kernel_rfl) ?_)
  refine callWith_type1 (args_cons (r_int fun u t => args_nil (r_range1 fun r h1 t nr x1 hr1 => ?_)))
  refine r_iterRange (a := 0) (n := 7) (by rfl) hr1 fun I h2 nI x2 st2 => ?_
  refine r_for (walkRange hh I 0 7) (fun i h => ∃ m, Fx h₀ env.locals h m ∧ m "mask" = some (.int mask t1) ∧ m "aim" = some (.int aim t2) ∧ m "rows" = some (.ref ra) ∧ (∃ u, m "after" = some (.int (movedI mask aim rows i) u)) ∧ env.locals ≠ I ∧ h₀.get? I = none)
    ?_ ?_ ?_ ?_ st2
  · rintro i h h' ⟨m, F, e1, e2, e3, e4, n1, n2⟩ k
    exact ⟨m, F.mut k (by simpa using n1) (by simpa using n2), e1, e2, e3, e4, n1, n2⟩
  · rintro i v h t hi ⟨u, rfl⟩ ⟨m, F, e1, e2, e3, ⟨ua, e4⟩, n1, n2⟩ st
    rw [show (0 : Int) + (i : Int) * 1 = (i : Int) by omega]
    refine r_st F hk kv fun h3 t F k3 => ?_
    have st : RSt I 0 7 (i + 1) h3 := (walkRange hh I 0 7 (w := w)).frame _ _ _ st fun b hb o e => k3 b o (by simp at hb; subst hb; simpa using n1.symm) e
    refine wpAny_execs_cons (wpAny_If (wpAny_isTrue_BoolOp (r_tand ?_)))
    refine wpAny_isTrue_value (wpAny_BinOp (wpAny_BinOp (r_ld F hk km (up_ne (by decide) e1) (r_ld F hk kv up_eq ?_))))
    refine r_shr (by omega) fun u t => r_int fun u t => r_and fun u t => r_tint ?_
    have fin : ∀ {h' m'} t', Fx h₀ env.locals h' m' → RSt I 0 7 (i + 1) h' → m' "mask" = some (.int mask t1) → m' "aim" = some (.int aim t2) → m' "rows" = some (.ref ra) → (∃ u, m' "after" = some (.int (movedI mask aim rows (i + 1)) u)) →
       wpAny (model P0 w) A (execs [] env) (fun f s₃ => match f with
        | .next | .cont => ∃ h' t', s₃ = ⟨h', G, D, t', O⟩ ∧ (∃ m, Fx h₀ env.locals h' m ∧ m "mask" = some (.int mask t1) ∧ m "aim" = some (.int aim t2) ∧ m "rows" = some (.ref ra) ∧ (∃ u, m "after" = some (.int (movedI mask aim rows (i + 1)) u)) ∧ env.locals ≠ I ∧ h₀.get? I = none) ∧ RSt I 0 7 (i + 1) h'
        | .brk => (match Flow.next with | .next => wpAny (model P0 w) A (execs [stm 17 2] env) Q NoE s₃ | f => Q f s₃)
        | .ret v => Q (.ret v) s₃) NoE ⟨h', G, D, t', O⟩ := fun t' F' st' a b c d => wpAny_execs_nil ⟨_, _, rfl, ⟨_, F', a, b, c, d, n1, n2⟩, st'⟩
    have eqM : movedI mask aim rows (i + 1) = if (Builtin.bitAnd (mask.fdiv (2 ^ i)) 1 != 0 && ((i : Int) != aim)) = true then Builtin.bitOr (movedI mask aim rows i) (rows.getD i 0) else movedI mask aim rows i := rfl
    have skip : (Builtin.bitAnd (mask.fdiv (2 ^ i)) 1 != 0 && ((i : Int) != aim)) = false → movedI mask aim rows (i + 1) = movedI mask aim rows i := fun e => by rw [eqM, e]; rfl
    have take : (Builtin.bitAnd (mask.fdiv (2 ^ i)) 1 != 0 && ((i : Int) != aim)) = true → movedI mask aim rows (i + 1) = Builtin.bitOr (movedI mask aim rows i) (rows.getD i 0) := fun e => by rw [eqM, e]; rfl
    have hsk : (Builtin.bitAnd (mask.fdiv (2 ^ i)) 1 != 0 && ((i : Int) != aim)) = false → ∀ t', wpAny (model P0 w) A (execs [] env) _ NoE ⟨h3, G, D, t', O⟩ := fun e t' =>
      fin t' F st (up_ne (by decide) e1) (up_ne (by decide) e2) (up_ne (by decide) e3) ⟨ua, by rw [skip e]; exact up_ne (by decide) e4⟩
    refine if_b (fun (b1 : (Builtin.bitAnd (mask.fdiv (2 ^ i)) 1 != 0) = true) => ?_) fun (b1 : (Builtin.bitAnd (mask.fdiv (2 ^ i)) 1 != 0) = false) => if_f (wpAny_execs_nil (hsk (by rw [b1]; rfl) _))
    refine r_tand (wpAny_isTrue_Compare1 (r_ld F hk kv up_eq (r_ld F hk ki (up_ne (by decide) e2) (r_ne (r_tbool ?_)))))
    refine if_b (fun b2 => ?_) fun b2 => if_f (wpAny_execs_nil (hsk (by rw [b2]; simp) _))
    refine wpAny_allTrue_And_nil (if_t ?_)
    refine wpAny_execs_cons (wpAny_AugAssign_Name (r_ldn F hk ka (up_ne (by decide) e4) (wpAny_Subscript_Name_late (r_ld F hk kr (up_ne (by decide) e3) (r_ld F hk kv up_eq ?_)))))
    refine r_idxIL (n := rows.getD i 0) (hr.ex F.keep) (by omega) (by omega) (by simp [List.getD_eq_getElem?_getD, hlen, hi]) fun u => ?_
    refine r_ior fun u t => r_st F hk ka fun h4 t F k4 => ?_
    refine wpAny_execs_nil (fin _ F ?_ (up_ne (by decide) (up_ne (by decide) e1)) (up_ne (by decide) (up_ne (by decide) e2)) (up_ne (by decide) (up_ne (by decide) e3)) ⟨u, ?_⟩)
    · exact (walkRange hh I 0 7 (w := w)).frame _ _ _ st fun b hb o e => k4 b o (by simp at hb; subst hb; simpa using n1.symm) e
    · rw [take (by rw [b1, b2]; rfl)]; exact up_eq
  · rintro h t ⟨m, F, e1, e2, e3, ⟨ua, e4⟩, n1, n2⟩
    refine wpAny_execs_nil ?_
    refine wpAny_execs_cons (wpAny_Return_some (r_ld F hk ka e4 (q _ _ _ F.keep)))
  · refine ⟨_, (F.ex x1).ex x2, up_ne (by decide) e1, up_ne (by decide) e2, up_ne (by decide) e3, ⟨_, up_eq⟩, ?_, ?_⟩
    · obtain ⟨o, e⟩ := (F.ex x1).live; exact ne_new nI e
    · exact Ex.old (F.keep.trans x1) nI
theorem moved_spec {mask aim : Int} {t1 t2 : Tok} {ra : Addr} {rows : List Int} {Q : Value → Shared → Prop} (X : KB w h) (hh : Room A 1) (hr : IL h ra rows) (hlen : rows.length = 7)
   (q : ∀ u h' t', Ex h h' → Q (.int (movedI mask aim rows 7) u) ⟨h', G, D, t', O⟩) :
   wpAny (model P0 w) A (call (.ref 184) [.int mask t1, .int aim t2, .ref ra]) Q NoE ⟨h, G, D, t, O⟩ := by
  refine r_call (fo := o184 w.params) (fd := fMoved w.params) (body := [stm 17 0, stm 17 1, stm 17 2]) (binds := [("mask", .int mask t1), ("aim", .int aim t2), ("rows", .ref ra)]) X
    (by kernel_rfl) (by kernel_rfl) (by kernel_rfl) (by kernel_rfl) hh.lt (fun t => .of_eq (by kernel_rfl)) (by kernel_rfl) (by kernel_rfl) (by kernel_rfl) (by kernel_rfl) (by kernel_rfl) (by kernel_rfl) (by kernel_rfl) fun env h₀ t' V hc F => ?_
  exact moved_body (rows := rows) X hh.hd V F (by rfl) (by rfl) (by rfl) hr hlen fun u h' t' x => q u h' t' x
end
end Mine
end

-- M2
noncomputable section
open PySem PySem.W PyProof.Rows PySem.Calls
set_option maxRecDepth 100000
set_option linter.unusedVariables false
namespace Mine
section
variable {w : World} {A : Around} {G : Array GenState} {D : Drawn} {O : OsState} {h h₀ : Heap} {t : Nat} {env : Env} {m : Str → Option Value}

theorem set_of {a : Addr} {o : Obj} {es : Array (Int × Value)} {ep : Nat} {tb : SetTable} (e : h.get? a = some o) (x : o.ExactSet) (d : o.data = .set es ep tb)
   (hes : ∀ q ∈ es.toList, ∃ i u, q.2 = .int i u ∧ q.1 = hashInt i) (hb : decide (es.size < scanBound) = true) (hf : tb.fits es.size = true) :
   h.SetOf (intKind P0 w) a (fun k => es.toList.any fun q => Value.isInt k q.2) es.size :=
  ⟨o, es, ep, tb, e, x, d, fun q hq => by obtain ⟨i, u, e1, e2⟩ := hes q hq; exact ⟨⟨i, by rw [e1]; simp [intKind, Value.isInt], e2⟩, by rw [e1]; rfl⟩, fun k => by rw [List.any_eq_true]; exact Iff.rfl, of_decide_eq_true hb, hf, rfl⟩
noncomputable def setEs (o : Obj) : Array (Int × Value) := match o.data with | .set es _ _ => es | _ => #[]
noncomputable def inC7 (c : Int) : Bool := decide (12272 ≤ c) && decide (c < 12284)
noncomputable def inC8 (c : Int) : Bool := ([832, 833, 8206, 8207, 8234, 8235, 8236, 8237, 8238, 8298, 8299, 8300, 8301, 8302, 8303] : List Int).contains c
theorem set7 (X : KB w h) : h.SetOf (intKind P0 w) 23 inC7 12 := by
  have S := set_of (w := w) (X 23 (o23 w.params) (by kernel_rfl)) (es := setEs (o23 w.params)) ⟨rfl, rfl, rfl⟩ rfl (by
    intro q hq
    simp only [setEs, o23] at hq
    simp only [List.mem_cons, List.not_mem_nil, or_false] at hq
    rcases hq with rfl | rfl | rfl | rfl | rfl | rfl | rfl | rfl | rfl | rfl | rfl | rfl <;> exact ⟨_, _, rfl, by decide⟩) (by kernel_rfl) (by kernel_rfl)
  have e : (fun k => (setEs (o23 w.params)).toList.any fun q => Value.isInt k q.2) = inC7 := by
    funext k
    simp only [setEs, o23, inC7, List.any_cons, List.any_nil, Value.isInt, Bool.or_false]
    rw [Bool.eq_iff_iff]
    simp only [Bool.or_eq_true, beq_iff_eq, Bool.and_eq_true, decide_eq_true_eq]
    omega
  rw [e] at S
  exact S
theorem set8 (X : KB w h) : h.SetOf (intKind P0 w) 47 inC8 15 := by
  have S := set_of (w := w) (X 47 (o47 w.params) (by kernel_rfl)) (es := setEs (o47 w.params)) ⟨rfl, rfl, rfl⟩ rfl (by
    intro q hq
    simp only [setEs, o47] at hq
    simp only [List.mem_cons, List.not_mem_nil, or_false] at hq
    rcases hq with rfl | rfl | rfl | rfl | rfl | rfl | rfl | rfl | rfl | rfl | rfl | rfl | rfl | rfl | rfl <;> exact ⟨_, _, rfl, by decide⟩) (by kernel_rfl) (by kernel_rfl)
  have e : (fun k => (setEs (o47 w.params)).toList.any fun q => Value.isInt k q.2) = inC8 := by
    funext k
    simp only [setEs, o47, inC8, List.any_cons, List.any_nil, Value.isInt, Bool.or_false, List.contains_cons, List.contains_nil]
    rw [Bool.eq_iff_iff]
    simp only [Bool.or_eq_true, beq_iff_eq]
    omega
  rw [e] at S
  exact S
theorem r_inSet {a : Addr} {S : Int → Bool} {n : Nat} {i : Int} {u : Tok} {Q : Value → Shared → Prop} (hS : h.SetOf (intKind P0 w) a S n) (q : ∀ t, Q (.bool (S i)) ⟨h, G, D, t, O⟩) : wpAny (model P0 w) A (compareOp .In (.int i u) (.ref a)) Q NoE ⟨h, G, D, t, O⟩ :=
  wpAny_inSet_of (knd := intKind P0 w) (k := i) (by simp [intKind, Value.isInt]) rfl hS (q _)
theorem r_ord {c : Nat} {u : Tok} {Q : Value → Shared → Prop} (q : ∀ u t, Q (.int c u) ⟨h, G, D, t, O⟩) : wpAny (model P0 w) A (call (.builtin "ord") [.str ⟨#[c]⟩ u]) Q NoE ⟨h, G, D, t, O⟩ :=
  PyProof.Rows.ord_of_one rfl (q _ _)
noncomputable def fC7 (P : Params) : FuncData := (fdat (o33 P)).getD default
noncomputable def fC8 (P : Params) : FuncData := (fdat (o57 P)).getD default
theorem c7_spec {c : Nat} {u : Tok} {Q : Value → Shared → Prop} (X : KB w h) (hh : Room A 1) (q : ∀ h' t', Ex h h' → Q (.bool (inC7 c)) ⟨h', G, D, t', O⟩) :
   wpAny (model P0 w) A (call (.ref 33) [.str ⟨#[c]⟩ u]) Q NoE ⟨h, G, D, t, O⟩ := by
  refine r_call (fo := o33 w.params) (fd := fC7 w.params) (body := [stm 3 0]) (binds := [("code", .str ⟨#[c]⟩ u)]) X
    (by kernel_rfl) (by kernel_rfl) (by kernel_rfl) (by kernel_rfl) hh.lt (fun t => .of_eq (by kernel_rfl)) (by kernel_rfl) (by kernel_rfl) (by kernel_rfl) (by kernel_rfl) (by kernel_rfl) (by kernel_rfl) (by kernel_rfl) fun env h₀ t' V hc F => ?_
  have V : Ev env (topd 3).2.2 := V
  have hk : env.scope.kind = .function := by rw [V.sc]; kernel_rfl
  refine wpAny_execs_cons (wpAny_Return_some (wpAny_Compare1 ?_))
  refine wpAny_Call_NameR (r_blt (X.ex F.keep) hk (V.kind (by kernel_rfl)) V.g V.b (by kernel_rfl) (v := .builtin "ord") (by kernel_rfl) ?_)
  refine callWith_builtin1 (args_cons (r_ld F hk (V.kind (by kernel_rfl)) (by rfl) (args_nil (r_ord fun u t => ?_))))
  refine r_glob (X.ex F.keep) hk (V.kind (by kernel_rfl)) V.g (v := .ref 23) (by kernel_rfl) ?_
  exact r_inSet (set7 (X.ex F.keep)) fun t => q _ _ F.keep
theorem c8_spec {c : Nat} {u : Tok} {Q : Value → Shared → Prop} (X : KB w h) (hh : Room A 1) (q : ∀ h' t', Ex h h' → Q (.bool (inC8 c)) ⟨h', G, D, t', O⟩) :
   wpAny (model P0 w) A (call (.ref 57) [.str ⟨#[c]⟩ u]) Q NoE ⟨h, G, D, t, O⟩ := by
  refine r_call (fo := o57 w.params) (fd := fC8 w.params) (body := [stm 5 0]) (binds := [("code", .str ⟨#[c]⟩ u)]) X
    (by kernel_rfl) (by kernel_rfl) (by kernel_rfl) (by kernel_rfl) hh.lt (fun t => .of_eq (by kernel_rfl)) (by kernel_rfl) (by kernel_rfl) (by kernel_rfl) (by kernel_rfl) (by kernel_rfl) (by kernel_rfl) (by kernel_rfl) fun env h₀ t' V hc F => ?_
  have V : Ev env (topd 5).2.2 := V
  have hk : env.scope.kind = .function := by rw [V.sc]; kernel_rfl
  refine wpAny_execs_cons (wpAny_Return_some (wpAny_Compare1 ?_))
  refine wpAny_Call_NameR (r_blt (X.ex F.keep) hk (V.kind (by kernel_rfl)) V.g V.b (by kernel_rfl) (v := .builtin "ord") (by kernel_rfl) ?_)
  refine callWith_builtin1 (args_cons (r_ld F hk (V.kind (by kernel_rfl)) (by rfl) (args_nil (r_ord fun u t => ?_))))
  refine r_glob (X.ex F.keep) hk (V.kind (by kernel_rfl)) V.g (v := .ref 47) (by kernel_rfl) ?_
  exact r_inSet (set8 (X.ex F.keep)) fun t => q _ _ F.keep
end
end Mine
end

-- R2
noncomputable section
open PySem PySem.W PyProof.Rows PySem.Calls
set_option maxRecDepth 100000
set_option linter.unusedVariables false
namespace Mine
theorem szl {n : Nat} (h : n ≤ 10000) : n ≤ sizeLine := by rw [sizeLine_eq]; omega
/-- values that are these whole numbers -/
inductive AI : List Value → List Int → Prop
  | nil : AI [] []
  | cons {i : Int} {u : Tok} {vs : List Value} {ns : List Int} (r : AI vs ns) : AI (.int i u :: vs) (i :: ns)
theorem AI.get : ∀ {vs : List Value} {ns : List Int}, AI vs ns → ∀ {i : Nat} {n : Int}, ns[i]? = some n → ∃ u, vs[i]? = some (.int n u)
  | _, _, .nil, i, n, e => by simp at e
  | _, _, .cons (u := u) r, 0, n, e => by simp at e; subst e; exact ⟨u, rfl⟩
  | _, _, .cons r, i + 1, n, e => by simp at e; simpa using r.get e
theorem AI.length : ∀ {vs : List Value} {ns : List Int}, AI vs ns → vs.length = ns.length
  | _, _, .nil => rfl
  | _, _, .cons r => by simp [r.length]
theorem AI.append : ∀ {vs vs' : List Value} {ns ns' : List Int}, AI vs ns → AI vs' ns' → AI (vs ++ vs') (ns ++ ns')
  | _, _, _, _, .nil, y => y
  | _, _, _, _, .cons r, y => .cons (r.append y)
noncomputable abbrev PL (h : Heap) (a : Addr) (vs : List Value) : Prop := h.PlainList a vs.toArray
theorem pl_ex {h h' : Heap} {a : Addr} {vs : List Value} (x : PL h a vs) (e : Ex h h') : PL h' a vs := x.at fun _ q => e.get q
theorem pl_kp {W : List Addr} {h h' : Heap} {a : Addr} {vs : List Value} (x : PL h a vs) (e : Kp W h h') (n : a ∉ W) : PL h' a vs := x.at fun _ q => e _ _ n q
theorem pl_live {h : Heap} {a : Addr} {vs : List Value} (x : PL h a vs) : ∃ o, h.get? a = some o := let ⟨_, e⟩ := x; ⟨_, e⟩
theorem AI.il {h : Heap} {a : Addr} {vs : List Value} {ns : List Int} (x : AI vs ns) (l : h.IsList a vs.toArray) : IL h a ns :=
  ⟨_, l, by simp [x.length], fun i n e => by obtain ⟨u, q⟩ := x.get e; exact ⟨u, by simpa using q⟩⟩
/-- a plain tuple -/
noncomputable def TU (h : Heap) (a : Addr) (vs : List Value) : Prop := ∃ n, h.get? a = some { cls := .type "tuple", data := .seq vs.toArray n }
theorem TU.is {h : Heap} {a : Addr} {vs : List Value} (x : TU h a vs) : h.IsTuple a vs.toArray := let ⟨n, e⟩ := x; ⟨_, e, rfl, n, rfl⟩
theorem TU.ex {h h' : Heap} {a : Addr} {vs : List Value} (x : TU h a vs) (e : Ex h h') : TU h' a vs := let ⟨n, q⟩ := x; ⟨n, e.get q⟩
theorem TU.kp {W : List Addr} {h h' : Heap} {a : Addr} {vs : List Value} (x : TU h a vs) (e : Kp W h h') (n : a ∉ W) : TU h' a vs := let ⟨k, q⟩ := x; ⟨k, e _ _ n q⟩
theorem ne_kind {h : Heap} {a b : Addr} {o o' : Obj} (e : h.get? a = some o) (e' : h.get? b = some o') (n : o.cls ≠ o'.cls) : a ≠ b := fun q => by subst q; rw [e] at e'; cases e'; exact n rfl
section
variable {w : World} {A : Around} {G : Array GenState} {D : Drawn} {O : OsState} {h h₀ : Heap} {t : Nat} {env : Env} {m : Str → Option Value} {Q : Value → Shared → Prop}

theorem r_join {α : Type} {tr : Sem α} {s : Shared} {R Q : α → Shared → Prop} (a : wpAny (model P0 w) A tr R NoE s) (b : ∀ v s, R v s → Q v s) : wpAny (model P0 w) A tr Q NoE s := wpAny_mono a b fun _ _ e => e
theorem r_list {elts : List Expr} {pos : Pos} (q : wpAny (model P0 w) A (spliced (backTo pos (starEach elts env))) (fun vs s₁ => vs.length ≤ sizeLine ∧ ∃ h1 t1, s₁ = ⟨h1, G, D, t1, O⟩ ∧
    ∀ a h', h1.get? a = none → Ex h1 h' → PL h' a vs → Q (.ref a) ⟨h', G, D, t1, O⟩) NoE ⟨h, G, D, t, O⟩) : wpAny (model P0 w) A (eval (.List elts pos) env) Q NoE ⟨h, G, D, t, O⟩ := by
  refine wpAny_List (wpAny_mono q (fun vs s₁ => ?_) fun _ _ e => e)
  rintro ⟨l, h1, t1, rfl, k⟩
  exact ⟨l, k _ _ (Heap.get?_none_of_le (Nat.le_refl _)) (Ex.push _ _) ⟨0, Heap.get?_push_size _ rfl⟩⟩
theorem r_tuple {elts : List Expr} {kk : Nat} {pos : Pos} (q : wpAny (model P0 w) A (spliced (backTo pos (starEach elts env))) (fun vs s₁ => vs.length ≤ sizeLine ∧ ∃ h1 t1, s₁ = ⟨h1, G, D, t1, O⟩ ∧
    ∀ a h', h1.get? a = none → Ex h1 h' → TU h' a vs → Q (.ref a) ⟨h', G, D, t1, O⟩) NoE ⟨h, G, D, t, O⟩) : wpAny (model P0 w) A (eval (.Tuple elts kk pos) env) Q NoE ⟨h, G, D, t, O⟩ := by
  refine wpAny_Tuple (wpAny_mono q (fun vs s₁ => ?_) fun _ _ e => e)
  rintro ⟨l, h1, t1, rfl, k⟩
  exact ⟨l, k _ _ (Heap.get?_none_of_le (Nat.le_refl _)) (Ex.push _ _) ⟨0, Heap.get?_push_size _ rfl⟩⟩
theorem r_push {a : Addr} {vs : List Value} {x : Value} (hl : PL h a vs) (hz : vs.length ≤ sizeLine) (q : ∀ h', PL h' a (vs ++ [x]) → Kp [a] h h' → Q .none ⟨h', G, D, t, O⟩) :
    wpAny (model P0 w) A (call (.builtin "list.append") [.ref a, x]) Q NoE ⟨h, G, D, t, O⟩ :=
  wpAny_list_append_plain hl (fun h' hl' hs => q h' (by simpa using hl') (kp_same hs)) (by simpa using hz)
/-- o.append(e) on a plain list -/
theorem r_append {o e : Expr} {apos pos : Pos} (hbase : attributeBase o "append" env (eval o env) = eval o env) (hline : (apos.endLine == pos.line) = true) (htrees : backTo pos (starEach [e] env) = [(false, eval e env)])
    (q : wpAny (model P0 w) A (eval o env) (fun ov s₁ => ∃ a vs h1 t1, ov = .ref a ∧ s₁ = ⟨h1, G, D, t1, O⟩ ∧ PL h1 a vs ∧
      wpAny (model P0 w) A (eval e env) (fun x s₂ => ∃ vs h2 t2, s₂ = ⟨h2, G, D, t2, O⟩ ∧ PL h2 a vs ∧ vs.length ≤ sizeLine ∧ ∀ h', PL h' a (vs ++ [x]) → Kp [a] h2 h' → Q .none ⟨h', G, D, t2, O⟩) NoE ⟨h1, G, D, t1, O⟩) NoE ⟨h, G, D, t, O⟩) :
    wpAny (model P0 w) A (eval (.Call (.Attribute o "append" apos) [e] [] pos) env) Q NoE ⟨h, G, D, t, O⟩ := by
  refine wpAny_Call_method1_late hbase hline htrees (wpAny_mono q (fun ov s₁ => ?_) fun _ _ e => e)
  rintro ⟨a, vs, h1, t1, rfl, rfl, l, k⟩
  refine ⟨"list", "list.append", PySem.F.plainAttrs_list, slot_list_append, type_list_append, l.isList.typeIs, fun b hb => ?_, ?_⟩
  · cases hb
    obtain ⟨n, e⟩ := l
    exact ⟨_, e, rfl⟩
  · refine callWith_builtin rfl (evalArgs_plain (spliced_cons (wpAny_mono k (fun x s₂ => ?_) fun _ _ e => e)))
    rintro ⟨vs, h2, t2, rfl, l, hz, k⟩
    exact spliced_nil (r_push l hz k)
theorem r_len {a : Addr} {vs : Array Value} (hl : h.IsList a vs) (hz : vs.size < 2 ^ 62) (q : ∀ u t, Q (.int vs.size u) ⟨h, G, D, t, O⟩) : wpAny (model P0 w) A (call (.builtin "len") [.ref a]) Q NoE ⟨h, G, D, t, O⟩ :=
  call_len_list hl (by omega) (q _ _)
theorem r_idxNeg {l : Addr} {items : Array Value} {k : Int} {u : Tok} {x : Value} (hl : h.IsList l items) (h0 : k < 0) (hk : -(items.size : Int) ≤ k) (hk' : -2 ^ 63 ≤ k) (hx : items[(k + items.size).toNat]? = some x) (q : Q x ⟨h, G, D, t, O⟩) :
    SubscriptOn (model P0 w) A (.ref l) (.int k u) Q NoE ⟨h, G, D, t, O⟩ := ⟨"list", _, slot_list_getitem.lookup, hl.typeIs, wpAny_getItem_list_neg hl h0 hk hk' hx q⟩
noncomputable abbrev LSt (I a : Addr) (vs : Array Value) (i : Nat) (h : Heap) : Prop := h.IsListIter I a i ∧ h.IsList a vs
theorem r_iterList {a : Addr} {vs : Array Value} (hl : h.IsList a vs) (q : ∀ I h', h.get? I = none → Ex h h' → LSt I a vs 0 h' → Q (.ref I) ⟨h', G, D, t, O⟩) : wpAny (model P0 w) A (pyIter (.ref a)) Q NoE ⟨h, G, D, t, O⟩ :=
  wpAny_pyIter_list hl (q _ _ (Heap.get?_none_of_le (Nat.le_refl _)) (Ex.push _ _) ⟨⟨_, Heap.get?_push_size _ rfl, rfl, rfl⟩, isl_ex hl (Ex.push _ _)⟩)
theorem walkList (hh : A.handled = none) (I a : Addr) (n : a ≠ I) (vs : Array Value) : Walks P0 w A I [I, a] [I] vs.size (fun i v => vs[i]? = some v) (LSt I a vs) := Walks.list hh I a n vs
theorem r_iterStr {x : Str} {u : Tok} (q : ∀ I h' St, h.get? I = none → Ex h h' → (∀ A' : Around, A'.handled = none → Walks P0 w A' I [I] [I] x.cps.size (SignAt x) St) → St 0 h' → (∀ i h, St i h → ∃ o, h.get? I = some o) → Q (.ref I) ⟨h', G, D, t, O⟩) :
    wpAny (model P0 w) A (pyIter (.str x u)) Q NoE ⟨h, G, D, t, O⟩ := by
  cases ha : x.cps.all (· < 128)
  · exact wpAny_pyIter_wide ha (q _ _ (fun i h => h.IsStrIter _ "str_iterator" x u i) (Heap.get?_none_of_le (Nat.le_refl _)) (Ex.push _ _) (fun A' hA => Walks.strWide hA _ x u) ⟨_, Heap.get?_push_size _ rfl, rfl, rfl⟩ fun i h ⟨o, e, _⟩ => ⟨o, e⟩)
  · exact wpAny_pyIter_ascii ha (q _ _ (fun i h => h.IsStrIter _ "str_ascii_iterator" x u i) (Heap.get?_none_of_le (Nat.le_refl _)) (Ex.push _ _) (fun A' hA => Walks.strAscii hA _ x u) ⟨_, Heap.get?_push_size _ rfl, rfl, rfl⟩ fun i h ⟨o, e, _⟩ => ⟨o, e⟩)
theorem r_chr {i : Int} {u : Tok} (h0 : 0 ≤ i) (h1 : i ≤ 1114111) (q : ∀ u t, Q (.str ⟨#[i.toNat]⟩ u) ⟨h, G, D, t, O⟩) : wpAny (model P0 w) A (call (.builtin "chr") [.int i u]) Q NoE ⟨h, G, D, t, O⟩ := chr_of_range h0 h1 (q _ _)
theorem r_isadd {x y : Str} {u v : Tok} (hz : x.length + y.length ≤ sizeLine) (q : ∀ u t, Q (.str (x ++ y) u) ⟨h, G, D, t, O⟩) : wpAny (model P0 w) A (inplaceOp .Add (.str x u) (.str y v)) Q NoE ⟨h, G, D, t, O⟩ := PySem.SB.iadd (fun t' k => q t' k) hz
theorem r_sadd {x y : Str} {u v : Tok} (hz : x.length + y.length ≤ sizeLine) (q : ∀ u t, Q (.str (x ++ y) u) ⟨h, G, D, t, O⟩) : wpAny (model P0 w) A (binaryOp .Add (.str x u) (.str y v)) Q NoE ⟨h, G, D, t, O⟩ := PySem.SB.add (fun t' k => q t' k) hz
end
end Mine
end

-- M3
noncomputable section
open PySem PySem.W PyProof.Rows PySem.Calls
set_option maxRecDepth 100000
set_option linter.unusedVariables false
namespace Mine
local macro_rules | `(tactic| walk_at "hv") => `(tactic| first | assumption | (refine up_ne (by decide) ?_; walk_at "hv") | exact up_eq)
local macro_rules | `(tactic| walk_at "ld") => `(tactic| (refine r_ld (by assumption) (by assumption) (by assumption) (by walk_at "hv") ?_))
local macro_rules | `(tactic| walk_at "e") => `(tactic| first
  | ((with_reducible show wpAny _ _ (eval (PySem.Expr.Constant (PySem.Const.int _) _ _) _) _ _ _); refine r_int ?_; intro _ _)
  | ((with_reducible show wpAny _ _ (eval (PySem.Expr.Constant (PySem.Const.str _) _ _) _) _ _ _); refine r_str ?_; intro _ _)
  | ((with_reducible show wpAny _ _ (eval (PySem.Expr.BinOp _ _ _ _) _) _ _ _); refine wpAny_BinOp ?_)
  | ((with_reducible show wpAny _ _ (eval (PySem.Expr.Compare _ [_] [_] _) _) _ _ _); refine wpAny_Compare1 ?_)
  | ((with_reducible show wpAny _ _ (spliced (backTo _ (starEach (_ :: _) _))) _ _ _); refine args_cons ?_)
  | ((with_reducible show wpAny _ _ (eval (PySem.Expr.Name _ _) _) _ _ _); walk_at "ld")
  | ((with_reducible show wpAny _ _ (binaryOp PySem.Operator.Add (Value.int _ _) (Value.int _ _)) _ _ _); refine r_add ?_; intro _ _)
  | ((with_reducible show wpAny _ _ (binaryOp PySem.Operator.Mod (Value.int _ _) (Value.int _ _)) _ _ _); refine r_mod (by decide) ?_; intro _ _)
  | ((with_reducible show wpAny _ _ (binaryOp PySem.Operator.FloorDiv (Value.int _ _) (Value.int _ _)) _ _ _); refine r_fdiv (by decide) (by decide) ?_; intro _ _)
  | ((with_reducible show wpAny _ _ (binaryOp PySem.Operator.BitAnd (Value.int _ _) (Value.int _ _)) _ _ _); refine r_and ?_; intro _ _)
  | ((with_reducible show wpAny _ _ (truthy (Value.int _ _)) _ _ _); refine r_tint ?_)
  | ((with_reducible show wpAny _ _ (truthy (Value.bool _)) _ _ _); refine r_tbool ?_)
  | ((with_reducible show wpAny _ _ (compareOp PySem.CmpOp.Eq (Value.int _ _) (Value.int _ _)) _ _ _); refine r_eq ?_)
  | ((with_reducible show wpAny _ _ (compareOp PySem.CmpOp.NotEq (Value.int _ _) (Value.int _ _)) _ _ _); refine r_ne ?_)
  | ((with_reducible show wpAny _ _ (compareOp PySem.CmpOp.Gt (Value.int _ _) (Value.int _ _)) _ _ _); refine r_gt ?_)
  | ((with_reducible show wpAny _ _ (compareOp PySem.CmpOp.Lt (Value.int _ _) (Value.int _ _)) _ _ _); refine r_lt ?_)
  | ((with_reducible show wpAny _ _ (binaryOp PySem.Operator.Mult (Value.int _ _) (Value.int _ _)) _ _ _); refine r_mul (IntMulOk.of_left (by decide)) ?_; intro _ _)
  | ((with_reducible show wpAny _ _ (unaryOp PySem.UnaryOp.USub (Value.int _ _)) _ _ _); refine r_neg ?_; intro _ _))
noncomputable def besL : List Int := [12271, 12284, 831, 834, 8205, 8208, 8233, 8239, 8297, 8304]
noncomputable def leaL : List Int := [832, 833, 8206, 8207, 8234, 8235, 8236, 8237, 8238, 8298, 8299, 8300, 8301, 8302, 8303]
noncomputable def besC (x : Int) : Int := besL.getD ((x.fdiv 30).fmod 10).toNat 0
noncomputable def sigC (x : Int) : Int := if (x.fmod 2 == 1) = true then 12272 + (x.fdiv 2).fmod 12 else leaL.getD ((x.fdiv 2).fmod 15).toNat 0
noncomputable def signsL (ns : List Int) : List Nat := ns.flatMap fun x => [(besC x).toNat, (sigC x).toNat]
noncomputable abbrev tx (l : List Nat) : Str := ⟨l.toArray⟩
theorem tx_app (a b : List Nat) : tx a ++ tx b = tx (a ++ b) := by
  apply PySem.Str.ext'
  rw [PySem.Str.cps_append]; simp
theorem tx_len (a : List Nat) : (tx a).length = a.length := by simp [PySem.Str.length]
theorem getD_lt {l : List Int} {i : Nat} (h : i < l.length) : l[i]? = some (l.getD i 0) := by simp [List.getD_eq_getElem?_getD, h]
theorem fm {x b : Int} (h : 0 < b) : 0 ≤ x.fmod b ∧ x.fmod b < b := ⟨Int.fmod_nonneg_of_pos _ h, Int.fmod_lt_of_pos _ h⟩
theorem all_getD {l : List Int} {p : Int → Bool} (h : l.all p = true) (h0 : p 0 = true) (i : Nat) : p (l.getD i 0) = true := by
  rw [List.getD_eq_getElem?_getD]
  cases e : l[i]? with
  | none => exact h0
  | some x => exact List.all_eq_true.mp h x (List.mem_of_getElem? e)
theorem besC_ok (x : Int) : 0 ≤ besC x ∧ besC x ≤ 1114111 := by
  have := all_getD (l := besL) (p := fun x => decide (0 ≤ x ∧ x ≤ 1114111)) (by decide) (by decide) ((x.fdiv 30).fmod 10).toNat
  simpa [besC] using this
theorem sigC_ok (x : Int) : 0 ≤ sigC x ∧ sigC x ≤ 1114111 := by
  unfold sigC
  split
  · have := fm (x := x.fdiv 2) (b := 12) (by decide); omega
  · have := all_getD (l := leaL) (p := fun x => decide (0 ≤ x ∧ x ≤ 1114111)) (by decide) (by decide) ((x.fdiv 2).fmod 15).toNat
    simpa using this
theorem signs_len (ns : List Int) : (signsL ns).length = 2 * ns.length := by
  unfold signsL; induction ns with
  | nil => rfl
  | cons a l ih => simp only [List.flatMap_cons, List.length_append, List.length_cons, List.length_nil, ih]; omega
section
variable {w : World} {A : Around} {G : Array GenState} {D : Drawn} {O : OsState} {h h₀ : Heap} {t : Nat} {env : Env} {m : Str → Option Value}
noncomputable def fSigns (P : Params) : FuncData := (fdat (o163 P)).getD default
set_option maxHeartbeats 1000000 in
theorem signs_spec {na : Addr} {ns : List Int} {Q : Value → Shared → Prop} (X : KB w h) (hh : Room A 1) (hn : IL h na ns) (hlen : ns.length ≤ 63)
   (q : ∀ u h' t', Ex h h' → Q (.str (tx (signsL ns)) u) ⟨h', G, D, t', O⟩) :
   wpAny (model P0 w) A (call (.ref 163) [.ref na]) Q NoE ⟨h, G, D, t, O⟩ := by
  refine r_call (fo := o163 w.params) (fd := fSigns w.params) (body := [stm 14 0, stm 14 1, stm 14 2, stm 14 3, stm 14 4]) (binds := [("numbers", .ref na)]) X
    (by kernel_rfl) (by kernel_rfl) (by kernel_rfl) (by kernel_rfl) hh.lt (fun t => .of_eq (by kernel_rfl)) (by kernel_rfl) (by kernel_rfl) (by kernel_rfl) (by kernel_rfl) (by kernel_rfl) (by kernel_rfl) (by kernel_rfl) fun env h1 t' V hc F => ?_
  have V : Ev env (topd 14).2.2 := V
  have hh := hh.deeper env
  generalize hm : (fun x => List.lookup x [((Str.ofString "numbers"), Value.ref na)].reverse) = m at F
  have e1 : m "numbers" = some (.ref na) := by rw [← hm]; rfl
  clear hm
  have hk : env.scope.kind = .function := by rw [V.sc]; kernel_rfl
  have kn : env.kindOf "numbers" = some .local := V.kind (by kernel_rfl)
  have kl : env.kindOf "leaves" = some .local := V.kind (by kernel_rfl)
  have kb : env.kindOf "beside" = some .local := V.kind (by kernel_rfl)
  have kt : env.kindOf "text" = some .local := V.kind (by kernel_rfl)
  have kx : env.kindOf "x" = some .local := V.kind (by kernel_rfl)
  have kc : env.kindOf "chr" = some .globalImplicit := V.kind (by kernel_rfl)
  refine wpAny_execs_cons ?_
  refine wpAny_Assign_Name ?_
  refine r_list ?_
  iterate 30 walk_at "e"
  refine args_nil ⟨szl (by simp only [List.length_cons, List.length_nil]; omega), _, _, rfl, ?_⟩
  intro la h2 nl x2 pl
  have F0 := F
  replace F := F.ex x2
  have il : IL h2 la leaL := AI.il (by unfold leaL; repeat constructor) pl.isList
  have nla : la ≠ env.locals := by obtain ⟨o, e⟩ := F0.live; exact (ne_new nl e).symm
  clear pl nl x2 F0
  refine r_st F hk kl ?_
  intro h3 t F k3
  replace il := il.kp k3 (by simpa using nla)
  clear k3
  refine wpAny_execs_cons ?_
  refine wpAny_Assign_Name ?_
  refine r_list ?_
  iterate 20 walk_at "e"
  refine args_nil ⟨szl (by simp only [List.length_cons, List.length_nil]; omega), _, _, rfl, ?_⟩
  intro ba h2 nl x2 pl
  have F0 := F
  replace F := F.ex x2
  have ib : IL h2 ba besL := AI.il (by unfold besL; repeat constructor) pl.isList
  have nba : ba ≠ env.locals := by obtain ⟨o, e⟩ := F0.live; exact (ne_new nl e).symm
  replace il := il.ex x2
  clear pl nl x2 F0
  refine r_st F hk kb ?_
  intro h3 t F k3
  replace il := il.kp k3 (by simpa using nla)
  replace ib := ib.kp k3 (by simpa using nba)
  clear k3
  refine wpAny_execs_cons ?_
  refine wpAny_Assign_Name ?_
  walk_at "e"
  refine r_st F hk kt ?_
  intro h3 t F k3
  replace il := il.kp k3 (by simpa using nla)
  replace ib := ib.kp k3 (by simpa using nba)
  clear k3
  obtain ⟨vs, lv, sv, gv⟩ := id hn
  refine wpAny_execs_cons ?_
  refine wpAny_For ?_
  walk_at "e"
  refine r_iterList (isl_ex lv F.keep) ?_
  intro I h4 nI x4 st4
  have naI : na ≠ I := by obtain ⟨o, e⟩ := hn.live; exact ne_new nI (F.keep.get e)
  have nLI : env.locals ≠ I := by obtain ⟨o, e⟩ := F.live; exact ne_new nI e
  have n0I : h.get? I = none := Ex.old F.keep nI
  have naL : na ≠ env.locals := by obtain ⟨o, e⟩ := hn.live; exact ne_new F.new e
  have nlI : la ≠ I := by obtain ⟨o, e⟩ := il.live; exact ne_new nI e
  have nbI : ba ≠ I := by obtain ⟨o, e⟩ := ib.live; exact ne_new nI e
  refine r_for (walkList hh.hd I na naI vs) (fun i h' => ∃ m u, Fx h env.locals h' m ∧ m "leaves" = some (.ref la) ∧ m "beside" = some (.ref ba) ∧ m "text" = some (.str (tx (signsL (ns.take i))) u) ∧ IL h' la leaL ∧ IL h' ba besL)
    ?_ ?_ ?_ ?_ st4
  · rintro i h h' ⟨m, u, F, a1, a2, a3, a4, a5⟩ k
    exact ⟨m, u, F.mut k (by simpa using nLI) (by simpa using n0I), a1, a2, a3, a4.kp k (by simpa using nlI), a5.kp k (by simpa using nbI)⟩
  · rintro i v h' t hi e ⟨m, u, F, a1, a2, a3, a4, a5⟩ st
    have hi : i < ns.length := sv ▸ hi
    obtain ⟨ux, ex⟩ := gv i (ns[i]) (by simp)
    obtain rfl : v = .int (ns[i]) ux := by rw [ex] at e; exact (Option.some.inj e).symm
    generalize hx : ns[i] = x
    refine r_st F hk kx ?_
    intro h5 t F k5
    replace a4 := a4.kp k5 (by simpa using nla)
    replace a5 := a5.kp k5 (by simpa using nba)
    have st : LSt I na vs (i + 1) h5 := (walkList hh.hd I na naI vs (w := w)).frame _ _ _ st fun b hb o e => k5 b o (by simp at hb; rcases hb with rfl | rfl; exact (by simpa using nLI.symm); exact (by simpa using naL)) e
    clear k5
    have m10 := fm (x := x.fdiv 30) (b := 10) (by decide)
    refine wpAny_execs_cons ?_
    refine wpAny_AugAssign_Name ?_
    refine r_ldn F hk kt (by walk_at "hv") ?_
    refine wpAny_Call_NameR ?_
    refine r_blt (X.ex F.keep) hk kc V.g V.b (by kernel_rfl) (v := .builtin "chr") (by kernel_rfl) ?_
    refine PyProof.Rows.callWith_builtin1 ?_
    refine args_cons ?_
    refine wpAny_Subscript_BinOp_late ?_
    iterate 8 walk_at "e"
    refine r_idxIL (n := besC x) a5 m10.1 (by omega) (getD_lt (by simp only [besL, List.length_cons, List.length_nil]; omega)) ?_
    intro u
    refine args_nil ?_
    refine r_chr (besC_ok x).1 (besC_ok x).2 ?_
    intro u t
    refine r_isadd (szl (by simp only [tx_len, signs_len, List.length_take]; show 2 * min i ns.length + 1 ≤ _; omega)) ?_
    intro u t
    refine r_st F hk kt ?_
    intro h6 t F k6
    replace a4 := a4.kp k6 (by simpa using nla)
    replace a5 := a5.kp k6 (by simpa using nba)
    have st : LSt I na vs (i + 1) h6 := (walkList hh.hd I na naI vs (w := w)).frame _ _ _ st fun b hb o e => k6 b o (by simp at hb; rcases hb with rfl | rfl; exact (by simpa using nLI.symm); exact (by simpa using naL)) e
    clear k6
    refine wpAny_execs_cons ?_
    refine wpAny_AugAssign_Name ?_
    refine r_ldn F hk kt (by walk_at "hv") ?_
    refine wpAny_Call_NameR ?_
    refine r_blt (X.ex F.keep) hk kc V.g V.b (by kernel_rfl) (v := .builtin "chr") (by kernel_rfl) ?_
    refine PyProof.Rows.callWith_builtin1 ?_
    refine args_cons ?_
    refine r_join (R := fun v s => ∃ u t, v = .int (sigC x) u ∧ s = ⟨h6, G, D, t, O⟩) ?_ ?_
    · refine wpAny_IfExp ?_
      refine wpAny_isTrue_Compare1 ?_
      iterate 7 walk_at "e"
      refine if_b (fun b1 => ?_) fun b1 => ?_
      · iterate 10 walk_at "e"
        exact ⟨_, _, by unfold sigC; rw [if_pos b1], rfl⟩
      · have m15 := fm (x := x.fdiv 2) (b := 15) (by decide)
        refine wpAny_Subscript_BinOp_late ?_
        iterate 8 walk_at "e"
        refine r_idxIL (n := leaL.getD ((x.fdiv 2).fmod 15).toNat 0) a4 m15.1 (by omega) (getD_lt (by simp only [leaL, List.length_cons, List.length_nil]; omega)) ?_
        intro u
        exact ⟨_, _, by unfold sigC; rw [if_neg (by rw [b1]; decide)], rfl⟩
    rintro _ _ ⟨u, t, rfl, rfl⟩
    refine args_nil ?_
    refine r_chr (sigC_ok x).1 (sigC_ok x).2 ?_
    intro u t
    refine r_isadd (szl (by rw [tx_app]; simp only [tx_len, signs_len, List.length_take, List.length_append, List.length_cons, List.length_nil]; show 2 * min i ns.length + 1 + 1 ≤ _; omega)) ?_
    intro u t
    refine r_st F hk kt ?_
    intro h7 t F k7
    replace a4 := a4.kp k7 (by simpa using nla)
    replace a5 := a5.kp k7 (by simpa using nba)
    have st : LSt I na vs (i + 1) h7 := (walkList hh.hd I na naI vs (w := w)).frame _ _ _ st fun b hb o e => k7 b o (by simp at hb; rcases hb with rfl | rfl; exact (by simpa using nLI.symm); exact (by simpa using naL)) e
    refine wpAny_execs_nil ⟨_, _, rfl, ⟨_, u, F, by walk_at "hv", by walk_at "hv", ?_, a4, a5⟩, st⟩
    rw [up_eq, tx_app, tx_app]
    have : ns.take (i + 1) = ns.take i ++ [x] := by rw [List.take_add_one, List.getElem?_eq_getElem hi, hx]; rfl
    rw [this]
    simp [signsL, List.flatMap_append]
  · rintro h t ⟨m, u, F, a1, a2, a3, a4, a5⟩
    refine wpAny_execs_nil (wpAny_execs_cons (wpAny_Return_some (r_ld F hk kt a3 ?_)))
    rw [sv, List.take_length]
    exact q _ _ _ F.keep
  · exact ⟨_, _, F.ex x4, up_ne (by decide) (up_ne (by decide) up_eq), up_ne (by decide) up_eq, up_eq, il.ex x4, ib.ex x4⟩
end
end Mine
end

-- R3
noncomputable section
open PySem PySem.W PyProof.Rows PySem.Calls
set_option maxRecDepth 100000
set_option linter.unusedVariables false
namespace Mine
/-- values that are tuples of two whole numbers, each at a place of N -/
inductive AT (N : Addr → Prop) (h : Heap) : List Value → List (Int × Int) → Prop
  | nil : AT N h [] []
  | cons {b : Addr} {x y : Int} {u1 u2 : Tok} {vs : List Value} {ps : List (Int × Int)} (n : N b) (e : TU h b [.int x u1, .int y u2]) (r : AT N h vs ps) : AT N h (.ref b :: vs) ((x, y) :: ps)
theorem AT.kp {N : Addr → Prop} {W : List Addr} {h h' : Heap} (k : Kp W h h') (n : ∀ b, N b → b ∉ W) : ∀ {vs : List Value} {ps : List (Int × Int)}, AT N h vs ps → AT N h' vs ps
  | _, _, .nil => .nil
  | _, _, .cons a e r => .cons a (e.kp k (n _ a)) (r.kp k n)
theorem AT.ex {N : Addr → Prop} {h h' : Heap} (k : Ex h h') {vs : List Value} {ps : List (Int × Int)} (a : AT N h vs ps) : AT N h' vs ps := a.kp k fun _ _ => by simp
theorem AT.imp {N N' : Addr → Prop} {h : Heap} (n : ∀ b, N b → N' b) : ∀ {vs : List Value} {ps : List (Int × Int)}, AT N h vs ps → AT N' h vs ps
  | _, _, .nil => .nil
  | _, _, .cons a e r => .cons (n _ a) e (r.imp n)
theorem AT.snoc {N : Addr → Prop} {h : Heap} {b : Addr} {x y : Int} {u1 u2 : Tok} (n : N b) (e : TU h b [.int x u1, .int y u2]) : ∀ {vs : List Value} {ps : List (Int × Int)}, AT N h vs ps → AT N h (vs ++ [.ref b]) (ps ++ [(x, y)])
  | _, _, .nil => .cons n e .nil
  | _, _, .cons a e' r => .cons a e' (r.snoc n e)
theorem AT.length {N : Addr → Prop} {h : Heap} : ∀ {vs : List Value} {ps : List (Int × Int)}, AT N h vs ps → vs.length = ps.length
  | _, _, .nil => rfl
  | _, _, .cons _ _ r => by simp [r.length]
section
variable {w : World} {A : Around} {G : Array GenState} {D : Drawn} {O : OsState} {h h₀ : Heap} {t : Nat} {env : Env} {m : Str → Option Value} {Q : Value → Shared → Prop}
theorem r_tor {x : Expr} {rest : List Expr} {Q : Bool → Shared → Prop} {s : Shared}
    (q : wpAny (model P0 w) A (isTrue x env (eval x env)) (fun b s₁ => if b = true then Q true s₁ else wpAny (model P0 w) A (allTrue .Or rest env) Q NoE s₁) NoE s) : wpAny (model P0 w) A (allTrue .Or (x :: rest) env) Q NoE s := wpAny_allTrue_Or_cons q
theorem r_tor0 {Q : Bool → Shared → Prop} {s : Shared} (q : Q false s) : wpAny (model P0 w) A (allTrue .Or [] env) Q NoE s := wpAny_allTrue_Or_nil q
theorem r_cw {f : Addr} {fo : Obj} {fd : FuncData} {pos : Pos} {e : Expr} {rest : List Expr} {s : Shared} (hl : (KH w.params).lookup f = some fo) (hd : fo.data = .func fd)
    (q : wpAny (model P0 w) A (spliced (backTo pos (starEach (e :: rest) env))) (fun vs s₁ => KB w s₁.heap ∧ wpAny (model P0 w) A (call (.ref f) vs) Q NoE s₁) NoE s)
    (he : starEach (e :: rest) env = (false, eval e env) :: starEach rest env := by rfl) : wpAny (model P0 w) A (callWith pos (.ref f) [] (backTo pos (starEach (e :: rest) env)) []) Q NoE s :=
  callWith_def hd (wpAny_mono q (fun vs s₁ k => ⟨k.1 f fo hl, k.2⟩) fun _ _ x => x) he
theorem intr (hk : env.scope.kind = .function) : interactive env = false := by unfold interactive; rw [hk]; rfl
theorem r_neg {a : Int} {u : Tok} (q : ∀ u t, Q (.int (-a) u) ⟨h, G, D, t, O⟩) : wpAny (model P0 w) A (unaryOp .USub (.int a u)) Q NoE ⟨h, G, D, t, O⟩ := PySem.P.neg_int (q _ _)
theorem r_subTail {value slice : Expr} {l : Addr} {vs : Array Value} {k : Int} {u : Tok} (hl : h.IsList l vs) (q : wpAny (model P0 w) A (getItem (.ref l) (.int k u)) Q NoE ⟨h, G, D, t, O⟩)
    (hs : subscripted slice false (.ref l) (.int k u) = operate [.ref l, .int k u] (getItem (.ref l) (.int k u)) := by with_unfolding_all rfl) : wpAny (model P0 w) A (subscriptTail value slice (.ref l) (.int k u)) Q NoE ⟨h, G, D, t, O⟩ :=
  tail_any hl.typeIs slot_list_getitem.lookup q hs
end
end Mine
end

-- M4
noncomputable section
open PySem PySem.W PyProof.Rows PySem.Calls
set_option maxRecDepth 100000
set_option linter.unusedVariables false
namespace Mine
local macro_rules | `(tactic| walk_at "hv") => `(tactic| first | assumption | (refine up_ne (by decide) ?_; walk_at "hv") | exact up_eq)
local macro_rules | `(tactic| walk_at "ld") => `(tactic| (refine r_ld (by assumption) (by assumption) (by assumption) (by walk_at "hv") ?_))
local macro_rules | `(tactic| walk_at "e") => `(tactic| first
  | ((with_reducible show wpAny _ _ (eval (PySem.Expr.Constant (PySem.Const.int _) _ _) _) _ _ _); refine r_int ?_; intro _ _)
  | ((with_reducible show wpAny _ _ (eval (PySem.Expr.Constant (PySem.Const.str _) _ _) _) _ _ _); refine r_str ?_; intro _ _)
  | ((with_reducible show wpAny _ _ (eval (PySem.Expr.BinOp _ _ _ _) _) _ _ _); refine wpAny_BinOp ?_)
  | ((with_reducible show wpAny _ _ (eval (PySem.Expr.Compare _ [_] [_] _) _) _ _ _); refine wpAny_Compare1 ?_)
  | ((with_reducible show wpAny _ _ (spliced (backTo _ (starEach (_ :: _) _))) _ _ _); refine args_cons ?_)
  | ((with_reducible show wpAny _ _ (eval (PySem.Expr.Name _ _) _) _ _ _); walk_at "ld")
  | ((with_reducible show wpAny _ _ (binaryOp PySem.Operator.Add (Value.int _ _) (Value.int _ _)) _ _ _); refine r_add ?_; intro _ _)
  | ((with_reducible show wpAny _ _ (binaryOp PySem.Operator.Mod (Value.int _ _) (Value.int _ _)) _ _ _); refine r_mod (by decide) ?_; intro _ _)
  | ((with_reducible show wpAny _ _ (binaryOp PySem.Operator.FloorDiv (Value.int _ _) (Value.int _ _)) _ _ _); refine r_fdiv (by decide) (by decide) ?_; intro _ _)
  | ((with_reducible show wpAny _ _ (binaryOp PySem.Operator.BitAnd (Value.int _ _) (Value.int _ _)) _ _ _); refine r_and ?_; intro _ _)
  | ((with_reducible show wpAny _ _ (truthy (Value.int _ _)) _ _ _); refine r_tint ?_)
  | ((with_reducible show wpAny _ _ (truthy (Value.bool _)) _ _ _); refine r_tbool ?_)
  | ((with_reducible show wpAny _ _ (compareOp PySem.CmpOp.Eq (Value.int _ _) (Value.int _ _)) _ _ _); refine r_eq ?_)
  | ((with_reducible show wpAny _ _ (compareOp PySem.CmpOp.NotEq (Value.int _ _) (Value.int _ _)) _ _ _); refine r_ne ?_)
  | ((with_reducible show wpAny _ _ (compareOp PySem.CmpOp.Gt (Value.int _ _) (Value.int _ _)) _ _ _); refine r_gt ?_)
  | ((with_reducible show wpAny _ _ (compareOp PySem.CmpOp.Lt (Value.int _ _) (Value.int _ _)) _ _ _); refine r_lt ?_)
  | ((with_reducible show wpAny _ _ (binaryOp PySem.Operator.Mult (Value.int _ _) (Value.int _ _)) _ _ _); refine r_mul (IntMulOk.of_left (by decide)) ?_; intro _ _)
  | ((with_reducible show wpAny _ _ (unaryOp PySem.UnaryOp.USub (Value.int _ _)) _ _ _); refine r_neg ?_; intro _ _))
theorem lastD {l : List Int} (h : 0 < l.length) : l[l.length - 1]? = some (l.getLastD 0) := by
  rw [← List.getLast?_eq_getElem?, List.getLastD_eq_getLast?]
  cases e : l.getLast? with
  | none => rw [List.getLast?_eq_none_iff] at e; subst e; simp at h
  | some x => rfl
noncomputable def hstep (st : List (Int × Int) × List Int) (c : Nat) : List (Int × Int) × List Int :=
  if (inC7 c || inC8 c) = true then (st.1 ++ [(st.2.getLastD 0, (st.1.length : Int) + 1)], if inC7 c = true then st.2 ++ [(st.1.length : Int) + 1] else st.2) else st
noncomputable def hungP (l : List Nat) : List (Int × Int) × List Int := l.foldl hstep ([], [0])
theorem hung_snoc (l : List Nat) (c : Nat) : hungP (l ++ [c]) = hstep (hungP l) c := by simp [hungP]
theorem hung_len (l : List Nat) : (hungP l).1.length ≤ l.length ∧ (hungP l).2.length ≤ l.length + 1 ∧ 0 < (hungP l).2.length := by
  suffices ∀ (l : List Nat) (st : List (Int × Int) × List Int), 0 < st.2.length → (l.foldl hstep st).1.length ≤ st.1.length + l.length ∧ (l.foldl hstep st).2.length ≤ st.2.length + l.length ∧ 0 < (l.foldl hstep st).2.length by
    have := this l ([], [0]) (by decide)
    simp only [List.length_nil, List.length_cons] at this
    unfold hungP; omega
  intro l
  induction l with
  | nil => intro st h; simp; exact h
  | cons c l ih =>
    intro st h
    have hs : 0 < (hstep st c).2.length ∧ (hstep st c).1.length ≤ st.1.length + 1 ∧ (hstep st c).2.length ≤ st.2.length + 1 := by
      unfold hstep; split
      · dsimp only; split <;> simp <;> omega
      · exact ⟨h, by omega, by omega⟩
    have := ih (hstep st c) hs.1
    simp only [List.foldl_cons, List.length_cons]; omega
section
variable {w : World} {A : Around} {G : Array GenState} {D : Drawn} {O : OsState} {h h₀ : Heap} {t : Nat} {env : Env} {m : Str → Option Value}
noncomputable def fHung (P : Params) : FuncData := (fdat (o170 P)).getD default
set_option maxHeartbeats 1000000 in
theorem hung_spec {l : List Nat} {ux : Tok} {Q : Value → Shared → Prop} (X : KB w h) (hh : Room A 2) (hlen : l.length ≤ 200)
   (q : ∀ ra ta sa tvs svs h' t', Ex h h' → TU h' ra [.ref ta, .ref sa] → PL h' ta tvs → PL h' sa svs → AT (fun b => h.get? b = none) h' tvs (hungP l).1 → AI svs (hungP l).2 →
      h.get? ta = none → h.get? sa = none → h.get? ra = none → Q (.ref ra) ⟨h', G, D, t', O⟩) :
   wpAny (model P0 w) A (call (.ref 170) [.str (tx l) ux]) Q NoE ⟨h, G, D, t, O⟩ := by
  refine r_call (fo := o170 w.params) (fd := fHung w.params) (body := [stm 15 0, stm 15 1, stm 15 2, stm 15 3]) (binds := [("text", .str (tx l) ux)]) X
    (by kernel_rfl) (by kernel_rfl) (by kernel_rfl) (by kernel_rfl) hh.lt (fun t => .of_eq (by kernel_rfl)) (by kernel_rfl) (by kernel_rfl) (by kernel_rfl) (by kernel_rfl) (by kernel_rfl) (by kernel_rfl) (by kernel_rfl) fun env h1 t' V hc F => ?_
  have V : Ev env (topd 15).2.2 := V
  have hh := hh.deeper env
  generalize hm : (fun x => List.lookup x [((Str.ofString "text"), Value.str (tx l) ux)].reverse) = m at F
  have e1 : m "text" = some (.str (tx l) ux) := by rw [← hm]; rfl
  clear hm
  have hk : env.scope.kind = .function := by rw [V.sc]; kernel_rfl
  have kt : env.kindOf "text" = some .local := V.kind (by kernel_rfl)
  have ksp : env.kindOf "spine" = some .local := V.kind (by kernel_rfl)
  have kti : env.kindOf "ties" = some .local := V.kind (by kernel_rfl)
  have ksg : env.kindOf "sign" = some .local := V.kind (by kernel_rfl)
  have kfu : env.kindOf "further" = some .local := V.kind (by kernel_rfl)
  have k7 : env.kindOf "in_table_c7" = some .globalImplicit := V.kind (by kernel_rfl)
  have k8 : env.kindOf "in_table_c8" = some .globalImplicit := V.kind (by kernel_rfl)
  have kle : env.kindOf "len" = some .globalImplicit := V.kind (by kernel_rfl)
  refine wpAny_execs_cons ?_
  refine wpAny_Assign_Name ?_
  refine r_list ?_
  iterate 2 walk_at "e"
  refine args_nil ⟨szl (by simp only [List.length_cons, List.length_nil]; omega), _, _, rfl, ?_⟩
  intro sa h2 nsa x2 psa
  have sLa : sa ≠ env.locals := by obtain ⟨o, e⟩ := F.live; exact (ne_new nsa e).symm
  have s0 : h.get? sa = none := Ex.old F.keep nsa
  replace F := F.ex x2
  refine r_st F hk ksp ?_
  intro h3 t F k3
  replace psa := pl_kp psa k3 (by simpa using sLa)
  clear k3 x2 nsa
  refine wpAny_execs_cons ?_
  refine wpAny_Assign_Name ?_
  refine r_list ?_
  refine args_nil ⟨szl (by simp only [List.length_cons, List.length_nil]; omega), _, _, rfl, ?_⟩
  intro ta h4 nta x4 pta
  have tLa : ta ≠ env.locals := by obtain ⟨o, e⟩ := F.live; exact (ne_new nta e).symm
  have t0 : h.get? ta = none := Ex.old F.keep nta
  have sta : sa ≠ ta := by obtain ⟨o, e⟩ := pl_live psa; exact ne_new nta e
  replace F := F.ex x4
  replace psa := pl_ex psa x4
  refine r_st F hk kti ?_
  intro h5 t F k5
  replace psa := pl_kp psa k5 (by simpa using sLa)
  replace pta := pl_kp pta k5 (by simpa using tLa)
  clear k5 x4 nta
  refine wpAny_execs_cons ?_
  refine wpAny_For ?_
  walk_at "e"
  refine r_iterStr ?_
  intro I h6 St nI x6 W st6 SL
  have sI : sa ≠ I := by obtain ⟨o, e⟩ := pl_live psa; exact ne_new nI e
  have tI : ta ≠ I := by obtain ⟨o, e⟩ := pl_live pta; exact ne_new nI e
  have LI : env.locals ≠ I := by obtain ⟨o, e⟩ := F.live; exact ne_new nI e
  have I0 : h.get? I = none := Ex.old F.keep nI
  have W := W _ hh.hd
  refine r_for W (fun i h' => ∃ m tvs svs, Fx h env.locals h' m ∧ m "spine" = some (.ref sa) ∧ m "ties" = some (.ref ta) ∧ PL h' ta tvs ∧ PL h' sa svs ∧
      AT (fun b => h.get? b = none ∧ b ≠ env.locals ∧ b ≠ ta ∧ b ≠ sa ∧ b ≠ I) h' tvs (hungP (l.take i)).1 ∧ AI svs (hungP (l.take i)).2)
    ?_ ?_ ?_ ?_ st6
  · rintro i h' h'' ⟨m, tvs, svs, F, a1, a2, a3, a4, a5, a6⟩ k
    exact ⟨m, tvs, svs, F.mut k (by simpa using LI) (by simpa using I0), a1, a2, pl_kp a3 k (by simpa using tI), pl_kp a4 k (by simpa using sI), a5.kp k (by simp), a6⟩
  · rintro i v h' t hi ⟨c, u, ec, rfl⟩ ⟨m, tvs, svs, F, a1, a2, a3, a4, a5, a6⟩ st
    have hi : i < l.length := by simpa using hi
    have hcl : l[i]? = some c := by simpa using ec
    have htk : l.take (i + 1) = l.take i ++ [c] := by rw [List.take_add_one, hcl]; rfl
    have hb := hung_len (l.take i)
    rw [List.length_take] at hb
    refine r_st F hk ksg ?_
    intro h7 t F k7'
    replace a3 := pl_kp a3 k7' (by simpa using tLa)
    replace a4 := pl_kp a4 k7' (by simpa using sLa)
    replace a5 := a5.kp k7' (by simp; intro b _ n _ _ _; exact n)
    have st : St (i + 1) h7 := W.frame _ _ _ st fun b hb o e => k7' b o (by simp at hb; subst hb; simpa using LI.symm) e
    clear k7'
    refine wpAny_execs_cons ?_
    refine wpAny_Assign_Name ?_
    refine wpAny_Call_NameR ?_
    refine r_glob (X.ex F.keep) hk k7 V.g (v := .ref 33) (by kernel_rfl) ?_
    refine r_cw (fo := o33 w.params) (fd := fC7 w.params) (by kernel_rfl) (by kernel_rfl) ?_
    iterate 2 walk_at "e"
    refine args_nil ⟨X.ex F.keep, ?_⟩
    refine c7_spec (X.ex F.keep) (hh.less (by omega)) ?_
    intro h8 t8 x8
    replace F := F.ex x8
    replace a3 := pl_ex a3 x8
    replace a4 := pl_ex a4 x8
    replace a5 := a5.ex x8
    have st : St (i + 1) h8 := W.frame _ _ _ st fun b hb o e => x8.get e
    clear x8
    refine r_st F hk kfu ?_
    intro h9 t F k9
    replace a3 := pl_kp a3 k9 (by simpa using tLa)
    replace a4 := pl_kp a4 k9 (by simpa using sLa)
    replace a5 := a5.kp k9 (by simp; intro b _ n _ _ _; exact n)
    have st : St (i + 1) h9 := W.frame _ _ _ st fun b hb o e => k9 b o (by simp at hb; subst hb; simpa using LI.symm) e
    clear k9
    refine wpAny_execs_cons ?_
    refine wpAny_If ?_
    refine r_join (R := fun b s => ∃ h' t', b = (inC7 c || inC8 c) ∧ Ex h9 h' ∧ s = ⟨h', G, D, t', O⟩) ?_ ?_
    · refine wpAny_isTrue_BoolOp ?_
      refine r_tor ?_
      refine wpAny_isTrue_value ?_
      iterate 2 walk_at "e"
      refine if_b (fun b1 => ⟨_, _, by rw [b1]; rfl, Kp.refl _ _, rfl⟩) fun b1 => ?_
      refine r_tor ?_
      refine wpAny_isTrue_value ?_
      refine wpAny_Call_NameR ?_
      refine r_glob (X.ex F.keep) hk k8 V.g (v := .ref 57) (by kernel_rfl) ?_
      refine r_cw (fo := o57 w.params) (fd := fC8 w.params) (by kernel_rfl) (by kernel_rfl) ?_
      iterate 2 walk_at "e"
      refine args_nil ⟨X.ex F.keep, ?_⟩
      refine c8_spec (X.ex F.keep) (hh.less (by omega)) ?_
      intro h10 t10 x10
      walk_at "e"
      refine if_b (fun b2 => ⟨_, _, by rw [b1, b2]; rfl, x10, rfl⟩) fun b2 => ?_
      exact r_tor0 ⟨_, _, by rw [b1, b2]; rfl, x10, rfl⟩
    rintro _ _ ⟨h10, t10, rfl, x10, rfl⟩
    replace F := F.ex x10
    replace a3 := pl_ex a3 x10
    replace a4 := pl_ex a4 x10
    replace a5 := a5.ex x10
    have st : St (i + 1) h10 := W.frame _ _ _ st fun b hb o e => x10.get e
    clear x10
    have eqH : hungP (l.take (i + 1)) = hstep (hungP (l.take i)) c := by rw [htk, hung_snoc]
    rw [eqH]
    clear eqH
    generalize hungP (l.take i) = st0 at a5 a6 hb ⊢
    have hz1 := a5.length
    have hz2 := a6.length
    refine if_b (fun b1 => ?_) fun b1 => ?_
    · have hs : hstep st0 c = (st0.1 ++ [(st0.2.getLastD 0, (st0.1.length : Int) + 1)], if inC7 c = true then st0.2 ++ [(st0.1.length : Int) + 1] else st0.2) := by unfold hstep; rw [if_pos b1]
      rw [hs]
      refine wpAny_execs_cons ?_
      refine wpAny_Expr_any ?_ (intr hk)
      refine r_append (by rfl) (by rfl) (by rfl) ?_
      walk_at "e"
      refine ⟨_, _, _, _, rfl, rfl, a3, ?_⟩
      refine r_tuple ?_
      walk_at "e"
      refine Subscript_ ?_
      walk_at "e"
      refine wpAny_UnaryOp ?_
      walk_at "e"
      refine r_neg ?_
      intro u t
      obtain ⟨ul, el⟩ := a6.get (lastD hb.2.2)
      refine r_subTail a4.isList ?_
      refine wpAny_getItem_list_neg a4.isList (by decide) (by simp only [List.size_toArray]; omega) (by decide) (x := .int (st0.2.getLastD 0) ul) ?_ ?_
      · simp only [List.size_toArray, List.getElem?_toArray]
        rw [← el]; congr 1; omega
      refine args_cons ?_
      refine wpAny_BinOp ?_
      refine wpAny_Call_NameR ?_
      refine r_blt (X.ex F.keep) hk kle V.g V.b (by kernel_rfl) (v := .builtin "len") (by kernel_rfl) ?_
      refine PyProof.Rows.callWith_builtin1 ?_
      iterate 2 walk_at "e"
      refine args_nil ?_
      refine r_len a3.isList (by simp only [List.size_toArray]; omega) ?_
      intro u t
      iterate 2 walk_at "e"
      refine args_nil ⟨szl (by simp only [List.length_cons, List.length_nil]; omega), _, _, rfl, ?_⟩
      intro b h11 nb x11 tb
      have bL : b ≠ env.locals := by obtain ⟨o, e⟩ := F.live; exact (ne_new nb e).symm
      have bt : b ≠ ta := by obtain ⟨o, e⟩ := pl_live a3; exact (ne_new nb e).symm
      have bs : b ≠ sa := by obtain ⟨o, e⟩ := pl_live a4; exact (ne_new nb e).symm
      have bI : b ≠ I := by obtain ⟨o, e⟩ := SL _ _ st; exact (ne_new nb e).symm
      have b0 : h.get? b = none := Ex.old F.keep nb
      refine ⟨_, _, _, rfl, pl_ex a3 x11, szl (by omega), ?_⟩
      intro h12 a3' k12
      have F := (F.ex x11).mut k12 (by simpa using tLa.symm) (by simpa using t0)
      have a4' := pl_kp (pl_ex a4 x11) k12 (by simpa using sta)
      have a5' := ((a5.ex x11).kp k12 (by simp; intro b _ _ n _ _; exact n)).snoc ⟨b0, bL, bt, bs, bI⟩ (tb.kp k12 (by simpa using bt))
      rw [show ((tvs.toArray.size : Nat) : Int) = (st0.1.length : Int) by simp [hz1]] at a5'
      have st : St (i + 1) h12 := W.frame _ _ _ st fun b hb o e => k12 b o (by simp at hb; subst hb; simpa using tI.symm) (x11.get e)
      clear a3 a4 a5 x11 k12 tb
      refine wpAny_execs_cons ?_
      refine wpAny_If ?_
      refine wpAny_isTrue_value ?_
      iterate 2 walk_at "e"
      refine if_b (fun b2 => ?_) fun b2 => ?_
      · rw [if_pos b2]
        refine wpAny_execs_cons ?_
        refine wpAny_Expr_any ?_ (intr hk)
        refine r_append (by rfl) (by rfl) (by rfl) ?_
        walk_at "e"
        refine ⟨_, _, _, _, rfl, rfl, a4', ?_⟩
        refine wpAny_Call_NameR ?_
        refine r_blt (X.ex F.keep) hk kle V.g V.b (by kernel_rfl) (v := .builtin "len") (by kernel_rfl) ?_
        refine PyProof.Rows.callWith_builtin1 ?_
        iterate 2 walk_at "e"
        refine args_nil ?_
        refine r_len a3'.isList (by simp only [List.size_toArray, List.length_append, List.length_cons, List.length_nil]; omega) ?_
        intro u t
        refine ⟨_, _, _, rfl, a4', szl (by omega), ?_⟩
        intro h13 a4'' k13
        have F := F.mut k13 (by simpa using sLa.symm) (by simpa using s0)
        have a3'' := pl_kp a3' k13 (by simpa using sta.symm)
        have a5'' := a5'.kp k13 (by simp; intro b _ _ _ n _; exact n)
        have st : St (i + 1) h13 := W.frame _ _ _ st fun b hb o e => k13 b o (by simp at hb; subst hb; simpa using sI.symm) e
        refine wpAny_execs_nil (wpAny_execs_nil (wpAny_execs_nil ⟨_, _, rfl, ⟨_, _, _, F, by walk_at "hv", by walk_at "hv", a3'', a4'', a5'', ?_⟩, st⟩))
        have e : (((tvs ++ [Value.ref b]).toArray.size : Nat) : Int) = (st0.1.length : Int) + 1 := by simp [hz1]
        rw [e]
        exact a6.append (.cons .nil)
      · rw [if_neg (by rw [b2]; decide)]
        exact wpAny_execs_nil (wpAny_execs_nil (wpAny_execs_nil ⟨_, _, rfl, ⟨_, _, _, F, by walk_at "hv", by walk_at "hv", a3', a4', a5', a6⟩, st⟩))
    · have hs : hstep st0 c = st0 := by unfold hstep; rw [if_neg (by rw [b1]; decide)]
      rw [hs]
      exact wpAny_execs_nil (wpAny_execs_nil ⟨_, _, rfl, ⟨_, tvs, svs, F, by walk_at "hv", by walk_at "hv", a3, a4, a5, a6⟩, st⟩)
  · rintro h' t ⟨m, tvs, svs, F, a1, a2, a3, a4, a5, a6⟩
    refine wpAny_execs_nil ?_
    refine wpAny_execs_cons ?_
    refine wpAny_Return_some ?_
    refine r_tuple ?_
    iterate 4 walk_at "e"
    refine args_nil ⟨szl (by simp only [List.length_cons, List.length_nil]; omega), _, _, rfl, ?_⟩
    intro ra h8 nra x8 pra
    have e : l.take (tx l).cps.size = l := by simp
    rw [e] at a5 a6
    exact q ra ta sa tvs svs _ _ (F.keep.trans x8) pra (pl_ex a3 x8) (pl_ex a4 x8) ((a5.ex x8).imp fun b n => n.1) a6 t0 s0 (Ex.old F.keep nra)
  · exact ⟨_, _, _, F.ex x6, by walk_at "hv", by walk_at "hv", pl_ex pta x6, pl_ex psa x6, .nil, .cons .nil⟩
end
end Mine
end

-- R4
noncomputable section
open PySem PySem.W PyProof.Rows PySem.Calls
set_option maxRecDepth 100000
set_option linter.unusedVariables false
namespace Mine
theorem rep_foldl (v : Value) : ∀ (k : Nat) (a : Array Value), List.foldl (fun x1 x2 => x1 ++ x2) a (List.replicate k #[v]) = a ++ (List.replicate k v).toArray
  | 0, a => by simp
  | k + 1, a => by
    rw [List.replicate_succ, List.foldl_cons, rep_foldl v k]
    apply Array.toList_inj.mp
    simp [List.replicate_succ]
theorem fi_list_iadd : fillsInplaceSlot (.type "list") "add" (Operator.Add == .Add) = pure false := by
  unfold fillsInplaceSlot
  show (typeLookup (.type "list") (dunderI "add") >>= fun fi => pure (fi.isSome && !isSeqSlot fi)) = pure false
  rw [F.slot_list_iadd.lookup]
  show (pure _ : Sem Bool) = _
  congr 1
theorem si_list_iadd : seqSlot? (.type "list") (dunderI "add") = pure (some (.builtin "list.__iadd__")) := PySem.seqSlot_of F.slot_list_iadd.lookup (by decide +kernel)
section
variable {w : World} {A : Around} {G : Array GenState} {D : Drawn} {O : OsState} {h h₀ : Heap} {t : Nat} {env : Env} {m : Str → Option Value} {Q : Value → Shared → Prop}
theorem r_mul {a b : Int} {u v : Tok} (hm : IntMulOk a b) (q : ∀ u t, Q (.int (a * b) u) ⟨h, G, D, t, O⟩) : wpAny (model P0 w) A (binaryOp .Mult (.int a u) (.int b v)) Q NoE ⟨h, G, D, t, O⟩ := PyProof.Rows.mul_int (q _ _) hm
theorem r_lmul {a : Addr} {v : Value} {x : Int} {u : Tok} (hl : PL h a [v]) (h0 : 0 ≤ x) (h1 : x ≤ 1000) (q : ∀ r h', h.get? r = none → Ex h h' → PL h' r (List.replicate x.toNat v) → Q (.ref r) ⟨h', G, D, t, O⟩) :
    wpAny (model P0 w) A (binaryOp .Mult (.ref a) (.int x u)) Q NoE ⟨h, G, D, t, O⟩ := by
  obtain ⟨k, hl⟩ := hl
  have hsz : [v].toArray.size * x.toNat ≤ 2 ^ 24 := by show 1 * x.toNat ≤ _; omega
  refine wpAny_binaryOp_repeat_ref (T := "list") (U := "int") (by decide) ⟨_, hl, rfl⟩ (fun s' => typeIs_int s' x u) noFill_list_mul F.fills_int_mul F.slot_int_rmul repeat_list F.slot_int_index.lookup
    (call_meets F.slot_int_rmul (typeIs_int _ x u) F.entry_int_rmul (F.args_int_rmul_2 _ _) (int___rmul___int_list x u a _ k)
      ⟨hl, rfl, ⟨_, hl, rfl⟩, call_meets F.slot_list_mul ⟨_, hl, rfl⟩ F.entry_list_mul (F.args_list_mul_2 _ _)
        (AutoListH.list___mul___list_int_3 a _ k x u (by simp [Builtin.List.listFitsIndex]; omega) (by omega) (by unfold Builtin.List.listTooLong; rw [decide_eq_true_eq, sizeLine_eq]; omega))
        ⟨hl, ?_⟩⟩)
  refine q _ _ (Heap.get?_none_of_le (Nat.le_refl _)) (Ex.push _ _) ⟨0, ?_⟩
  rw [Heap.get?_push_size _ rfl]
  have : List.foldl (fun x1 x2 => x1 ++ x2) #[] (List.replicate (if [v].toArray.isEmpty = true then 0 else x.toNat) [v].toArray) = (List.replicate x.toNat v).toArray := by
    rw [if_neg (by simp), show [v].toArray = #[v] from rfl, rep_foldl]; simp
  rw [this]
theorem r_liadd {a b : Addr} {vs ws : List Value} (ha : PL h a vs) (hb : PL h b ws) (hz : vs.length + ws.length ≤ 10000) (q : ∀ h', Kp [a] h h' → PL h' a (vs ++ ws) → Q (.ref a) ⟨h', G, D, t, O⟩) :
    wpAny (model P0 w) A (inplaceOp .Add (.ref a) (.ref b)) Q NoE ⟨h, G, D, t, O⟩ := by
  obtain ⟨n, ha⟩ := ha
  obtain ⟨n2, hb⟩ := hb
  have hT : (⟨h, G, D, t, O⟩ : Shared).TypeIs (.ref a) "list" := ⟨_, ha, rfl⟩
  have hU : (⟨h, G, D, t, O⟩ : Shared).TypeIs (.ref b) "list" := ⟨_, hb, rfl⟩
  unfold inplaceOp
  refine wpAny_holding ?_
  refine wpAny_bind (wpAny_typeOf hT (wpAny_bind (wpAny_of_eq fi_list_iadd ?_)))
  show wpAny _ A (if false = true then _ else _) Q NoE _
  rw [if_neg Bool.false_ne_true]
  refine wpAny_bind (wpAny_binaryOp1_none (nm := "add") hT hU noFill_list_add ?_)
  refine wpAny_bind (wpAny_of_eq si_list_iadd ?_)
  refine wpAny_bind (wpAny_rule ?_)
  have sl : sizeLine = 2 ^ 24 := sizeLine_eq
  refine call_meets F.slot_list_iadd hT F.entry_list_iadd (F.args_list_iadd_2 _ _) (AutoSeq1.list___iadd___list_list_0 a _ n b _ n2 (by simp [Builtin.List.listTooLong]; intro _; omega) (by simp; omega) (by simp; omega)) ⟨ha, hb, ?_⟩
  refine q _ (fun d o nd e => ?_) ?_
  · have : d ≠ a := by simpa using nd
    exact (Heap.get?_update_other _ _ (Ne.symm this)).trans e
  · have : ∃ n', Obj.mapSeq (fun x => x ++ ws.toArray) { cls := .type "list", dict := none, data := .seq vs.toArray n, slots := #[] } = { cls := .type "list", dict := none, data := .seq (vs ++ ws).toArray n', slots := #[] } := by
      refine ⟨if (vs.toArray ++ ws.toArray).size == vs.toArray.size then n else n + 1, ?_⟩
      show (⟨_, _, .seq (vs.toArray ++ ws.toArray) _, _⟩ : Obj) = _
      rw [show (vs ++ ws).toArray = vs.toArray ++ ws.toArray by simp]
    obtain ⟨n', e⟩ := this
    exact ⟨n', by rw [Heap.get?_update_self _ ha (by rw [e]; rfl), e]⟩
end
end Mine
end

noncomputable section
open PySem PySem.W PyProof.Rows PySem.Calls
set_option maxRecDepth 100000
set_option linter.unusedVariables false
namespace Mine
local macro_rules | `(tactic| walk_at "hv") => `(tactic| first | assumption | (refine up_ne (by decide) ?_; walk_at "hv") | exact up_eq)
local macro_rules | `(tactic| walk_at "ld") => `(tactic| (refine r_ld (by assumption) (by assumption) (by assumption) (by walk_at "hv") ?_))
local macro_rules | `(tactic| walk_at "e") => `(tactic| first
  | ((with_reducible show wpAny _ _ (eval (PySem.Expr.Constant (PySem.Const.int _) _ _) _) _ _ _); refine r_int ?_; intro _ _)
  | ((with_reducible show wpAny _ _ (eval (PySem.Expr.Constant (PySem.Const.str _) _ _) _) _ _ _); refine r_str ?_; intro _ _)
  | ((with_reducible show wpAny _ _ (eval (PySem.Expr.BinOp _ _ _ _) _) _ _ _); refine wpAny_BinOp ?_)
  | ((with_reducible show wpAny _ _ (eval (PySem.Expr.Compare _ [_] [_] _) _) _ _ _); refine wpAny_Compare1 ?_)
  | ((with_reducible show wpAny _ _ (spliced (backTo _ (starEach (_ :: _) _))) _ _ _); refine args_cons ?_)
  | ((with_reducible show wpAny _ _ (eval (PySem.Expr.Name _ _) _) _ _ _); walk_at "ld")
  | ((with_reducible show wpAny _ _ (binaryOp PySem.Operator.Add (Value.int _ _) (Value.int _ _)) _ _ _); refine r_add ?_; intro _ _)
  | ((with_reducible show wpAny _ _ (binaryOp PySem.Operator.Mod (Value.int _ _) (Value.int _ _)) _ _ _); refine r_mod (by decide) ?_; intro _ _)
  | ((with_reducible show wpAny _ _ (binaryOp PySem.Operator.FloorDiv (Value.int _ _) (Value.int _ _)) _ _ _); refine r_fdiv (by decide) (by decide) ?_; intro _ _)
  | ((with_reducible show wpAny _ _ (binaryOp PySem.Operator.BitAnd (Value.int _ _) (Value.int _ _)) _ _ _); refine r_and ?_; intro _ _)
  | ((with_reducible show wpAny _ _ (truthy (Value.int _ _)) _ _ _); refine r_tint ?_)
  | ((with_reducible show wpAny _ _ (truthy (Value.bool _)) _ _ _); refine r_tbool ?_)
  | ((with_reducible show wpAny _ _ (compareOp PySem.CmpOp.Eq (Value.int _ _) (Value.int _ _)) _ _ _); refine r_eq ?_)
  | ((with_reducible show wpAny _ _ (compareOp PySem.CmpOp.NotEq (Value.int _ _) (Value.int _ _)) _ _ _); refine r_ne ?_)
  | ((with_reducible show wpAny _ _ (compareOp PySem.CmpOp.Gt (Value.int _ _) (Value.int _ _)) _ _ _); refine r_gt ?_)
  | ((with_reducible show wpAny _ _ (compareOp PySem.CmpOp.Lt (Value.int _ _) (Value.int _ _)) _ _ _); refine r_lt ?_)
  | ((with_reducible show wpAny _ _ (binaryOp PySem.Operator.Mult (Value.int _ _) (Value.int _ _)) _ _ _); refine r_mul (IntMulOk.of_left (by decide)) ?_; intro _ _)
  | ((with_reducible show wpAny _ _ (unaryOp PySem.UnaryOp.USub (Value.int _ _)) _ _ _); refine r_neg ?_; intro _ _))
-- M5
section
noncomputable def octP (rows : List Int) : Nat → List Int
  | 0 => []
  | v + 1 => octP rows v ++ List.replicate ((v : Int).fmod 3).toNat 64 ++
     (if decide (63 < rows.getD v 0) = true then [128 * (v : Int).fmod 2 + 64 + (rows.getD v 0).fdiv 64, (rows.getD v 0).fmod 64] else [128 * (v : Int).fmod 2 + rows.getD v 0])
theorem oct_len (rows : List Int) : ∀ v, (octP rows v).length ≤ 4 * v
  | 0 => by simp [octP]
  | v + 1 => by
    have := oct_len rows v
    have m3 := fm (x := (v : Int)) (b := 3) (by decide)
    unfold octP
    simp only [List.length_append, List.length_replicate]
    split <;> simp <;> omega
theorem AI.rep (k : Nat) (i : Int) (u : Tok) : AI (List.replicate k (.int i u)) (List.replicate k i) := by
  induction k with
  | zero => exact .nil
  | succ k ih => rw [List.replicate_succ, List.replicate_succ]; exact .cons ih
section
variable {w : World} {A : Around} {G : Array GenState} {D : Drawn} {O : OsState} {h h₀ : Heap} {t : Nat} {env : Env} {m : Str → Option Value}
noncomputable def fOct (P : Params) : FuncData := (fdat (o177 P)).getD default
set_option maxHeartbeats 1000000 in
theorem oct_spec {ra : Addr} {rows : List Int} {Q : Value → Shared → Prop} (X : KB w h) (hh : Room A 2) (hr : IL h ra rows) (hlen : rows.length = 7)
   (q : ∀ oa vs h' t', Ex h h' → h.get? oa = none → PL h' oa vs → AI vs (octP rows 7) → Q (.ref oa) ⟨h', G, D, t', O⟩) :
   wpAny (model P0 w) A (call (.ref 177) [.ref ra]) Q NoE ⟨h, G, D, t, O⟩ := by
  refine r_call (fo := o177 w.params) (fd := fOct w.params) (body := [stm 16 0, stm 16 1, stm 16 2]) (binds := [("rows", .ref ra)]) X
    (by kernel_rfl) (by kernel_rfl) (by kernel_rfl) (by kernel_rfl) hh.lt (fun t => .of_eq (by kernel_rfl)) (by kernel_rfl) (by kernel_rfl) (by kernel_rfl) (by kernel_rfl) (by kernel_rfl) (by kernel_rfl) (by kernel_rfl) fun env h1 t' V hc F => ?_
  have V : Ev env (topd 16).2.2 := V
  have hh := hh.deeper env
  generalize hm : (fun x => List.lookup x [((Str.ofString "rows"), Value.ref ra)].reverse) = m at F
  have e1 : m "rows" = some (.ref ra) := by rw [← hm]; rfl
  clear hm
  have hk : env.scope.kind = .function := by rw [V.sc]; kernel_rfl
  have kr : env.kindOf "rows" = some .local := V.kind (by kernel_rfl)
  have ko : env.kindOf "octets" = some .local := V.kind (by kernel_rfl)
  have kv : env.kindOf "v" = some .local := V.kind (by kernel_rfl)
  have km : env.kindOf "more" = some .local := V.kind (by kernel_rfl)
  have kg : env.kindOf "range" = some .globalImplicit := V.kind (by kernel_rfl)
  refine wpAny_execs_cons ?_
  refine wpAny_Assign_Name ?_
  refine r_list ?_
  refine args_nil ⟨szl (by simp), _, _, rfl, ?_⟩
  intro oa h2 noa x2 poa
  have oL : oa ≠ env.locals := by obtain ⟨o, e⟩ := F.live; exact (ne_new noa e).symm
  have o0 : h.get? oa = none := Ex.old F.keep noa
  replace F := F.ex x2
  refine r_st F hk ko ?_
  intro h3 t F k3
  replace poa := pl_kp poa k3 (by simpa using oL)
  clear k3 x2 noa
  refine wpAny_execs_cons ?_
  refine wpAny_For ?_
  refine wpAny_Call_NameR ?_
  refine r_blt (X.ex F.keep) hk kg V.g V.b (by kernel_rfl) (v := .type "range") (by kernel_rfl) ?_
  refine PyProof.Rows.callWith_type1 ?_
  iterate 2 walk_at "e"
  refine args_nil ?_
  refine r_range1 ?_
  intro r h4 t nr x4 hr4
  refine r_iterRange (a := 0) (n := 7) (by rfl) hr4 ?_
  intro I h5 nI x5 st5
  replace F := F.ex x4
  replace poa := pl_ex poa x4
  have LI : env.locals ≠ I := by obtain ⟨o, e⟩ := F.live; exact ne_new nI e
  have oI : oa ≠ I := by obtain ⟨o, e⟩ := pl_live poa; exact ne_new nI e
  have I0 : h.get? I = none := Ex.old F.keep nI
  have W := walkRange (w := w) hh.hd I 0 7
  refine r_for W (fun i h' => ∃ m vs, Fx h env.locals h' m ∧ m "rows" = some (.ref ra) ∧ m "octets" = some (.ref oa) ∧ PL h' oa vs ∧ AI vs (octP rows i)) ?_ ?_ ?_ ?_ st5
  · rintro i h' h'' ⟨m, vs, F, a1, a2, a3, a4⟩ k
    exact ⟨m, vs, F.mut k (by simpa using LI) (by simpa using I0), a1, a2, pl_kp a3 k (by simpa using oI), a4⟩
  · rintro i v h' t hi ⟨u, rfl⟩ ⟨m, vs, F, a1, a2, a3, a4⟩ st
    rw [show (0 : Int) + (i : Int) * 1 = (i : Int) by omega]
    have fr : ∀ {a b : Heap} {W' : List Addr}, RSt I 0 7 (i + 1) a → Kp W' a b → I ∉ W' → RSt I 0 7 (i + 1) b := fun s k n => W.frame _ _ _ s fun b hb o e => k b o (by simp at hb; subst hb; exact n) e
    have m3 := fm (x := (i : Int)) (b := 3) (by decide)
    have hl := oct_len rows i
    have hl' := a4.length
    have hx := getD_lt (l := rows) (i := i) (by omega)
    have eqO : octP rows (i + 1) = octP rows i ++ List.replicate ((i : Int).fmod 3).toNat 64 ++ (if decide (63 < rows.getD i 0) = true then [128 * (i : Int).fmod 2 + 64 + (rows.getD i 0).fdiv 64, (rows.getD i 0).fmod 64] else [128 * (i : Int).fmod 2 + rows.getD i 0]) := rfl
    rw [eqO]
    clear eqO
    generalize rows.getD i 0 = rv at hx ⊢
    refine r_st F hk kv ?_
    intro h6 t F k6
    replace a3 := pl_kp a3 k6 (by simpa using oL)
    replace st := fr st k6 (by simpa using LI.symm)
    clear k6
    refine wpAny_execs_cons ?_
    refine wpAny_Assign_Name ?_
    iterate 7 walk_at "e"
    refine r_st F hk km ?_
    intro h7 t F k7
    replace a3 := pl_kp a3 k7 (by simpa using oL)
    replace st := fr st k7 (by simpa using LI.symm)
    clear k7
    refine wpAny_execs_cons ?_
    refine wpAny_AugAssign_Name ?_
    refine r_ldn F hk ko (by walk_at "hv") ?_
    refine wpAny_BinOp ?_
    refine r_list ?_
    refine args_cons ?_
    refine r_int ?_
    intro u64 t
    refine args_nil ⟨szl (by simp), _, _, rfl, ?_⟩
    intro la h8 nla x8 pla
    replace F := F.ex x8
    replace a3 := pl_ex a3 x8
    replace st := fr st x8 (by simp)
    clear x8
    iterate 4 walk_at "e"
    refine r_lmul pla m3.1 (by omega) ?_
    intro ma h9 nma x9 pma
    replace F := F.ex x9
    replace a3 := pl_ex a3 x9
    replace st := fr st x9 (by simp)
    clear x9
    refine r_liadd a3 pma (by simp only [List.length_replicate]; omega) ?_
    intro h10 k10 a3'
    replace F := F.mut k10 (by simpa using oL.symm) (by simpa using o0)
    replace st := fr st k10 (by simpa using oI.symm)
    clear k10 a3 pma
    have a4' := a4.append (AI.rep ((i : Int).fmod 3).toNat 64 u64)
    refine r_st F hk ko ?_
    intro h11 t F k11
    replace a3' := pl_kp a3' k11 (by simpa using oL)
    replace st := fr st k11 (by simpa using LI.symm)
    clear k11
    refine wpAny_execs_cons ?_
    refine wpAny_If ?_
    refine wpAny_isTrue_Compare1 ?_
    refine wpAny_Subscript_Name_late ?_
    iterate 2 walk_at "e"
    refine r_idxIL (n := rv) (hr.ex F.keep) (by omega) (by omega) (by rw [← hx]; rfl) ?_
    intro u
    iterate 3 walk_at "e"
    refine if_b (fun b1 => ?_) fun b1 => ?_
    · rw [if_pos b1]
      refine wpAny_execs_cons ?_
      refine wpAny_AugAssign_Name ?_
      refine r_ldn F hk ko (by walk_at "hv") ?_
      refine r_list ?_
      repeat walk_at "e"
      refine wpAny_Subscript_Name_late ?_
      iterate 2 walk_at "e"
      refine r_idxIL (n := rv) (hr.ex F.keep) (by omega) (by omega) (by rw [← hx]; rfl) ?_
      intro u
      repeat walk_at "e"
      refine wpAny_Subscript_Name_late ?_
      iterate 2 walk_at "e"
      refine r_idxIL (n := rv) (hr.ex F.keep) (by omega) (by omega) (by rw [← hx]; rfl) ?_
      intro u
      repeat walk_at "e"
      refine args_nil ⟨szl (by simp), _, _, rfl, ?_⟩
      intro na h12 nna x12 pna
      replace F := F.ex x12
      replace a3' := pl_ex a3' x12
      replace st := fr st x12 (by simp)
      clear x12
      refine r_liadd a3' pna (by simp only [List.length_append, List.length_replicate, List.length_cons, List.length_nil]; omega) ?_
      intro h13 k13 a3''
      replace F := F.mut k13 (by simpa using oL.symm) (by simpa using o0)
      replace st := fr st k13 (by simpa using oI.symm)
      refine r_st F hk ko ?_
      intro h14 t F k14
      replace a3'' := pl_kp a3'' k14 (by simpa using oL)
      replace st := fr st k14 (by simpa using LI.symm)
      exact wpAny_execs_nil (wpAny_execs_nil ⟨_, _, rfl, ⟨_, _, F, by walk_at "hv", by walk_at "hv", a3'', a4'.append (.cons (.cons .nil))⟩, st⟩)
    · rw [if_neg (by rw [b1]; decide)]
      refine wpAny_execs_cons ?_
      refine wpAny_Expr_any ?_ (intr hk)
      refine r_append (by rfl) (by rfl) (by rfl) ?_
      walk_at "e"
      refine ⟨_, _, _, _, rfl, rfl, a3', ?_⟩
      iterate 2 walk_at "e"
      refine wpAny_Subscript_Name_late ?_
      iterate 2 walk_at "e"
      refine r_idxIL (n := rv) (hr.ex F.keep) (by omega) (by omega) (by rw [← hx]; rfl) ?_
      intro u
      refine r_add ?_
      intro u t
      refine ⟨_, _, _, rfl, a3', szl (by simp only [List.length_append, List.length_replicate]; omega), ?_⟩
      intro h12 a3'' k12
      replace F := F.mut k12 (by simpa using oL.symm) (by simpa using o0)
      replace st := fr st k12 (by simpa using oI.symm)
      exact wpAny_execs_nil (wpAny_execs_nil ⟨_, _, rfl, ⟨_, _, F, by walk_at "hv", by walk_at "hv", a3'', a4'.append (.cons .nil)⟩, st⟩)
  · rintro h' t ⟨m, vs, F, a1, a2, a3, a4⟩
    refine wpAny_execs_nil ?_
    refine wpAny_execs_cons ?_
    refine wpAny_Return_some ?_
    walk_at "e"
    exact q _ _ _ _ F.keep o0 a3 a4
  · exact ⟨_, _, F.ex x5, by walk_at "hv", by walk_at "hv", pl_ex poa x5, .nil⟩
end
end

-- R5
section
theorem map_of {w : World} {h : Heap} {a : Addr} {o : Obj} {es : Array DictEntry} {ep : Nat} (e : h.get? a = some o) (x : o.ExactDict) (d : o.data = .dict es ep) (hes : ∀ q ∈ es, ∃ i u, q.key = .int i u ∧ q.hash = hashInt i) :
   h.MapOf (intKind P0 w) a (fun k => findBy Value.isInt es k) :=
  ⟨o, es, ep, e, x, d, fun q hq => by obtain ⟨i, u, e1, e2⟩ := hes q hq; exact ⟨i, by rw [e1]; simp [intKind, Value.isInt], e2⟩, fun k => rfl⟩
section
variable {w : World} {A : Around} {G : Array GenState} {D : Drawn} {O : OsState} {h h₀ : Heap} {t : Nat} {env : Env} {m : Str → Option Value} {Q : Value → Shared → Prop}
theorem r_sjoin {o e : Expr} {apos pos : Pos} (hbase : attributeBase o "join" env (eval o env) = eval o env) (hline : (apos.endLine == pos.line) = true) (htrees : backTo pos (starEach [e] env) = [(false, eval e env)])
    (q : wpAny (model P0 w) A (eval o env) (fun ov s₁ => ∃ x u, ov = .str x u ∧
      wpAny (model P0 w) A (eval e env) (fun v s₂ => ∃ a l h2 t2, v = .ref a ∧ s₂ = ⟨h2, G, D, t2, O⟩ ∧ h2.IsList a (strValues l).toArray ∧ JoinOk x (l.map (·.1)) = true ∧ ∀ u t, Q (.str (Txt.join x (l.map (·.1))) u) ⟨h2, G, D, t, O⟩) NoE s₁) NoE ⟨h, G, D, t, O⟩) :
    wpAny (model P0 w) A (eval (.Call (.Attribute o "join" apos) [e] [] pos) env) Q NoE ⟨h, G, D, t, O⟩ := by
  refine wpAny_Call_method1_late hbase hline htrees (wpAny_mono q (fun ov s₁ => ?_) fun _ _ e => e)
  rintro ⟨x, u, rfl, k⟩
  refine ⟨"str", "str.join", PySem.F.plainAttrs_str, F.slot_str_join, F.type_str_join, typeIs_str _ _ _, fun b hb => (nomatch hb), ?_⟩
  refine callWith_builtin rfl (evalArgs_plain (spliced_cons (wpAny_mono k (fun v s₂ => ?_) fun _ _ e => e)))
  rintro ⟨a, l, h2, t2, rfl, rfl, hl, ok, k⟩
  exact spliced_nil (SC.join hl rfl ok fun t' k' => k t' k')
theorem r_dget {o e1 e2 : Expr} {apos pos : Pos} (hbase : attributeBase o "get" env (eval o env) = eval o env) (hline : (apos.endLine == pos.line) = true) (htrees : backTo pos (starEach [e1, e2] env) = [(false, eval e1 env), (false, eval e2 env)])
    (q : wpAny (model P0 w) A (eval o env) (fun ov s₁ => ∃ d ob, ov = .ref d ∧ (d == sysModules) = false ∧ s₁.heap.get? d = some ob ∧ ob.dict = none ∧ ob.cls = .type "dict" ∧
      wpAny (model P0 w) A (eval e1 env) (fun key s₂ => wpAny (model P0 w) A (eval e2 env) (fun df s₃ => ∃ k f h3 t3, (intKind P0 w).is k key = true ∧ s₃ = ⟨h3, G, D, t3, O⟩ ∧ h3.MapOf (intKind P0 w) d f ∧ ∀ t, Q ((f k).getD df) ⟨h3, G, D, t, O⟩) NoE s₂) NoE s₁) NoE ⟨h, G, D, t, O⟩) :
    wpAny (model P0 w) A (eval (.Call (.Attribute o "get" apos) [e1, e2] [] pos) env) Q NoE ⟨h, G, D, t, O⟩ := by
  refine wpAny_Call_method2_late hbase hline htrees (wpAny_mono q (fun ov s₁ => ?_) fun _ _ e => e)
  rintro ⟨d, ob, rfl, hd, ho, hdi, hcl, k⟩
  refine ⟨"dict", "dict.get", PySem.F.plainAttrs_dict, F.slot_dict_get, F.type_dict_get, ⟨_, ho, hcl⟩, fun b hb => by cases hb; exact ⟨_, ho, hdi⟩, ?_⟩
  refine wpAny_dict_get2 (knd := intKind P0 w) hd (wpAny_mono k (fun key s₂ k => wpAny_mono k (fun df s₃ => ?_) fun _ _ e => e) fun _ _ e => e)
  rintro ⟨k, f, h3, t3, hk, rfl, hm, k'⟩
  exact ⟨k, f, hk, hm, k' _⟩
theorem r_hex {i : Int} {u : Tok} (hz : (baseText "0x" 16 i).length ≤ 1000) (q : ∀ u t, Q (.str (baseText "0x" 16 i) u) ⟨h, G, D, t, O⟩) : wpAny (model P0 w) A (call (.builtin "hex") [.int i u]) Q NoE ⟨h, G, D, t, O⟩ :=
  P.hex_of_int (q _ _) (szl (by omega))
end
end

-- M6
section
noncomputable def nmL : List Str := ["OPTIMIZED", "NEWLOCALS", "VARARGS", "VARKEYWORDS", "NESTED", "GENERATOR", "NOFREE"]
noncomputable def nm (i : Nat) : Str := nmL.getD i Str.empty
noncomputable def bitsN (s : Nat) : Nat → List Str
  | 0 => []
  | i + 1 => bitsN s i ++ (if s.testBit i = true then [nm i] else [])
noncomputable def fl (s i : Nat) : Int := ((s / 2 ^ i * 2 ^ i : Nat) : Int)
noncomputable def pp (s : Nat) : List Str := if s = 0 then [Str.ofString "0x0"] else bitsN s 7
theorem fl_hi {s i : Nat} (hs : s < 128) (hi : 7 ≤ i) : fl s i = 0 ∧ s.testBit i = false := by
  have h : s < 2 ^ i := Nat.lt_of_lt_of_le hs (Nat.pow_le_pow_right (n := 2) (by decide) hi)
  refine ⟨?_, Nat.testBit_lt_two_pow h⟩
  unfold fl
  rw [Nat.div_eq_of_lt h]
  simp
theorem pf1a : ∀ s : Fin 128, ∀ i : Fin 7, (Builtin.bitAnd (fl s i) (1 * 2 ^ (i : Nat)) != 0) = (s : Nat).testBit i := by decide +kernel
theorem pf1b : ∀ i : Fin 32, (Builtin.bitAnd 0 (1 * 2 ^ (i : Nat)) != 0) = false := by decide +kernel
theorem pf1 (s : Fin 128) (i : Fin 32) : (Builtin.bitAnd (fl s i) (1 * 2 ^ (i : Nat)) != 0) = (s : Nat).testBit i := by
  by_cases h : (i : Nat) < 7
  · exact pf1a s ⟨i, h⟩
  · have := fl_hi s.2 (show 7 ≤ (i : Nat) by omega)
    rw [this.1, this.2]; exact pf1b i
theorem pf2a : ∀ s : Fin 128, ∀ i : Fin 7, (s : Nat).testBit i = true → Builtin.bitXor (fl s i) (1 * 2 ^ (i : Nat)) = fl s (i + 1) ∧ (i : Nat) < 7 := by decide +kernel
theorem pf2 (s : Fin 128) (i : Fin 32) (e : (s : Nat).testBit i = true) : Builtin.bitXor (fl s i) (1 * 2 ^ (i : Nat)) = fl s (i + 1) ∧ (i : Nat) < 7 := by
  by_cases h : (i : Nat) < 7
  · exact pf2a s ⟨i, h⟩ e
  · rw [(fl_hi s.2 (show 7 ≤ (i : Nat) by omega)).2] at e; cases e
theorem pf3a : ∀ s : Fin 128, ∀ i : Fin 7, (s : Nat).testBit i = false → fl s i = fl s (i + 1) := by decide +kernel
theorem pf3 (s : Fin 128) (i : Fin 32) (e : (s : Nat).testBit i = false) : fl s i = fl s (i + 1) := by
  by_cases h : (i : Nat) < 7
  · exact pf3a s ⟨i, h⟩ e
  · rw [(fl_hi s.2 (show 7 ≤ (i : Nat) by omega)).1, (fl_hi s.2 (show 7 ≤ (i : Nat) + 1 by omega)).1]
theorem bitsN_hi {s : Nat} (hs : s < 128) : ∀ k, bitsN s (7 + k) = bitsN s 7
  | 0 => rfl
  | k + 1 => by
    show bitsN s (7 + k) ++ (if s.testBit (7 + k) = true then [nm (7 + k)] else []) = _
    rw [bitsN_hi hs k, (fl_hi hs (show 7 ≤ 7 + k by omega)).2]
    simp
theorem bitsN_z {s : Nat} : ∀ k i, (∀ j, i ≤ j → s.testBit j = false) → bitsN s (i + k) = bitsN s i
  | 0, _, _ => rfl
  | k + 1, i, h => by
    show bitsN s (i + k) ++ (if s.testBit (i + k) = true then [nm (i + k)] else []) = _
    rw [bitsN_z k i h, h (i + k) (by omega)]
    simp
theorem pf4 (s : Fin 128) (i : Fin 32) (_ : (s : Nat) ≠ 0) (e : fl s (i + 1) = 0) : bitsN s (i + 1) = bitsN s 7 := by
  by_cases h : (i : Nat) < 7
  · have z : (s : Nat) / 2 ^ ((i : Nat) + 1) = 0 := by
      unfold fl at e
      have e' : (s : Nat) / 2 ^ ((i : Nat) + 1) * 2 ^ ((i : Nat) + 1) = 0 := by exact_mod_cast e
      rcases Nat.mul_eq_zero.mp e' with q | q
      · exact q
      · exact absurd q (Nat.ne_of_gt (Nat.two_pow_pos _))
    have lt : (s : Nat) < 2 ^ ((i : Nat) + 1) := (Nat.div_eq_zero_iff_lt (Nat.two_pow_pos _)).mp z
    have := bitsN_z (s := s) (7 - ((i : Nat) + 1)) ((i : Nat) + 1) fun j hj => Nat.testBit_lt_two_pow (Nat.lt_of_lt_of_le lt (Nat.pow_le_pow_right (by decide) hj))
    rw [show (i : Nat) + 1 + (7 - ((i : Nat) + 1)) = 7 by omega] at this
    exact this.symm
  · have := bitsN_hi s.2 ((i : Nat) + 1 - 7)
    rwa [show 7 + ((i : Nat) + 1 - 7) = (i : Nat) + 1 by omega] at this
theorem pf5 : ∀ s : Fin 128, fl s 32 = 0 ∧ fl s 0 = (s : Nat) ∧ JoinOk ", " (pp s) = true := by decide +kernel
theorem pf6 : ∀ i : Fin 8, (baseText "0x" 16 (1 * 2 ^ (i : Nat))).length ≤ 1000 := by decide +kernel
theorem bitsN_len (s : Nat) : ∀ i, (bitsN s i).length ≤ i
  | 0 => Nat.le_refl _
  | i + 1 => by have := bitsN_len s i; unfold bitsN; rw [List.length_append]; split <;> simp <;> omega
noncomputable def dEs (o : Obj) : Array DictEntry := match o.data with | .dict es _ => es | _ => #[]
theorem map58 {w : World} {h : Heap} (X : KB w h) : h.MapOf (intKind P0 w) 58 (fun k => findBy Value.isInt (dEs (o58 w.params)) k) := by
  refine map_of (X 58 (o58 w.params) (by kernel_rfl)) ⟨rfl, rfl, rfl⟩ rfl (es := dEs (o58 w.params)) (ep := 10) ?_
  intro q hq
  simp only [dEs, o58] at hq
  simp only [List.mem_toArray, List.mem_cons, List.not_mem_nil, or_false] at hq
  rcases hq with rfl | rfl | rfl | rfl | rfl | rfl | rfl | rfl | rfl | rfl <;> exact ⟨_, _, rfl, by decide⟩
theorem get58 {w : World} {i : Nat} (hi : i < 7) : ∃ u, findBy Value.isInt (dEs (o58 w.params)) (1 * 2 ^ i) = some (.str (nm i) u) := by
  rcases Nat.lt_or_ge i 4 with a | a
  · rcases Nat.lt_or_ge i 2 with b | b
    · rcases Nat.lt_or_ge i 1 with c | c
      · obtain rfl : i = 0 := by omega
        exact ⟨282, by kernel_rfl⟩
      · obtain rfl : i = 1 := by omega
        exact ⟨284, by kernel_rfl⟩
    · rcases Nat.lt_or_ge i 3 with c | c
      · obtain rfl : i = 2 := by omega
        exact ⟨286, by kernel_rfl⟩
      · obtain rfl : i = 3 := by omega
        exact ⟨288, by kernel_rfl⟩
  · rcases Nat.lt_or_ge i 5 with b | b
    · obtain rfl : i = 4 := by omega
      exact ⟨290, by kernel_rfl⟩
    · rcases Nat.lt_or_ge i 6 with c | c
      · obtain rfl : i = 5 := by omega
        exact ⟨292, by kernel_rfl⟩
      · obtain rfl : i = 6 := by omega
        exact ⟨294, by kernel_rfl⟩
section
variable {w : World} {A : Around} {G : Array GenState} {D : Drawn} {O : OsState} {h h₀ : Heap} {t : Nat} {env : Env} {m : Str → Option Value}
noncomputable def fPretty (P : Params) : FuncData := (fdat (o65 P)).getD default
set_option maxHeartbeats 1000000 in
theorem pretty_spec {s : Nat} {us : Tok} {Q : Value → Shared → Prop} (X : KB w h) (hh : Room A 2) (hs : s < 128)
   (q : ∀ u h' t', Ex h h' → Q (.str (Txt.join ", " (pp s)) u) ⟨h', G, D, t', O⟩) :
   wpAny (model P0 w) A (call (.ref 65) [.int s us]) Q NoE ⟨h, G, D, t, O⟩ := by
  refine r_call (fo := o65 w.params) (fd := fPretty w.params) (body := [stm 8 0, stm 8 1, stm 8 2]) (binds := [("flags", .int s us)]) X
    (by kernel_rfl) (by kernel_rfl) (by kernel_rfl) (by kernel_rfl) hh.lt (fun t => .of_eq (by kernel_rfl)) (by kernel_rfl) (by kernel_rfl) (by kernel_rfl) (by kernel_rfl) (by kernel_rfl) (by kernel_rfl) (by kernel_rfl) fun env h1 t' V hc F => ?_
  have V : Ev env (topd 8).2.2 := V
  have hh := hh.deeper env
  generalize hm : (fun x => List.lookup x [((Str.ofString "flags"), Value.int (s : Int) us)].reverse) = m at F
  have e1 : m "flags" = some (.int s us) := by rw [← hm]; rfl
  clear hm
  have hk : env.scope.kind = .function := by rw [V.sc]; kernel_rfl
  have kf : env.kindOf "flags" = some .local := V.kind (by kernel_rfl)
  have kn : env.kindOf "names" = some .local := V.kind (by kernel_rfl)
  have ki : env.kindOf "i" = some .local := V.kind (by kernel_rfl)
  have kfl : env.kindOf "flag" = some .local := V.kind (by kernel_rfl)
  have kg : env.kindOf "range" = some .globalImplicit := V.kind (by kernel_rfl)
  have kh : env.kindOf "hex" = some .globalImplicit := V.kind (by kernel_rfl)
  have kc : env.kindOf "COMPILER_FLAG_NAMES" = some .globalImplicit := V.kind (by kernel_rfl)
  refine wpAny_execs_cons ?_
  refine wpAny_Assign_Name ?_
  refine r_list ?_
  refine args_nil ⟨szl (by simp), _, _, rfl, ?_⟩
  intro na h2 nna x2 pna
  have nL : na ≠ env.locals := by obtain ⟨o, e⟩ := F.live; exact (ne_new nna e).symm
  have n0 : h.get? na = none := Ex.old F.keep nna
  replace F := F.ex x2
  refine r_st F hk kn ?_
  intro h3 t F k3
  replace pna := pl_kp pna k3 (by simpa using nL)
  clear k3 x2 nna
  refine wpAny_execs_cons ?_
  refine wpAny_For ?_
  refine wpAny_Call_NameR ?_
  refine r_blt (X.ex F.keep) hk kg V.g V.b (by kernel_rfl) (v := .type "range") (by kernel_rfl) ?_
  refine PyProof.Rows.callWith_type1 ?_
  iterate 2 walk_at "e"
  refine args_nil ?_
  refine r_range1 ?_
  intro r h4 t nr x4 hr4
  refine r_iterRange (a := 0) (n := 32) (by rfl) hr4 ?_
  intro I h5 nI x5 st5
  replace F := F.ex x4
  replace pna := pl_ex pna x4
  have LI : env.locals ≠ I := by obtain ⟨o, e⟩ := F.live; exact ne_new nI e
  have nI' : na ≠ I := by obtain ⟨o, e⟩ := pl_live pna; exact ne_new nI e
  have I0 : h.get? I = none := Ex.old F.keep nI
  have W := walkRange (w := w) hh.hd I 0 32
  -- the end: the names joined
  have fin : ∀ {h' t' m' l}, Fx h env.locals h' m' → m' "names" = some (.ref na) → PL h' na (strValues l) → l.map (·.1) = pp s →
      wpAny (model P0 w) (A.deeper env) (execs [stm 8 2] env) (fun fl s' => Q (match fl with | .ret v => v | _ => .none) s') NoE ⟨h', G, D, t', O⟩ := by
    intro h' t' m' l F a1 a2 a3
    refine wpAny_execs_cons ?_
    refine wpAny_Return_some ?_
    refine r_sjoin (by rfl) (by rfl) (by rfl) ?_
    walk_at "e"
    refine ⟨_, _, rfl, ?_⟩
    walk_at "e"
    refine ⟨_, l, _, _, rfl, rfl, a2.isList, ?_, ?_⟩
    · rw [a3]; exact (pf5 ⟨s, hs⟩).2.2
    · intro u t; rw [a3]; exact q _ _ _ F.keep
  refine r_for W (fun i h' => ∃ m l u, Fx h env.locals h' m ∧ m "flags" = some (.int (fl s i) u) ∧ m "names" = some (.ref na) ∧ PL h' na (strValues l) ∧ l.map (·.1) = bitsN s i ∧ (s ≠ 0 → fl s i ≠ 0)) ?_ ?_ ?_ ?_ st5
  · rintro i h' h'' ⟨m, l, u, F, a1, a2, a3, a4, a5⟩ k
    exact ⟨m, l, u, F.mut k (by simpa using LI) (by simpa using I0), a1, a2, pl_kp a3 k (by simpa using nI'), a4, a5⟩
  · rintro i v h' t hi ⟨u, rfl⟩ ⟨m, l, uf, F, a1, a2, a3, a4, a5⟩ st
    rw [show (0 : Int) + (i : Int) * 1 = (i : Int) by omega]
    have fr : ∀ {a b : Heap} {W' : List Addr}, RSt I 0 32 (i + 1) a → Kp W' a b → I ∉ W' → RSt I 0 32 (i + 1) b := fun s k n => W.frame _ _ _ s fun b hb o e => k b o (by simp at hb; subst hb; exact n) e
    have f1 := pf1 ⟨s, hs⟩ ⟨i, hi⟩
    have f2 := pf2 ⟨s, hs⟩ ⟨i, hi⟩
    have f3 := pf3 ⟨s, hs⟩ ⟨i, hi⟩
    have f4 := pf4 ⟨s, hs⟩ ⟨i, hi⟩
    dsimp only at f1 f2 f3 f4
    have eqB : bitsN s (i + 1) = bitsN s i ++ (if s.testBit i = true then [nm i] else []) := rfl
    refine r_st F hk ki ?_
    intro h6 t F k6
    replace a3 := pl_kp a3 k6 (by simpa using nL)
    replace st := fr st k6 (by simpa using LI.symm)
    clear k6
    refine wpAny_execs_cons ?_
    refine wpAny_Assign_Name ?_
    iterate 3 walk_at "e"
    refine r_shl (by omega) (by omega) (by decide) ?_
    intro u t
    rw [show ((i : Int).toNat) = i from rfl]
    refine r_st F hk kfl ?_
    intro h7 t F k7
    replace a3 := pl_kp a3 k7 (by simpa using nL)
    replace st := fr st k7 (by simpa using LI.symm)
    clear k7
    refine wpAny_execs_cons ?_
    refine wpAny_If ?_
    refine wpAny_isTrue_value ?_
    repeat walk_at "e"
    rw [f1]
    refine if_b (fun b1 => ?_) fun b1 => ?_
    · rw [if_pos b1] at eqB
      obtain ⟨f2a, f2b⟩ := f2 b1
      refine wpAny_execs_cons ?_
      refine wpAny_Expr_any ?_ (intr hk)
      refine r_append (by rfl) (by rfl) (by rfl) ?_
      walk_at "e"
      refine ⟨_, _, _, _, rfl, rfl, a3, ?_⟩
      refine r_dget (by rfl) (by rfl) (by rfl) ?_
      refine r_glob (X.ex F.keep) hk kc V.g (v := .ref 58) (by kernel_rfl) ?_
      refine ⟨58, o58 w.params, rfl, by rfl, X.ex F.keep _ _ (by kernel_rfl), rfl, rfl, ?_⟩
      walk_at "e"
      refine wpAny_Call_NameR ?_
      refine r_blt (X.ex F.keep) hk kh V.g V.b (by kernel_rfl) (v := .builtin "hex") (by kernel_rfl) ?_
      refine PyProof.Rows.callWith_builtin1 ?_
      iterate 2 walk_at "e"
      refine args_nil ?_
      refine r_hex (pf6 ⟨i, by omega⟩) ?_
      intro u t
      refine ⟨1 * 2 ^ i, _, _, _, by simp [intKind, Value.isInt], rfl, map58 (X.ex F.keep), ?_⟩
      intro t
      obtain ⟨un, en⟩ := get58 (w := w) f2b
      rw [en]
      refine ⟨_, _, _, rfl, a3, szl (by have := bitsN_len s i; rw [← a4, List.length_map] at this; simp [strValues]; omega), ?_⟩
      intro h8 a3' k8
      replace F := F.mut k8 (by simpa using nL.symm) (by simpa using n0)
      replace st := fr st k8 (by simpa using nI'.symm)
      have a3' : PL h8 na (strValues (l ++ [(nm i, un)])) := by simpa [strValues] using a3'
      have a4' : (l ++ [(nm i, un)]).map (·.1) = bitsN s (i + 1) := by rw [eqB, List.map_append, a4]; rfl
      clear k8 a3 a4
      refine wpAny_execs_cons ?_
      refine wpAny_AugAssign_Name ?_
      refine r_ldn F hk kf (by walk_at "hv") ?_
      walk_at "e"
      refine r_ixor ?_
      intro u t
      rw [f2a]
      refine r_st F hk kf ?_
      intro h9 t F k9
      replace a3' := pl_kp a3' k9 (by simpa using nL)
      replace st := fr st k9 (by simpa using LI.symm)
      clear k9
      refine wpAny_execs_cons ?_
      refine wpAny_If ?_
      refine wpAny_isTrue_Not ?_
      refine wpAny_isTrue_value ?_
      repeat walk_at "e"
      have s0 : s ≠ 0 := by rintro rfl; simp at b1
      refine if_b (fun b2 => ?_) fun b2 => ?_
      · have z : fl s (i + 1) = 0 := by simpa using b2
        refine wpAny_execs_cons ?_
        refine wpAny_Break ?_
        refine fin (l := l ++ [(nm i, un)]) F (by walk_at "hv") a3' ?_
        rw [a4', f4 s0 z, pp, if_neg s0]
      · have z : fl s (i + 1) ≠ 0 := by simpa using b2
        exact wpAny_execs_nil (wpAny_execs_nil (wpAny_execs_nil ⟨_, _, rfl, ⟨_, _, _, F, by walk_at "hv", by walk_at "hv", a3', a4', fun _ => z⟩, st⟩))
    · rw [if_neg (by rw [b1]; decide)] at eqB
      exact wpAny_execs_nil (wpAny_execs_nil ⟨_, _, rfl, ⟨_, l, uf, F, by rw [← f3 b1]; walk_at "hv", by walk_at "hv", a3, by rw [eqB, List.append_nil, a4], by rw [← f3 b1]; exact a5⟩, st⟩)
  · rintro h' t ⟨m, l, u, F, a1, a2, a3, a4, a5⟩
    have s0 : s = 0 := Classical.byContradiction fun n => a5 n (pf5 ⟨s, hs⟩).1
    refine wpAny_execs_cons ?_
    refine wpAny_Expr_any ?_ (intr hk)
    refine r_append (by rfl) (by rfl) (by rfl) ?_
    walk_at "e"
    refine ⟨_, _, _, _, rfl, rfl, a3, ?_⟩
    refine wpAny_Call_NameR ?_
    refine r_blt (X.ex F.keep) hk kh V.g V.b (by kernel_rfl) (v := .builtin "hex") (by kernel_rfl) ?_
    refine PyProof.Rows.callWith_builtin1 ?_
    iterate 2 walk_at "e"
    refine args_nil ?_
    rw [(pf5 ⟨s, hs⟩).1]
    refine r_hex (by decide +kernel) ?_
    intro u t
    have b0 : l = [] := by have := a4; rw [s0, show bitsN 0 32 = [] by decide] at this; simpa using this
    subst b0
    refine ⟨_, _, _, rfl, a3, szl (by simp [strValues]), ?_⟩
    intro h8 a3' k8
    refine wpAny_execs_nil (fin (l := [(baseText "0x" 16 0, u)]) (F.mut k8 (by simpa using nL.symm) (by simpa using n0)) (by walk_at "hv") (by simpa [strValues] using a3') ?_)
    rw [pp, if_pos s0]
    show [baseText "0x" 16 0] = _
    exact congrArg (fun x => [x]) (by decide +kernel)
  · exact ⟨_, [], _, F.ex x5, by rw [(pf5 ⟨s, hs⟩).2.1]; walk_at "hv", by walk_at "hv", pl_ex pna x5, rfl, fun n => by rw [(pf5 ⟨s, hs⟩).2.1]; simpa using n⟩
end
end

-- R6
section
section
variable {w : World} {A : Around} {G : Array GenState} {D : Drawn} {O : OsState} {h h₀ : Heap} {t : Nat} {env : Env} {m : Str → Option Value} {Q : Value → Shared → Prop}
theorem r_iter {a : Addr} {vs : Array Value} (hl : h.IsList a vs) (q : ∀ I h', h.get? I = none → Ex h h' → LSt I a vs 0 h' → Q (.ref I) ⟨h', G, D, t, O⟩) : wpAny (model P0 w) A (call (.builtin "iter") [.ref a]) Q NoE ⟨h, G, D, t, O⟩ := by
  refine call_function_entry (by decide +kernel) (by decide +kernel) kdk_entry_iter (kdk_args_iter _) ?_
  unfold Builtin.«iter»
  refine wpAny_bind (m := someArgs "iter" 1 2 _) (wpAny_of_eq (a := [Value.ref a]) (by first | rfl | kernel_rfl!) ?_)
  show wpAny _ _ (pyIter (.ref a) >>= _) _ _ _
  refine wpAny_bind (r_iterList hl fun I h' n x st => ?_)
  exact wpAny_pure ⟨_, rfl, q I h' n x st⟩
theorem r_next {I a : Addr} {vs : Array Value} {i : Nat} {x : Value} (st : LSt I a vs i h) (n : a ≠ I) (hx : vs[i]? = some x) (q : ∀ h' , Kp [I] h h' → LSt I a vs (i + 1) h' → Q x ⟨h', G, D, t, O⟩) : wpAny (model P0 w) A (call (.builtin "next") [.ref I]) Q NoE ⟨h, G, D, t, O⟩ := by
  refine call_function_entry (by decide +kernel) (by decide +kernel) kdk_entry_next (kdk_args_next _) ?_
  unfold Builtin.«next»
  refine wpAny_bind (m := someArgs "next" 1 2 _) (wpAny_of_eq (a := [Value.ref I]) (by first | rfl | kernel_rfl!) ?_)
  dsimp only
  have hit := st.1
  refine wpAny_bind (wpAny_specialOf (name := Str.ofString "__next__") hit.typeIs slot_listiter_next.lookup ?_)
  refine wpAny_ite_split (fun hab => absurd hab (by decide)) (fun _ => ?_)
  obtain ⟨o, ho, hc, hd⟩ := id hit
  obtain ⟨ol, hol, _, nl, hdl⟩ := id st.2
  refine wpAny_bind ?_
  refine wpAny_callSpecial?_slot (name := Str.ofString "__next__") hit.typeIs slot_listiter_next
    (wpAny_call_entry slot_listiter_next hit.typeIs entry_listiter_next ?_ (args_listiter_next _))
  show wpAny _ _ (field (.ref I) 0 >>= _) _ _ _
  refine wpAny_bind (wpAny_field ho hd (x := .ref a) rfl ?_)
  show wpAny _ _ (if (Value.ref a == Value.none) = true then _ else _) _ _ _
  rw [if_neg (show ¬ ((Value.ref a == Value.none) = true) from Bool.false_ne_true)]
  show wpAny _ _ (field (.ref I) 1 >>= _) _ _ _
  refine wpAny_bind (wpAny_field ho hd (x := .int i 0) rfl ?_)
  show wpAny _ _ (seqItems? (.ref a) >>= _) _ _ _
  refine wpAny_bind (wpAny_seqItems hol hdl ?_)
  simp only [Int.toNat_natCast, hx]
  have key : (h.update I (Obj.mapFields (·.setIfInBounds 1 (rawInt ((i : Int) + 1))))).IsListIter I a (i + 1) :=
    ⟨_, Heap.get?_update_self _ ho (Obj.isFreed_of_fields (Obj.data_mapFields hd _)), (Obj.cls_mapFields ..).trans hc, by rw [Obj.data_mapFields hd]; simp [rawInt]⟩
  refine wpAny_bind (wpAny_setField ho hd (by simp) (wpAny_pure ⟨x, rfl, wpAny_pure ⟨_, rfl, q _ (kp_same (Heap.SameBut.update ..)) ⟨key, ?_⟩⟩⟩))
  exact isl_kp st.2 (kp_same (Heap.SameBut.update h I _)) (by simpa using n)
end
end

-- M7
section
/-- what the reading of a number ahead gives: the number, the rest -/
noncomputable def vrun (v b : Int) : List Int → Option (Int × List Int)
  | [] => if (Builtin.bitAnd b 64 != 0) = true then none else some (v, [])
  | c :: r => if (Builtin.bitAnd b 64 != 0) = true then (if v.natAbs < 2 ^ 58 then vrun (Builtin.bitOr (v * 2 ^ 6) (Builtin.bitAnd c 63)) c r else none) else some (v, c :: r)
noncomputable def varint : List Int → Option (Int × List Int)
  | [] => none
  | b :: r => vrun (Builtin.bitAnd b 63) b r
theorem vrun_stop {v b v' : Int} {l r : List Int} (hb : (Builtin.bitAnd b 64 != 0) = false) (e : vrun v b l = some (v', r)) : v' = v ∧ r = l := by
  cases l <;> (unfold vrun at e; rw [hb] at e; simp at e; refine ⟨e.1.symm, ?_⟩; first | exact e.2.symm | exact e.2)
theorem vrun_go {v b v' : Int} {l r : List Int} (hb : (Builtin.bitAnd b 64 != 0) = true) (e : vrun v b l = some (v', r)) : ∃ c l', l = c :: l' ∧ v.natAbs < 2 ^ 58 ∧ vrun (Builtin.bitOr (v * 2 ^ 6) (Builtin.bitAnd c 63)) c l' = some (v', r) := by
  cases l with
  | nil => unfold vrun at e; rw [hb] at e; cases e
  | cons c l =>
    unfold vrun at e
    rw [if_pos hb] at e
    split at e
    · exact ⟨c, l, rfl, ‹_›, e⟩
    · cases e
theorem vrun_rest {v b v' : Int} : ∀ {l r : List Int}, vrun v b l = some (v', r) → r.length ≤ l.length := by
  intro l
  induction l generalizing v b with
  | nil => intro r e; unfold vrun at e; split at e <;> simp at e; simp [← e.2]
  | cons c l ih =>
    intro r e
    unfold vrun at e
    split at e
    · split at e
      · have := ih e; simp; omega
      · cases e
    · simp at e; simp [← e.2]
/-- an iterator over these numbers, what is left -/
noncomputable def Feed (h : Heap) (I a : Addr) (rem : List Int) : Prop := ∃ (vs : List Value) (ns : List Int) (i : Nat), a ≠ I ∧ LSt I a vs.toArray i h ∧ AI vs ns ∧ rem = ns.drop i
theorem Feed.frame {h h' : Heap} {I fa : Addr} {rem : List Int} {W : List Addr} (x : Feed h I fa rem) (k : Kp W h h') (n : I ∉ W) (n' : (∃ vs, h.IsList fa vs) → fa ∉ W) : Feed h' I fa rem := by
  obtain ⟨vs, ns, i, n1, st, r⟩ := x
  exact ⟨vs, ns, i, n1, ⟨st.1.at fun o e => k _ _ n e, isl_kp st.2 k (n' ⟨_, st.2⟩)⟩, r⟩
section
variable {w : World} {A : Around} {G : Array GenState} {D : Drawn} {O : OsState} {h h₀ : Heap} {t : Nat} {env : Env} {m : Str → Option Value}
theorem feed_next {I fa : Addr} {n : Int} {rem : List Int} {Q : Value → Shared → Prop} (f : Feed h I fa (n :: rem)) (q : ∀ u h', Kp [I] h h' → Feed h' I fa rem → Q (.int n u) ⟨h', G, D, t, O⟩) :
    wpAny (model P0 w) A (call (.builtin "next") [.ref I]) Q NoE ⟨h, G, D, t, O⟩ := by
  obtain ⟨vs, ns, i, n1, st, ai, e⟩ := f
  have hn : ns[i]? = some n := by
    have := congrArg (fun l => l[0]?) e
    simp only [List.getElem?_cons_zero, List.getElem?_drop, Nat.add_zero] at this
    exact this.symm
  obtain ⟨u, hv⟩ := ai.get hn
  refine r_next st n1 (x := .int n u) (by simpa using hv) fun h' k st' => q u h' k ⟨vs, ns, i + 1, n1, st', ai, ?_⟩
  have := congrArg List.tail e
  simpa using this
theorem r_ishl {a n : Int} {u v : Tok} {Q : Value → Shared → Prop} (hn : 0 ≤ n) (hz : (Builtin.Int.intBits a : Int) + n ≤ 2 ^ 27) (q : ∀ u t, Q (.int (a * 2 ^ n.toNat) u) ⟨h, G, D, t, O⟩) : wpAny (model P0 w) A (inplaceOp .LShift (.int a u) (.int n v)) Q NoE ⟨h, G, D, t, O⟩ := PyProof.Rows.ilshift_int hn hz (q _ _)
theorem r_while {test : Expr} {body orelse : List Stmt} {Q : Flow → Shared → Prop} (J : Nat → Heap → Prop)
    (turn : ∀ n h t, J n h → wpAny (model P0 w) A (isTrue test env (eval test env)) (fun b s₂ => if b = true then wpAny (model P0 w) A (execs body env) (fun f s₃ => match f with
      | .next | .cont => ∃ k h' t', s₃ = ⟨h', G, D, t', O⟩ ∧ k < n ∧ J k h'
      | .brk => Q .next s₃
      | .ret v => Q (.ret v) s₃) NoE s₂ else wpAny (model P0 w) A (execs orelse env) Q NoE s₂) NoE ⟨h, G, D, t, O⟩) (n : Nat) (j : J n h) :
    codeAny (model P0 w) A (.whileLoop test body orelse env) (fun r s' => match r with | .ok f => Q f s' | .error e => cameBackBy (model P0 w) A env NoE e s') ⟨h, G, D, t, O⟩ := by
  refine codeAny_whileLoop (fun n s => ∃ h t, s = ⟨h, G, D, t, O⟩ ∧ J n h) ?_ n ⟨h, t, rfl, j⟩
  rintro n s ⟨h, t, rfl, j⟩
  refine wpAny_mono (turn n h t j) (fun b s₂ k => ?_) fun _ _ q => q.elim
  cases b with
  | false => simp only [Bool.false_eq_true, if_false] at k ⊢; exact wpAny_mono k (fun _ _ q => q) fun _ _ q => q.elim
  | true =>
    simp only [if_true] at k ⊢
    refine wpAny_mono k (fun f s₃ k => ?_) fun _ _ q => q.elim
    cases f with
    | next => obtain ⟨k', h', t', rfl, lt, j'⟩ := k; exact ⟨k', lt, h', t', rfl, j'⟩
    | cont => obtain ⟨k', h', t', rfl, lt, j'⟩ := k; exact ⟨k', lt, h', t', rfl, j'⟩
    | brk => exact k
    | ret v => exact k
theorem hid_ex (h : Heap) (a : Addr) : Ex (h.hide a) h := fun d o _ e => Heap.of_hide e
theorem hid_kb {hB : Heap} {a : Addr} (XB : KB w hB) (x : Ex hB h) (n : hB.get? a = none) : KB w (h.hide a) := fun d o e => by
  have e' := XB d o e
  rw [Heap.hide_ne _ (ne_new n e')]
  exact x.get e'
theorem hid_kp {h' : Heap} {a : Addr} (x : Ex (h.hide a) h') : Kp [a] h h' := fun d o n e => x.get ((Heap.hide_ne _ (by simpa using n)).trans e)
theorem Fx.hid {L : Addr} (F : Fx h L h₀ m) (a : Addr) : Fx (h.hide a) L h₀ m := ⟨F.ns, fun d o n e => F.keep.get (Heap.of_hide e), by
  cases e : (h.hide a).get? L with
  | none => rfl
  | some o => have := Heap.of_hide e; rw [F.new] at this; cases this⟩
theorem bits63 {a : Int} (h : a.natAbs < 2 ^ 58) : (Builtin.Int.intBits a : Int) + 6 ≤ 2 ^ 27 := by
  have : Builtin.Int.intBits a ≤ 64 := by
    unfold Builtin.Int.intBits
    split
    · omega
    · rename_i hz
      have : a.natAbs.log2 < 58 := (Nat.log2_lt (by intro q; simp [q] at hz; omega)).mpr h
      omega
  omega
theorem isl_ns {a L : Addr} {vs : Array Value} (l : h.IsList a vs) (n : h.Ns L m) : a ≠ L := by
  rintro rfl
  obtain ⟨o, e, _, _, d⟩ := l
  obtain ⟨o', _, _, e', d', _⟩ := n
  rw [e] at e'; cases e'; rw [d] at d'; cases d'
theorem Feed.st {L I fa : Addr} {h' : Heap} {rem : List Int} (x : Feed h I fa rem) (n : h.Ns L m) (k : Kp [L] h h') (hL : L ≠ I) : Feed h' I fa rem := x.frame k (by simpa using hL.symm) fun ⟨vs, l⟩ => by simpa using isl_ns l n
noncomputable def fVar (P : Params) : FuncData := (fdat (o72 P)).getD default
set_option maxHeartbeats 1000000 in
theorem varint_spec {hB : Heap} {I fa : Addr} {rem R : List Int} {V : Int} {Q : Value → Shared → Prop} (XB : KB w hB) (xB : Ex hB h) (nB : hB.get? I = none) (hh : Room A 2) (f : Feed h I fa rem) (hv : varint rem = some (V, R))
   (q : ∀ u h' t', Kp [I] h h' → Feed h' I fa R → Q (.int V u) ⟨h', G, D, t', O⟩) :
   wpAny (model P0 w) A (call (.ref 72) [.ref I]) Q NoE ⟨h, G, D, t, O⟩ := by
  have X : KB w h := XB.ex xB
  refine r_call (fo := o72 w.params) (fd := fVar w.params) (body := [stm 9 0, stm 9 1, stm 9 2, stm 9 3]) (binds := [("iterator", .ref I)]) X
    (by kernel_rfl) (by kernel_rfl) (by kernel_rfl) (by kernel_rfl) hh.lt (fun t => .of_eq (by kernel_rfl)) (by kernel_rfl) (by kernel_rfl) (by kernel_rfl) (by kernel_rfl) (by kernel_rfl) (by kernel_rfl) (by kernel_rfl) fun env h1 t' V' hc F => ?_
  have V' : Ev env (topd 9).2.2 := V'
  have hh := hh.deeper env
  have f1 : Feed h1 I fa rem := f.frame (F.keep.kp (W := [])) (by simp) (by simp)
  have XH := hid_kb XB xB nB
  have I0 := Heap.hide_self h I
  have LI : env.locals ≠ I := by
    obtain ⟨vs, ns, i, n1, ⟨⟨o, e, _⟩, _⟩, _⟩ := f
    exact (ne_new F.new e).symm
  replace F := F.hid I
  generalize hm : (fun x => List.lookup x [((Str.ofString "iterator"), Value.ref I)].reverse) = m at F
  have e1 : m "iterator" = some (.ref I) := by rw [← hm]; rfl
  clear hm f
  have hk : env.scope.kind = .function := by rw [V'.sc]; kernel_rfl
  have ki : env.kindOf "iterator" = some .local := V'.kind (by kernel_rfl)
  have kb : env.kindOf "b" = some .local := V'.kind (by kernel_rfl)
  have kv : env.kindOf "val" = some .local := V'.kind (by kernel_rfl)
  have kn : env.kindOf "next" = some .globalImplicit := V'.kind (by kernel_rfl)
  obtain ⟨b0, r0, rfl⟩ : ∃ b r, rem = b :: r := by
    cases rem with
    | nil => cases hv
    | cons b r => exact ⟨b, r, rfl⟩
  have hv : vrun (Builtin.bitAnd b0 63) b0 r0 = some (V, R) := hv
  refine wpAny_execs_cons ?_
  refine wpAny_Assign_Name ?_
  refine wpAny_Call_NameR ?_
  refine r_blt (XH.ex F.keep) hk kn V'.g V'.b (by kernel_rfl) (v := .builtin "next") (by kernel_rfl) ?_
  refine PyProof.Rows.callWith_builtin1 ?_
  iterate 2 walk_at "e"
  refine args_nil ?_
  refine feed_next f1 ?_
  intro u h2 k2 f2
  replace F := F.mut k2 (by simpa using LI) (by simpa using I0)
  have n2 := F.ns
  refine r_st F hk kb ?_
  intro h3 t F k3
  replace f2 := f2.st n2 k3 LI
  clear k3 n2 k2
  refine wpAny_execs_cons ?_
  refine wpAny_Assign_Name ?_
  repeat walk_at "e"
  have n2 := F.ns
  refine r_st F hk kv ?_
  intro h4 t F k4
  replace f2 := f2.st n2 k4 LI
  clear k4 n2
  refine wpAny_execs_cons ?_
  refine wpAny_While ?_
  refine r_while (fun n h' => ∃ m v b rem u1 u2, Fx (h.hide I) env.locals h' m ∧ m "val" = some (.int v u1) ∧ m "b" = some (.int b u2) ∧ m "iterator" = some (.ref I) ∧ Feed h' I fa rem ∧ vrun v b rem = some (V, R) ∧ n = rem.length) ?_ r0.length
    ⟨_, _, _, _, _, _, F, by walk_at "hv", by walk_at "hv", by walk_at "hv", f2, hv, rfl⟩
  clear f2 F hv e1
  rintro n h' t ⟨m, v, b, rem, u1, u2, F, a1, a2, a3, f, hv, rfl⟩
  refine wpAny_isTrue_value ?_
  repeat walk_at "e"
  refine if_b (fun b1 => ?_) fun b1 => ?_
  · obtain ⟨c, l', rfl, vb, hv⟩ := vrun_go b1 hv
    refine wpAny_execs_cons ?_
    refine wpAny_AugAssign_Name ?_
    refine r_ldn F hk kv (by walk_at "hv") ?_
    walk_at "e"
    refine r_ishl (by decide) (bits63 vb) ?_
    intro u t
    have n2 := F.ns
    refine r_st F hk kv ?_
    intro h5 t F k5
    replace f := f.st n2 k5 LI
    clear k5 n2
    refine wpAny_execs_cons ?_
    refine wpAny_Assign_Name ?_
    refine wpAny_Call_NameR ?_
    refine r_blt (XH.ex F.keep) hk kn V'.g V'.b (by kernel_rfl) (v := .builtin "next") (by kernel_rfl) ?_
    refine PyProof.Rows.callWith_builtin1 ?_
    iterate 2 walk_at "e"
    refine args_nil ?_
    refine feed_next f ?_
    intro u h6 k6 f
    replace F := F.mut k6 (by simpa using LI) (by simpa using I0)
    clear k6
    have n2 := F.ns
    refine r_st F hk kb ?_
    intro h7 t F k7
    replace f := f.st n2 k7 LI
    clear k7 n2
    refine wpAny_execs_cons ?_
    refine wpAny_AugAssign_Name ?_
    refine r_ldn F hk kv (by walk_at "hv") ?_
    repeat walk_at "e"
    refine r_ior ?_
    intro u t
    have n2 := F.ns
    refine r_st F hk kv ?_
    intro h8 t F k8
    replace f := f.st n2 k8 LI
    exact wpAny_execs_nil ⟨_, _, _, rfl, Nat.lt_succ_self _, _, _, _, _, _, _, F, by walk_at "hv", by walk_at "hv", by walk_at "hv", f, hv, rfl⟩
  · obtain ⟨rfl, rfl⟩ := vrun_stop b1 hv
    refine wpAny_execs_nil ?_
    refine wpAny_execs_cons ?_
    refine wpAny_Return_some ?_
    walk_at "e"
    exact q _ _ _ (hid_kp F.keep) f
end
end

-- A1
section
open PySem PySem.W PyProof.Rows PySem.Calls Builtin Builtin.ObjectAttr
/-- an accumulator: its list's values -/
structure Acc (h : Heap) (x d : Addr) (xs : List Value) : Prop where
  at_ : ∃ c, h.get? x = some ⟨.ref 152, some d, .seq xs.toArray c, #[]⟩
  od : ∃ o, h.get? d = some o ∧ o.cls = .type "dict" ∧ ∀ name, name ≠ Str.ofString "_initial_size" → lookIn name o = some none
theorem Acc.inst {h : Heap} {x d : Addr} {xs : List Value} (a : Acc h x d xs) {name : Str} (n : name ≠ Str.ofString "_initial_size") : ∃ ox od, InstAt h x ox 152 (some od) ∧ lookIn name od = some none := by
  obtain ⟨⟨c, e⟩, o, e', _, s⟩ := a
  exact ⟨_, o, ⟨e, rfl, rfl, e'⟩, s name n⟩
theorem Acc.kp {W : List Addr} {h h' : Heap} {x d : Addr} {xs : List Value} (a : Acc h x d xs) (k : Kp W h h') (n : x ∉ W) (n' : d ∉ W) : Acc h' x d xs := by
  obtain ⟨⟨c, e⟩, o, e', s⟩ := a
  exact ⟨⟨c, k _ _ n e⟩, o, k _ _ n' e', s⟩
theorem Acc.ex {h h' : Heap} {x d : Addr} {xs : List Value} (a : Acc h x d xs) (k : Ex h h') : Acc h' x d xs := a.kp k (by simp) (by simp)
theorem Acc.ne {h : Heap} {x d : Addr} {xs : List Value} (a : Acc h x d xs) : x ≠ d := by
  obtain ⟨⟨c, e⟩, o, e', s, _⟩ := a
  exact ne_kind e e' (by rw [s]; exact fun q => by cases q)
section
variable {w : World} {A : Around} {G : Array GenState} {D : Drawn} {O : OsState} {h h₀ : Heap} {t : Nat} {env : Env} {m : Str → Option Value} {x d : Addr} {xs : List Value}
theorem Acc.setSeq {xs ys : List Value} {f : Array Value → Array Value} (a : Acc h x d xs) (e : f xs.toArray = ys.toArray) : Acc (h.update x (Obj.mapSeq f)) x d ys ∧ Kp [x] h (h.update x (Obj.mapSeq f)) := by
  have ne := a.ne
  obtain ⟨⟨c, e1⟩, o, e', s⟩ := a
  refine ⟨⟨?_, o, (Heap.get?_update_other _ _ ne).trans e', s⟩, kp_same (Heap.SameBut.update ..)⟩
  have : ∃ c', Obj.mapSeq f ⟨.ref 152, some d, .seq xs.toArray c, #[]⟩ = ⟨.ref 152, some d, .seq ys.toArray c', #[]⟩ := by
    rw [← e]
    exact ⟨_, rfl⟩
  obtain ⟨c', q⟩ := this
  exact ⟨c', by rw [Heap.get?_update_self _ e1 (by rw [q]; rfl), q]⟩
theorem canon_lga : (Manifest.canonical "list.__getattribute__" != "object.__getattribute__") = false := by decide +kernel
theorem acc_get {name : Str} {v tv : Value} {pl : Sem Bool} {Q : Value × List Value → Shared → Prop} (X : KB w h) (a : Acc h x d xs) (hf : findIn (KH w.params) (.ref 152) name = some (some v))
    (ht : typeIn (KH w.params) v = some tv) (hm : (tv != .type "function" && tv != .type "method_descriptor" && tv != .type "wrapper_descriptor") = false) (n : name ≠ Str.ofString "_initial_size") (q : Q (v, [.ref x]) ⟨h, G, D, t, O⟩) :
    wpAny (model P0 w) A (getMethod (.ref x) name pl) Q NoE ⟨h, G, D, t, O⟩ := by
  obtain ⟨ox, od, I, sh⟩ := a.inst n
  have hcan := canon_lga
  have hd := I.dict
  unfold getMethod specialOf
  refine wpAny_bind (wpAny_bind (I.type.here ((looks_findIn X (show findIn (KH w.params) (.ref 152) (Str.ofString "__getattribute__") = some (some (.builtin "list.__getattribute__")) by kernel_rfl)).here ?_)))
  dsimp only
  rw [hcan, if_neg (by decide)]
  refine wpAny_bind (wpAny_bind (I.type.here ((looks_findIn X (show findIn (KH w.params) (.ref 152) (Str.ofString "__getattr__") = some none by kernel_rfl)).here ?_)))
  refine wpAny_bind (wpAny_bind (I.type.here ((looks_findIn X hf).here (wpAny_bind ((looks_typeIn X ht).here ?_)))))
  rw [hm, if_neg (by decide)]
  refine wpAny_bind (wpAny_loadPart I.at_ ?_)
  cases e : ox.dict with
  | none => rw [e] at hd; exact hd.elim
  | some dx =>
    rw [e] at hd
    refine wpAny_bind (wpAny_bind (wpAny_loadPart hd ?_))
    rw [nsLook_of sh]
    refine wpAny_pure ?_
    exact wpAny_bind (wpAny_rule (wpAny_pure q))
/-- own method of the class -/
theorem acc_meth {name : Str} {f : Addr} {pl : Sem Bool} {Q : Value × List Value → Shared → Prop} (X : KB w h) (a : Acc h x d xs) (hf : findIn (KH w.params) (.ref 152) name = some (some (.ref f)))
    (ht : typeIn (KH w.params) (.ref f) = some (.type "function")) (n : name ≠ Str.ofString "_initial_size") (q : Q (.ref f, [.ref x]) ⟨h, G, D, t, O⟩) : wpAny (model P0 w) A (getMethod (.ref x) name pl) Q NoE ⟨h, G, D, t, O⟩ :=
  acc_get X a hf ht (by decide +kernel) n q
theorem acc_append {pl : Sem Bool} {Q : Value × List Value → Shared → Prop} (X : KB w h) (a : Acc h x d xs) (q : Q (.builtin "list.append", [.ref x]) ⟨h, G, D, t, O⟩) :
    wpAny (model P0 w) A (getMethod (.ref x) (Str.ofString "append") pl) Q NoE ⟨h, G, D, t, O⟩ :=
  acc_get X a (by kernel_rfl) (tv := .type "method_descriptor") (by kernel_rfl) (by decide +kernel) (by decide) q
theorem acc_isList (X : KB w h) (a : Acc h x d xs) : Looks (model P0 w) h (isInstance (.ref x) (.type "list")) true := by
  obtain ⟨ox, od, I, s⟩ := a.inst (name := Str.ofString "append") (by decide)
  exact I.type.andThen (looks_mroIn (K := KH w.params) X (by kernel_rfl))
/-- a built-in of list called on such an object -/
theorem b_call {id n : String} {b : Builtin} {rest : List Value} {Q : Value → Shared → Prop} (X : KB w h) (a : Acc h x d xs) (hk : builtinKind id = some .method ∨ builtinKind id = some .slot) (hs : splitId id = some ("list", n))
    (ha : argsOk id ⟨.ref x :: rest, []⟩) (hp : plainId id = true) (hb : entryFor table id = some b)
    (q : wpAny (model P0 w) A.in1 (b ⟨.ref x :: rest, []⟩) (fun fin s' => ∃ v, fin = .done (.ret v) ∧ Q v s') NoE ⟨h, G, D, t, O⟩) : wpAny (model P0 w) A (call (.builtin id) (.ref x :: rest)) Q NoE ⟨h, G, D, t, O⟩ := by
  refine wpAny_call (codeAny_call_builtin hp hb ?_)
  have q' := wpAny_mono q (Q' := fun fin s' => match fin with | .done f => wants Q NoE (.ok f) s' | .again c' => c'.quiet = true ∧ codeAny (model P0 w) A c' (wants Q NoE) s') (E' := fun e s' => wants Q NoE (.error e) s')
    (fun fin s' h' => by obtain ⟨v, rfl, hv⟩ := h'; exact hv) fun _ _ h' => h'.elim
  have hi := acc_isList X a
  rcases hk with hk | hk
  · simp only [checkBuiltinCall, hk, hs]
    refine wpAny_bind (hi.here ?_)
    simp only [Bool.not_true, Bool.false_eq_true, if_false]
    cases hsig : Manifest.signature? id with
    | none => exact wpAny_pure q'
    | some sig =>
      simp only [argsOk, hsig] at ha
      have h2 : Bind.checkArgs id sig ⟨.ref x :: rest, []⟩ = pure () := ha
      show wpAny _ _ (Bind.checkArgs id sig ⟨.ref x :: rest, []⟩) _ _ _
      rw [h2]; exact wpAny_pure q'
  · exact check_slot hk hs hi ha q'
theorem acc_push {v : Value} {Q : Value → Shared → Prop} (X : KB w h) (a : Acc h x d xs) (hz : xs.length ≤ 10000) (q : ∀ h', Acc h' x d (xs ++ [v]) → Kp [x] h h' → Q .none ⟨h', G, D, t, O⟩) :
    wpAny (model P0 w) A (call (.builtin "list.append") [.ref x, v]) Q NoE ⟨h, G, D, t, O⟩ := by
  refine b_call (n := "append") X a (.inl (by decide +kernel)) (by decide +kernel) (args_list_append _ _) (by decide +kernel) entry_list_append ?_
  show wpAny _ _ (updateSeq x (·.push v) >>= fun _ => ret .none) _ _ _
  obtain ⟨e, k⟩ := a.setSeq (f := (·.push v)) (ys := xs ++ [v]) (by simp)
  obtain ⟨⟨c, e1⟩, _⟩ := a
  have sz := szl hz
  exact wpAny_bind (wpAny_updateSeq e1 rfl (wpAny_pure ⟨.none, rfl, q _ e k⟩) (by simp; omega))
end
end

-- A2
section
open PySem PySem.W PyProof.Rows PySem.Calls Builtin Builtin.ObjectAttr
section
variable {w : World} {A : Around} {G : Array GenState} {D : Drawn} {O : OsState} {h h₀ : Heap} {t : Nat} {env : Env} {m : Str → Option Value} {x d : Addr} {xs : List Value}
theorem r_mcall {o : Expr} {name : Str} {apos pos : Pos} {args : List Expr} {pl : Sem Bool} {Q : Value → Shared → Prop} {s : Shared}
    (he : eval (.Call (.Attribute o name apos) args [] pos) env = (do
      let ov ← attributeBase o name env (eval o env)
      standAt apos.atName
      let (f, first) ← holding [ov] (getMethod ov name pl)
      callWith pos f first (backTo pos (starEach args env)) [])) (hbase : attributeBase o name env (eval o env) = eval o env)
    (q : wpAny (model P0 w) A (eval o env) (fun ov s₁ => wpAny (model P0 w) A (getMethod ov name pl) (fun fx s₂ => wpAny (model P0 w) A (callWith pos fx.1 fx.2 (backTo pos (starEach args env)) []) Q NoE s₂) NoE s₁) NoE s) :
    wpAny (model P0 w) A (eval (.Call (.Attribute o name apos) args [] pos) env) Q NoE s := by
  rw [he, hbase]
  exact wpAny_bind (wpAny_mono q (fun ov s₁ h₁ => wpAny_bind (wpAny_standAt (wpAny_bind (wpAny_holding (wpAny_mono h₁ (fun fx s₂ h₂ => h₂) fun _ _ x => x))))) fun _ _ x => x)
noncomputable def fPush (P : Params) : FuncData := (fdat (o96 P)).getD default
set_option maxHeartbeats 1000000 in
theorem push_spec {u v : Str} {tu tv : Tok} {Q : Value → Shared → Prop} {hB : Heap} (XB : KB w hB) (xB : Ex hB h) (nx : hB.get? x = none) (hh : Room A 1) (a : Acc h x d xs) (hz : xs.length ≤ 1000)
   (q : ∀ b h' t', h.get? b = none → h'.get? b ≠ none → TU h' b [.str u tu, .str v tv] → Acc h' x d (xs ++ [.ref b]) → Kp [x] h h' → Q .none ⟨h', G, D, t', O⟩) :
   wpAny (model P0 w) A (call (.ref 96) [.ref x, .str u tu, .str v tv]) Q NoE ⟨h, G, D, t, O⟩ := by
  have X : KB w h := XB.ex xB
  refine r_call (fo := o96 w.params) (fd := fPush w.params) (body := [mst 1 0]) (binds := [("self", .ref x), ("fws", .str u tu), ("string", .str v tv)]) X
    (by kernel_rfl) (by kernel_rfl) (by kernel_rfl) (by kernel_rfl) hh.lt (fun t => .of_eq (by kernel_rfl)) (by kernel_rfl) (by kernel_rfl) (by kernel_rfl) (by kernel_rfl) (by kernel_rfl) (by kernel_rfl) (by kernel_rfl) fun env h1 t' V' hc F => ?_
  have V' : Ev env (meth 1).2.2 := V'
  have hh := hh.deeper env
  have a1 := a.ex F.keep
  obtain ⟨⟨c, ex⟩, o, ed, _⟩ := id a
  have nL : env.locals ≠ x := (ne_new F.new ex).symm
  have nd : env.locals ≠ d := (ne_new F.new ed).symm
  generalize hm : (fun y => List.lookup y [((Str.ofString "self"), Value.ref x), ((Str.ofString "fws"), Value.str u tu), ((Str.ofString "string"), Value.str v tv)].reverse) = m at F
  have e1 : m "self" = some (.ref x) := by rw [← hm]; rfl
  have e2 : m "fws" = some (.str u tu) := by rw [← hm]; rfl
  have e3 : m "string" = some (.str v tv) := by rw [← hm]; rfl
  clear hm
  have hk : env.scope.kind = .function := by rw [V'.sc]; kernel_rfl
  have k1 : env.kindOf "self" = some .local := V'.kind (by kernel_rfl)
  have k2 : env.kindOf "fws" = some .local := V'.kind (by kernel_rfl)
  have k3 : env.kindOf "string" = some .local := V'.kind (by kernel_rfl)
  refine wpAny_execs_cons ?_
  refine wpAny_Expr_any ?_ (intr hk) (by rfl)
  refine r_mcall rfl (by rfl) ?_
  walk_at "ld"
  refine acc_append (X.ex F.keep) a1 ?_
  dsimp only
  refine PyProof.Rows.callWith_method1 ?_
  walk_at "e"
  refine r_tuple ?_
  iterate 4 walk_at "e"
  refine args_nil ?_
  refine ⟨szl (by simp), _, _, rfl, ?_⟩
  intro b h2 nb k4 tb
  refine args_nil ?_
  refine acc_push ((X.ex F.keep).ex k4) (a1.ex k4) (by omega) ?_
  intro h3 a3 k5
  refine wpAny_execs_nil ?_
  have nbx : b ≠ x := fun e => by obtain ⟨⟨c, e'⟩, _⟩ := a1; rw [e, e'] at nb; cases nb
  have tb' := tb.kp k5 (by simpa using nbx)
  exact q b h3 _ (F.keep.old nb) (by obtain ⟨n, e⟩ := tb'; rw [e]; simp) tb' a3 (((Ex.kp F.keep).trans (Ex.kp k4)).trans k5)
end
end

-- A3
section
open PySem PySem.W PyProof.Rows PySem.Calls Builtin Builtin.ObjectAttr
theorem bounds0 (n : Nat) : sliceBounds (some 0) none none n = ((0 : Int), (n : Int), 1) := by
  simp only [sliceBounds, Option.getD_none, show (1 : Int) > 0 by decide, if_true]
  rw [if_neg (by omega)]
  congr 1
theorem pick0 (items : Array Value) : slicePick items (some 0) none none = items := by
  rw [kmk_pick_nat items (a := 0) (b := items.size) (bounds0 _)]
  simp only [List.drop_zero, Nat.sub_zero]
  rw [← Array.length_toList, List.take_length]
section
variable {w : World} {A : Around} {G : Array GenState} {D : Drawn} {O : OsState} {h h₀ : Heap} {t : Nat} {env : Env} {m : Str → Option Value} {x d : Addr} {xs : List Value}
theorem acc_special {name : Str} {id : String} {args : List Value} {Q : Option Value → Shared → Prop} (X : KB w h) (a : Acc h x d xs) (hf : findIn (KH w.params) (.ref 152) name = some (some (.builtin id)))
    (hb : bindSpecial (.builtin id) (.ref x) = pure (.builtin id, [.ref x])) (q : wpAny (model P0 w) A (call (.builtin id) (.ref x :: args)) (fun v => Q (some v)) NoE ⟨h, G, D, t, O⟩) :
    wpAny (model P0 w) A (callSpecial? (.ref x) name args) Q NoE ⟨h, G, D, t, O⟩ := by
  obtain ⟨ox, od, I, sh⟩ := a.inst (name := Str.ofString "append") (by decide)
  unfold callSpecial? specialOf
  refine wpAny_bind (wpAny_bind (I.type.here ((looks_findIn X hf).here (wpAny_holding (wpAny_bind (wpAny_of_eq hb (wpAny_bind (wpAny_mono q (fun _ _ z => wpAny_pure z) fun _ _ z => z))))))))
theorem acc_seqKey {k : Value} {name : Str} {Q : Value → Shared → Prop} (X : KB w h) (a : Acc h x d xs) (q : Q k ⟨h, G, D, t, O⟩) : wpAny (model P0 w) A (sequenceKey (.ref x) k name) Q NoE ⟨h, G, D, t, O⟩ := by
  obtain ⟨ox, od, I, sh⟩ := a.inst (name := Str.ofString "append") (by decide)
  unfold sequenceKey
  refine wpAny_bind (I.type.here ?_)
  refine wpAny_bind ((anyM_none (K := KH w.params) X (by kernel_rfl)).here ?_)
  rw [if_pos (show (!false) = true from rfl)]
  exact wpAny_pure q
theorem acc_getSlice {sl : Addr} {u : Tok} {Q : Value → Shared → Prop} (X : KB w h) (a : Acc h x d xs) (hs : h.IsSliceOf sl (.int 0 u) .none .none) (hz : xs.length ≤ 10000)
    (q : ∀ r h', h.get? r = none → Ex h h' → PL h' r xs → Q (.ref r) ⟨h', G, D, t, O⟩) : wpAny (model P0 w) A (getItem (.ref x) (.ref sl)) Q NoE ⟨h, G, D, t, O⟩ := by
  obtain ⟨os, hos, hcs, hds⟩ := id hs
  have hTs : (⟨h, G, D, t, O⟩ : Shared).TypeIs (.ref sl) "slice" := ⟨os, hos, hcs⟩
  obtain ⟨⟨c, ho⟩, _⟩ := id a
  have sz := szl hz
  unfold getItem
  refine wpAny_holding ?_
  refine wpAny_bind (acc_seqKey X a ?_)
  refine wpAny_bind (acc_special X a (by kernel_rfl) (slot_list_getitem.bind _) ?_)
  refine b_call (n := "__getitem__") X a (.inl (by decide +kernel)) (by decide +kernel) (args_list_getitem _ _) (by decide +kernel) entry_list_getitem ?_
  show wpAny _ _ (Builtin.List.listSubscript? (.ref sl) >>= _) _ _ _
  refine wpAny_bind ?_
  unfold Builtin.List.listSubscript?
  refine wpAny_bind (wpAny_specialOf hTs slice_no_index ?_)
  simp only [Option.isNone_none, if_true]
  refine wpAny_pure ?_
  show wpAny _ _ (typeOf (.ref sl) >>= _) _ _ _
  refine wpAny_bind (wpAny_typeOf hTs ?_)
  rw [if_neg (by decide)]
  rw [listSliceParts_eq]
  refine wpAny_bind (wpAny_bind (wpAny_field hos hds (x := .none) rfl (wpAny_bind (wpAny_listPart .none ?_))))
  rw [if_neg (by decide)]
  refine wpAny_bind (wpAny_field hos hds (x := .int 0 u) rfl (wpAny_bind (wpAny_listPart (.int 0 u) ?_)))
  refine wpAny_bind (wpAny_field hos hds (x := .none) rfl (wpAny_bind (wpAny_listPart .none (wpAny_pure ?_))))
  refine wpAny_bind (m := Builtin.List.listItems (.ref x)) ?_
  unfold Builtin.List.listItems
  refine wpAny_bind (wpAny_seqItems ho rfl (wpAny_pure ?_))
  refine wpAny_bind (wpAny_of_eq (sliceIndices_raw (some 0) none none xs.toArray.size (by simp)) ?_)
  refine wpAny_bind (wpAny_newObj_type (wpAny_pure ⟨_, rfl, ?_⟩) (Nat.le_trans (slicePick_size_le xs.toArray (some 0) none none) (by simpa using sz)))
  refine wpAny_pure (q _ _ (Heap.get?_none_of_le (Nat.le_refl _)) (Ex.push _ _) ⟨0, ?_⟩)
  have e := pick0 xs.toArray
  unfold slicePick at e
  rw [e]
  exact Heap.get?_push_size _ rfl
theorem acc_setSlice {sl e : Addr} {u : Tok} {Q : Unit → Shared → Prop} (X : KB w h) (a : Acc h x d xs) (hs : h.IsSliceOf sl (.int 0 u) .none .none) (he : PL h e []) (hz : xs.length ≤ 10000)
    (q : ∀ h', Acc h' x d [] → Kp [x] h h' → Q () ⟨h', G, D, t, O⟩) : wpAny (model P0 w) A (setItem (.ref x) (.ref sl) (.ref e)) Q NoE ⟨h, G, D, t, O⟩ := by
  obtain ⟨os, hos, hcs, hds⟩ := id hs
  have hTs : (⟨h, G, D, t, O⟩ : Shared).TypeIs (.ref sl) "slice" := ⟨os, hos, hcs⟩
  obtain ⟨⟨c, ho⟩, _⟩ := id a
  obtain ⟨n, he⟩ := he
  have hTe : (⟨h, G, D, t, O⟩ : Shared).TypeIs (.ref e) "list" := ⟨_, he, rfl⟩
  have nex : x ≠ e := ne_kind ho he (by simp)
  have sz := szl hz
  obtain ⟨a', k'⟩ := a.setSeq (f := fun xs_1 => xs_1.extract 0 (0 : Int).toNat ++ #[] ++ xs_1.extract (max (0 : Int) (xs.toArray.size : Int)).toNat xs_1.size) (ys := []) (by simp)
  unfold setItem
  refine wpAny_holding ?_
  refine wpAny_bind (acc_seqKey X a ?_)
  refine wpAny_bind (acc_special X a (by kernel_rfl) (slot_list_setitem.bind _) ?_)
  refine b_call (n := "__setitem__") X a (.inr (by decide +kernel)) (by decide +kernel) (args_list_setitem _ _ _) (by decide +kernel) entry_list_setitem ?_
  show wpAny _ _ (Builtin.List.listSubscript? (.ref sl) >>= _) _ _ _
  refine wpAny_bind ?_
  unfold Builtin.List.listSubscript?
  refine wpAny_bind (wpAny_specialOf hTs slice_no_index ?_)
  simp only [Option.isNone_none, if_true]
  refine wpAny_pure ?_
  show wpAny _ _ (typeOf (.ref sl) >>= _) _ _ _
  refine wpAny_bind (wpAny_typeOf hTs ?_)
  rw [if_neg (by decide)]
  rw [listSliceParts_eq]
  refine wpAny_bind (wpAny_bind (wpAny_field hos hds (x := .none) rfl (wpAny_bind (wpAny_listPart .none ?_))))
  rw [if_neg (by decide)]
  refine wpAny_bind (wpAny_field hos hds (x := .int 0 u) rfl (wpAny_bind (wpAny_listPart (.int 0 u) ?_)))
  refine wpAny_bind (wpAny_field hos hds (x := .none) rfl (wpAny_bind (wpAny_listPart .none (wpAny_pure ?_))))
  have hsame : Builtin.List.listSameRef (.ref x) (.ref e) = false := by simp [Builtin.List.listSameRef, nex]
  rw [hsame]
  rw [if_neg Bool.false_ne_true]
  refine wpAny_bind ?_
  unfold Builtin.List.listAllItems
  refine wpAny_bind (wpAny_typeOf hTe ?_)
  rw [if_pos (by decide)]
  unfold Builtin.List.listItems
  refine wpAny_bind (wpAny_seqItems he rfl (wpAny_pure ?_))
  refine wpAny_bind (wpAny_bind (wpAny_seqItems ho rfl (wpAny_pure ?_)))
  refine wpAny_bind (wpAny_of_eq (sliceIndices_raw (some 0) none none xs.toArray.size (by simp)) ?_)
  rw [bounds0]
  dsimp only
  rw [if_pos (by decide)]
  refine wpAny_bind (wpAny_rule ?_)
  have tl : Builtin.List.listTooLong (xs.toArray.size + (#[] : Array Value).size) = false := by simp [Builtin.List.listTooLong, sz]
  rw [show ([] : List Value).toArray = #[] from rfl, tl, if_neg Bool.false_ne_true]
  refine wpAny_bind ?_
  show wpAny _ _ (updateSeq x _) _ _ _
  refine wpAny_updateSeq ho rfl (wpAny_bind (wpAny_letGo (wpAny_pure ⟨_, rfl, wpAny_pure (q _ a' k')⟩))) (by simpa using sz) (by simp)
end
end

-- A4
section
open PySem PySem.W PyProof.Rows PySem.Calls Builtin Builtin.ObjectAttr
section
variable {w : World} {A : Around} {G : Array GenState} {D : Drawn} {O : OsState} {h h₀ : Heap} {t : Nat} {env : Env} {m : Str → Option Value} {x d : Addr} {xs : List Value}
theorem acc_subTail {y : Str} {py : Pos} {lo : Expr} {ps : Pos} {sl : Addr} {u : Tok} {Q : Value → Shared → Prop} (X : KB w h) (a : Acc h x d xs) (hs : h.IsSliceOf sl (.int 0 u) .none .none) (hz : xs.length ≤ 10000)
    (q : ∀ r h', h.get? r = none → Ex h h' → PL h' r xs → Q (.ref r) ⟨h', G, D, t, O⟩) : wpAny (model P0 w) A (subscriptTail (.Name y py) (.Slice (some lo) none none ps) (.ref x) (.ref sl)) Q NoE ⟨h, G, D, t, O⟩ := by
  obtain ⟨ox, od, I, sh⟩ := a.inst (name := Str.ofString "append") (by decide)
  unfold subscriptTail getitemInPython specialOf
  refine wpAny_bind (wpAny_bind (wpAny_bind (I.type.here ((looks_findIn (K := KH w.params) X (show findIn (KH w.params) (.ref 152) (Str.ofString "__getitem__") = some (some (.builtin "list.__getitem__")) by kernel_rfl)).here ?_))))
  refine wpAny_pure ?_
  refine wpAny_bind ?_
  show wpAny _ _ (operate [.ref sl, .ref x] (getItem (.ref x) (.ref sl))) _ _ _
  refine wpAny_operating (acc_getSlice X a hs hz fun r h' n k p => ?_)
  exact wpAny_bind (wpAny_pure (wpAny_pure (q r h' n k p)))
theorem r_slice {lo : Expr} {ps : Pos} {Q : Value → Shared → Prop} (q : wpAny (model P0 w) A (eval lo env) (fun v s₁ => ∃ h1 t1, s₁ = ⟨h1, G, D, t1, O⟩ ∧
    ∀ r h', h1.get? r = none → Ex h1 h' → h'.IsSliceOf r v .none .none → Q (.ref r) ⟨h', G, D, t1, O⟩) NoE ⟨h, G, D, t, O⟩) : wpAny (model P0 w) A (eval (.Slice (some lo) none none ps) env) Q NoE ⟨h, G, D, t, O⟩ := by
  refine wpAny_Slice ?_
  rw [evalPart_some, evalPart_none]
  refine wpAny_mono q (fun v s₁ k => ?_) fun _ _ e => e
  obtain ⟨h1, t1, rfl, k⟩ := k
  exact wpAny_pure (wpAny_pure (k _ _ (Heap.get?_none_of_le (Nat.le_refl _)) (Ex.push _ _) (Heap.IsSliceOf.new ..)))
theorem sl_ex {h h' : Heap} {a : Addr} {l u st : Value} (x : h.IsSliceOf a l u st) (k : Ex h h') : h'.IsSliceOf a l u st := let ⟨o, e, r⟩ := x; ⟨o, k.get e, r⟩
noncomputable def fPopF (P : Params) : FuncData := (fdat (o104 P)).getD default
set_option maxHeartbeats 1000000 in
theorem popfrom_spec {Q : Value → Shared → Prop} {hB : Heap} (XB : KB w hB) (xB : Ex hB h) (nx : hB.get? x = none) (hh : Room A 1) (a : Acc h x d xs) (hz : xs.length ≤ 10000)
   (q : ∀ b h' t', h.get? b = none → PL h' b xs → Acc h' x d [] → Kp [x] h h' → Q (.ref b) ⟨h', G, D, t', O⟩) :
   wpAny (model P0 w) A (call (.ref 104) [.ref x]) Q NoE ⟨h, G, D, t, O⟩ := by
  have X : KB w h := XB.ex xB
  refine r_call (fo := o104 w.params) (fd := fPopF w.params) (body := [mst 2 0, mst 2 1, mst 2 2]) (binds := [("self", .ref x), ("i", .int 0 366)]) X
    (by kernel_rfl) (by kernel_rfl) (by kernel_rfl) (by kernel_rfl) hh.lt (fun t => ?_) (by kernel_rfl) (by kernel_rfl) (by kernel_rfl) (by kernel_rfl) (by kernel_rfl) (by kernel_rfl) (by kernel_rfl) fun env h1 t' V' hc F => ?_
  · exact .of_defaults (T := 97) rfl (X 97 (o97 w.params) (by kernel_rfl)) rfl rfl rfl
  have V' : Ev env (meth 2).2.2 := V'
  have hh := hh.deeper env
  have a1 := a.ex F.keep
  obtain ⟨⟨c, ex⟩, o, ed, _⟩ := id a
  have nL : x ≠ env.locals := (ne_new F.new ex)
  have nd : d ≠ env.locals := (ne_new F.new ed)
  have nx' : ∀ b, h.get? b = none → b ≠ x := fun b n e => by rw [e, ex] at n; cases n
  have XH := hid_kb XB xB nx
  have I0 := Heap.hide_self h x
  have F0 := F.keep
  replace F := F.hid x
  generalize hm : (fun y => List.lookup y [((Str.ofString "self"), Value.ref x), ((Str.ofString "i"), Value.int 0 366)].reverse) = m at F
  have e1 : m "self" = some (.ref x) := by rw [← hm]; rfl
  have e2 : m "i" = some (.int 0 366) := by rw [← hm]; rfl
  clear hm
  have hk : env.scope.kind = .function := by rw [V'.sc]; kernel_rfl
  have k1 : env.kindOf "self" = some .local := V'.kind (by kernel_rfl)
  have k2 : env.kindOf "i" = some .local := V'.kind (by kernel_rfl)
  have k3 : env.kindOf "popped" = some .local := V'.kind (by kernel_rfl)
  refine wpAny_execs_cons ?_
  refine wpAny_Assign_Name ?_
  refine Subscript_ ?_
  walk_at "ld"
  refine r_slice ?_
  walk_at "ld"
  refine ⟨_, _, rfl, ?_⟩
  intro sl h2 nsl k4 hsl
  replace F := F.ex k4
  have a2 := a1.ex k4
  refine acc_subTail (XH.ex F.keep) a2 hsl hz ?_
  intro r h3 nr k5 pr
  have nr' : h.get? r = none := Ex.old (F0.trans k4) nr
  have rL : r ≠ env.locals := by obtain ⟨o, e⟩ := F.live; exact (ne_new nr e).symm
  replace F := F.ex k5
  have a3 := a2.ex k5
  refine r_st F hk k3 ?_
  intro h4 t4 F k6
  have a4 := a3.kp k6 (by simpa using nL) (by simpa using nd)
  have pr := pl_kp pr k6 (by simpa using rL)
  clear k6 a3 k5 a2 hsl k4
  refine wpAny_execs_cons ?_
  refine wpAny_Assign_Subscript ?_ (by rfl)
  refine r_list ?_
  refine args_nil ?_
  refine ⟨szl (by simp), _, _, rfl, ?_⟩
  intro e h5 ne k7 pe
  replace F := F.ex k7
  have a5 := a4.ex k7
  walk_at "ld"
  refine r_slice ?_
  walk_at "ld"
  refine ⟨_, _, rfl, ?_⟩
  intro sl h6 nsl k8 hsl
  replace F := F.ex k8
  have a6 := a5.ex k8
  refine acc_setSlice (XH.ex F.keep) a6 hsl (pl_ex pe k8) hz ?_
  intro h7 a7 k9
  have pr := pl_kp (pl_ex (pl_ex pr k7) k8) k9 (by simpa using nx' _ nr')
  replace F := F.mut k9 (by simpa using nL.symm) (by simpa using I0)
  refine wpAny_execs_cons ?_
  refine wpAny_Return_some ?_
  walk_at "e"
  exact q r h7 _ nr' pr a7 (hid_kp F.keep)
end
end

-- A5
section
open PySem PySem.W PyProof.Rows PySem.Calls Builtin Builtin.ObjectAttr
section
variable {w : World} {A : Around} {G : Array GenState} {D : Drawn} {O : OsState} {h h₀ : Heap} {t : Nat} {env : Env} {m : Str → Option Value} {x d : Addr} {xs : List Value}
theorem r_callAt {f : Addr} {fo : Obj} {fd : FuncData} {body : List Stmt} {args : List Value} {binds : List (Str × Value)} {Q : Value → Shared → Prop} (X : KB w h) (hl : (KH w.params).lookup f = some fo) (hd : fo.data = .func fd)
    (hb : fd.body = .stmts body) (hcode : codeIn (KH w.params) fd.code fd.qualname = true) (hroom : A.depth < recursionLimit) (hbind : ∀ t, BindsTo ⟨h, G, D, t, O⟩ fd ⟨args, []⟩ binds)
    (hcell : fd.scope.names.all (fun x => x.2 != .cell) = true) (hloc : binds.all (fun x => fd.scope.names.lookup x.1 == some .local) = true)
    (hco : fd.scope.isCoroutine = false) (hge : fd.scope.isGenerator = false) (hk : fd.scope.kind = .function) (hg : fd.globals = 3) (hbu : fd.builtins = 0)
    (k : ∀ env h₀ t', Ev env fd.scope → env.func = some f → env.code = fd.code → env.cells = fd.closure → Fx h env.locals h₀ (fun x => binds.reverse.lookup x) →
      _root_.PySem.wpAt (model P0 w) (A.deeper env) (.func body env) (execs body env) (fun fl s' => Q (match fl with | .ret v => v | _ => .none) s') NoE ⟨h₀, G, D, t', O⟩) :
    wpAny (model P0 w) A (call (.ref f) args) Q NoE ⟨h, G, D, t, O⟩ := by
  refine wpAny_call (ks_codeAny_call_defAt (fd := fd) (body := body) (binds := binds) hroom (X f fo hl) hd (nolimit X) (codeRec_of X hcode) hb (hbind t)
    (fun x hx => by have := List.all_eq_true.mp hcell x hx; simpa using this) (fun x hx => by have := List.all_eq_true.mp hloc x hx; simpa using this) (fun h₀ hn hk' => ?_) hco hge hk)
  exact ks_wpAt_mono (k (callEnv fd h.objs.size f) h₀ _ ⟨rfl, hg, hbu⟩ rfl rfl rfl ⟨hn, fun b o _ e => hk' b o e, Heap.get?_none_of_le (Nat.le_refl _)⟩) (fun fl s' q => q) (fun _ _ q => q.elim)
/-- super() in a method of the class, as the base of an attribute -/
theorem r_super {body : List Stmt} {p0 p1 : Pos} {attr : Str} {whole : Sem Value} {f cc : Addr} {fo co : Obj} {fd : FuncData} {vs : Array Value} {file : Str} {tf : Tok} {sn : Str} {Q : Value → Shared → Prop}
    (X : KB w h) (a : Acc h x d xs) (F : Fx h₀ env.locals h m) (hk : env.scope.kind = .function) (hg : env.globals = 3) (hbu : env.builtins = 0)
    (hks : env.kindOf "super" = some .globalImplicit) (hkc : env.kindOf "__class__" = some .free) (hka : env.kindOf sn = some .local) (hat : (attr == ("__class__" : Str)) = false) (hfu : env.func = some f) (hf : (KH w.params).lookup f = some fo) (hfd : fo.data = .func fd)
    (hp : (fd.params.posonlyargs ++ fd.params.args).head?.map (·.arg) = some sn) (hv : m sn = some (.ref x)) (hco : env.code = .ref cc) (hcc : (KH w.params).lookup cc = some co) (hoc : co.data = .fields vs) (hvs : vs[2]? = some (.str file tf))
    (hfile : ((P0.main.file : Str) == file) = true) (htop : (P0.main.scope.names.lookup ("super" : Str)).isSome = false) (hcell : env.cells.lookup (Str.ofString "__class__") = some 76)
    (q : ∀ so h', h.get? so = none → Ex h h' → h'.get? so = some (ks_superObj 152 x 152) → Q (.ref so) ⟨h', G, D, t, O⟩) :
    _root_.PySem.wpAt (model P0 w) A (.func body env) (attributeBase (.Call (.Name "super" p0) [] [] p1) attr env whole) Q NoE ⟨h, G, D, t, O⟩ := by
  obtain ⟨⟨c, ex⟩, o, ed, _⟩ := id a
  obtain ⟨ar, hp2, rfl⟩ := Option.map_eq_some_iff.mp hp
  refine ks_wpAt_super_base hks hkc hat hfu (X _ _ hf) hfd hp2 hco (X _ _ hcc) hoc hvs hfile htop ?_
  refine ks_loadName_global hk hks ?_
  unfold loadGlobal
  rw [hg, hbu]
  refine wpAny_bind ((looks_nsIn X (show nsIn (KH w.params) 3 (Str.ofString "super") = some none by kernel_rfl)).here ?_)
  refine wpAny_bind ((looks_nsIn X (show nsIn (KH w.params) 0 (Str.ofString "super") = some (some (.type "super")) by kernel_rfl)).here (wpAny_pure ⟨rfl, ?_⟩))
  have h76 := X 76 (o76 w.params) (by kernel_rfl)
  have h152 := X 152 (o152 w.params) (by kernel_rfl)
  refine wpAny_loadName_free (v := .ref 152) hk hkc hcell ⟨_, h76, rfl⟩ ?_
  refine wpAny_loadName_local hk hka F.ns hv ?_
  refine ks_wpAny_isType_cls h152 rfl ⟨rfl, ?_⟩
  refine ks_wpAny_call_super h152 rfl ex rfl (fun c e => by cases e) (looks_mroIn (K := KH w.params) X (by kernel_rfl)) (fun h' e k => ?_)
  exact q _ _ (Heap.get?_none_of_le (Nat.le_refl _)) (fun b o _ e => k b o e) e
noncomputable abbrev bmObj (T id : String) (x : Addr) : Obj := { cls := .type T, dict := none, data := .fields #[.builtin id, .ref x], slots := #[] }
section
variable {M : Model} {A' : Around} {Q : Fin → Shared → Prop} {E : Value → Shared → Prop} {s : Shared} {x : Addr}
/-- what the binders of list's own want: that x is a list -/
theorem get_pop (q : wpAny M A' (isInstance (.ref x) (.type "list")) (fun r s' => r = true ∧ wpAny M A' (newFields "builtin_function_or_method" [.builtin "list.pop", .ref x]) (fun v => Q (.done (.ret v))) E s') E s) :
    wpAny M A' (Builtin.«method_descriptor.__get__» ⟨[.builtin "list.pop", .ref x, .ref 152], []⟩) Q E s := by
  unfold Builtin.«method_descriptor.__get__»
  refine wpAny_bind (wpAny_of_eq (a := (.builtin "list.pop", some (.ref x), some (.ref 152))) (by kernel_rfl) ?_)
  dsimp only
  rw [if_neg (by decide +kernel)]
  refine wpAny_bind (m := _) (f := fun _ => _) ?_
  refine wpAny_bind (wpAny_of_eq (a := (Str.ofString "pop", .type "list")) (by kernel_rfl) ?_)
  dsimp only
  refine wpAny_bind (wpAny_mono q (fun r s' k => ?_) fun _ _ e => e)
  obtain ⟨rfl, k⟩ := k
  refine wpAny_pure ?_
  exact wpAny_bind (wpAny_mono k (fun v s' k => wpAny_pure k) fun _ _ e => e)
theorem get_len (q : wpAny M A' (isInstance (.ref x) (.type "list")) (fun r s' => r = true ∧ wpAny M A' (newFields "method-wrapper" [.builtin "list.__len__", .ref x]) (fun v => Q (.done (.ret v))) E s') E s) :
    wpAny M A' (Builtin.«wrapper_descriptor.__get__» ⟨[.builtin "list.__len__", .ref x, .ref 152], []⟩) Q E s := by
  unfold Builtin.«wrapper_descriptor.__get__»
  refine wpAny_bind (wpAny_of_eq (a := (.builtin "list.__len__", some (.ref x), some (.ref 152))) (by kernel_rfl) ?_)
  dsimp only
  refine wpAny_bind (m := _) (f := fun _ => _) ?_
  refine wpAny_bind (wpAny_of_eq (a := (Str.ofString "__len__", .type "list")) (by kernel_rfl) ?_)
  dsimp only
  refine wpAny_bind (wpAny_mono q (fun r s' k => ?_) fun _ _ e => e)
  obtain ⟨rfl, k⟩ := k
  refine wpAny_pure ?_
  exact wpAny_bind (wpAny_mono k (fun v s' k => wpAny_pure k) fun _ _ e => e)
theorem get_init (q : wpAny M A' (isInstance (.ref x) (.type "list")) (fun r s' => r = true ∧ wpAny M A' (newFields "method-wrapper" [.builtin "list.__init__", .ref x]) (fun v => Q (.done (.ret v))) E s') E s) :
    wpAny M A' (Builtin.«wrapper_descriptor.__get__» ⟨[.builtin "list.__init__", .ref x, .ref 152], []⟩) Q E s := by
  unfold Builtin.«wrapper_descriptor.__get__»
  refine wpAny_bind (wpAny_of_eq (a := (.builtin "list.__init__", some (.ref x), some (.ref 152))) (by kernel_rfl) ?_)
  dsimp only
  refine wpAny_bind (m := _) (f := fun _ => _) ?_
  refine wpAny_bind (wpAny_of_eq (a := (Str.ofString "__init__", .type "list")) (by kernel_rfl) ?_)
  dsimp only
  refine wpAny_bind (wpAny_mono q (fun r s' k => ?_) fun _ _ e => e)
  obtain ⟨rfl, k⟩ := k
  refine wpAny_pure ?_
  exact wpAny_bind (wpAny_mono k (fun v s' k => wpAny_pure k) fun _ _ e => e)
end
end
end

-- A6
section
open PySem PySem.W PyProof.Rows PySem.Calls Builtin Builtin.ObjectAttr
/-- how a built-in of list is bound by super: the type that it has, its binder, the type of what is made -/
structure Bnd (id nm DT BT : String) : Prop where
  get : ∀ x, ∃ b, entryFor table (DT ++ ".__get__") = some b ∧ ∀ (M : Model) (A : Around) (Q : Fin → Shared → Prop) (E : Value → Shared → Prop) (s : Shared),
    wpAny M A (isInstance (.ref x) (.type "list")) (fun r s' => r = true ∧ wpAny M A (newFields BT [.builtin id, .ref x]) (fun v => Q (.done (.ret v))) E s') E s → wpAny M A (b ⟨[.builtin id, .ref x, .ref 152], []⟩) Q E s
  type : typeOf (.builtin id) = pure (.type DT)
  slot : Slot DT "__get__" (DT ++ ".__get__")
  args : ∀ a b c, argsOk (DT ++ ".__get__") ⟨[a, b, c], []⟩
theorem slot_mdget : Slot "method_descriptor" "__get__" "method_descriptor.__get__" := .of (owner := "method_descriptor") (n := "__get__") (by rw [typeLookup_type, builtinLookup_eq_fast]; kernel_rfl) (by decide +kernel) (by decide +kernel) (by decide +kernel)
  (by first | exact .inl (by decide +kernel) | exact .inr (by decide +kernel)) (by rw [isSubtype_type]; kernel_rfl)
theorem slot_wdget : Slot "wrapper_descriptor" "__get__" "wrapper_descriptor.__get__" := .of (owner := "wrapper_descriptor") (n := "__get__") (by rw [typeLookup_type, builtinLookup_eq_fast]; kernel_rfl) (by decide +kernel) (by decide +kernel) (by decide +kernel)
  (by first | exact .inl (by decide +kernel) | exact .inr (by decide +kernel)) (by rw [isSubtype_type]; kernel_rfl)
theorem bnd_pop : Bnd "list.pop" "pop" "method_descriptor" "builtin_function_or_method" :=
  ⟨fun x => ⟨_, entryFor_of_tree (by kernel_rfl), fun _ _ _ _ _ q => get_pop q⟩, by show builtinType _ = _; rw [builtinType_eq_fast]; kernel_rfl, slot_mdget, fun _ _ _ => by unfold argsOk; kernel_rfl⟩
theorem bnd_len : Bnd "list.__len__" "__len__" "wrapper_descriptor" "method-wrapper" :=
  ⟨fun x => ⟨_, entryFor_of_tree (by kernel_rfl), fun _ _ _ _ _ q => get_len q⟩, by show builtinType _ = _; rw [builtinType_eq_fast]; kernel_rfl, slot_wdget, fun _ _ _ => by unfold argsOk; kernel_rfl⟩
theorem bnd_init : Bnd "list.__init__" "__init__" "wrapper_descriptor" "method-wrapper" :=
  ⟨fun x => ⟨_, entryFor_of_tree (by kernel_rfl), fun _ _ _ _ _ q => get_init q⟩, by show builtinType _ = _; rw [builtinType_eq_fast]; kernel_rfl, slot_wdget, fun _ _ _ => by unfold argsOk; kernel_rfl⟩
section
variable {w : World} {A : Around} {G : Array GenState} {D : Drawn} {O : OsState} {h h₀ : Heap} {t : Nat} {env : Env} {m : Str → Option Value} {x d : Addr} {xs : List Value}
theorem super_ga {so : Addr} {id nm DT BT : String} {name : Str} {tk : Tok} {Q : Fin → Shared → Prop} (B : Bnd id nm DT BT) (X : KB w h) (a : Acc h x d xs) (hso : h.get? so = some (ks_superObj 152 x 152))
    (hf : alongIn (KH w.params) name [.type "list", .type "object"] = some (some (.builtin id))) (hn : (name == ("__class__" : Str)) = false)
    (hq : ∀ b h', h.get? b = none → Ex h h' → h'.get? b = some (bmObj BT id x) → Q (.done (.ret (.ref b))) ⟨h', G, D, t, O⟩) :
    wpAny (model P0 w) A (Builtin.«super.__getattribute__» ⟨[.ref so, .str name tk], []⟩) Q NoE ⟨h, G, D, t, O⟩ := by
  obtain ⟨b, eb, gb⟩ := B.get x
  have hlk := B.slot.lookup
  have ty := B.type
  have hi := acc_isList X a
  have hno : Looks (model P0 w) h (opaqueClassAbove (.ref 152)) none := looks_opaque (K := KH w.params) X (by kernel_rfl)
  have hC : Looks (model P0 w) h (mroOf (.ref 152)) [.ref 152, .type "list", .type "object"] := by
    have h152 := X 152 (o152 w.params) (by kernel_rfl)
    exact (Looks.ld (part := none) h152).andThen .now |>.andThen .now
  have hx152 : x ≠ 152 := by
    rintro rfl
    obtain ⟨⟨c, e⟩, _⟩ := a
    have := X 152 (o152 w.params) (by kernel_rfl)
    rw [this] at e; cases e
  have hne : (Value.ref x == Value.ref 152) = false := by simp [hx152]
  have hT : (⟨h, G, D, t, O⟩ : Shared).TypeIs (.builtin id) DT := ty
  have hdt : (ks_superObj 152 x 152).data = .fields #[.ref 152, .ref x, .ref 152] := rfl
  have f0 : (#[.ref 152, .ref x, .ref 152] : Array Value)[0]? = some (.ref 152) := rfl
  have f1 : (#[.ref 152, .ref x, .ref 152] : Array Value)[1]? = some (.ref x) := rfl
  have f2 : (#[.ref 152, .ref x, .ref 152] : Array Value)[2]? = some (.ref 152) := rfl
  unfold Builtin.«super.__getattribute__»
  repeat (first
    | (with_reducible refine wpAny_field hso hdt f0 ?_) | (with_reducible refine wpAny_field hso hdt f1 ?_) | (with_reducible refine wpAny_field hso hdt f2 ?_)
    | (with_reducible refine ks_wpAny_notOpaque hno ?_)
    | (with_reducible refine Looks.at hC ?_; rw [show (([.ref 152, .type "list", .type "object"] : List Value).dropWhile (· != .ref 152)).drop 1 = [.type "list", .type "object"] by decide])
    | (refine ks_forIn_along X (fun _ _ => rfl) rfl ?_ hf)
    | (with_reducible refine wpAny_call_entry B.slot hT eb ?_ (B.args _ _ _))
    | (simp only [hn, hne, Bool.or_false, Bool.false_eq_true, if_false])
    | wp_step
    | dsimp only)
  refine gb _ _ _ _ _ (hi.here ⟨rfl, ?_⟩)
  unfold newFields
  refine wpAny_newObj_type ?_
  refine ⟨_, rfl, ?_⟩
  repeat wp_step
  exact hq _ _ (Heap.get?_none_of_le (Nat.le_refl _)) (Ex.push _ _) (Heap.get?_push_size _ rfl)
theorem super_get {so : Addr} {id nm DT BT : String} {name : Str} {pl : Sem Bool} {Q : Value × List Value → Shared → Prop} (B : Bnd id nm DT BT) (X : KB w h) (a : Acc h x d xs) (hso : h.get? so = some (ks_superObj 152 x 152))
    (hf : alongIn (KH w.params) name [.type "list", .type "object"] = some (some (.builtin id))) (hn : (name == ("__class__" : Str)) = false)
    (hq : ∀ b h' t', h.get? b = none → Ex h h' → h'.get? b = some (bmObj BT id x) → Q (.ref b, []) ⟨h', G, D, t', O⟩) :
    wpAny (model P0 w) A (getMethod (.ref so) name pl) Q NoE ⟨h, G, D, t, O⟩ := by
  have hlk := F.ks_slot_super_ga.lookup
  have hcan := F.ks_canon_super_ga
  have hT : ∀ t', (⟨h, G, D, t', O⟩ : Shared).TypeIs (.ref so) "super" := fun _ => ⟨_, hso, rfl⟩
  unfold getMethod
  refine wpAny_bind (wpAny_specialOf (hT _) hlk ?_)
  show wpAny _ _ (if (Manifest.canonical "super.__getattribute__" != "object.__getattribute__") = true then _ else _) _ _ _
  rw [if_pos hcan]
  unfold getAttr getAttrBy
  refine wpAny_bind (wpAny_bind (wpAny_mkText (wpAny_holding (wpAny_bind (wpAny_typeOf (hT _) (wpAny_bind (wpAny_of_eq hlk ?_)))))))
  show wpAny _ _ (getAttrByItsOwn (.ref so) (.str name t) (.type "super") (.builtin "super.__getattribute__") true false) _ _ _
  unfold getAttrByItsOwn hookBefore callGetattribute boundAndCalled
  refine wpAny_bind (wpAny_of_eq (show (if onTheHeap (.type "super") then typeLookup (.type "super") "__getattr__" else pure none) = pure none from rfl) ?_)
  refine wpAny_bind (wpAny_attempt (wpAny_holding ?_))
  show wpAny _ _ (bindSpecial (.builtin "super.__getattribute__") (.ref so) >>= _) _ _ _
  refine wpAny_bind (wpAny_of_eq (F.ks_slot_super_ga.bind _) ?_)
  refine wpAny_mono (Q := fun v s' => ∃ b h', v = .ref b ∧ s' = ⟨h', G, D, t + 1, O⟩ ∧ h.get? b = none ∧ Ex h h' ∧ h'.get? b = some (bmObj BT id x)) (E := fun _ _ => False)
    (wpAny_call_entry F.ks_slot_super_ga (hT _) F.ks_entry_super_ga (super_ga B X a hso hf hn fun b h' n k e => ⟨_, rfl, _, _, rfl, rfl, n, k, e⟩) (F.ks_gaArgs_super _ _)) (fun v s' hv => ?_) fun _ _ z => z.elim
  obtain ⟨b, h', rfl, rfl, n, k, e⟩ := hv
  exact wpAny_pure (wpAny_pure (hq _ _ _ n k e))
end
end

-- A7
section
open PySem PySem.W PyProof.Rows PySem.Calls Builtin Builtin.ObjectAttr
theorem ob_pop (x : Value) : (match Manifest.signature? "list.pop" with | some sig => Bind.checkArgs "list.pop" { sig with full := "_Accumulator.pop" } ⟨[x], []⟩ | none => pure ()) = pure () := by
  rw [signature?_of (id := "list.pop") (n := ['p', 'o', 'p']) (o := ['t', 's', 'i', 'l']) (by kernel_rfl) F.owner_list]; kernel_rfl
theorem own_pop : (toString (Str.ofString "_Accumulator").toString ++ toString "." ++ toString (Bind.lastOf "list.pop")) = "_Accumulator.pop" := by decide +kernel
section
variable {w : World} {A : Around} {G : Array GenState} {D : Drawn} {O : OsState} {h h₀ : Heap} {t : Nat} {env : Env} {m : Str → Option Value} {x d : Addr} {xs : List Value}
theorem bm_cw {pos : Pos} {b : Addr} {BT id : String} {Q : Value → Shared → Prop} (hBT : BT = "builtin_function_or_method" ∨ BT = "method-wrapper") (hb : h.get? b = some (bmObj BT id x)) (q : wpAny (model P0 w) A (call (.ref b) []) Q NoE ⟨h, G, D, t, O⟩) :
    wpAny (model P0 w) A (callWith pos (.ref b) [] (backTo pos (starEach [] env)) []) Q NoE ⟨h, G, D, t, O⟩ := by
  refine callWith_of (P := fun h => h.get? b = some (bmObj BT id x)) rfl (fun h hb => ⟨.machine, .inr (.inl rfl), (Looks.ld (part := none) hb).andThen ?_⟩) (evalArgs_nil3 ⟨hb, q⟩)
  rcases hBT with rfl | rfl <;> exact .now
theorem bm_call {b : Addr} {BT id : String} {B : Builtin} {Q : Value → Shared → Prop} (hBT : BT = "builtin_function_or_method" ∨ BT = "method-wrapper") (hb : h.get? b = some (bmObj BT id x)) (he : entryFor table id = some B) (hp : plainId id = true)
    (hc : ∀ {Q' : Unit → Shared → Prop}, Q' () ⟨h, G, D, t, O⟩ → wpAny (model P0 w) A.in1 (checkBoundCall id ⟨[.ref x], []⟩) Q' (fun e s' => NoE e s') ⟨h, G, D, t, O⟩)
    (q : wpAny (model P0 w) A.in1 (B ⟨[.ref x], []⟩) (fun fin s' => ∃ v, fin = .done (.ret v) ∧ Q v s') NoE ⟨h, G, D, t, O⟩) : wpAny (model P0 w) A (call (.ref b) []) Q NoE ⟨h, G, D, t, O⟩ := by
  refine wpAny_call (codeAny_of_tree ?_)
  show wpAny _ A.in1 (callAny (.ref b) _) _ _ _
  unfold callAny
  refine wpAny_bind (wpAny_load hb ?_)
  have c1 : (Value.type BT == .type "method" || Value.type BT == .type "builtin_function_or_method" || Value.type BT == .type "method-wrapper") = true := by rcases hBT with rfl | rfl <;> decide
  have c2 : (Value.type BT != .type "method") = true := by rcases hBT with rfl | rfl <;> decide
  dsimp only
  rw [if_pos c1]
  show wpAny _ _ (if (Value.type BT != .type "method") = true then _ else _) _ _ _
  rw [if_pos c2]
  refine wpAny_bind (hc ?_)
  refine wpAny_pure ⟨plainId_quiet hp _, codeAny_builtin he ?_⟩
  rw [Around.under_plainId hp _]
  exact wpAny_mono q (fun fin s' h' => by obtain ⟨v, rfl, hv⟩ := h'; exact hv) fun _ _ h' => h'.elim
theorem bc_slot {id : String} {Q' : Unit → Shared → Prop} (hk : builtinKind id = some .slot) (ha : argsOk id ⟨[.ref x], []⟩) (q : Q' () ⟨h, G, D, t, O⟩) : wpAny (model P0 w) A (checkBoundCall id ⟨[.ref x], []⟩) Q' NoE ⟨h, G, D, t, O⟩ := by
  unfold checkBoundCall
  cases hsig : Manifest.signature? id with
  | none => exact wpAny_pure q
  | some sig =>
    simp only [argsOk, hsig] at ha
    have h2 : Bind.checkArgs id sig ⟨[.ref x], []⟩ = pure () := ha
    rw [hk]
    dsimp only
    rw [if_pos (by decide), h2]
    exact wpAny_pure q
theorem bc_pop {Q' : Unit → Shared → Prop} (X : KB w h) (a : Acc h x d xs) (q : Q' () ⟨h, G, D, t, O⟩) : wpAny (model P0 w) A (checkBoundCall "list.pop" ⟨[.ref x], []⟩) Q' NoE ⟨h, G, D, t, O⟩ := by
  obtain ⟨ox, od, I, sh⟩ := a.inst (name := Str.ofString "append") (by decide)
  obtain ⟨⟨c, ex⟩, _⟩ := id a
  have h152 := X 152 (o152 w.params) (by kernel_rfl)
  have ob := ob_pop (.ref x)
  have hm : Looks (model P0 w) h (isInstance (.ref x) (.type "module")) false := I.type.andThen (looks_mroIn (K := KH w.params) X (by kernel_rfl))
  unfold checkBoundCall
  rw [show builtinKind "list.pop" = some .method by decide +kernel]
  cases hsig : Manifest.signature? "list.pop" with
  | none => exact wpAny_pure q
  | some sig =>
    rw [hsig] at ob
    dsimp only at ob ⊢
    rw [if_neg (by decide)]
    refine wpAny_bind (hm.here ?_)
    rw [show Manifest.varargsMethods.contains "list.pop" = false by decide +kernel]
    rw [if_neg (by decide)]
    refine wpAny_bind (ks_wpAny_isType_inst ex (fun c e => by cases e) ?_)
    rw [if_neg (by decide)]
    refine wpAny_bind (I.type.here ?_)
    dsimp only
    refine wpAny_bind ((Looks.andThen (Looks.ld (part := none) h152) .now : Looks (model P0 w) h (classData 152) _).here ?_)
    refine wpAny_bind ((looks_typeIn (K := KH w.params) X (show typeIn (KH w.params) (.ref 152) = some (.type "type") by kernel_rfl)).here ?_)
    rw [if_pos (by decide)]
    rw [own_pop, ob]
    exact wpAny_pure q
theorem acc_len {Q : Fin → Shared → Prop} (X : KB w h) (a : Acc h x d xs) (q : ∀ u t, Q (.done (.ret (.int xs.length u))) ⟨h, G, D, t, O⟩) : wpAny (model P0 w) A (Builtin.«list.__len__» ⟨[.ref x], []⟩) Q NoE ⟨h, G, D, t, O⟩ := by
  obtain ⟨⟨c, ex⟩, _⟩ := id a
  show wpAny _ _ (seqSize x >>= fun n => retInt n) _ _ _
  unfold seqSize
  refine wpAny_bind (wpAny_bind (wpAny_load ex ?_))
  refine wpAny_pure (wpAny_bind (wpAny_mkInt (wpAny_pure ?_)))
  simpa using q _ _
theorem acc_popRun {v : Value} {Q : Fin → Shared → Prop} (X : KB w h) (a : Acc h x d (xs ++ [v])) (hz : xs.length ≤ 1000) (q : ∀ h', Acc h' x d xs → Kp [x] h h' → Q (.done (.ret v)) ⟨h', G, D, t, O⟩) : wpAny (model P0 w) A (Builtin.«list.pop» ⟨[.ref x], []⟩) Q NoE ⟨h, G, D, t, O⟩ := by
  obtain ⟨⟨c, ex⟩, _⟩ := id a
  have e1 : ((xs ++ [v]).toArray).eraseIdxIfInBounds xs.length = xs.toArray := by
    apply Array.toList_inj.mp
    simp [Array.eraseIdxIfInBounds, List.eraseIdx_append_of_length_le (Nat.le_refl _)]
  obtain ⟨a', k'⟩ := a.setSeq (f := fun ys => ys.eraseIdxIfInBounds xs.length) (ys := xs) e1
  unfold Builtin.«list.pop»
  refine wpAny_bind (wpAny_of_eq (a := (Value.ref x, [])) (by first | rfl | kernel_rfl) ?_)
  dsimp only
  refine wpAny_bind (wpAny_pure ?_)
  rw [if_neg (by decide)]
  refine wpAny_bind (wpAny_bind (wpAny_seqItems ex rfl (wpAny_pure ?_)))
  rw [if_neg (by simp)]
  have e2 : (seqIndex? (-1) (xs ++ [v]).toArray.size).bind (fun k => (xs ++ [v]).toArray[k]?.map (k, ·)) = some (xs.length, v) := by
    have : seqIndex? (-1) (xs ++ [v]).toArray.size = some xs.length := by
      unfold seqIndex?
      simp
      omega
    rw [this]
    simp
  rw [e2]
  dsimp only
  refine wpAny_bind ?_
  show wpAny _ _ (updateSeq x _) _ _ _
  exact wpAny_updateSeq ex rfl (wpAny_pure (q _ a' k')) (by have := szl (n := xs.length + 1) (by omega); simpa using this) (by have := szl (n := xs.length + 1) (by omega); rw [e1]; simp; omega)
end
end

-- A8
section
open PySem PySem.W PyProof.Rows PySem.Calls Builtin Builtin.ObjectAttr
section
variable {w : World} {A : Around} {G : Array GenState} {D : Drawn} {O : OsState} {h h₀ : Heap} {t : Nat} {env : Env} {m : Str → Option Value} {x d : Addr} {xs : List Value}
noncomputable def ffs (o : Obj) : Array Value := match o.data with | .fields v => v | _ => #[]
noncomputable def fCnt (P : Params) : FuncData := (fdat (o149 P)).getD default
noncomputable def fPop (P : Params) : FuncData := (fdat (o112 P)).getD default
set_option maxHeartbeats 1000000 in
theorem count_spec {Q : Value → Shared → Prop} (X : KB w h) (hh : Room A 1) (a : Acc h x d xs)
   (q : ∀ u h' t', Ex h h' → Q (.int xs.length u) ⟨h', G, D, t', O⟩) :
   wpAny (model P0 w) A (call (.ref 149) [.ref x]) Q NoE ⟨h, G, D, t, O⟩ := by
  refine r_callAt (fo := o149 w.params) (fd := fCnt w.params) (body := [mst 8 0]) (binds := [("self", .ref x)]) X
    (by kernel_rfl) (by kernel_rfl) (by kernel_rfl) (by kernel_rfl) hh.lt (fun t => .of_eq (by kernel_rfl)) (by kernel_rfl) (by kernel_rfl) (by kernel_rfl) (by kernel_rfl) (by kernel_rfl) (by kernel_rfl) (by kernel_rfl) fun env h1 t' V' hfu hco hc F => ?_
  have V' : Ev env (meth 8).2.2 := V'
  have hh := hh.deeper env
  have a1 := a.ex F.keep
  have X1 := X.ex F.keep
  generalize hm : (fun y => List.lookup y [((Str.ofString "self"), Value.ref x)].reverse) = m at F
  have e1 : m "self" = some (.ref x) := by rw [← hm]; rfl
  clear hm
  have hk : env.scope.kind = .function := by rw [V'.sc]; kernel_rfl
  have k1 : env.kindOf "self" = some .local := V'.kind (by kernel_rfl)
  have k2 : env.kindOf "super" = some .globalImplicit := V'.kind (by kernel_rfl)
  have k3 : env.kindOf "__class__" = some .free := V'.kind (by kernel_rfl)
  refine ks_wpAt_execs_cons ?_
  refine ks_wpAt_Return_some ?_
  refine ks_wpAt_MethodCall ?_ rfl
  refine r_super (sn := "self") (cc := 148) (co := o148 w.params) (f := 149) (fo := o149 w.params) (fd := fCnt w.params) (vs := ffs (o148 w.params)) (file := P0.main.file) (tf := 415) X1 a1 F hk V'.g V'.b (hks := k2) (hkc := k3) (hka := k1) (hat := by decide) (hfu := hfu) (hf := by kernel_rfl) (hfd := by kernel_rfl) (hp := by kernel_rfl) (hv := e1) (hco := hco.trans (by kernel_rfl)) (hcc := by kernel_rfl) (hoc := by kernel_rfl) (hvs := by kernel_rfl) (hfile := by kernel_rfl) (htop := by kernel_rfl) (hcell := by rw [hc]; kernel_rfl) ?_
  intro so h2 n2 k2 e2
  refine super_get bnd_len (X1.ex k2) (a1.ex k2) e2 (by kernel_rfl) (by decide) ?_
  intro b h3 t3 n3 k3 e3
  refine bm_cw (.inr rfl) e3 ?_
  have a3 := (a1.ex k2).ex k3
  refine bm_call (.inr rfl) e3 entry_list_len (by decide +kernel) (fun q => bc_slot (by decide +kernel) (args_list_len _) q) ?_
  refine acc_len ((X1.ex k2).ex k3) a3 ?_
  intro u t
  exact ⟨_, rfl, q _ _ _ ((F.keep.trans k2).trans k3)⟩
end
end

-- A9
section
open PySem PySem.W PyProof.Rows PySem.Calls Builtin Builtin.ObjectAttr
section
variable {w : World} {A : Around} {G : Array GenState} {D : Drawn} {O : OsState} {h h₀ : Heap} {t : Nat} {env : Env} {m : Str → Option Value} {x d : Addr} {xs : List Value}
/-- self.part_count() -/
theorem r_count {o : Expr} {apos pos : Pos} {pl : Sem Bool} {Q : Value → Shared → Prop}
    (he : eval (.Call (.Attribute o (Str.ofString "part_count") apos) [] [] pos) env = (do
      let ov ← attributeBase o (Str.ofString "part_count") env (eval o env)
      standAt apos.atName
      let (f, first) ← holding [ov] (getMethod ov (Str.ofString "part_count") pl)
      callWith pos f first (backTo pos (starEach [] env)) [])) (hbase : attributeBase o (Str.ofString "part_count") env (eval o env) = eval o env)
    (hh : Room A 1) (q : wpAny (model P0 w) A (eval o env) (fun ov s₁ => ∃ x d xs h1 t1, ov = .ref x ∧ s₁ = ⟨h1, G, D, t1, O⟩ ∧ KB w h1 ∧ Acc h1 x d xs ∧ ∀ u h' t', Ex h1 h' → Q (.int xs.length u) ⟨h', G, D, t', O⟩) NoE ⟨h, G, D, t, O⟩) :
    wpAny (model P0 w) A (eval (.Call (.Attribute o (Str.ofString "part_count") apos) [] [] pos) env) Q NoE ⟨h, G, D, t, O⟩ := by
  refine r_mcall he hbase (wpAny_mono q (fun ov s₁ k => ?_) fun _ _ e => e)
  obtain ⟨x, d, xs, h1, t1, rfl, rfl, X, a, k⟩ := k
  refine acc_meth X a (by kernel_rfl) (f := 149) (by kernel_rfl) (by decide) ?_
  refine callWith_K0 (K := KH w.params) X (by kernel_rfl) ?_
  exact count_spec X hh a k
set_option maxHeartbeats 1000000 in
theorem pop_spec {Q : Value → Shared → Prop} {hB : Heap} (XB : KB w hB) (xB : Ex hB h) (nx : hB.get? x = none) (hh : Room A 2) (a : Acc h x d xs) (hz : xs.length ≤ 1000)
   (q0 : xs = [] → ∀ b u v h' t', TU h' b [.str ⟨#[]⟩ u, .str ⟨#[]⟩ v] → Ex h h' → Q (.ref b) ⟨h', G, D, t', O⟩)
   (q : ∀ ys v h' t', xs = ys ++ [v] → Acc h' x d ys → Kp [x] h h' → Q v ⟨h', G, D, t', O⟩) :
   wpAny (model P0 w) A (call (.ref 112) [.ref x]) Q NoE ⟨h, G, D, t, O⟩ := by
  have X : KB w h := XB.ex xB
  refine r_callAt (fo := o112 w.params) (fd := fPop w.params) (body := [mst 3 0, mst 3 1]) (binds := [("self", .ref x)]) X
    (by kernel_rfl) (by kernel_rfl) (by kernel_rfl) (by kernel_rfl) hh.lt (fun t => .of_eq (by kernel_rfl)) (by kernel_rfl) (by kernel_rfl) (by kernel_rfl) (by kernel_rfl) (by kernel_rfl) (by kernel_rfl) (by kernel_rfl) fun env h1 t' V' hfu hco hc F => ?_
  have V' : Ev env (meth 3).2.2 := V'
  have hh := hh.deeper env
  have a1 := a.ex F.keep
  have X1 := X.ex F.keep
  generalize hm : (fun y => List.lookup y [((Str.ofString "self"), Value.ref x)].reverse) = m at F
  have e1 : m "self" = some (.ref x) := by rw [← hm]; rfl
  clear hm
  have hk : env.scope.kind = .function := by rw [V'.sc]; kernel_rfl
  have k1 : env.kindOf "self" = some .local := V'.kind (by kernel_rfl)
  have k2 : env.kindOf "super" = some .globalImplicit := V'.kind (by kernel_rfl)
  have k3 : env.kindOf "__class__" = some .free := V'.kind (by kernel_rfl)
  refine ks_wpAt_execs_cons ?_
  refine ks_wpAt_If ?_
  refine wpAt_of_wpAny ?_
  refine wpAny_isTrue_Compare1 ?_
  refine r_count rfl (by rfl) hh ?_
  walk_at "ld"
  refine ⟨x, d, xs, _, _, rfl, rfl, X1, a1, ?_⟩
  intro u h2 t2 k4
  replace F := F.ex k4
  have a2 := a1.ex k4
  have X2 := X1.ex k4
  repeat walk_at "e"
  refine if_b (fun b => ?_) fun b => ?_
  · have hx : xs = [] := by
      have : (xs.length : Int) = 0 := by simpa using b
      exact List.length_eq_zero_iff.mp (by omega)
    refine ks_wpAt_execs_cons ?_
    refine ks_wpAt_Return_some ?_
    refine wpAt_of_wpAny ?_
    refine r_tuple ?_
    repeat walk_at "e"
    refine args_nil ?_
    refine ⟨szl (by simp), _, _, rfl, ?_⟩
    intro c h3 n3 k5 tb
    exact q0 hx c _ _ h3 _ tb (F.keep.trans k5)
  · obtain ⟨ys, v, rfl⟩ : ∃ ys v, xs = ys ++ [v] := by
      rcases List.eq_nil_or_concat xs with rfl | ⟨ys, v, e⟩
      · simp at b
      · exact ⟨ys, v, by simpa using e⟩
    refine wpAt_of_wpAny (wpAny_execs_nil ?_)
    refine ks_wpAt_execs_cons ?_
    refine ks_wpAt_Return_some ?_
    refine ks_wpAt_MethodCall ?_ rfl
    refine r_super (sn := "self") (cc := 111) (co := o111 w.params) (f := 112) (fo := o112 w.params) (fd := fPop w.params) (vs := ffs (o111 w.params)) (file := P0.main.file) X2 a2 F hk V'.g V'.b (hks := k2) (hkc := k3) (hka := k1) (hat := by decide) (hfu := hfu) (hf := by kernel_rfl) (hfd := by kernel_rfl) (hp := by kernel_rfl) (hv := e1) (hco := hco.trans (by kernel_rfl)) (hcc := by kernel_rfl) (hoc := by kernel_rfl) (tf := 378) (hvs := by kernel_rfl) (hfile := by kernel_rfl) (htop := by kernel_rfl) (hcell := by rw [hc]; kernel_rfl) ?_
    intro so h3 n3 k5 e3
    refine super_get bnd_pop (X2.ex k5) (a2.ex k5) e3 (by kernel_rfl) (by decide) ?_
    intro b h4 t4 n4 k6 e4
    refine bm_cw (.inl rfl) e4 ?_
    have a4 := (a2.ex k5).ex k6
    refine bm_call (.inl rfl) e4 _root_.PySem.F.entry_list_pop (by decide +kernel) (fun q => bc_pop ((X2.ex k5).ex k6) a4 q) ?_
    refine acc_popRun ((X2.ex k5).ex k6) a4 (by simp at hz; omega) ?_
    intro h5 a5 k7
    exact ⟨_, rfl, q ys v _ _ rfl a5 (((Ex.kp F.keep).trans (Ex.kp k5)).trans (Ex.kp k6) |>.trans k7)⟩
end
end

-- A10
section
open PySem PySem.W PyProof.Rows PySem.Calls Builtin Builtin.ObjectAttr
noncomputable abbrev accObj (d : Addr) : Obj := { cls := .ref 152, dict := some d, data := .seq #[] }
theorem ln_kind : builtinKind "list.__new__" = some .builtinFn := by decide +kernel
theorem ln_split : splitId "list.__new__" = some ("list", "__new__") := by decide +kernel
theorem ln_args (x : Value) : argsOk "list.__new__" ⟨[x], []⟩ := by unfold argsOk; kernel_rfl
section
variable {w : World} {A : Around} {G : Array GenState} {D : Drawn} {O : OsState} {h h₀ : Heap} {t : Nat} {env : Env} {m : Str → Option Value} {x d : Addr} {xs : List Value}
theorem made_K (X : KB w h) : Looks (model P0 w) h (Bind.madeBy (.ref 152)) (some "list.__new__") := by
  have h152 := X 152 (o152 w.params) (by kernel_rfl)
  intro A Q E s k q
  unfold Bind.madeBy
  have hm : Looks (model P0 w) h (mroOf (.ref 152)) [.ref 152, .type "list", .type "object"] := (Looks.ld (part := none) h152).andThen .now |>.andThen .now
  refine wpAny_bind (hm A _ E s k ?_)
  rw [List.forIn_cons]
  refine wpAny_bind (wpAny_bind (wpAny_bind (wpAny_bind (wpAny_loadPart (k _ _ h152) (wpAny_pure ?_)))))
  dsimp only
  exact wpAny_pure (wpAny_pure (wpAny_pure q))
theorem base_K (X : KB w h) : Looks (model P0 w) h (Bind.staticBase (.ref 152)) (.ref 152) := by
  have h152 := X 152 (o152 w.params) (by kernel_rfl)
  have hm : Looks (model P0 w) h (mroOf (.ref 152)) [.ref 152, .type "list", .type "object"] := (Looks.ld (part := none) h152).andThen .now |>.andThen .now
  intro A Q E s k q
  unfold Bind.staticBase
  refine wpAny_bind (hm A _ E s k ?_)
  rw [List.forIn_cons]
  exact wpAny_bind (wpAny_bind (wpAny_bind (made_K X A _ E s k (wpAny_pure (wpAny_pure (wpAny_pure q))))))
theorem Room.make {n : Nat} (r : Room A (n + 1)) : Room (A.under (.builtin "type.__call__" ⟨[.ref 152], []⟩)) n :=
  ⟨r.hd, by have := r.dep; show A.depth + 1 + n < _; omega, by
    have := r.uni
    have e : (A.under (.builtin "type.__call__" ⟨[.ref 152], []⟩)).units ≤ A.units + 20 := by
      show A.units + (Code.builtin "type.__call__" ⟨[.ref 152], []⟩).cUnits ≤ _
      have : (Code.builtin "type.__call__" ⟨[.ref 152], []⟩).cUnits ≤ 20 := by decide +kernel
      omega
    omega⟩
theorem newAcc {R : Result → Shared → Prop} (X : KB w h) (hq : R (.ok (.ret (.ref (h.objs.size + 1)))) ⟨(h.push emptyDict).push (accObj h.objs.size), G, D, t, O⟩) :
    codeAny (model P0 w) A (.call (.builtin "list.__new__") ⟨[.ref 152], []⟩) R ⟨h, G, D, t, O⟩ := by
  have h152 := X 152 (o152 w.params) (by kernel_rfl)
  have made := made_K (w := w) X
  have base := base_K (w := w) X
  have sub : Looks (model P0 w) h (isSubtype (.ref 152) (.type "list")) true := looks_mroIn (K := KH w.params) X (by kernel_rfl)
  have ha := ln_args (.ref 152)
  refine codeAny_of_tree ?_
  show wpAny _ A.in1 (do checkBuiltinCall "list.__new__" ⟨[.ref 152], []⟩; again (.builtin "list.__new__" ⟨[.ref 152], []⟩)) _ _ _
  simp only [checkBuiltinCall, ln_kind, ln_split]
  refine wpAny_bind ?_
  rw [if_pos (by decide)]
  refine wpAny_bind (ks_wpAny_isType_cls h152 rfl ?_)
  rw [if_neg (by decide)]
  refine wpAny_bind (sub.here ?_)
  rw [if_neg (by decide)]
  refine wpAny_bind (base.here ?_)
  refine wpAny_bind (made.here ?_)
  dsimp only
  rw [if_neg (by decide +kernel)]
  have fin : ∀ (s' : Shared), s' = ⟨h, G, D, t, O⟩ → codeAny (model P0 w) A (.builtin "list.__new__" ⟨[.ref 152], []⟩) R s' := by
    rintro _ rfl
    have hown := owner_list_new
    refine codeAny_builtin_stack F.entry_list_new rfl fun p st => ?_
    rw [Around.under_plainId F.plain_list_new _]
    dsimp only
    simp only [hown]
    refine wpAny_bind (ks_wpAny_isType_cls h152 rfl ?_)
    rw [if_neg (by decide)]
    refine wpAny_bind (sub.here ?_)
    rw [if_neg (by decide)]
    refine wpAny_bind (wpAny_pure ?_)
    rw [if_neg (by decide)]
    unfold newDict
    refine wpAny_bind (wpAny_newObj_type ?_)
    dsimp only
    show wpAny _ _ (newObjAsIs _ _ _ >>= _) _ _ _
    unfold newObjAsIs classHasDel
    refine wpAny_bind (wpAny_bind (wpAny_alloc (wpAny_bind (wpAny_bind (wpAny_load (Heap.get?_push_of_some _ (Heap.get?_push_of_some _ h152)) (wpAny_pure ?_))))))
    refine wpAny_pure (wpAny_pure ?_)
    show R (.ok (.ret (.ref (h.push _).objs.size))) _
    rw [Heap.size_push]
    exact hq
  have fin' := fin _ rfl
  cases hsig : Manifest.signature? "list.__new__" with
  | none => exact wpAny_pure (wpAny_pure ⟨plainId_quiet F.plain_list_new _, fin'⟩)
  | some sig =>
    simp only [argsOk, hsig] at ha
    have h2 : Bind.checkArgs "list.__new__" sig ⟨[.ref 152], []⟩ = pure () := ha
    dsimp only
    rw [h2]
    exact wpAny_pure (wpAny_pure ⟨plainId_quiet F.plain_list_new _, fin'⟩)
theorem makeAcc {Q : Value → Shared → Prop} (X : KB w h) (hroom : A.depth < recursionLimit)
    (q : ∀ x d h', h.get? x = none → h.get? d = none → x ≠ d → Ex h h' → h'.get? x = some (accObj d) → h'.get? d = some emptyDict →
      codeAny (model P0 w) (A.under (.builtin "type.__call__" ⟨[.ref 152], []⟩)) (.call (.ref 89) ⟨[.ref x], []⟩) (fun r s' => ∃ h'' t', s' = ⟨h'', G, D, t', O⟩ ∧ r = .ok (.ret .none) ∧ Q (.ref x) ⟨h'', G, D, t', O⟩) ⟨h', G, D, t, O⟩) :
    wpAny (model P0 w) A (call (.ref 152) []) Q NoE ⟨h, G, D, t, O⟩ := by
  have h152 := X 152 (o152 w.params) (by kernel_rfl)
  have made := made_K (w := w) X
  have call : Looks (model P0 w) h (specialOf (.ref 152) "__call__") (some (.builtin "type.__call__")) := looks_specialIn (K := KH w.params) X (by kernel_rfl)
  have typ : Looks (model P0 w) h (isInstance (.ref 152) (.type "type")) true := looks_instIn (K := KH w.params) X (by kernel_rfl)
  have self : Looks (model P0 w) h (isSubtype (.ref 152) (.ref 152)) true := looks_mroIn (K := KH w.params) X (by kernel_rfl)
  have hi : Looks (model P0 w) h (typeLookup (.ref 152) "__init__") (some (.ref 89)) := looks_findIn (K := KH w.params) X (by kernel_rfl)
  have hb : ∀ s, Looks (model P0 w) h (bindSpecial (.ref 89) s) (.ref 89, [s]) := fun s => bind_fn (K := KH w.params) X s (by kernel_rfl)
  refine wpAny_call (codeAny_of_tree ?_)
  show wpAny _ _ (callAny (.ref 152) _) _ _ _
  refine nd_load h152 ?_
  show wpAny _ _ (callAny.viaDunder (.ref 152) _) _ _ _
  unfold callAny.viaDunder
  refine wpAny_bind (call.at ?_)
  dsimp only
  rw [tc_bind]
  refine wpAny_bind (wpAny_pure (wpAny_bind (wpAny_pure ?_)))
  refine wpAny_pure (a := Fin.again (.call (.builtin "type.__call__") ⟨.ref 152 :: [], []⟩)) (And.intro rfl ?_)
  refine codeAny_call_builtin_at (Code.quiet_builtin _ (by decide +kernel)) entry_typeCall (check_slot tc_kind tc_split typ (tc_args _ _ _) ?_)
  unfold Builtin.«type.__call__»
  have hm : Looks (model P0 w) h (mroOf (.ref 152)) [.ref 152, .type "list", .type "object"] := (Looks.ld (part := none) h152).andThen .now |>.andThen .now
  repeat (first | with_reducible refine wpAny_call ?_ | lk)
  refine newAcc X ?_
  have k : Ex h ((h.push emptyDict).push (accObj h.objs.size)) := (Ex.push h _).trans (Ex.push _ _)
  have hx : ((h.push emptyDict).push (accObj h.objs.size)).get? (h.objs.size + 1) = some (accObj h.objs.size) := by heap_get
  have hd : ((h.push emptyDict).push (accObj h.objs.size)).get? h.objs.size = some emptyDict := by heap_get
  have t1 : Looks (model P0 w) ((h.push emptyDict).push (accObj h.objs.size)) (typeOf (.ref (h.objs.size + 1))) (.ref 152) := (Looks.ld hx).andThen .now
  have s1 := self.keeps fun b o e => k.get e
  have i1 := hi.keeps fun b o e => k.get e
  have b1 := (hb (.ref (h.objs.size + 1))).keeps fun b o e => k.get e
  unfold isInstance callSpecial? specialOf
  repeat (first | with_reducible refine wpAny_call ?_ | lk)
  have := q (h.objs.size + 1) h.objs.size _ (Heap.get?_none_of_le (Nat.le_succ _)) (Heap.get?_none_of_le (Nat.le_refl _)) (Nat.succ_ne_self _) k hx hd
  refine codeAny_mono this fun r s' z => ?_
  obtain ⟨h'', t', rfl, rfl, z⟩ := z
  exact wpAny_pure (wpAny_pure z)
end
end

-- A11
section
open PySem PySem.W PyProof.Rows PySem.Calls Builtin Builtin.ObjectAttr
section
variable {w : World} {A : Around} {G : Array GenState} {D : Drawn} {O : OsState} {h h₀ : Heap} {t : Nat} {env : Env} {m : Str → Option Value} {x d : Addr} {xs : List Value}
theorem refuse_acc (self : Value) : refuseLoop self "__setattr__" [.ref 152, .type "list", .type "object"] = pure () := by
  rw [refuseLoop_ref]; kernel_rfl
theorem acc_setattr {v : Value} {Q : Unit → Shared → Prop} (X : KB w h) (ex : h.get? x = some (accObj d)) (ed : h.get? d = some emptyDict) (q : ∀ h' t', Acc h' x d [] → Kp [d] h h' → Q () ⟨h', G, D, t', O⟩) :
    wpAny (model P0 w) A (setAttr (.ref x) (Str.ofString "_initial_size") v) Q NoE ⟨h, G, D, t, O⟩ := by
  have I : InstAt h x (accObj d) 152 (some emptyDict) := ⟨ex, rfl, rfl, ed⟩
  have h152 := X 152 (o152 w.params) (by kernel_rfl)
  have hm : Looks (model P0 w) h (mroOf (.ref 152)) [.ref 152, .type "list", .type "object"] := (Looks.ld (part := none) h152).andThen .now |>.andThen .now
  have SF := PySem.F.store_object
  have sub : Looks (model P0 w) h (isInstance (.ref x) (.type "object")) true := I.type.andThen (looks_mroIn (K := KH w.params) X (by kernel_rfl))
  refine set_plain (K := KH w.params) X I (by kernel_rfl) ?_
  refine codeAny_call_builtin SF.slot.plain SF.entry (@check_slot (model P0 w) _ _ ⟨h, G, D, t + 1, O⟩ "object.__setattr__" "object" "__setattr__" (.ref x) [.str (Str.ofString "_initial_size") t, v] [] _ SF.kind SF.split sub (SF.args (.ref x) (.str (Str.ofString "_initial_size") t) v) ?_)
  rw [osa_eq, refuse_eq]
  refine wpAny_bind (wpAny_bind (I.type.here (wpAny_bind (hm.here ?_))))
  rw [refuse_acc]
  refine wpAny_pure (wpAny_bind (I.type.here (wpAny_bind ((looks_findIn X (show findIn (KH w.params) (.ref 152) (Str.ofString "_initial_size") = some none by kernel_rfl)).here ?_))))
  refine wpAny_bind (wpAny_pure ?_)
  dsimp only
  refine wpAny_bind (wpAny_pure (wpAny_bind (wpAny_bind (wpAny_loadPart ex (wpAny_bind ((Looks.andThen (Looks.ld (part := none) h152) .now : Looks (model P0 w) h (classData 152) _).here ?_))))))
  refine wpAny_pure (a := some d) (wpAny_bind (wpAny_pure (wpAny_bind ?_)))
  unfold nsSet
  refine wpAny_bind (wpAny_bind (wpAny_askSetting (wpAny_pure (wpAny_bind (wpAny_mkText (wpAny_bind (wpAny_loadPart ed ?_)))))))
  have c : aRefKeyMayBeTheName (Str.ofString "_initial_size") (#[] : Array DictEntry) = false := by rw [aRefKeyMayBeTheName_at]; simp
  dsimp only
  rw [c, if_neg Bool.false_ne_true]
  have fin : ∀ (f : Obj → Obj) (es : List DictEntry) (n : Nat), f emptyDict = dictOf es n → es.length ≤ 1000 → (∀ name, name ≠ Str.ofString "_initial_size" → getL name es = some none) → ∀ t',
      wpAny (model P0 w) A.in1 (do lookBehind d (some (Value.str (Str.ofString "_initial_size") 0)); ret Value.none) (fun fin s' => match fin with
          | .done f => (match (Except.ok f : Result) with | .ok (.ret v) => Q () s' | .ok _ => False | .error e => NoE e s')
          | .again c' => c'.quiet = true ∧ codeAny (model P0 w) A c' (fun r s' => match r with | .ok (.ret v) => Q () s' | .ok _ => False | .error e => NoE e s') s') (fun e s' => NoE e s') ⟨h.update d f, G, D, t', O⟩ := by
    intro f es n ef hz hl t'
    have nxd : x ≠ d := ne_kind ex ed (by simp)
    have D' : (h.update d f).get? d = some (dictOf es n) := by rw [← ef]; exact Heap.get?_update_self _ ed (by rw [ef]; rfl)
    have x' : (h.update d f).get? x = some (accObj d) := (Heap.get?_update_other _ _ (Ne.symm nxd)).trans ex
    refine wpAny_bind (wpAny_lookBehind D' (pastItsLine_dict (by rw [List.size_toArray, sizeLine_eq]; omega)) ?_)
    refine wpAny_pure (q _ _ ⟨⟨0, x'⟩, dictOf es n, D', rfl, fun name nn => ?_⟩ (kp_same (Heap.SameBut.update ..)))
    rw [lookIn_dict]; exact hl name nn
  refine wpAny_updatePart ed ?_
  refine fin _ (putL (Str.ofString "_initial_size") _ _ v []) (putN (Str.ofString "_initial_size") [] 0) (putName_dict _ _ _ _ [] 0) (by simp [putL]) (fun name nn => ?_) _
  have e1 : (Value.str (Str.ofString "_initial_size") (t + 1)).isStr name = false := by
    show (Str.ofString "_initial_size" == name) = false
    exact beq_eq_false_iff_ne.mpr (Ne.symm nn)
  unfold getL putL
  simp only [List.find?_cons, e1, List.find?_nil]
  rfl
end
end

-- A12
section
open PySem PySem.W PyProof.Rows PySem.Calls Builtin Builtin.ObjectAttr
section
variable {w : World} {A : Around} {G : Array GenState} {D : Drawn} {O : OsState} {h h₀ : Heap} {t : Nat} {env : Env} {m : Str → Option Value} {x d : Addr} {xs : List Value}
theorem r_codeAt {f : Addr} {fo : Obj} {fd : FuncData} {body : List Stmt} {args : List Value} {binds : List (Str × Value)} {R : Result → Shared → Prop} (X : KB w h) (hl : (KH w.params).lookup f = some fo) (hd : fo.data = .func fd)
    (hb : fd.body = .stmts body) (hcode : codeIn (KH w.params) fd.code fd.qualname = true) (hroom : A.depth < recursionLimit) (hbind : ∀ t, BindsTo ⟨h, G, D, t, O⟩ fd ⟨args, []⟩ binds)
    (hcell : fd.scope.names.all (fun x => x.2 != .cell) = true) (hloc : binds.all (fun x => fd.scope.names.lookup x.1 == some .local) = true)
    (hco : fd.scope.isCoroutine = false) (hge : fd.scope.isGenerator = false) (hk : fd.scope.kind = .function) (hg : fd.globals = 3) (hbu : fd.builtins = 0)
    (k : ∀ env h₀ t', Ev env fd.scope → env.func = some f → env.code = fd.code → env.cells = fd.closure → Fx h env.locals h₀ (fun x => binds.reverse.lookup x) →
      _root_.PySem.wpAt (model P0 w) (A.deeper env) (.func body env) (execs body env) (fun fl s' => R (.ok (.ret (match fl with | .ret v => v | _ => .none))) s') NoE ⟨h₀, G, D, t', O⟩) :
    codeAny (model P0 w) A (.call (.ref f) ⟨args, []⟩) R ⟨h, G, D, t, O⟩ := by
  refine ks_codeAny_call_defAt (fd := fd) (body := body) (binds := binds) hroom (X f fo hl) hd (nolimit X) (codeRec_of X hcode) hb (hbind t)
    (fun x hx => by have := List.all_eq_true.mp hcell x hx; simpa using this) (fun x hx => by have := List.all_eq_true.mp hloc x hx; simpa using this) (fun h₀ hn hk' => ?_) hco hge hk
  exact ks_wpAt_mono (k (callEnv fd h.objs.size f) h₀ _ ⟨rfl, hg, hbu⟩ rfl rfl rfl ⟨hn, fun b o _ e => hk' b o e, Heap.get?_none_of_le (Nat.le_refl _)⟩) (fun fl s' q => q) (fun _ _ q => q.elim)
noncomputable def fIni (P : Params) : FuncData := (fdat (o89 P)).getD default
theorem acc_init0 {Q : Fin → Shared → Prop} (a : Acc h x d []) (q : ∀ h', Acc h' x d [] → Kp [x] h h' → Q (.done (.ret .none)) ⟨h', G, D, t, O⟩) : wpAny (model P0 w) A (Builtin.«list.__init__» ⟨[.ref x], []⟩) Q NoE ⟨h, G, D, t, O⟩ := by
  obtain ⟨⟨c, ex⟩, _⟩ := id a
  obtain ⟨a', k'⟩ := a.setSeq (f := fun _ => #[]) (ys := []) rfl
  show wpAny _ _ (do let old ← Builtin.List.listItems (.ref x); Builtin.List.listUpdate (.ref x) (fun _ => #[]); letGo old.toList.reverse; ret .none) _ _ _
  refine wpAny_bind ?_
  unfold Builtin.List.listItems
  refine wpAny_bind (wpAny_seqItems ex rfl (wpAny_pure ?_))
  refine wpAny_bind ?_
  show wpAny _ _ (updateSeq x _) _ _ _
  refine wpAny_updateSeq ex rfl ?_
  exact wpAny_bind (wpAny_letGo (wpAny_pure (q _ a' k')))
set_option maxHeartbeats 1000000 in
theorem init_spec {R : Result → Shared → Prop} {hB : Heap} (XB : KB w hB) (xB : Ex hB h) (nx : hB.get? x = none) (nd : hB.get? d = none) (hh : A.depth < recursionLimit) (ex : h.get? x = some (accObj d)) (ed : h.get? d = some emptyDict)
   (q : ∀ h' t', Acc h' x d [] → Kp [x, d] h h' → R (.ok (.ret .none)) ⟨h', G, D, t', O⟩) :
   codeAny (model P0 w) A (.call (.ref 89) ⟨[.ref x], []⟩) R ⟨h, G, D, t, O⟩ := by
  have X : KB w h := XB.ex xB
  refine r_codeAt (fo := o89 w.params) (fd := fIni w.params) (body := [mst 0 0, mst 0 1]) (binds := [("self", .ref x), ("initial_size", .int 0 347)]) X
    (by kernel_rfl) (by kernel_rfl) (by kernel_rfl) (by kernel_rfl) hh (fun t => .of_defaults (T := 81) rfl (X 81 (o81 w.params) (by kernel_rfl)) rfl rfl rfl) (by kernel_rfl) (by kernel_rfl) (by kernel_rfl) (by kernel_rfl) (by kernel_rfl) (by kernel_rfl) (by kernel_rfl) fun env h1 t' V' hfu hco hc F => ?_
  have V' : Ev env (meth 0).2.2 := V'
  have ex1 := F.keep.get ex
  have ed1 := F.keep.get ed
  have xL : x ≠ env.locals := ne_new F.new ex
  have dL : d ≠ env.locals := ne_new F.new ed
  have XH : KB w ((h.hide x).hide d) := fun b o e => by
    have e' := XB b o e
    rw [Heap.hide_ne _ (ne_new nd e'), Heap.hide_ne _ (ne_new nx e')]
    exact xB.get e'
  have I0 : ((h.hide x).hide d).get? x = none := by rw [Heap.hide_ne _ (ne_kind ex ed (by simp))]; exact Heap.hide_self h x
  have I1 : ((h.hide x).hide d).get? d = none := Heap.hide_self _ d
  replace F := (F.hid x)
  replace F : Fx ((h.hide x).hide d) env.locals h1 _ := F.hid d
  generalize hm : (fun y => List.lookup y [((Str.ofString "self"), Value.ref x), ((Str.ofString "initial_size"), Value.int 0 347)].reverse) = m at F
  have e1 : m "self" = some (.ref x) := by rw [← hm]; rfl
  have e2 : m "initial_size" = some (.int 0 347) := by rw [← hm]; rfl
  clear hm
  have hk : env.scope.kind = .function := by rw [V'.sc]; kernel_rfl
  have k0 : env.kindOf "initial_size" = some .local := V'.kind (by kernel_rfl)
  have k1 : env.kindOf "self" = some .local := V'.kind (by kernel_rfl)
  have k2 : env.kindOf "super" = some .globalImplicit := V'.kind (by kernel_rfl)
  have k3 : env.kindOf "__class__" = some .free := V'.kind (by kernel_rfl)
  refine ks_wpAt_execs_cons ?_
  refine ks_wpAt_Assign_Attr ?_ (by rfl)
  refine wpAt_of_wpAny ?_
  walk_at "ld"
  walk_at "ld"
  refine acc_setattr (XH.ex F.keep) ex1 ed1 ?_
  intro h2 t2 a2 k4
  replace F := F.mut k4 (by simpa using dL.symm) (by simpa using I1)
  refine ks_wpAt_execs_cons ?_
  refine ks_wpAt_Expr_any ?_ (intr hk) (by rfl)
  refine ks_wpAt_MethodCall ?_ rfl
  refine r_super (sn := "self") (cc := 88) (co := o88 w.params) (f := 89) (fo := o89 w.params) (fd := fIni w.params) (vs := ffs (o88 w.params)) (file := P0.main.file) (XH.ex F.keep) a2 F hk V'.g V'.b (hks := k2) (hkc := k3) (hka := k1) (hat := by decide) (hfu := hfu) (hf := by kernel_rfl) (hfd := by kernel_rfl) (hp := by kernel_rfl) (hv := e1) (hco := hco.trans (by kernel_rfl)) (hcc := by kernel_rfl) (hoc := by kernel_rfl) (tf := 350) (hvs := by kernel_rfl) (hfile := by kernel_rfl) (htop := by kernel_rfl) (hcell := by rw [hc]; kernel_rfl) ?_
  intro so h3 n3 k5 e3
  replace F := F.ex k5
  refine super_get bnd_init (XH.ex F.keep) (a2.ex k5) e3 (by kernel_rfl) (by decide) ?_
  intro b h4 t4 n4 k6 e4
  replace F := F.ex k6
  refine bm_cw (.inr rfl) e4 ?_
  have a4 := (a2.ex k5).ex k6
  refine bm_call (.inr rfl) e4 _root_.PySem.F.entry_list_init (by decide +kernel) (fun q => bc_slot (by decide +kernel) (_root_.PySem.F.args_list_init_1 _) q) ?_
  refine acc_init0 a4 ?_
  intro h5 a5 k7
  replace F := F.mut k7 (by simpa using xL.symm) (by simpa using I0)
  refine ⟨_, rfl, ?_⟩
  refine wpAt_of_wpAny (wpAny_execs_nil ?_)
  refine q _ _ a5 fun b o nb e => F.keep.get ?_
  rw [Heap.hide_ne _ (by intro q; exact nb (by simp [q])), Heap.hide_ne _ (by intro q; exact nb (by simp [q]))]
  exact e
theorem acc_spec {Q : Value → Shared → Prop} (X : KB w h) (hh : Room A 2) (q : ∀ x d h' t', h.get? x = none → h.get? d = none → Ex h h' → Acc h' x d [] → Q (.ref x) ⟨h', G, D, t', O⟩) :
   wpAny (model P0 w) A (call (.ref 152) []) Q NoE ⟨h, G, D, t, O⟩ := by
  refine makeAcc X hh.lt fun x d h1 nx nd nxd k ex ed => ?_
  refine init_spec X k nx nd (hh.make.lt) ex ed fun h2 t2 a k2 => ?_
  exact ⟨h2, t2, rfl, rfl, q x d h2 t2 nx nd (Kp.drop k k2 (by simp [nx, nd])) a⟩
end
end

-- L1
section
section
variable {w : World} {A : Around} {G : Array GenState} {D : Drawn} {O : OsState} {h h₀ : Heap} {t : Nat} {env : Env} {m : Str → Option Value} {x d : Addr} {xs : List Value}
theorem ext_ex {h h' : Heap} (x : Heap.ExtBut h.objs.size h h') : Ex h h' := fun b o _ e => x b o (Nat.ne_of_lt (Heap.lt_size e)) e
/-- a for over two names, over a list of tuples -/
theorem r_forT {I a : Addr} {vs : Array Value} (hh : A.handled = none) (nI : a ≠ I) (J : Nat → Heap → Prop)
    {xa xb : Str} {pa pb pt : Pos} {x1 : Nat} {body orelse : List Stmt} {Q : Flow → Shared → Prop}
    (fr : ∀ i h h', J i h → LSt I a vs i h → Kp [I] h h' → J i h')
    (turn : ∀ i v h t, i < vs.size → vs[i]? = some v → J i h → LSt I a vs (i + 1) h → ∃ b u1 u2, v = .ref b ∧ h.IsTuple b #[u1, u2] ∧ ∀ h', Ex h h' →
       wpAny (model P0 w) A (storeName env xa u1) (fun _ s₁ => wpAny (model P0 w) A (storeName env xb u2) (fun _ s₂ => wpAny (model P0 w) A (execs body env) (fun f s₃ => match f with
      | .next | .cont => ∃ h' t', s₃ = ⟨h', G, D, t', O⟩ ∧ J (i + 1) h' ∧ LSt I a vs (i + 1) h'
      | .brk => Q .next s₃
      | .ret v => Q (.ret v) s₃) NoE s₂) NoE s₁) NoE ⟨h', G, D, t, O⟩)
    (done : ∀ h t, J vs.size h → wpAny (model P0 w) A (execs orelse env) Q NoE ⟨h, G, D, t, O⟩) (j : J 0 h) (s0 : LSt I a vs 0 h) :
    codeAny (model P0 w) A (.forLoop (.Tuple [.Name xa pa, .Name xb pb] x1 pt) (.ref I) body orelse env) (fun r s' => match r with | .ok f => Q f s' | .error e => cameBackBy (model P0 w) A env NoE e s') ⟨h, G, D, t, O⟩ := by
  have W := walkList (w := w) hh I a nI vs
  refine codeAny_forLoop_any (fun k s => ∃ i h t, s = ⟨h, G, D, t, O⟩ ∧ k = vs.size - i ∧ i ≤ vs.size ∧ J i h ∧ LSt I a vs i h) ?_ vs.size ⟨0, h, t, rfl, rfl, Nat.zero_le _, j, s0⟩
  rintro k s ⟨i, h, t, rfl, rfl, hi, j, s0⟩
  by_cases hlt : i < vs.size
  · refine W.item i _ _ _ hlt s0 fun v h' tk hP st' hk => ?_
    obtain ⟨b, u1, u2, rfl, ht, k⟩ := turn i v h' tk hlt hP (fr i h h' j s0 fun b o nb e => hk b o nb e) st'
    refine wpAny_letOwnedTupleGo_listiter st'.1 ?_
    refine wpAny_assign_Tuple hh ht rfl rfl fun h₃ hx₃ => ?_
    show wpAny _ A (do holding [u2] (assign (.Name xa pa) env u1); do holding [] (assign (.Name xb pb) env u2); pure ()) _ _ _
    refine wpAny_bind (wpAny_holding (wpAny_assign_Name ?_))
    refine wpAny_mono (k h₃ (ext_ex hx₃)) (fun _ s₁ h₁ => ?_) fun _ _ q => q.elim
    refine wpAny_bind (wpAny_holding (wpAny_assign_Name ?_))
    refine wpAny_mono h₁ (fun _ s₂ h₂ => ?_) fun _ _ q => q.elim
    refine wpAny_pure ?_
    refine wpAny_mono h₂ (fun f s₃ h₃ => ?_) fun _ _ q => q.elim
    cases f with
    | next => obtain ⟨h₄, t₄, rfl, j', s'⟩ := h₃; exact ⟨vs.size - (i + 1), by omega, i + 1, h₄, t₄, rfl, rfl, hlt, j', s'⟩
    | cont => obtain ⟨h₄, t₄, rfl, j', s'⟩ := h₃; exact ⟨vs.size - (i + 1), by omega, i + 1, h₄, t₄, rfl, rfl, hlt, j', s'⟩
    | brk => exact h₃
    | ret v => exact h₃
  · have : i = vs.size := by omega
    subst this
    refine W.done _ _ _ s0 fun h' tk hk => ?_
    exact wpAny_mono (done h' tk (fr _ h h' j s0 fun b o nb e => hk b o nb e)) (fun _ _ q => q) fun _ _ q => q.elim
/-- a for over one name, by the library's walks -/
theorem r_forS {I : Addr} {fp wr : List Addr} {n : Nat} {P : Nat → Value → Prop} {St : Nat → Heap → Prop} (W : Walks P0 w A I fp wr n P St) (J : Nat → Heap → Prop)
    {x : Str} {px : Pos} {body orelse : List Stmt} {Q : Flow → Shared → Prop}
    (fr : ∀ i h h', J i h → St i h → Kp wr h h' → J i h')
    (turn : ∀ i v h t, i < n → P i v → J i h → St (i + 1) h → wpAny (model P0 w) A (storeName env x v) (fun _ s₂ => wpAny (model P0 w) A (execs body env) (fun f s₃ => match f with
      | .next | .cont => ∃ h' t', s₃ = ⟨h', G, D, t', O⟩ ∧ J (i + 1) h' ∧ St (i + 1) h'
      | .brk => Q .next s₃
      | .ret v => Q (.ret v) s₃) NoE s₂) NoE ⟨h, G, D, t, O⟩)
    (done : ∀ h t, J n h → wpAny (model P0 w) A (execs orelse env) Q NoE ⟨h, G, D, t, O⟩) (j : J 0 h) (s0 : St 0 h) :
    codeAny (model P0 w) A (.forLoop (.Name x px) (.ref I) body orelse env) (fun r s' => match r with | .ok f => Q f s' | .error e => cameBackBy (model P0 w) A env NoE e s') ⟨h, G, D, t, O⟩ := by
  refine codeAny_forLoop_any (fun k s => ∃ i h t, s = ⟨h, G, D, t, O⟩ ∧ k = n - i ∧ i ≤ n ∧ J i h ∧ St i h) ?_ n ⟨0, h, t, rfl, rfl, Nat.zero_le _, j, s0⟩
  rintro k s ⟨i, h, t, rfl, rfl, hi, j, s0⟩
  by_cases hlt : i < n
  · refine W.item i _ _ _ hlt s0 fun v h' tk hP st' hk => ?_
    refine wpAny_of_eq (a := ()) (by rfl) ?_
    refine wpAny_assign_Name ?_
    refine wpAny_mono (turn i v h' tk hlt hP (fr i h h' j s0 fun b o nb e => hk b o nb e) st') (fun _ s₂ h₂ => wpAny_mono h₂ (fun f s₃ h₃ => ?_) fun _ _ q => q.elim) fun _ _ q => q.elim
    cases f with
    | next => obtain ⟨h₄, t₄, rfl, j', s'⟩ := h₃; exact ⟨n - (i + 1), by omega, i + 1, h₄, t₄, rfl, rfl, hlt, j', s'⟩
    | cont => obtain ⟨h₄, t₄, rfl, j', s'⟩ := h₃; exact ⟨n - (i + 1), by omega, i + 1, h₄, t₄, rfl, rfl, hlt, j', s'⟩
    | brk => exact h₃
    | ret v => exact h₃
  · have : i = n := by omega
    subst this
    refine W.done _ _ _ s0 fun h' tk hk => ?_
    exact wpAny_mono (done h' tk (fr _ h h' j s0 fun b o nb e => hk b o nb e)) (fun _ _ q => q) fun _ _ q => q.elim
end
end

-- L2
section
noncomputable abbrev FSt := List Int × List (Nat × Int)
noncomputable abbrev FRes := Except (Option Int) FSt
/-- a shot of the search at place i -/
noncomputable def shotP (rows : List Int) (ln : Nat) (mask : Int) (i : Nat) (st : FSt) : FRes :=
  if (Builtin.bitAnd (mask.fdiv (2 ^ i)) 1 != 0) = true then
    (if (movedI mask i rows 7 == 0) = true then .error (some ((ln : Int) + 1))
    else if (st.1.contains (movedI mask i rows 7)) = true then .ok st
    else if 0 ≤ movedI mask i rows 7 ∧ movedI mask i rows 7 < 128 ∧ ln < 500 ∧ st.2.length < 500 ∧ st.1.length < 500 then .ok (st.1 ++ [movedI mask i rows 7], st.2 ++ [(ln + 1, movedI mask i rows 7)])
    else .error none)
  else .ok st
noncomputable def restP (rows : List Int) (ln : Nat) (mask : Int) : Nat → Nat → FSt → FRes
  | _, 0, st => .ok st
  | i, k + 1, st => match shotP rows ln mask i st with
    | .ok st' => restP rows ln mask (i + 1) k st'
    | .error e => .error e
noncomputable def levelP (rows : List Int) : List (Nat × Int) → FSt → FRes
  | [], st => .ok st
  | (ln, mask) :: r, st => match restP rows ln mask 0 7 st with
    | .ok st' => levelP rows r st'
    | .error e => .error e
noncomputable def bfsP (rows : List Int) : Nat → FSt → Option Int
  | 0, _ => none
  | f + 1, (met, wait) => if wait.isEmpty then some 0 else match levelP rows wait (met, []) with
    | .ok st => bfsP rows f st
    | .error e => e
/-- the waiting: pairs of a text of so many signs and a set's sign -/
inductive WT (h : Heap) : List Value → List (Nat × Int) → Prop
  | nil : WT h [] []
  | cons {b : Addr} {s : Str} {k : Int} {u v : Tok} {vs : List Value} {ps : List (Nat × Int)} (e : TU h b [.str s u, .str ⟨#[(19968 + k).toNat]⟩ v]) (n : 0 ≤ 19968 + k) (z : s.length ≤ 500) (r : WT h vs ps) : WT h (.ref b :: vs) ((s.length, k) :: ps)
noncomputable def Tg (h : Heap) (c : Addr) : Prop := ∀ vs, ¬ TU h c vs
theorem WT.kp {W : List Addr} {h h' : Heap} (k : Kp W h h') (n : ∀ c ∈ W, Tg h c) : ∀ {vs : List Value} {ps : List (Nat × Int)}, WT h vs ps → WT h' vs ps
  | _, _, .nil => .nil
  | _, _, .cons e a z r => .cons (e.kp k fun m => n _ m _ e) a z (r.kp k n)
theorem WT.ex {h h' : Heap} (k : Ex h h') {vs : List Value} {ps : List (Nat × Int)} (x : WT h vs ps) : WT h' vs ps := x.kp k (by simp)
theorem WT.snoc {h : Heap} {b : Addr} {s : Str} {k : Int} {u v : Tok} (e : TU h b [.str s u, .str ⟨#[(19968 + k).toNat]⟩ v]) (n : 0 ≤ 19968 + k) (z : s.length ≤ 500) : ∀ {vs : List Value} {ps : List (Nat × Int)}, WT h vs ps → WT h (vs ++ [.ref b]) (ps ++ [(s.length, k)])
  | _, _, .nil => .cons e n z .nil
  | _, _, .cons e' a z' r => .cons e' a z' (r.snoc e n z)
theorem WT.length {h : Heap} : ∀ {vs : List Value} {ps : List (Nat × Int)}, WT h vs ps → vs.length = ps.length
  | _, _, .nil => rfl
  | _, _, .cons _ _ _ r => by simp [r.length]
theorem WT.get {h : Heap} : ∀ {vs : List Value} {ps : List (Nat × Int)}, WT h vs ps → ∀ {i : Nat} {v : Value}, vs[i]? = some v → ∃ b s k u u2, v = .ref b ∧ ps[i]? = some (s.length, k) ∧ TU h b [.str s u, .str ⟨#[(19968 + k).toNat]⟩ u2] ∧ 0 ≤ 19968 + k ∧ s.length ≤ 500
  | _, _, .nil, i, v, e => by simp at e
  | _, _, .cons x n z r, 0, v, e => by simp at e; subst e; exact ⟨_, _, _, _, _, rfl, rfl, x, n, z⟩
  | _, _, .cons x n z r, i + 1, v, e => by simp at e; obtain ⟨b, s, k, u, u2, a1, a2, a3⟩ := r.get e; exact ⟨b, s, k, u, u2, a1, by simpa using a2, a3⟩
theorem tg_cls {h : Heap} {c : Addr} {o : Obj} (e : h.get? c = some o) (n : o.cls ≠ .type "tuple") : Tg h c := fun vs ⟨k, q⟩ => by rw [e] at q; cases q; exact n rfl
theorem tg_ns {h : Heap} {c : Addr} {m : Str → Option Value} (x : h.Ns c m) : Tg h c := fun vs ⟨k, q⟩ => by
  obtain ⟨o, es, ep, e, d, _⟩ := x
  rw [q] at e; cases e; cases d
theorem tg_it {h : Heap} {I a : Addr} {vs : Array Value} {i : Nat} (x : LSt I a vs i h) : Tg h I := by
  obtain ⟨⟨o, e, c, _⟩, _⟩ := x
  exact tg_cls e (by rw [c]; decide)
theorem tg_rg {h : Heap} {I : Addr} {a : Int} {n i : Nat} (x : RSt I a n i h) : Tg h I := tg_cls x (show Value.type "range_iterator" ≠ .type "tuple" by decide)
theorem tg_acc {h : Heap} {x d : Addr} {vs : List Value} (a : Acc h x d vs) : Tg h x := by
  obtain ⟨⟨c, e⟩, _⟩ := a
  exact tg_cls e (show Value.ref 152 ≠ .type "tuple" by decide)
structure SQ (w : World) (h₀ : Heap) (L x d dm ra : Addr) (h : Heap) (m : Str → Option Value) (met : List Int) (wait : List (Nat × Int)) : Prop where
  F : Fx h₀ L h m
  e1 : m "rows" = some (.ref ra)
  e2 : m "waiting" = some (.ref x)
  e3 : m "met" = some (.ref dm)
  acc : ∃ vs, Acc h x d vs ∧ WT h vs wait
  dic : ∃ kvs, h.DictOf (intKind P0 w) dm kvs ∧ kvs.map (·.1) = met
structure Apt (h₀ : Heap) (L x d dm : Addr) : Prop where
  nx : h₀.get? x = none
  nd : h₀.get? d = none
  nm : h₀.get? dm = none
  xL : x ≠ L
  dL : d ≠ L
  mL : dm ≠ L
  mx : dm ≠ x
  md : dm ≠ d
  sys : (dm == sysModules) = false
section
variable {w : World} {A : Around} {G : Array GenState} {D : Drawn} {O : OsState} {h h' h₀ : Heap} {t : Nat} {env : Env} {m : Str → Option Value} {L x d dm ra : Addr} {met : List Int} {wait : List (Nat × Int)}
theorem dic_kp {W : List Addr} {kvs : List (Int × Value)} (e : h.DictOf (intKind P0 w) dm kvs) (k : Kp W h h') (n : dm ∉ W) : h'.DictOf (intKind P0 w) dm kvs := by
  obtain ⟨o, es, ep, e, r⟩ := e
  exact ⟨o, es, ep, k _ _ n e, r⟩
theorem dic_cls {kvs : List (Int × Value)} (e : h.DictOf (intKind P0 w) dm kvs) : ∃ o, h.get? dm = some o ∧ o.cls = .type "dict" := by
  obtain ⟨o, es, ep, e, x, _⟩ := e
  exact ⟨o, e, x.1⟩
theorem SQ.other {c : Addr} (s : SQ w h₀ L x d dm ra h m met wait) (k : Kp [c] h h') (n : h₀.get? c = none) (c1 : c ≠ L) (c2 : c ≠ x) (c3 : c ≠ d) (c4 : c ≠ dm) (tg : Tg h c) : SQ w h₀ L x d dm ra h' m met wait := by
  obtain ⟨F, e1, e2, e3, ⟨vs, a, wt⟩, kvs, dc, em⟩ := s
  refine ⟨F.mut k (by simpa using c1.symm) (by simpa using n), e1, e2, e3, ⟨vs, a.kp k (by simpa using c2.symm) (by simpa using c3.symm), wt.kp k (by simpa using tg)⟩, kvs, dic_kp dc k (by simpa using c4.symm), em⟩
theorem SQ.ex (s : SQ w h₀ L x d dm ra h m met wait) (k : Ex h h') : SQ w h₀ L x d dm ra h' m met wait := by
  obtain ⟨F, e1, e2, e3, ⟨vs, a, wt⟩, kvs, dc, em⟩ := s
  exact ⟨F.ex k, e1, e2, e3, ⟨vs, a.ex k, wt.ex k⟩, kvs, dic_kp dc k (by simp), em⟩
theorem SQ.st {m' : Str → Option Value} (s : SQ w h₀ L x d dm ra h m met wait) (p : Apt h₀ L x d dm) (F' : Fx h₀ L h' m') (k : Kp [L] h h') (e1 : m' "rows" = some (.ref ra)) (e2 : m' "waiting" = some (.ref x)) (e3 : m' "met" = some (.ref dm)) :
    SQ w h₀ L x d dm ra h' m' met wait := by
  obtain ⟨F, _, _, _, ⟨vs, a, wt⟩, kvs, dc, em⟩ := s
  exact ⟨F', e1, e2, e3, ⟨vs, a.kp k (by simpa using p.xL) (by simpa using p.dL), wt.kp k (by simpa using tg_ns F.ns)⟩, kvs, dic_kp dc k (by simpa using p.mL), em⟩
theorem valueAt_some {kvs : List (Int × Value)} {k : Int} : (valueAt kvs k).isSome = (kvs.map (·.1)).contains k := by
  unfold valueAt
  induction kvs with
  | nil => rfl
  | cons a r ih =>
    simp only [List.find?_cons, List.map_cons, List.contains_cons]
    by_cases h : a.1 = k
    · simp [h]
    · have h' : (k == a.1) = false := by simpa using Ne.symm h
      simp only [h, decide_false, h', Bool.false_or]
      exact ih
theorem stored_new {kvs : List (Int × Value)} {k : Int} {v : Value} (n : (kvs.map (·.1)).contains k = false) : (stored kvs k v).map (·.1) = kvs.map (·.1) ++ [k] := by
  unfold stored
  rw [if_neg]
  · simp
  · intro q
    rw [List.any_eq_true] at q
    obtain ⟨y, hy, e⟩ := q
    have : k ∈ kvs.map (·.1) := List.mem_map.mpr ⟨y, hy, by simpa using e⟩
    rw [← List.contains_iff_mem, n] at this
    cases this
end
end

-- L3
section
section
variable {w : World} {A : Around} {G : Array GenState} {D : Drawn} {O : OsState} {h h' h₀ : Heap} {t : Nat} {env : Env} {m : Str → Option Value} {L x d dm ra : Addr} {met : List Int} {wait : List (Nat × Int)}
theorem r_slen {s : Str} {u : Tok} {Q : Value → Shared → Prop} (z : s.length ≤ 1000) (q : ∀ u t, Q (.int s.length u) ⟨h, G, D, t, O⟩) : wpAny (model P0 w) A (call (.builtin "len") [.str s u]) Q NoE ⟨h, G, D, t, O⟩ :=
  len_str (by omega) (q _ _)
theorem r_push2 {o e1 e2 : Expr} {apos pos : Pos} {pl : Sem Bool} {Q : Value → Shared → Prop}
    (he : eval (.Call (.Attribute o (Str.ofString "push") apos) [e1, e2] [] pos) env = (do
      let ov ← attributeBase o (Str.ofString "push") env (eval o env)
      standAt apos.atName
      let (f, first) ← holding [ov] (getMethod ov (Str.ofString "push") pl)
      callWith pos f first (backTo pos (starEach [e1, e2] env)) [])) (hbase : attributeBase o (Str.ofString "push") env (eval o env) = eval o env)
    (hs : starEach [e1, e2] env = (false, eval e1 env) :: starEach [e2] env) (hs2 : (backTo pos (starEach [e2] env)).any (·.1) = false)
    (hh : Room A 1) {hB : Heap} (XB : KB w hB) (q : wpAny (model P0 w) A (eval o env) (fun ov s₁ => ∃ x d h1 t1, ov = .ref x ∧ hB.get? x = none ∧ s₁ = ⟨h1, G, D, t1, O⟩ ∧ KB w h1 ∧ (∃ xs, Acc h1 x d xs) ∧
      wpAny (model P0 w) A (spliced (backTo pos (starEach [e1, e2] env))) (fun vs s₂ => ∃ xs u tu v tv h2 t2, vs = [.str u tu, .str v tv] ∧ s₂ = ⟨h2, G, D, t2, O⟩ ∧ Ex hB h2 ∧ Acc h2 x d xs ∧ xs.length ≤ 1000 ∧
       ∀ b h' t', TU h' b [.str u tu, .str v tv] → Acc h' x d (xs ++ [.ref b]) → Kp [x] h2 h' → Q .none ⟨h', G, D, t', O⟩) NoE ⟨h1, G, D, t1, O⟩) NoE ⟨h, G, D, t, O⟩) :
    wpAny (model P0 w) A (eval (.Call (.Attribute o (Str.ofString "push") apos) [e1, e2] [] pos) env) Q NoE ⟨h, G, D, t, O⟩ := by
  refine r_mcall he hbase (wpAny_mono q (fun ov s₁ k => ?_) fun _ _ e => e)
  obtain ⟨x, d, h1, t1, rfl, nx, rfl, X, ⟨xs, a⟩, k⟩ := k
  refine acc_meth X a (by kernel_rfl) (f := 96) (by kernel_rfl) (by decide) ?_
  refine callWith_K (K := KH w.params) X (by kernel_rfl) (wpAny_mono k (fun vs s₂ k => ?_) fun _ _ e => e) hs hs2
  obtain ⟨xs, u, tu, v, tv, h2, t2, rfl, rfl, x2, a2, z, k⟩ := k
  exact ⟨XB.ex x2, push_spec XB x2 nx hh a2 z fun b h' t' _ _ tb ab kb => k b h' t' tb ab kb⟩
noncomputable def fFew (P : Params) : FuncData := (fdat (o191 P)).getD default
/-- a number's key in a display -/
theorem r_dict1 {k v : Int} {k1 k2 : Nat} {p1 p2 pos : Pos} {Q : Value → Shared → Prop} (q : ∀ dm h' t' u, dm = h.objs.size → h.get? dm = none → Ex h h' → h'.DictOf (intKind P0 w) dm [(k, .int v u)] → Q (.ref dm) ⟨h', G, D, t', O⟩) :
    wpAny (model P0 w) A (eval (.Dict [some (.Constant (.int k) k1 p1)] [.Constant (.int v) k2 p2] pos) env) Q NoE ⟨h, G, D, t, O⟩ := by
  refine wpAny_Dict_pairs (knd := intKind P0 w) (pairs := [(eval (.Constant (.int k) k1 p1) env, do let x ← eval (.Constant (.int v) k2 p2) env; standAt pos; pure x)]) (by rfl) (by simp) (by simp) ?_
  refine wpAny_bind (r_int ?_)
  intro u1 t1
  refine wpAny_bind (wpAny_holding (wpAny_bind (r_int ?_)))
  intro u2 t2
  refine wpAny_bind (wpAny_standAt (wpAny_pure ?_))
  refine wpAny_bind (wpAny_holding (wpAny_pure (wpAny_pure ?_)))
  refine ⟨[(k, .int v u2)], ⟨by simp [intKind, Value.isInt], rfl, trivial⟩, Heap.DictOf.new h, fun h' a b => ?_⟩
  refine q _ h' _ u2 rfl (Heap.get?_none_of_le (Nat.le_refl _)) (fun b' o _ e => ?_) a
  exact (b.2 b' (Nat.ne_of_lt (Heap.lt_size e))).trans (Heap.get?_push_of_some _ e)
end
end

-- L4
section
section
variable {w : World} {A : Around} {G : Array GenState} {D : Drawn} {O : OsState} {h h' h₀ : Heap} {t : Nat} {env : Env} {m : Str → Option Value} {L x d dm ra : Addr} {met : List Int} {wait : List (Nat × Int)}
set_option maxHeartbeats 1000000 in
theorem few_start {rows : List Int} {Q : Value → Shared → Prop} (X : KB w h) (hh : Room A 3) (hr : IL h ra rows)
   (k : ∀ env h1 t1 x d dm m, Ev env (topd 18).2.2 → Apt h env.locals x d dm → SQ w h env.locals x d dm ra h1 m [127] [(0, 127)] →
      wpAny (model P0 w) (A.deeper env) (execs [stm 18 3, stm 18 4] env) (fun fl s' => Q (match fl with | .ret v => v | _ => .none) s') NoE ⟨h1, G, D, t1, O⟩) :
   wpAny (model P0 w) A (call (.ref 191) [.ref ra]) Q NoE ⟨h, G, D, t, O⟩ := by
  refine r_call (fo := o191 w.params) (fd := fFew w.params) (body := [stm 18 0, stm 18 1, stm 18 2, stm 18 3, stm 18 4]) (binds := [("rows", .ref ra)]) X
    (by kernel_rfl) (by kernel_rfl) (by kernel_rfl) (by kernel_rfl) hh.lt (fun t => .of_eq (by kernel_rfl)) (by kernel_rfl) (by kernel_rfl) (by kernel_rfl) (by kernel_rfl) (by kernel_rfl) (by kernel_rfl) (by kernel_rfl) fun env h1 t' V hc F => ?_
  have V' : Ev env (topd 18).2.2 := V
  replace k := k env
  have hh := hh.deeper env
  generalize hm : (fun y => List.lookup y [((Str.ofString "rows"), Value.ref ra)].reverse) = m at F
  have e1 : m "rows" = some (.ref ra) := by rw [← hm]; rfl
  clear hm
  have hk : env.scope.kind = .function := by rw [V'.sc]; kernel_rfl
  have k1 : env.kindOf "rows" = some .local := V'.kind (by kernel_rfl)
  have k2 : env.kindOf "waiting" = some .local := V'.kind (by kernel_rfl)
  have k3 : env.kindOf "met" = some .local := V'.kind (by kernel_rfl)
  have k4 : env.kindOf "_Accumulator" = some .globalImplicit := V'.kind (by kernel_rfl)
  have k5 : env.kindOf "chr" = some .globalImplicit := V'.kind (by kernel_rfl)
  refine wpAny_execs_cons ?_
  refine wpAny_Assign_Name ?_
  refine wpAny_Call_NameR ?_
  refine r_glob (X.ex F.keep) hk k4 V'.g (v := .ref 152) (by kernel_rfl) ?_
  refine callWith_K0 (K := KH w.params) (X.ex F.keep) (by kernel_rfl) ?_
  refine acc_spec (X.ex F.keep) (hh.less (by decide)) ?_
  intro x d h2 t2 nx nd k6 a2
  have nx0 := Ex.old F.keep nx
  have nd0 := Ex.old F.keep nd
  obtain ⟨oL, eL⟩ := F.live
  have xL : x ≠ env.locals := (ne_new nx eL).symm
  have dL : d ≠ env.locals := (ne_new nd eL).symm
  replace F := F.ex k6
  have F0 := F
  refine r_st F hk k2 ?_
  intro h3 t3 F k7
  have a3 := a2.kp k7 (by simpa using xL) (by simpa using dL)
  refine wpAny_execs_cons ?_
  refine wpAny_Expr_any ?_ (intr hk) (by rfl)
  refine r_push2 rfl (by rfl) (by rfl) (by rfl) (hh.less (by decide)) X ?_
  walk_at "ld"
  refine ⟨x, d, _, _, rfl, nx0, rfl, X.ex F.keep, ⟨_, a3⟩, ?_⟩
  repeat walk_at "e"
  refine wpAny_Call_NameR ?_
  refine r_blt (X.ex F.keep) hk k5 V'.g V'.b (by kernel_rfl) (v := .builtin "chr") (by kernel_rfl) ?_
  refine PyProof.Rows.callWith_builtin1 ?_
  repeat walk_at "e"
  refine args_nil ?_
  refine r_chr (by decide) (by decide) ?_
  intro u5 t5
  refine args_nil ?_
  refine ⟨_, _, _, _, _, _, _, rfl, rfl, F.keep, a3, by simp, ?_⟩
  intro b h4 t4 tb a4 k8
  replace F := F.mut k8 (by simpa using xL.symm) (by simpa using nx0)
  refine wpAny_execs_cons ?_
  refine wpAny_Assign_Name ?_
  refine r_dict1 ?_
  intro dm h5 t5 u6 sz nm k9 dc
  have nm0 := Ex.old F.keep nm
  have mL : dm ≠ env.locals := by obtain ⟨o, e⟩ := F.live; exact (ne_new nm e).symm
  have mx : dm ≠ x := by obtain ⟨⟨c, e⟩, _⟩ := a4; exact (ne_new nm e).symm
  have md : dm ≠ d := by obtain ⟨_, o, e, _⟩ := a4; exact (ne_new nm e).symm
  have sys : (dm == sysModules) = false := by
    refine beq_eq_false_iff_ne.mpr fun e => ?_
    have := Heap.lt_size ((X.ex F.keep) 2 (boot_o_2 w.params) (by kernel_rfl))
    rw [← sz, e] at this
    exact absurd this (by decide)
  replace F := F.ex k9
  have tb5 := tb.ex k9
  refine r_st F hk k3 ?_
  intro h6 t6 F' k10
  have bL : b ≠ env.locals := fun e => tg_ns F.ns _ (e ▸ tb5)
  refine k h6 _ x d dm _ V' ⟨nx0, nd0, nm0, xL, dL, mL, mx, md, sys⟩ ⟨F', by walk_at "hv", by walk_at "hv", by walk_at "hv", ⟨_, (a4.ex k9).kp k10 (by simpa using xL) (by simpa using dL), ?_⟩, ⟨_, dic_kp dc k10 (by simpa using mL), rfl⟩⟩
  exact .cons (s := ⟨#[]⟩) (k := 127) (tb5.kp k10 (by simpa using bL)) (by decide) (by decide) .nil
end
end

-- L5
section
noncomputable def whB : Stmt → List Stmt | .While _ b _ _ => b | _ => []
noncomputable def frB : Stmt → List Stmt | .For _ _ b _ _ => b | _ => []
noncomputable def pairFor : Stmt := (whB (stm 18 3)).getD 0 (.Pass p00)
noncomputable def aimFor : Stmt := (frB pairFor).getD 1 (.Pass p00)
section
variable {w : World} {A : Around} {G : Array GenState} {D : Drawn} {O : OsState} {h h' h₀ : Heap} {t : Nat} {env : Env} {m : Str → Option Value} {L x d dm ra : Addr} {met : List Int} {wait : List (Nat × Int)}
theorem notin_dict {kvs : List (Int × Value)} {k : Int} {u : Tok} {Q : Value → Shared → Prop} (hd : (dm == sysModules) = false) (e : h.DictOf (intKind P0 w) dm kvs)
    (q : ∀ t, Q (.bool (!((kvs.map (·.1)).contains k))) ⟨h, G, D, t, O⟩) : wpAny (model P0 w) A (compareOp .NotIn (.int k u) (.ref dm)) Q NoE ⟨h, G, D, t, O⟩ := by
  refine wpAny_notIn_of (knd := intKind P0 w) (k := k) (by simp [intKind, Value.isInt]) hd e.mapOf ?_
  rw [valueAt_some]
  exact q _
theorem set_dict1 {kvs : List (Int × Value)} {k : Int} {u : Tok} {v : Value} {Q : Unit → Shared → Prop} (e : h.DictOf (intKind P0 w) dm kvs) (n : (kvs.map (·.1)).contains k = false) (z : kvs.length ≤ 10000)
    (q : ∀ h' t' kvs', h'.DictOf (intKind P0 w) dm kvs' → kvs'.map (·.1) = kvs.map (·.1) ++ [k] → Kp [dm] h h' → Q () ⟨h', G, D, t', O⟩) : wpAny (model P0 w) A (setItem (.ref dm) (.int k u) v) Q NoE ⟨h, G, D, t, O⟩ :=
  wpAny_setItem_pairs (knd := intKind P0 w) (k := k) (by simp [intKind, Value.isInt]) e (fun h' a b => q _ _ _ a (stored_new n) (kp_same b)) (szl z)
set_option maxHeartbeats 2000000 in
theorem few_aims {rows : List Int} {RR : FRes} {Q : Flow → Shared → Prop} {C : Heap → Prop} {mask : Int} {sh : Str} {u1 u2 : Tok} {h1 : Heap} {t1 : Nat} (X : KB w h) (hh : Room A 2) (hr : IL h ra rows) (hl : rows.length = 7) (zs : sh.length ≤ 1000) (V : Ev env (topd 18).2.2)
   (p : Apt h env.locals x d dm) (s : SQ w h env.locals x d dm ra h1 m met wait) (e4 : m "mask" = some (.int mask u1)) (e5 : m "shots" = some (.str sh u2)) (hres : restP rows sh.length mask 0 7 (met, wait) = RR) (c1 : C h1)
   (hCx : ∀ h h', C h → Ex h h' → C h') (hC : ∀ h h' c, C h → Kp [c] h h' → Tg h c → (c = env.locals ∨ c = x ∨ c = dm ∨ h1.get? c = none) → C h')
   (kn : ∀ st h' m' t', RR = .ok st → SQ w h env.locals x d dm ra h' m' st.1 st.2 → C h' → Q .next ⟨h', G, D, t', O⟩)
   (kr : ∀ r u h' t', RR = .error (some r) → Ex h h' → Q (.ret (.int r u)) ⟨h', G, D, t', O⟩) (ks : RR ≠ .error none) :
   wpAny (model P0 w) A (exec aimFor env) Q NoE ⟨h1, G, D, t1, O⟩ := by
  have hk : env.scope.kind = .function := by rw [V.sc]; kernel_rfl
  have q1 : env.kindOf "rows" = some .local := V.kind (by kernel_rfl)
  have q2 : env.kindOf "waiting" = some .local := V.kind (by kernel_rfl)
  have q3 : env.kindOf "met" = some .local := V.kind (by kernel_rfl)
  have q4 : env.kindOf "mask" = some .local := V.kind (by kernel_rfl)
  have q5 : env.kindOf "shots" = some .local := V.kind (by kernel_rfl)
  have q6 : env.kindOf "aim" = some .local := V.kind (by kernel_rfl)
  have q7 : env.kindOf "after" = some .local := V.kind (by kernel_rfl)
  have g1 : env.kindOf "range" = some .globalImplicit := V.kind (by kernel_rfl)
  have g2 : env.kindOf "_law_moved" = some .globalImplicit := V.kind (by kernel_rfl)
  have g3 : env.kindOf "len" = some .globalImplicit := V.kind (by kernel_rfl)
  have g4 : env.kindOf "chr" = some .globalImplicit := V.kind (by kernel_rfl)
  refine wpAny_For ?_
  refine wpAny_Call_NameR ?_
  refine r_blt (X.ex s.F.keep) hk g1 V.g V.b (by kernel_rfl) (v := .type "range") (by kernel_rfl) ?_
  refine PyProof.Rows.callWith_type1 ?_
  iterate 2 walk_at "e"
  refine args_nil ?_
  refine r_range1 ?_
  intro r h2 t2 nr x2 hr1
  refine r_iterRange (a := 0) (n := 7) (by rfl) hr1 ?_
  intro I h3 nI x3 st3
  have s3 := (s.ex x2).ex x3
  have c3 := hCx _ _ (hCx _ _ c1 x2) x3
  have I1 : h1.get? I = none := Ex.old x2 nI
  have I0 : h.get? I = none := Ex.old s.F.keep I1
  have nIs : I ≠ env.locals ∧ I ≠ x ∧ I ≠ d ∧ I ≠ dm := by
    obtain ⟨F, _, _, _, ⟨vs, ⟨⟨c, ex⟩, o, ed, _⟩, _⟩, kvs, dc, _⟩ := s
    obtain ⟨o2, eL⟩ := F.live
    obtain ⟨o3, em, _⟩ := dic_cls dc
    exact ⟨(ne_new I1 eL).symm, (ne_new I1 ex).symm, (ne_new I1 ed).symm, (ne_new I1 em).symm⟩
  refine r_forS (walkRange hh.hd I 0 7) (fun i h' => ∃ m st, SQ w h env.locals x d dm ra h' m st.1 st.2 ∧ m "mask" = some (.int mask u1) ∧ m "shots" = some (.str sh u2) ∧ restP rows sh.length mask i (7 - i) st = RR ∧ C h') ?_ ?_ ?_
    ⟨m, (met, wait), s3, e4, e5, hres, c3⟩ st3
  · rintro i h' h'' ⟨m, st, s, a1, a2, a3, a4⟩ st5 k
    have a5 := tg_rg st5
    exact ⟨m, st, s.other k I0 nIs.1 nIs.2.1 nIs.2.2.1 nIs.2.2.2 a5, a1, a2, a3, hC _ _ _ a4 k a5 (.inr (.inr (.inr I1)))⟩
  · rintro i v h' t hi ⟨ui, rfl⟩ ⟨m, st, s, e4, e5, hres, cc⟩ st'
    rw [show (0 : Int) + (i : Int) * 1 = (i : Int) by omega]
    obtain ⟨j, hj⟩ : ∃ j, 7 - i = j + 1 := ⟨6 - i, by omega⟩
    have hj' : 7 - (i + 1) = j := by omega
    rw [hj] at hres
    rw [hj']
    have iL : I ≠ env.locals := nIs.1
    have rsf : ∀ {h h' : Heap} {c : Addr}, RSt I 0 7 (i + 1) h → Kp [c] h h' → I ≠ c → RSt I 0 7 (i + 1) h' := fun st k n => k _ _ (by simpa using n) st
    have rsx : ∀ {h h' : Heap}, RSt I 0 7 (i + 1) h → Ex h h' → RSt I 0 7 (i + 1) h' := fun st k => k.get st
    refine r_st s.F hk q6 ?_
    intro h4 t4 F4 k4
    have c4 := hC _ _ env.locals cc k4 (tg_ns s.F.ns) (.inl rfl)
    replace s := s.st p F4 k4 (by have := s.e1; walk_at "hv") (by have := s.e2; walk_at "hv") (by have := s.e3; walk_at "hv")
    have st4 := rsf st' k4 iL
    replace e4 : up m (Str.ofString "aim") (.int i ui) "mask" = _ := up_ne (by decide) e4
    replace e5 : up m (Str.ofString "aim") (.int i ui) "shots" = _ := up_ne (by decide) e5
    have e6 : up m (Str.ofString "aim") (.int i ui) "aim" = some (.int i ui) := up_eq
    generalize up m (Str.ofString "aim") (.int i ui) = m at s e4 e5 e6 F4
    clear k4 st' cc
    have hs : (match shotP rows sh.length mask i st with | .ok st' => restP rows sh.length mask (i + 1) j st' | .error e => .error e) = RR := hres
    clear hres
    refine wpAny_execs_cons ?_
    refine wpAny_If ?_
    refine wpAny_isTrue_value ?_
    repeat walk_at "e"
    refine r_shr (by omega) ?_
    intro u t
    repeat walk_at "e"
    rw [show ((i : Int).toNat) = i from rfl]
    refine if_b (fun b => ?_) fun b => ?_
    · have hm := s.F
      refine wpAny_execs_cons ?_
      refine wpAny_Assign_Name ?_
      refine wpAny_Call_NameR ?_
      refine r_glob (X.ex s.F.keep) hk g2 V.g (v := .ref 184) (by kernel_rfl) ?_
      refine r_cw (fo := o184 w.params) (fd := fMoved w.params) (by kernel_rfl) (by kernel_rfl) ?_
      have e1 := s.e1
      iterate 6 walk_at "e"
      refine args_nil ?_
      refine ⟨X.ex s.F.keep, moved_spec (rows := rows) (X.ex s.F.keep) (hh.less (by decide)) (hr.ex s.F.keep) hl ?_⟩
      intro u5 h5 t5 k5
      have s5 := s.ex k5
      have c5 := hCx _ _ c4 k5
      have st5 := rsx st4 k5
      generalize hA : movedI mask (i : Int) rows 7 = af
      refine r_st s5.F hk q7 ?_
      intro h6 t6 F6 k6
      have c6 := hC _ _ env.locals c5 k6 (tg_ns s5.F.ns) (.inl rfl)
      have st6 := rsf st5 k6 iL
      have s6 := s5.st p F6 k6 (by have := s.e1; walk_at "hv") (by have := s.e2; walk_at "hv") (by have := s.e3; walk_at "hv")
      replace e4 : up m (Str.ofString "after") (.int af u5) "mask" = _ := up_ne (by decide) e4
      replace e5 : up m (Str.ofString "after") (.int af u5) "shots" = _ := up_ne (by decide) e5
      have e7 : up m (Str.ofString "after") (.int af u5) "after" = some (.int af u5) := up_eq
      generalize up m (Str.ofString "after") (.int af u5) = m at s6 e4 e5 e7 F6
      clear k6 s5 c5 st5 k5 s c4 st4 e6 hm e1
      unfold shotP at hs
      rw [if_pos b, hA] at hs
      refine wpAny_execs_cons ?_
      refine wpAny_If ?_
      refine wpAny_isTrue_Compare1 ?_
      repeat walk_at "e"
      refine if_b (fun b2 => ?_) fun b2 => ?_
      · rw [if_pos b2] at hs
        have ez : sh.length ≤ 1000 := zs
        refine wpAny_execs_cons ?_
        refine wpAny_Return_some ?_
        refine wpAny_BinOp ?_
        refine wpAny_Call_NameR ?_
        refine r_blt (X.ex s6.F.keep) hk g3 V.g V.b (by kernel_rfl) (v := .builtin "len") (by kernel_rfl) ?_
        refine PyProof.Rows.callWith_builtin1 ?_
        have F6 := s6.F
        iterate 2 walk_at "e"
        refine args_nil ?_
        refine r_slen ez ?_
        intro u7 t7
        repeat walk_at "e"
        exact kr _ _ _ _ hs.symm s6.F.keep
      · rw [if_neg (by rw [b2]; decide)] at hs
        refine wpAny_execs_nil ?_
        refine wpAny_execs_cons ?_
        refine wpAny_If ?_
        refine wpAny_isTrue_Compare1 ?_
        have e3 := s6.e3
        have F6 := s6.F
        repeat walk_at "e"
        obtain ⟨kvs, dc, em⟩ := s6.dic
        refine notin_dict p.sys dc ?_
        intro t8
        repeat walk_at "e"
        rw [em]
        refine if_b (fun b3 => ?_) fun b3 => ?_
        · have b4 : st.1.contains af = false := by simpa using b3
          rw [if_neg (by rw [b4]; decide)] at hs
          by_cases bd : 0 ≤ af ∧ af < 128 ∧ sh.length < 500 ∧ st.2.length < 500 ∧ st.1.length < 500
          · rw [if_pos bd] at hs
            obtain ⟨d1, d2, d3, d4, d5⟩ := bd
            obtain ⟨vs, a6, wt6⟩ := s6.acc
            have e2 := s6.e2
            have mtg : Tg h6 dm := by obtain ⟨o, e, ec⟩ := dic_cls dc; exact tg_cls e (by rw [ec]; decide)
            refine wpAny_execs_cons ?_
            refine wpAny_Assign_Subscript ?_ (by rfl)
            iterate 3 walk_at "e"
            refine set_dict1 dc (by rw [em]; exact b4) (by rw [← List.length_map (f := (·.1)), em]; omega) ?_
            intro h7 t7 kvs7 dc7 em7 k7
            have F7 := F6.mut k7 (by simpa using p.mL.symm) (by simpa using p.nm)
            have a7 := a6.kp k7 (by simpa using p.mx.symm) (by simpa using p.md.symm)
            have wt7 := wt6.kp k7 (by simpa using mtg)
            have c7 := hC _ _ dm c6 k7 mtg (.inr (.inr (.inl rfl)))
            have st7 := rsf st6 k7 nIs.2.2.2
            have er := s6.e1
            clear s6 c6 st6 F6 a6 wt6 k7 mtg dc
            refine wpAny_execs_cons ?_
            refine wpAny_Expr_any ?_ (intr hk) (by rfl)
            refine r_push2 rfl (by rfl) (by rfl) (by rfl) (hh.less (by decide)) X ?_
            walk_at "ld"
            refine ⟨x, d, _, _, rfl, p.nx, rfl, X.ex F7.keep, ⟨_, a7⟩, ?_⟩
            iterate 3 walk_at "e"
            walk_at "e"
            refine r_sadd (szl (by have : (Str.ofString " ").length = 1 := (by decide); omega)) ?_
            intro u8 t8
            refine args_cons ?_
            refine wpAny_Call_NameR ?_
            refine r_blt (X.ex F7.keep) hk g4 V.g V.b (by kernel_rfl) (v := .builtin "chr") (by kernel_rfl) ?_
            refine PyProof.Rows.callWith_builtin1 ?_
            repeat walk_at "e"
            refine args_nil ?_
            refine r_chr (by omega) (by omega) ?_
            intro u9 t9
            refine args_nil ?_
            have lw := wt7.length
            refine ⟨_, _, _, _, _, _, _, rfl, rfl, F7.keep, a7, by omega, ?_⟩
            intro b h8 t8 tb a8 k8
            have xtg := tg_acc a7
            refine wpAny_execs_nil (wpAny_execs_nil (wpAny_execs_nil ?_))
            have ln : (sh ++ Str.ofString " ").length = sh.length + 1 := by
              show (sh.cps ++ (Str.ofString " ").cps).size = _
              rw [Array.size_append]
              rfl
            refine ⟨h8, _, rfl, ⟨m, (st.1 ++ [af], st.2 ++ [(sh.length + 1, af)]), ⟨F7.mut k8 (by simpa using p.xL.symm) (by simpa using p.nx), er, e2, e3, ⟨_, a8, ?_⟩, ⟨kvs7, dic_kp dc7 k8 (by simpa using p.mx), em7.trans (by rw [em])⟩⟩, e4, e5, hs, hC _ _ x c7 k8 xtg (.inr (.inl rfl))⟩, rsf st7 k8 nIs.2.1⟩
            have := (wt7.kp k8 (by simpa using xtg)).snoc tb (by omega) (by omega)
            rwa [ln] at this
          · rw [if_neg bd] at hs
            exact absurd hs.symm ks
        · refine wpAny_execs_nil (wpAny_execs_nil (wpAny_execs_nil ?_))
          rw [if_pos (by simpa using b3)] at hs
          exact ⟨h6, _, rfl, ⟨m, st, s6, e4, e5, hs, c6⟩, st6⟩
    · refine wpAny_execs_nil (wpAny_execs_nil ?_)
      refine ⟨h4, _, rfl, ⟨m, st, s, e4, e5, ?_, c4⟩, st4⟩
      unfold shotP at hs
      rw [if_neg (by rw [b]; decide)] at hs
      exact hs
  · rintro h' t' ⟨m, st, s, e4, e5, hres, cc⟩
    exact wpAny_execs_nil (kn st h' m t' (by rw [← hres]; rfl) s cc)
end
end

-- L6
section
section
variable {w : World} {A : Around} {G : Array GenState} {D : Drawn} {O : OsState} {h h' h₀ : Heap} {t : Nat} {env : Env} {m : Str → Option Value} {L x d dm ra : Addr} {met : List Int} {wait : List (Nat × Int)}
theorem r_popfrom {o : Expr} {apos pos : Pos} {pl : Sem Bool} {Q : Value → Shared → Prop}
    (he : eval (.Call (.Attribute o (Str.ofString "pop_from") apos) [] [] pos) env = (do
      let ov ← attributeBase o (Str.ofString "pop_from") env (eval o env)
      standAt apos.atName
      let (f, first) ← holding [ov] (getMethod ov (Str.ofString "pop_from") pl)
      callWith pos f first (backTo pos (starEach [] env)) [])) (hbase : attributeBase o (Str.ofString "pop_from") env (eval o env) = eval o env)
    (hh : Room A 1) {hB : Heap} (XB : KB w hB) (q : wpAny (model P0 w) A (eval o env) (fun ov s₁ => ∃ x d xs h1 t1, ov = .ref x ∧ s₁ = ⟨h1, G, D, t1, O⟩ ∧ hB.get? x = none ∧ Ex hB h1 ∧ Acc h1 x d xs ∧ xs.length ≤ 10000 ∧
      ∀ b h' t', h1.get? b = none → PL h' b xs → Acc h' x d [] → Kp [x] h1 h' → Q (.ref b) ⟨h', G, D, t', O⟩) NoE ⟨h, G, D, t, O⟩) :
    wpAny (model P0 w) A (eval (.Call (.Attribute o (Str.ofString "pop_from") apos) [] [] pos) env) Q NoE ⟨h, G, D, t, O⟩ := by
  refine r_mcall he hbase (wpAny_mono q (fun ov s₁ k => ?_) fun _ _ e => e)
  obtain ⟨x, d, xs, h1, t1, rfl, rfl, nx, xB, a, z, k⟩ := k
  refine acc_meth (XB.ex xB) a (by kernel_rfl) (f := 104) (by kernel_rfl) (by decide) ?_
  refine callWith_K0 (K := KH w.params) (XB.ex xB) (by kernel_rfl) ?_
  exact popfrom_spec XB xB nx hh a z k
set_option maxHeartbeats 2000000 in
theorem few_pair {rows : List Int} {RR : FRes} {Q : Flow → Shared → Prop} {pend : List (Nat × Int)} {h1 : Heap} {t1 : Nat} (X : KB w h) (hh : Room A 2) (hr : IL h ra rows) (hl : rows.length = 7) (V : Ev env (topd 18).2.2)
   (p : Apt h env.locals x d dm) (s : SQ w h env.locals x d dm ra h1 m met pend) (hz : pend.length ≤ 1000) (hres : levelP rows pend (met, []) = RR)
   (kn : ∀ st h' m' t', RR = .ok st → SQ w h env.locals x d dm ra h' m' st.1 st.2 → Q .next ⟨h', G, D, t', O⟩)
   (kr : ∀ r u h' t', RR = .error (some r) → Ex h h' → Q (.ret (.int r u)) ⟨h', G, D, t', O⟩) (ks : RR ≠ .error none) :
   wpAny (model P0 w) A (exec pairFor env) Q NoE ⟨h1, G, D, t1, O⟩ := by
  have hk : env.scope.kind = .function := by rw [V.sc]; kernel_rfl
  have q2 : env.kindOf "waiting" = some .local := V.kind (by kernel_rfl)
  have q4 : env.kindOf "mask" = some .local := V.kind (by kernel_rfl)
  have q5 : env.kindOf "shots" = some .local := V.kind (by kernel_rfl)
  have q6 : env.kindOf "sign" = some .local := V.kind (by kernel_rfl)
  have g3 : env.kindOf "ord" = some .globalImplicit := V.kind (by kernel_rfl)
  obtain ⟨F1, e1, e2, e3, ⟨vs, a1, wt1⟩, kvs, dc, em⟩ := s
  have lw := wt1.length
  refine wpAny_For ?_
  refine r_popfrom rfl (by rfl) (hh.less (by decide)) X ?_
  walk_at "ld"
  refine ⟨x, d, vs, _, _, rfl, rfl, p.nx, F1.keep, a1, by omega, ?_⟩
  intro b h2 t2 nb pb a2 k2
  have bs : b ≠ env.locals ∧ b ≠ x ∧ b ≠ d ∧ b ≠ dm := by
    obtain ⟨⟨c, ex⟩, o, ed, _⟩ := a1
    obtain ⟨o2, eL⟩ := F1.live
    obtain ⟨o3, em, _⟩ := dic_cls dc
    exact ⟨(ne_new nb eL).symm, (ne_new nb ex).symm, (ne_new nb ed).symm, (ne_new nb em).symm⟩
  have wt2 := wt1.kp k2 (by simpa using tg_acc a1)
  have s2 : SQ w h env.locals x d dm ra h2 m met [] := ⟨F1.mut k2 (by simpa using p.xL.symm) (by simpa using p.nx), e1, e2, e3, ⟨[], a2, .nil⟩, kvs, dic_kp dc k2 (by simpa using p.mx), em⟩
  clear a1 a2 wt1 dc F1
  refine r_iterList pb.isList ?_
  intro I h3 nI x3 st3
  have s3 := s2.ex x3
  have wt3 := wt2.ex x3
  have I0 : h.get? I = none := Ex.old s2.F.keep nI
  have nIs : I ≠ env.locals ∧ I ≠ x ∧ I ≠ d ∧ I ≠ dm ∧ b ≠ I := by
    obtain ⟨F, _, _, _, ⟨vs, ⟨⟨c, ex⟩, o, ed, _⟩, _⟩, kvs, dc, _⟩ := s2
    obtain ⟨o2, eL⟩ := F.live
    obtain ⟨o3, em, _⟩ := dic_cls dc
    obtain ⟨o4, eb⟩ := pl_live pb
    exact ⟨(ne_new nI eL).symm, (ne_new nI ex).symm, (ne_new nI ed).symm, (ne_new nI em).symm, ne_new nI eb⟩
  clear s2 wt2 x3 pb
  have lsf : ∀ {h h' : Heap} {c : Addr} {j : Nat}, LSt I b vs.toArray j h → Kp [c] h h' → I ≠ c → b ≠ c → LSt I b vs.toArray j h' := fun st k n n' =>
    ⟨st.1.at fun o e => k _ _ (by simpa using n) e, isl_kp st.2 k (by simpa using n')⟩
  have lsx : ∀ {h h' : Heap} {j : Nat}, LSt I b vs.toArray j h → Ex h h' → LSt I b vs.toArray j h' := fun st k => ⟨st.1.at fun o e => k.get e, isl_ex st.2 k⟩
  refine r_forT hh.hd nIs.2.2.2.2 (fun i h' => ∃ m st, SQ w h env.locals x d dm ra h' m st.1 st.2 ∧ WT h' vs pend ∧ levelP rows (pend.drop i) st = RR) ?_ ?_ ?_ ⟨m, (met, []), s3, wt3, hres⟩ st3
  · rintro i h' h'' ⟨m, st, s, wt, hres⟩ st5 k
    exact ⟨m, st, s.other k I0 nIs.1 nIs.2.1 nIs.2.2.1 nIs.2.2.2.1 (tg_it st5), wt.kp k (by simpa using tg_it st5), hres⟩
  · rintro i v h' t hi hv ⟨m, st, s, wt, hres⟩ st5
    obtain ⟨c, sh, k, u, u2, rfl, hp, tb, nk, zk⟩ := wt.get (by simpa using hv)
    refine ⟨c, _, _, rfl, tb.is, ?_⟩
    intro h6 x6
    have s := s.ex x6
    have wt := wt.ex x6
    have st5 := lsx st5 x6
    have hd : pend.drop i = (sh.length, k) :: pend.drop (i + 1) := by
      obtain ⟨hi', e⟩ := List.getElem?_eq_some_iff.mp hp
      rw [List.drop_eq_getElem_cons hi', e]
    rw [hd] at hres
    have hs : (match restP rows sh.length k 0 7 st with | .ok st' => levelP rows (pend.drop (i + 1)) st' | .error e => .error e) = RR := hres
    clear hres hd tb x6
    have er := s.e1
    have ew := s.e2
    have et := s.e3
    refine r_st s.F hk q5 ?_
    intro h7 t7 F7 k7
    have wt7 := wt.kp k7 (by simpa using tg_ns s.F.ns)
    have st7 := lsf st5 k7 nIs.1 bs.1
    have s7 := s.st p F7 k7 (by walk_at "hv") (by walk_at "hv") (by walk_at "hv")
    clear s wt st5 k7
    refine r_st F7 hk q6 ?_
    intro h8 t8 F8 k8
    have wt8 := wt7.kp k8 (by simpa using tg_ns F7.ns)
    have st8 := lsf st7 k8 nIs.1 bs.1
    have s8 := s7.st p F8 k8 (by walk_at "hv") (by walk_at "hv") (by walk_at "hv")
    clear s7 wt7 st7 k8 F7
    refine wpAny_execs_cons ?_
    refine wpAny_Assign_Name ?_
    refine wpAny_BinOp ?_
    refine wpAny_Call_NameR ?_
    refine r_blt (X.ex F8.keep) hk g3 V.g V.b (by kernel_rfl) (v := .builtin "ord") (by kernel_rfl) ?_
    refine PyProof.Rows.callWith_builtin1 ?_
    iterate 2 walk_at "e"
    refine args_nil ?_
    refine r_ord ?_
    intro u9 t9
    walk_at "e"
    refine r_sub ?_
    intro u10 t10
    rw [show (((19968 + k).toNat : Int) - 19968) = k by omega]
    refine r_st F8 hk q4 ?_
    intro h9 t9 F9 k9
    have wt9 := wt8.kp k9 (by simpa using tg_ns F8.ns)
    have st9 := lsf st8 k9 nIs.1 bs.1
    have s9 := s8.st p F9 k9 (by walk_at "hv") (by walk_at "hv") (by walk_at "hv")
    clear s8 wt8 st8 k9 F8
    refine wpAny_execs_cons ?_
    obtain ⟨oI, eI, _⟩ := id st9.1
    obtain ⟨ob, eb, _⟩ := id st9.2
    refine few_aims (RR := restP rows sh.length k 0 7 st) (C := fun h' => WT h' vs pend ∧ LSt I b vs.toArray (i + 1) h') X hh hr hl (by omega) V p s9 (by walk_at "hv") (by walk_at "hv") rfl ⟨wt9, st9⟩ (fun h h' c k => ⟨c.1.ex k, lsx c.2 k⟩) ?_ ?_ ?_ ?_
    · rintro g g' c ⟨c1, c2⟩ k tg hc
      refine ⟨c1.kp k (by simpa using tg), lsf c2 k ?_ ?_⟩
      · rcases hc with rfl | rfl | rfl | hc
        · exact nIs.1
        · exact nIs.2.1
        · exact nIs.2.2.2.1
        · exact ne_new hc eI
      · rcases hc with rfl | rfl | rfl | hc
        · exact bs.1
        · exact bs.2.1
        · exact bs.2.2.2
        · exact ne_new hc eb
    · intro st' h' m' t' e s' c'
      rw [e] at hs
      exact wpAny_execs_nil ⟨h', t', rfl, ⟨m', st', s', c'.1, hs⟩, c'.2⟩
    · intro r u h' t' e k'
      rw [e] at hs
      exact kr _ _ _ _ hs.symm k'
    · intro e
      rw [e] at hs
      exact ks hs.symm
  · rintro h' t' ⟨m, st, s, wt, hres⟩
    have e0 : pend.drop vs.toArray.size = [] := by rw [List.drop_eq_nil_iff]; simp [lw]
    rw [e0] at hres
    exact wpAny_execs_nil (kn st h' m t' hres.symm s)
end
end

-- L7
section
theorem shot_len {rows : List Int} {ln i : Nat} {mask : Int} {st st' : FSt} (z : st.2.length ≤ 500) (e : shotP rows ln mask i st = .ok st') : st'.2.length ≤ 500 := by
  unfold shotP at e
  split at e
  · split at e
    · cases e
    · split at e
      · cases e; exact z
      · split at e
        · rename_i hb
          cases e
          simp only [List.length_append, List.length_cons, List.length_nil]
          omega
        · cases e
  · cases e; exact z
theorem rest_len {rows : List Int} {ln : Nat} {mask : Int} : ∀ (k i : Nat) {st st' : FSt}, st.2.length ≤ 500 → restP rows ln mask i k st = .ok st' → st'.2.length ≤ 500
  | 0, _, st, st', z, e => by cases e; exact z
  | k + 1, i, st, st', z, e => by
    unfold restP at e
    split at e
    · rename_i e'; exact rest_len k (i + 1) (shot_len z e') e
    · cases e
theorem level_len {rows : List Int} : ∀ {l : List (Nat × Int)} {st st' : FSt}, st.2.length ≤ 500 → levelP rows l st = .ok st' → st'.2.length ≤ 500
  | [], st, st', z, e => by cases e; exact z
  | (ln, mask) :: r, st, st', z, e => by
    unfold levelP at e
    split at e
    · rename_i e'; exact level_len (rest_len 7 0 z e') e
    · cases e
section
variable {w : World} {A : Around} {G : Array GenState} {D : Drawn} {O : OsState} {h h' h₀ : Heap} {t : Nat} {env : Env} {m : Str → Option Value} {L x d dm ra : Addr} {met : List Int} {wait : List (Nat × Int)}
set_option maxHeartbeats 2000000 in
theorem fewest_spec {rows : List Int} {n : Nat} {r : Int} {Q : Value → Shared → Prop} (X : KB w h) (hh : Room A 3) (hr : IL h ra rows) (hl : rows.length = 7) (hres : bfsP rows n ([127], [(0, 127)]) = some r)
   (q : ∀ u h' t', Ex h h' → Q (.int r u) ⟨h', G, D, t', O⟩) :
   wpAny (model P0 w) A (call (.ref 191) [.ref ra]) Q NoE ⟨h, G, D, t, O⟩ := by
  refine few_start X hh hr ?_
  intro env h1 t1 x d dm m V p s
  have hh := hh.deeper env
  have hk : env.scope.kind = .function := by rw [V.sc]; kernel_rfl
  have q2 : env.kindOf "waiting" = some .local := V.kind (by kernel_rfl)
  refine wpAny_execs_cons ?_
  refine wpAny_While ?_
  refine r_while (fun n h' => ∃ m met wait, SQ w h env.locals x d dm ra h' m met wait ∧ wait.length ≤ 500 ∧ bfsP rows n (met, wait) = some r) ?_ n ⟨m, _, _, s, by simp, hres⟩
  clear s hres
  rintro n h1 t1 ⟨m, met, wait, s, hz, hres⟩
  obtain ⟨vs, a, wt⟩ := id s.acc
  have lw := wt.length
  have e2 := s.e2
  have F := s.F
  refine wpAny_isTrue_Compare1 ?_
  refine r_count rfl (by rfl) (hh.less (by decide)) ?_
  walk_at "ld"
  refine ⟨x, d, vs, _, _, rfl, rfl, X.ex s.F.keep, a, ?_⟩
  intro u h2 t2 k2
  have s2 := s.ex k2
  repeat walk_at "e"
  obtain ⟨n, rfl⟩ : ∃ k, n = k + 1 := by
    cases n with
    | zero => cases hres
    | succ k => exact ⟨k, rfl⟩
  have hs : (if wait.isEmpty then some 0 else match levelP rows wait (met, []) with | .ok st => bfsP rows n st | .error e => e) = some r := hres
  clear hres
  refine if_b (fun b => ?_) fun b => ?_
  · have hw : wait.isEmpty = false := by
      cases wait with
      | nil => rw [lw] at b; simp at b
      | cons _ _ => rfl
    rw [hw, if_neg (by decide)] at hs
    refine wpAny_execs_cons ?_
    refine few_pair (RR := levelP rows wait (met, [])) X hh hr hl V p s2 (by omega) rfl ?_ ?_ ?_
    · intro st h' m' t' e s'
      rw [e] at hs
      by_cases z : st.2.length ≤ 500
      · exact wpAny_execs_nil ⟨n, h', t', rfl, Nat.lt_succ_self _, m', st.1, st.2, s', z, hs⟩
      · exact absurd (level_len (by simp) e) z
    · intro r' u h' t' e k'
      rw [e] at hs
      cases hs
      exact q _ _ _ k'
    · intro e
      rw [e] at hs
      cases hs
  · have hw : wait = [] := by
      cases wait with
      | nil => rfl
      | cons _ _ => rw [lw] at b; simp at b
    subst hw
    have : r = 0 := by simpa using hs.symm
    subst this
    refine wpAny_execs_nil ?_
    refine wpAny_execs_cons ?_
    refine wpAny_Return_some ?_
    repeat walk_at "e"
    exact q _ _ _ s2.F.keep
end
end

-- C1
section
section
variable {w : World} {A : Around} {G : Array GenState} {D : Drawn} {O : OsState} {h h' h₀ : Heap} {t : Nat} {env : Env} {m : Str → Option Value}
/-- what a comprehension over a walked iterator asks: the iterator's walk, then for each list and frame what holds turn by turn -/
noncomputable def CompQ (w : World) (A : Around) (G : Array GenState) (D : Drawn) (O : OsState) (ifs : List Expr) (elt : Expr) (x : Str) (scope : Scope) (cl : List (Str × Addr)) (env : Env) (use : Option (Value → Sem Unit)) (Q : Value → Shared → Prop) (it : Value) (s₂ : Shared) : Prop :=
  ∃ (I : Addr) (n : Nat) (fp : List Addr) (P : Nat → Value → Prop) (St : Nat → Heap → Prop) (M : List Addr) (h1 : Heap) (t1 : Nat), it = .ref I ∧ s₂ = ⟨h1, G, D, t1, O⟩ ∧ Walks P0 w A I fp [I] n P St ∧ St 0 h1 ∧ n ≤ 10000 ∧
    (∀ b ∈ fp ++ M, ∃ o, h1.get? b = some o) ∧ (∀ b ∈ fp, b ∉ M) ∧ (∀ i h, St i h → ∃ o, h.get? I = some o) ∧
    ∀ a C, h1.get? a = none → h1.get? C = none → a ≠ C → ∃ J : Nat → Heap → List Value → Prop,
      (∀ h2, Ex h1 h2 → J 0 h2 []) ∧
      (∀ i h' h'' vs c, J i h' vs → Kp (I :: M) h1 h' → (c = I ∨ c = a ∨ c = C) → Kp [c] h' h'' → J i h'' vs) ∧
      (∀ i v h' t' vs m, i < n → P i v → J i h' vs → Kp (I :: M) h1 h' → h'.Ns C m → m x = some v → (∃ o, h'.get? a = some o) → (∃ o, h'.get? I = some o) →
        wpAny (model P0 w) A (forIn ifs true fun c r => if r = true then do let ok ← isTrue c (compEnvC scope cl C env) (eval c (compEnvC scope cl C env)); pure (ForInStep.yield ok) else pure (ForInStep.yield r)) (fun ok s₃ =>
          if ok = true then wpAny (model P0 w) A (eval elt (compEnvC scope cl C env)) (fun y s₄ => ∃ h4 t4, s₄ = ⟨h4, G, D, t4, O⟩ ∧ J (i + 1) h4 (vs ++ [y]) ∧ Kp M h' h4) NoE s₃
          else ∃ h4 t4, s₃ = ⟨h4, G, D, t4, O⟩ ∧ J (i + 1) h4 vs ∧ Kp M h' h4) NoE ⟨h', G, D, t', O⟩) ∧
      (∀ h' t' vs m, J n h' vs → Kp (I :: M) h1 h' → PL h' a vs → h'.Ns C m → match use with
        | none => ∀ h'', Kp [C] h' h'' → Q (.ref a) ⟨h'', G, D, t', O⟩
        | some u => wpAny (model P0 w) A (u (.ref a)) (fun _ s'' => ∃ m, s''.heap.Ns C m ∧ ∀ h'', Heap.SameBut C s''.heap h'' → Q .none { s'' with heap := h'' }) NoE ⟨h', G, D, t', O⟩)
set_option maxHeartbeats 1000000 in
theorem comp_core {elt iter : Expr} {x : Str} {px : Pos} {ifs : List Expr} {scope : Scope} {cl : List (Str × Addr)} {pos fpos : Pos} {use : Option (Value → Sem Unit)} {Q : Value → Shared → Prop}
    (hclos : closureFor scope env = pure cl) (hcell : scope.names.all (fun y => y.2 != .cell) = true) (hkind : scope.kind = .function) (hnames : scope.names.all (fun y => y.2 != .local || scope.names.lookup y.1 == some .local) = true)
    (hx : scope.names.lookup x = some .local) (hs : ∀ x, foldedSetIterable iter env x = pure x)
    (q : wpAny (model P0 w) A (eval iter env) (fun xv s₁ => wpAny (model P0 w) A (pyIter xv) (CompQ w A G D O ifs elt x scope cl env use Q) NoE s₁) NoE ⟨h, G, D, t, O⟩) :
    wpAny (model P0 w) A (comprehension (.ListComp elt [⟨.Name x px, iter, ifs, 0⟩] scope pos) scope env fpos (newList []) false (eval iter env) use) Q NoE ⟨h, G, D, t, O⟩ := by
  have hcell' : ∀ y ∈ scope.names, y.2 ≠ .cell := fun y hy => by have := List.all_eq_true.mp hcell y hy; simpa using this
  have hnames' : ∀ y ∈ scope.names, y.2 = .local → scope.names.lookup y.1 = some .local := fun y hy e => by
    have := List.all_eq_true.mp hnames y hy
    rw [e] at this
    simpa using this
  refine wpAny_comprehension_free (use := use) rfl hs hclos hkind hnames' (wpAny_mono q (fun xv s₁ k => wpAny_mono k (fun it s₂ k => ?_) fun _ _ e => e) fun _ _ e => e)
  obtain ⟨I, n, fp, P, St, M, h1, t1, rfl, rfl, W, st, hn, live, nM, sI, k⟩ := k
  refine wpAny_newObj_type (wpAny_newFunctionEnv hcell' (by intro y hy; simp at hy) (fun h₁ hns₁ hsb₁ => ?_) hkind)
  dsimp only at hns₁ hsb₁ ⊢
  generalize hH2 : h1.push { cls := .type "list", dict := none, data := .seq ([] : List Value).toArray } = H2 at hns₁ hsb₁ ⊢
  have hC : H2.objs.size = h1.objs.size + 1 := by rw [← hH2, Heap.size_push]
  have na : h1.get? h1.objs.size = none := Heap.get?_none_of_le (Nat.le_refl _)
  have nC : h1.get? H2.objs.size = none := Heap.get?_none_of_le (by rw [hC]; exact Nat.le_succ _)
  have naC : h1.objs.size ≠ H2.objs.size := by rw [hC]; exact Nat.ne_of_lt (Nat.lt_succ_self _)
  have k1 : Ex h1 h₁ := fun b o _ e => hsb₁.extBut b o (ne_new nC e) (Heap.get?_push_of_some _ (hH2 ▸ Heap.get?_push_of_some _ e))
  have pa : PL h₁ h1.objs.size [] := ⟨0, hsb₁.extBut _ _ naC (Heap.get?_push_of_some _ (hH2 ▸ Heap.get?_push_size _ rfl))⟩
  generalize h1.objs.size = a at na naC pa
  generalize H2.objs.size = C at nC naC hns₁ hsb₁
  clear hH2 hC
  obtain ⟨J, j0, jst, turn, done⟩ := k a C na nC naC
  have fpl : ∀ b ∈ fp, b ≠ a ∧ b ≠ C ∧ b ∉ M := fun b hb => by
    obtain ⟨o, e⟩ := live b (List.mem_append_left _ hb)
    exact ⟨ne_new na e, ne_new nC e, nM b hb⟩
  have Ml : a ∉ M ∧ C ∉ M := by
    constructor
    · intro q; obtain ⟨o, e⟩ := live _ (List.mem_append_right _ q); rw [na] at e; cases e
    · intro q; obtain ⟨o, e⟩ := live _ (List.mem_append_right _ q); rw [nC] at e; cases e
  have If : I ∈ fp := W.sub I (by simp)
  obtain ⟨Ia, IC, IM⟩ := fpl I If
  have loop : ∀ s₃ : Shared, (∃ t, s₃ = ⟨h₁, G, D, t, O⟩) →
      codeAny (model P0 w) A (.compLoop (.ListComp elt [⟨.Name x px, iter, ifs, 0⟩] scope pos) 0 (.ref I) (.ref a) (compEnvC scope cl C env)) (compPost (model P0 w) A NoE use Q (.ref a) C) s₃ := by
    rintro s₃ ⟨t3, rfl⟩
    refine codeAny_compLoop_tests (fun k s' => ∃ h' tk i vs m', s' = ⟨h', G, D, tk, O⟩ ∧ i ≤ n ∧ k = n + 1 - i ∧ vs.length ≤ i ∧ St i h' ∧ h'.Ns C m' ∧ PL h' a vs ∧ J i h' vs ∧ Kp (I :: M) h1 h') ?_ (n + 1)
      ⟨h₁, _, 0, [], _, rfl, Nat.zero_le _, rfl, Nat.le_refl _, W.frame _ _ _ st fun b _ o e => k1.get e, hns₁, pa, j0 _ k1, k1.kp⟩
    rintro k s' ⟨h', tk, i, vs, m', rfl, hi, rfl, hvl, st', hn', pl, j, kp⟩
    by_cases hlt : i < n
    · refine W.item i _ _ _ hlt st' fun v h₂ tk₂ hPv st₂ hk₂ => ?_
      have k2 : Kp [I] h' h₂ := fun b o nb e => hk₂ b o nb e
      have j2 := jst _ _ _ _ I j kp (.inl rfl) k2
      have kp2 : Kp (I :: M) h1 h₂ := kp.trans (k2.mono (by simp))
      have pl2 := pl_kp pl k2 (by simpa using Ia.symm)
      refine wpAny_assign_Name (wpAny_storeName_local (lookup_relabel_local hx) (hn'.at' fun o e => hk₂ _ o (by simpa using IC.symm) e) (fun h₃ hn₃ hs₃ => ?_) (by simp [compEnvC, relabel, hkind]))
      have k3 : Kp [C] h₂ h₃ := kp_same hs₃
      have j3 := jst _ _ _ _ C j2 kp2 (.inr (.inr rfl)) k3
      have kp3 : Kp (I :: M) h1 h₃ := fun b o nb e => k3 b o (by simpa using ne_new nC e) (kp2 b o nb e)
      have pl3 := pl_kp pl2 k3 (by simpa using naC)
      have st3 : St (i + 1) h₃ := W.frame _ _ _ st₂ fun b hb o e => k3 b o (by simpa using (fpl b hb).2.1) e
      obtain ⟨oa, ea⟩ := pl_live pl3
      refine wpAny_mono (turn i v h₃ _ vs _ hlt hPv j3 kp3 hn₃ (by simp) ⟨oa, ea⟩ (sI _ _ st3)) (fun ok s₄ k4 => ?_) fun _ _ e => e.elim
      have fin : ∀ {h4 : Heap} {t4 : Nat} {vs' : List Value}, J (i + 1) h4 vs' → Kp M h₃ h4 → PL h4 a vs' → vs'.length ≤ i + 1 → ∃ m, m < n + 1 - i ∧ ∃ h' tk i vs m', (⟨h4, G, D, t4, O⟩ : Shared) = ⟨h', G, D, tk, O⟩ ∧ i ≤ n ∧ m = n + 1 - i ∧ vs.length ≤ i ∧ St i h' ∧ h'.Ns C m' ∧ PL h' a vs ∧ J i h' vs ∧ Kp (I :: M) h1 h' := fun {h4 t4 vs'} j4 k4 p4 l4 =>
        ⟨n + 1 - (i + 1), by omega, h4, t4, i + 1, vs', _, rfl, hlt, rfl, l4, W.frame _ _ _ st3 fun b hb o e => k4 b o (fpl b hb).2.2 e, hn₃.at' fun o e => k4 _ _ Ml.2 e, p4, j4, kp3.trans (k4.mono fun d hd => List.mem_cons_of_mem _ hd)⟩
      cases ok with
      | true =>
        simp only [if_true] at k4 ⊢
        refine wpAny_mono k4 (fun y s₅ k5 => ?_) fun _ _ e => e.elim
        obtain ⟨h4, t4, rfl, j4, k4⟩ := k5
        have p4 := pl_kp pl3 k4 Ml.1
        refine wpAny_mono (r_push (Q := fun v s' => ∃ h5, s' = ⟨h5, G, D, t4, O⟩ ∧ PL h5 a (vs ++ [y]) ∧ Kp [a] h4 h5) p4 (szl (by omega)) fun h5 p5 k5 => ⟨h5, rfl, p5, k5⟩) (fun _ s₆ k6 => ?_) fun _ _ e => e.elim
        obtain ⟨h5, rfl, p5, k5⟩ := k6
        have kp4 : Kp (I :: M) h1 h4 := kp3.trans (k4.mono fun d hd => List.mem_cons_of_mem _ hd)
        have j5 := jst _ _ _ _ a j4 kp4 (.inr (.inl rfl)) k5
        have st5 : St (i + 1) h5 := W.frame _ _ _ st3 fun b hb o e => k5 b o (by simpa using (fpl b hb).1) (k4 b o (fpl b hb).2.2 e)
        have hn5 := hn₃.at' (h' := h5) fun o e => k5 C o (by simpa using naC.symm) (k4 C o Ml.2 e)
        exact ⟨n + 1 - (i + 1), by omega, h5, t4, i + 1, _, _, rfl, hlt, rfl, by simp; omega, st5, hn5, p5, j5, fun b o nb e => k5 b o (by simpa using ne_new na e) (kp4 b o nb e)⟩
      | false =>
        simp only [Bool.false_eq_true, if_false] at k4 ⊢
        obtain ⟨h4, t4, rfl, j4, k4⟩ := k4
        exact fin j4 k4 (pl_kp pl3 k4 Ml.1) (by omega)
    · obtain rfl : i = n := by omega
      refine W.done _ _ _ st' fun h₂ tk₂ hk₂ => ?_
      have k2 : Kp [I] h' h₂ := fun b o nb e => hk₂ b o nb e
      have j2 := jst _ _ _ _ I j kp (.inl rfl) k2
      have kp2 : Kp (I :: M) h1 h₂ := kp.trans (k2.mono (by simp))
      have pl2 := pl_kp pl k2 (by simpa using Ia.symm)
      have hn2 : h₂.Ns C m' := hn'.at' fun o e => hk₂ _ o (by simpa using IC.symm) e
      have d := done h₂ tk₂ vs m' j2 kp2 pl2 hn2
      unfold compPost
      cases use with
      | none => exact ⟨m', hn2, fun h'' hs => d h'' (kp_same hs)⟩
      | some u => exact d
  exact codeAny_compStart_list (loop _ ⟨_, rfl⟩) (W.self 0 _ _ _ (W.frame _ _ _ st fun b _ o e => k1.get e) (loop _ ⟨_, rfl⟩))
end
end

-- C2
section
/-- the law's cells, counted from its frame -/
noncomputable def lawCells (L : Addr) : List (Str × Addr) := cellsFrom (L + 1) (topd 19).2.2.names []
theorem lawCells_eq (L : Addr) : lawCells L = [(Str.ofString "turn", L + 8), (Str.ofString "seats", L + 7), (Str.ofString "aims", L + 6), (Str.ofString "feed", L + 5), (Str.ofString "near", L + 4), (Str.ofString "base", L + 3), (Str.ofString "flags", L + 2), (Str.ofString "script", L + 1)] := by
  kernel_rfl
noncomputable def fA (L : Addr) : List Addr := [L, L + 1, L + 2, L + 3, L + 4, L + 5, L + 6, L + 7, L + 8]
theorem pw_inj {l : List (Str × Addr)} (p : l.Pairwise fun x y => x.2 ≠ y.2) {n n' : Str} {c : Addr} (a : (n, c) ∈ l) (b : (n', c) ∈ l) : n = n' := by
  induction p with
  | nil => cases a
  | cons q r ih =>
    rcases List.mem_cons.mp a with e | a'
    · rcases List.mem_cons.mp b with e' | b'
      · rw [← e] at e'; cases e'; rfl
      · exact absurd (by rw [← e]) (q _ b')
    · rcases List.mem_cons.mp b with e' | b'
      · exact absurd (by rw [← e']) (q _ a')
      · exact ih a' b'
theorem mem_lk {l : List (Str × Addr)} {n : Str} {c : Addr} (e : l.lookup n = some c) : (n, c) ∈ l := by
  induction l with
  | nil => cases e
  | cons x r ih =>
    obtain ⟨n', c'⟩ := x
    rw [List.lookup_cons] at e
    split at e
    · rename_i q
      have : n = n' := by simpa using q
      cases e
      rw [this]
      exact List.mem_cons_self
    · exact List.mem_cons_of_mem _ (ih e)
theorem lawCells_pw (L : Addr) : (lawCells L).Pairwise fun x y => x.2 ≠ y.2 := by
  rw [lawCells_eq]
  simp [List.pairwise_cons]
theorem lawCells_in {L : Addr} {n : Str} {c : Addr} (e : (lawCells L).lookup n = some c) : c ∈ fA L ∧ c ≠ L := by
  have m := mem_lk e
  rw [lawCells_eq] at m
  simp only [List.mem_cons, Prod.mk.injEq, List.not_mem_nil, or_false] at m
  unfold fA
  rcases m with ⟨_, rfl⟩ | ⟨_, rfl⟩ | ⟨_, rfl⟩ | ⟨_, rfl⟩ | ⟨_, rfl⟩ | ⟨_, rfl⟩ | ⟨_, rfl⟩ | ⟨_, rfl⟩ <;> exact ⟨by simp, Nat.ne_of_gt (Nat.lt_add_of_pos_right (by decide))⟩
structure LF (h₀ : Heap) (L : Addr) (h : Heap) (m mc : Str → Option Value) : Prop where
  F : Fx h₀ L h m
  cell : ∀ n c, (lawCells L).lookup n = some c → h.IsCell c (mc n)
  live : ∀ c ∈ fA L, ∃ o, h.get? c = some o
  new : ∀ c ∈ fA L, h₀.get? c = none
/-- the law's env -/
structure Lv (env : Env) (L : Addr) : Prop where
  V : Ev env (topd 19).2.2
  loc : env.locals = L
  cells : env.cells = lawCells L
section
variable {w : World} {A : Around} {G : Array GenState} {D : Drawn} {O : OsState} {h h' h₀ : Heap} {t : Nat} {env : Env} {m mc : Str → Option Value} {L : Addr}
theorem LF.ex (l : LF h₀ L h m mc) (k : Ex h h') : LF h₀ L h' m mc :=
  ⟨l.F.ex k, fun n c e => (l.cell n c e).keeps fun b o e => k.get e, fun c hc => let ⟨o, e⟩ := l.live c hc; ⟨o, k.get e⟩, l.new⟩
theorem LF.kp {W : List Addr} (l : LF h₀ L h m mc) (k : Kp W h h') (hW : ∀ c ∈ W, h₀.get? c = none ∧ c ∉ fA L) : LF h₀ L h' m mc := by
  have nf : ∀ c ∈ fA L, c ∉ W := fun c hc q => (hW c q).2 hc
  refine ⟨l.F.mut k (nf L (by simp [fA])) fun c hc => (hW c hc).1, fun n c e => ?_, fun c hc => let ⟨o, e⟩ := l.live c hc; ⟨o, k _ _ (nf c hc) e⟩, l.new⟩
  obtain ⟨o, e1, e2⟩ := l.cell n c e
  exact ⟨o, k _ _ (nf c (lawCells_in e).1) e1, e2⟩
theorem LF.off {a : Addr} (l : LF h₀ L h m mc) (n : h.get? a = none) : a ∉ fA L := fun q => by obtain ⟨o, e⟩ := l.live a q; rw [e] at n; cases n
theorem LF.offOld {a : Addr} {o : Obj} (l : LF h₀ L h m mc) (n : h₀.get? a = some o) : a ∉ fA L := fun q => by rw [l.new a q] at n; cases n
theorem l_ld {x : Str} {pos : Pos} {v : Value} {Q : Value → Shared → Prop} (V : Lv env L) (l : LF h₀ L h m mc) (hx : (topd 19).2.2.names.lookup x = some .local) (hv : m x = some v) (q : Q v ⟨h, G, D, t, O⟩)
    (hd : (x == ("__debug__" : Str)) = false := by decide) : wpAny (model P0 w) A (eval (.Name x pos) env) Q NoE ⟨h, G, D, t, O⟩ :=
  r_ld (h₀ := h₀) (m := m) (by rw [V.loc]; exact l.F) (by rw [V.V.sc]; kernel_rfl) (V.V.kind hx) hv q hd
theorem l_cld {x : Str} {pos : Pos} {v : Value} {c : Addr} {Q : Value → Shared → Prop} (V : Lv env L) (l : LF h₀ L h m mc) (hx : (topd 19).2.2.names.lookup x = some .cell) (hc : (lawCells L).lookup x = some c) (hv : mc x = some v) (q : Q v ⟨h, G, D, t, O⟩)
    (hd : (x == ("__debug__" : Str)) = false := by decide) : wpAny (model P0 w) A (eval (.Name x pos) env) Q NoE ⟨h, G, D, t, O⟩ :=
  wpAny_Name (wpAny_loadName_cell (by rw [V.V.sc]; kernel_rfl) (V.V.kind hx) (by rw [V.cells]; exact hc) (by rw [← hv]; exact l.cell x c hc) q) hd
theorem l_st {x : Str} {v : Value} {Q : Unit → Shared → Prop} (V : Lv env L) (l : LF h₀ L h m mc) (hx : (topd 19).2.2.names.lookup x = some .local)
    (q : ∀ h' t', LF h₀ L h' (up m x v) mc → Kp (fA L) h h' → Q () ⟨h', G, D, t', O⟩) : wpAny (model P0 w) A (storeName env x v) Q NoE ⟨h, G, D, t, O⟩ := by
  refine r_st (h₀ := h₀) (m := m) (by rw [V.loc]; exact l.F) (by rw [V.V.sc]; kernel_rfl) (V.V.kind hx) fun h' t' F k => ?_
  rw [V.loc] at F k
  refine q h' t' ⟨F, fun n c e => ?_, fun c hc => ?_, l.new⟩ (k.mono (by simp [fA]))
  · obtain ⟨o, e1, e2⟩ := l.cell n c e
    exact ⟨o, k _ _ (by simpa using (lawCells_in e).2) e1, e2⟩
  · by_cases hcL : c = L
    · subst hcL; exact F.live
    · obtain ⟨o, e⟩ := l.live c hc; exact ⟨o, k _ _ (by simpa using hcL) e⟩
theorem l_cst {x : Str} {v : Value} {c : Addr} {Q : Unit → Shared → Prop} (V : Lv env L) (l : LF h₀ L h m mc) (hx : (topd 19).2.2.names.lookup x = some .cell) (hc : (lawCells L).lookup x = some c)
    (q : ∀ h' t', LF h₀ L h' m (up mc x v) → Kp (fA L) h h' → Q () ⟨h', G, D, t', O⟩) : wpAny (model P0 w) A (storeName env x v) Q NoE ⟨h, G, D, t, O⟩ := by
  refine wpAny_storeName_cell (by rw [V.V.sc]; kernel_rfl) (V.V.kind hx) (by rw [V.cells]; exact hc) (l.cell x c hc) fun h' ic hs => ?_
  have k : Kp [c] h h' := kp_same hs
  obtain ⟨hcA, hcL⟩ := lawCells_in hc
  refine q h' _ ⟨l.F.mut k (by simpa using hcL.symm) (by simpa using l.new c hcA), fun n c' e => ?_, fun c' hc' => ?_, l.new⟩ (k.mono (by simpa using hcA))
  · by_cases e' : n = x
    · subst e'
      rw [hc] at e; cases e
      rw [up_eq]; exact ic
    · have : c' ≠ c := fun q => e' (pw_inj (lawCells_pw L) (mem_lk (q ▸ e)) (mem_lk hc))
      obtain ⟨o, e1, e2⟩ := l.cell n c' e
      refine ⟨o, k _ _ (by simpa using this) e1, ?_⟩
      rw [e2]
      show _ = Data.cell (if n = x then some v else mc n)
      rw [if_neg e']
  · by_cases e : c' = c
    · subst e; obtain ⟨o, e, _⟩ := ic; exact ⟨o, e⟩
    · obtain ⟨o, e'⟩ := l.live c' hc'; exact ⟨o, k _ _ (by simpa using e) e'⟩
noncomputable def fLaw (P : Params) : FuncData := (fdat (o196 P)).getD default
set_option maxHeartbeats 2000000 in
theorem law_call {sc : Addr} {Q : Value → Shared → Prop} (X : KB w h) (hroom : A.depth < recursionLimit)
    (k : ∀ env L h1 t' m mc, Lv env L → LF h L h1 m mc → mc "script" = some (.ref sc) →
      wpAny (model P0 w) (A.deeper env) (execs (topd 19).2.1 env) (fun fl s' => Q (match fl with | .ret v => v | _ => .none) s') NoE ⟨h1, G, D, t', O⟩) :
    wpAny (model P0 w) A (call (.ref 196) [.ref sc]) Q NoE ⟨h, G, D, t, O⟩ := by
  refine wpAny_call (codeAny_call_cells (fd := fLaw w.params) (body := (topd 19).2.1) (binds := [("script", .ref sc)]) hroom (X 196 (o196 w.params) (by kernel_rfl)) (by kernel_rfl) (nolimit X) (codeRec_of X (by kernel_rfl)) (by kernel_rfl) (by kernel_rfl) (by kernel_rfl)
    (fun x hx => ?_) (fun s₁ ic => ?_) (by kernel_rfl) (by kernel_rfl) (by kernel_rfl))
  · rw [List.mem_singleton] at hx
    subst hx
    exact .inr ⟨by kernel_rfl, by kernel_rfl⟩
  · obtain ⟨h1, t1, rfl, _⟩ := InCallC.done ic
    have kp := ic.toInCall.keep
    have hcells : (callEnvC (fLaw w.params) h.objs.size 196).cells = lawCells h.objs.size := by kernel_rfl
    have hloc : (callEnvC (fLaw w.params) h.objs.size 196).locals = h.objs.size := by kernel_rfl
    have hV : Ev (callEnvC (fLaw w.params) h.objs.size 196) (topd 19).2.2 := ⟨by kernel_rfl, by kernel_rfl, by kernel_rfl⟩
    have cl := ic.cell
    have ns := ic.toInCall.ns
    have hmc : (bindC (callEnvC (fLaw w.params) h.objs.size 196).kindOf [(Str.ofString "script", Value.ref sc)] fun _ => none) (Str.ofString "script") = some (.ref sc) := by kernel_rfl
    dsimp only at cl ns kp ⊢
    rw [hcells] at cl
    rw [hloc] at ns
    generalize (bindC (callEnvC (fLaw w.params) h.objs.size 196).kindOf [(Str.ofString "script", Value.ref sc)] fun _ => none) = mc at cl hmc
    generalize (bindL (callEnvC (fLaw w.params) h.objs.size 196).kindOf [(Str.ofString "script", Value.ref sc)] fun _ => none) = m at ns
    generalize callEnvC (fLaw w.params) h.objs.size 196 = env at *
    clear ic
    have F : Fx h h.objs.size h1 _ := ⟨ns, fun b o _ e => kp b o e, Heap.get?_none_of_le (Nat.le_refl _)⟩
    have live : ∀ c ∈ fA h.objs.size, ∃ o, h1.get? c = some o := by
      intro c hc
      have lk : ∀ n, (lawCells h.objs.size).lookup n = some c → ∃ o, h1.get? c = some o := fun n e => by obtain ⟨o, e', _⟩ := cl n c e; exact ⟨o, e'⟩
      rw [lawCells_eq] at lk
      simp only [fA, List.mem_cons, List.not_mem_nil, or_false] at hc
      rcases hc with rfl | rfl | rfl | rfl | rfl | rfl | rfl | rfl | rfl
      · exact F.live
      · exact lk (Str.ofString "script") (by kernel_rfl)
      · exact lk (Str.ofString "flags") (by kernel_rfl)
      · exact lk (Str.ofString "base") (by kernel_rfl)
      · exact lk (Str.ofString "near") (by kernel_rfl)
      · exact lk (Str.ofString "feed") (by kernel_rfl)
      · exact lk (Str.ofString "aims") (by kernel_rfl)
      · exact lk (Str.ofString "seats") (by kernel_rfl)
      · exact lk (Str.ofString "turn") (by kernel_rfl)
    have new : ∀ c ∈ fA h.objs.size, h.get? c = none := by
      intro c hc
      refine Heap.get?_none_of_le ?_
      simp only [fA, List.mem_cons, List.not_mem_nil, or_false] at hc
      rcases hc with rfl | rfl | rfl | rfl | rfl | rfl | rfl | rfl | rfl <;> first | exact Nat.le_refl _ | exact Nat.le_add_right _ _
    have K := k env h.objs.size h1 t1 m mc ⟨hV, hloc, hcells⟩ ⟨F, cl, live, new⟩ hmc
    clear live new F cl ns k kp X hV hcells hloc
    exact wpAny_mono K (fun _ _ q => q) fun _ _ q => q.elim
end
end

-- C3
section
noncomputable def relS (scope sce : Scope) : Scope :=
  { scope with names := scope.names.map fun (n, k) => if (k == .free && sce.kind == .function && sce.names.lookup n == some .cell) then (n, .cell) else (n, k) }
theorem cev {env : Env} {sce scope : Scope} {cl : List (Str × Addr)} {C : Addr} (V : Ev env sce) : Ev (compEnvC scope cl C env) (relS scope sce) :=
  ⟨by show relabel scope env = _; unfold relabel relS Env.kindOf; rw [V.sc], V.g, V.b⟩
noncomputable def closL (cells : List (Str × Addr)) : List (Str × NameKind) → List (Str × Addr) → Option (List (Str × Addr))
  | [], cs => some cs
  | (n, k) :: r, cs => if k == .free then (cells.lookup n).bind fun c => closL cells r ((n, c) :: cs) else closL cells r cs
theorem clos_of {scope : Scope} {env : Env} {cells cl : List (Str × Addr)} (hc : env.cells = cells) (e : closL cells scope.names [] = some cl) : closureFor scope env = pure cl := by
  unfold closureFor
  generalize ([] : List (Str × Addr)) = acc at e
  revert e acc
  induction scope.names with
  | nil => intro acc e; cases e; rfl
  | cons x r ih =>
    obtain ⟨n, k⟩ := x
    intro acc e
    unfold closL at e
    simp only [List.forIn_cons]
    split at e
    · rename_i hk
      obtain ⟨c, hl, e⟩ := Option.bind_eq_some_iff.mp e
      have hcell : cellOf env n = pure c := by unfold cellOf; rw [hc, hl]
      rw [hcell, if_pos hk]
      exact ih _ e
    · rename_i hk
      rw [if_neg hk]
      exact ih _ e
section
variable {w : World} {A : Around} {G : Array GenState} {D : Drawn} {O : OsState} {h h' h₀ h1 : Heap} {t t1 : Nat} {env : Env} {m mc : Str → Option Value} {L : Addr}
theorem c_ld {x : Str} {pos : Pos} {v : Value} {Q : Value → Shared → Prop} {C : Addr} (hk : env.scope.kind = .function) (hx : env.kindOf x = some .local) (hL : env.locals = C) (ns : h.Ns C m) (hv : m x = some v) (q : Q v ⟨h, G, D, t, O⟩)
    (hd : (x == ("__debug__" : Str)) = false := by decide) : wpAny (model P0 w) A (eval (.Name x pos) env) Q NoE ⟨h, G, D, t, O⟩ :=
  wpAny_Name (wpAny_loadName_local hk hx (by rw [hL]; exact ns) hv q) hd
theorem c_cld {x : Str} {pos : Pos} {v : Value} {c : Addr} {Q : Value → Shared → Prop} (hk : env.scope.kind = .function) (hx : env.kindOf x = some .cell) (hc : env.cells.lookup x = some c) (hv : h.IsCell c (some v)) (q : Q v ⟨h, G, D, t, O⟩)
    (hd : (x == ("__debug__" : Str)) = false := by decide) : wpAny (model P0 w) A (eval (.Name x pos) env) Q NoE ⟨h, G, D, t, O⟩ :=
  wpAny_Name (wpAny_loadName_cell hk hx hc hv q) hd
/-- a comprehension's source: an iterator made for it -/
structure CSrc (w : World) (A : Around) (h h1 : Heap) (I n : Nat) (fp : List Addr) (P : Nat → Value → Prop) (St : Nat → Heap → Prop) : Prop where
  W : Walks P0 w A I fp [I] n P St
  st : St 0 h1
  hn : n ≤ 10000
  live : ∀ b ∈ fp, ∃ o, h1.get? b = some o
  sI : ∀ i h, St i h → ∃ o, h.get? I = some o
  new : h.get? I = none
  ex : Ex h h1
theorem CSrc.range {A : Around} {I : Addr} {n : Nat} (hh : A.handled = none) (st : RSt I 0 n 0 h1) (hn : n ≤ 10000) (new : h.get? I = none) (ex : Ex h h1) : CSrc w A h h1 I n [I] (fun i v => ∃ t, v = .int i t) (RSt I 0 n) := by
  refine ⟨?_, st, hn, fun b hb => ?_, fun i h st => ⟨_, st⟩, new, ex⟩
  · have W := walkRange (w := w) hh I 0 n
    refine ⟨W.sub, W.frame, fun i s Q E hi st k => W.item i s Q E hi st fun v h' tk ⟨t, e⟩ => k v h' tk ⟨t, by rw [e]; congr 1; omega⟩, W.done, W.self⟩
  · rw [List.mem_singleton.mp hb]; exact ⟨_, st⟩
theorem CSrc.list {A : Around} {I a : Addr} {vs : Array Value} (hh : A.handled = none) (nI : a ≠ I) (st : LSt I a vs 0 h1) (hn : vs.size ≤ 10000) (new : h.get? I = none) (ex : Ex h h1) : CSrc w A h h1 I vs.size [I, a] (fun i v => vs[i]? = some v) (LSt I a vs) := by
  refine ⟨walkList hh I a nI vs, st, hn, fun b hb => ?_, fun i h st => let ⟨⟨o, e, _⟩, _⟩ := st; ⟨o, e⟩, new, ex⟩
  simp only [List.mem_cons, List.not_mem_nil, or_false] at hb
  rcases hb with rfl | rfl
  · obtain ⟨o, e, _⟩ := st.1; exact ⟨o, e⟩
  · obtain ⟨o, e, _⟩ := st.2; exact ⟨o, e⟩
/-- a comprehension's env -/
structure Cv (cenv : Env) (sc : Scope) (C : Addr) (cl : List (Str × Addr)) : Prop where
  V : Ev cenv sc
  loc : cenv.locals = C
  cells : cenv.cells = cl
  fn : cenv.scope.kind = .function
theorem cv_ld {cenv : Env} {sc : Scope} {cl : List (Str × Addr)} {x : Str} {pos : Pos} {v : Value} {Q : Value → Shared → Prop} {C : Addr} (V : Cv cenv sc C cl) (hx : sc.names.lookup x = some .local) (ns : h.Ns C m) (hv : m x = some v) (q : Q v ⟨h, G, D, t, O⟩)
    (hd : (x == ("__debug__" : Str)) = false := by decide) : wpAny (model P0 w) A (eval (.Name x pos) cenv) Q NoE ⟨h, G, D, t, O⟩ := c_ld V.fn (V.V.kind hx) V.loc ns hv q hd
theorem cv_cld {cenv : Env} {sc : Scope} {cl : List (Str × Addr)} {x : Str} {pos : Pos} {v : Value} {c : Addr} {Q : Value → Shared → Prop} {C : Addr} (V : Cv cenv sc C cl) (hx : sc.names.lookup x = some .cell) (hc : cl.lookup x = some c) (hv : h.IsCell c (some v)) (q : Q v ⟨h, G, D, t, O⟩)
    (hd : (x == ("__debug__" : Str)) = false := by decide) : wpAny (model P0 w) A (eval (.Name x pos) cenv) Q NoE ⟨h, G, D, t, O⟩ := c_cld V.fn (V.V.kind hx) (by rw [V.cells]; exact hc) hv q hd
/-- one turn of a comprehension whose items are told by T and that makes new objects only -/
noncomputable def Turn (w : World) (A : Around) (G : Array GenState) (D : Drawn) (O : OsState) (ifs : List Expr) (elt : Expr) (cenv : Env) (f : Nat → List Value → Prop) (i : Nat) (vs : List Value) (h : Heap) (t : Nat) : Prop :=
  wpAny (model P0 w) A (forIn ifs true fun c r => if r = true then do let ok ← isTrue c cenv (eval c cenv); pure (ForInStep.yield ok) else pure (ForInStep.yield r)) (fun ok s₃ =>
    if ok = true then wpAny (model P0 w) A (eval elt cenv) (fun y s₄ => ∃ h4 t4, s₄ = ⟨h4, G, D, t4, O⟩ ∧ f (i + 1) (vs ++ [y]) ∧ Ex h h4) NoE s₃
    else ∃ h4 t4, s₃ = ⟨h4, G, D, t4, O⟩ ∧ f (i + 1) vs ∧ Ex h h4) NoE ⟨h, G, D, t, O⟩
theorem compq_pure {ifs : List Expr} {elt : Expr} {x : Str} {scope : Scope} {cl : List (Str × Addr)} {I n : Nat} {fp : List Addr} {P : Nat → Value → Prop} {St : Nat → Heap → Prop} {use : Option (Value → Sem Unit)} {Q : Value → Shared → Prop} {f : Nat → List Value → Prop} {sce : Scope}
    (VE : Ev env sce) (hfn : scope.kind = .function) (S : CSrc w A h h1 I n fp P St) (f0 : f 0 [])
    (turn : ∀ C cenv i v h' t' vs m, Cv cenv (relS scope sce) C cl → i < n → P i v → f i vs → Ex h h' → h'.Ns C m → m x = some v → Turn w A G D O ifs elt cenv f i vs h' t')
    (done : ∀ a C h' t' vs m, h.get? a = none → h.get? C = none → a ≠ C → Ex h h' → PL h' a vs → f n vs → h'.Ns C m → (h'.get? a).isSome = true → match use with
        | none => ∀ h'', Kp [C] h' h'' → Q (.ref a) ⟨h'', G, D, t', O⟩
        | some u => wpAny (model P0 w) A (u (.ref a)) (fun _ s'' => ∃ m, s''.heap.Ns C m ∧ ∀ h'', Heap.SameBut C s''.heap h'' → Q .none { s'' with heap := h'' }) NoE ⟨h', G, D, t', O⟩) :
    CompQ w A G D O ifs elt x scope cl env use Q (.ref I) ⟨h1, G, D, t1, O⟩ := by
  refine ⟨I, n, fp, P, St, [], h1, t1, rfl, rfl, S.W, S.st, S.hn, fun b hb => S.live b (by simpa using hb), by simp, S.sI, fun a C na nC naC => ⟨fun i _ vs => f i vs, fun _ _ => f0, fun _ _ _ _ _ j _ _ _ => j, ?_, ?_⟩⟩
  · intro i v h' t' vs m hi hp fi k ns hv _ _
    have k' : Ex h h' := Kp.drop S.ex k (by simpa using S.new)
    refine wpAny_mono (turn C (compEnvC scope cl C env) i v h' t' vs m ⟨cev VE, rfl, rfl, by simpa [compEnvC, relabel] using hfn⟩ hi hp fi k' ns hv) (fun ok s₃ q => ?_) fun _ _ e => e.elim
    cases ok with
    | true => simpa using q
    | false => simpa using q
  · intro h' t' vs m fi k p ns
    have k' : Ex h h' := Kp.drop S.ex k (by simpa using S.new)
    exact done a C h' t' vs m (Ex.old S.ex na) (Ex.old S.ex nC) naC k' p fi ns (by obtain ⟨o, e⟩ := pl_live p; rw [e]; rfl)
end
end

-- C4
section
section
variable {w : World} {A : Around} {G : Array GenState} {D : Drawn} {O : OsState} {h h' h₀ h1 : Heap} {t t1 : Nat} {env : Env} {m mc : Str → Option Value} {L : Addr}
theorem r_comp {elt iter : Expr} {x : Str} {px : Pos} {ifs : List Expr} {scope : Scope} {cl : List (Str × Addr)} {pos : Pos} {Q : Value → Shared → Prop}
    (hclos : closureFor scope env = pure cl) (hcell : scope.names.all (fun y => y.2 != .cell) = true) (hkind : scope.kind = .function) (hnames : scope.names.all (fun y => y.2 != .local || scope.names.lookup y.1 == some .local) = true)
    (hx : scope.names.lookup x = some .local) (hs : ∀ x, foldedSetIterable iter env x = pure x)
    (q : wpAny (model P0 w) A (eval iter env) (fun xv s₁ => wpAny (model P0 w) A (pyIter xv) (CompQ w A G D O ifs elt x scope cl env none Q) NoE s₁) NoE ⟨h, G, D, t, O⟩) :
    wpAny (model P0 w) A (eval (.ListComp elt [⟨.Name x px, iter, ifs, 0⟩] scope pos) env) Q NoE ⟨h, G, D, t, O⟩ := by
  rw [eval_ListComp]
  exact comp_core hclos hcell hkind hnames hx hs q
theorem asg_core {elt iter : Expr} {x y : Str} {px py : Pos} {ifs : List Expr} {scope : Scope} {cl : List (Str × Addr)} {pos spos : Pos} {Q : Flow → Shared → Prop}
    (hsw : swapsWith (.ListComp elt [⟨.Name x px, iter, ifs, 0⟩] scope pos) (some (.Name y py)) spos.line env = pure true)
    (hclos : closureFor scope env = pure cl) (hcell : scope.names.all (fun y => y.2 != .cell) = true) (hkind : scope.kind = .function) (hnames : scope.names.all (fun y => y.2 != .local || scope.names.lookup y.1 == some .local) = true)
    (hx : scope.names.lookup x = some .local) (hs : ∀ x, foldedSetIterable iter env x = pure x)
    (q : wpAny (model P0 w) A (eval iter env) (fun xv s₁ => wpAny (model P0 w) A (pyIter xv) (CompQ w A G D O ifs elt x scope cl env (some (assign (.Name y py) env)) (fun _ s' => Q .next s')) NoE s₁) NoE ⟨h, G, D, t, O⟩) :
    wpAny (model P0 w) A (exec (.Assign [.Name y py] (.ListComp elt [⟨.Name x px, iter, ifs, 0⟩] scope pos) spos) env) Q NoE ⟨h, G, D, t, O⟩ := by
  rw [exec_Assign_Name_used _ _ _ _ hsw]
  refine wpAny_bind (wpAny_standAt (wpAny_bind ?_))
  show wpAny _ A (do let _ ← comprehension (.ListComp elt [⟨.Name x px, iter, ifs, 0⟩] scope pos) scope env _ (newList []) false (eval iter env) (some (assign (.Name y py) env))) _ _ _
  refine wpAny_bind (wpAny_mono (comp_core (Q := fun _ s' => Q .next s') hclos hcell hkind hnames hx hs q) (fun _ s' hq => wpAny_pure (wpAny_pure hq)) fun _ _ e => e)
/-- a comprehension bound to a local of the law, whose turns make new objects only -/
theorem asg_pure {elt : Expr} {x y : Str} {py : Pos} {ifs : List Expr} {scope : Scope} {cl : List (Str × Addr)} {I n : Nat} {fp : List Addr} {P : Nat → Value → Prop} {St : Nat → Heap → Prop} {K : Shared → Prop} {f : Nat → List Value → Prop}
    (V : Lv env L) (l : LF h₀ L h m mc) (hy : (topd 19).2.2.names.lookup y = some .local) (hfn : scope.kind = .function) (h0 : Ex h₀ h) (S : CSrc w A h h1 I n fp P St) (f0 : f 0 [])
    (turn : ∀ C cenv i v h' t' vs m, Cv cenv (relS scope (topd 19).2.2) C cl → i < n → P i v → f i vs → Ex h h' → h'.Ns C m → m x = some v → Turn w A G D O ifs elt cenv f i vs h' t')
    (done : ∀ a h₂ t₂ vs, h.get? a = none → a ∉ fA L → PL h₂ a vs → f n vs → LF h₀ L h₂ (up m y (.ref a)) mc → Kp (fA L) h h₂ → K ⟨h₂, G, D, t₂, O⟩) :
    CompQ w A G D O ifs elt x scope cl env (some (assign (.Name y py) env)) (fun _ s' => K s') (.ref I) ⟨h1, G, D, t1, O⟩ := by
  refine compq_pure V.V hfn S f0 turn fun a C h' t' vs m' na nC naC k p fn ns la => ?_
  have l' := l.ex k
  have aA := l.off na
  have CA := l.off nC
  dsimp only
  refine wpAny_assign_Name (l_st V l' hy fun h2 t2 l2 k2 => ?_)
  have p2 := pl_kp p k2 aA
  refine ⟨m', ns.at' fun o e => k2 _ _ CA e, fun h3 hs => ?_⟩
  have k3 : Kp [C] h2 h3 := kp_same hs
  refine done a h3 t2 vs na aA (pl_kp p2 k3 (by simpa using naC)) fn (l2.kp k3 fun c hc => ?_) ?_
  · rw [List.mem_singleton.mp hc]; exact ⟨Ex.old h0 nC, CA⟩
  · exact fun b o nb e => k3 b o (by simpa using ne_new nC e) (k2 b o nb (k.get e))
end
end

-- P1
section
noncomputable def lw (i : Nat) : List Stmt := (topd 19).2.1.drop i
noncomputable def baseL : List Int := [16, 2, 25, 64, 126, 28, 0]
noncomputable def drawnI (ns : List Int) (i : Nat) : Int := (baseL.getD i 0 + (if i < ns.length then ns.getD i 0 else 0)).fmod 1000000
noncomputable def drawnL (ns : List Int) : List Int := (List.range 7).map (drawnI ns)
noncomputable def flagL : List Str := nmL
structure S0 (w : World) (h₀ : Heap) (L : Addr) (h : Heap) (m mc : Str → Option Value) (fa ba sc : Addr) : Prop where
  l : LF h₀ L h m mc
  e1 : mc "flags" = some (.ref fa)
  e2 : mc "base" = some (.ref ba)
  e3 : mc "script" = some (.ref sc)
  p1 : ∃ us : List Tok, us.length = 7 ∧ PL h fa (strValues (flagL.zip us))
  p2 : IL h ba baseL
  a1 : fa ∉ fA L
section
variable {w : World} {A : Around} {G : Array GenState} {D : Drawn} {O : OsState} {h h' h₀ h1 : Heap} {t t1 : Nat} {env : Env} {m mc : Str → Option Value} {L : Addr}
set_option maxHeartbeats 2000000 in
theorem ph0 {sc : Addr} {Q : Flow → Shared → Prop} (V : Lv env L) (l : LF h₀ L h m mc) (hs : mc "script" = some (.ref sc))
    (k : ∀ h t m mc fa ba, S0 w h₀ L h m mc fa ba sc → wpAny (model P0 w) A (execs (lw 2) env) Q NoE ⟨h, G, D, t, O⟩) :
    wpAny (model P0 w) A (execs (lw 0) env) Q NoE ⟨h, G, D, t, O⟩ := by
  refine r_seq (st := stm 19 0) (rest := lw 1) (by kernel_rfl) ?_
  refine wpAny_Assign_Name ?_
  refine r_list ?_
  repeat walk_at "e"
  refine args_nil ?_
  refine ⟨szl (by simp), _, _, rfl, ?_⟩
  intro fa h2 n2 k2 p2
  have l2 := l.ex k2
  refine l_cst V l2 (by kernel_rfl) (c := L + 2) (by kernel_rfl) ?_
  intro h3 t3 l3 k3
  have aA := l.off n2
  have p3 := pl_kp p2 k3 aA
  dsimp only
  refine r_seq (st := stm 19 1) (rest := lw 2) (by kernel_rfl) ?_
  refine wpAny_Assign_Name ?_
  refine r_list ?_
  repeat walk_at "e"
  refine args_nil ?_
  refine ⟨szl (by simp), _, _, rfl, ?_⟩
  intro ba h4 n4 k4 p4
  have l4 := l3.ex k4
  have p5 := pl_ex p3 k4
  refine l_cst V l4 (by kernel_rfl) (c := L + 3) (by kernel_rfl) ?_
  intro h5 t5 l5 k5
  have bA := l3.off n4
  have p6 := pl_kp p4 k5 bA
  have p7 := pl_kp p5 k5 aA
  refine k h5 _ _ _ fa ba ⟨l5, by walk_at "hv", by walk_at "hv", by walk_at "hv", ?_, ?_, aA⟩
  · exact ⟨[_, _, _, _, _, _, _], rfl, p7⟩
  · exact AI.il (by repeat (first | exact .nil | refine .cons ?_)) p6.isList
end
end

-- C5
section
/-- a fact that hangs on the places of B alone -/
structure Gd (h : Heap) (L : Addr) (B : List Addr) (P : Heap → Prop) : Prop where
  st : ∀ h', (∀ b ∈ B, ∀ o, h.get? b = some o → h'.get? b = some o) → P h'
  live : ∀ b ∈ B, ∃ o, h.get? b = some o
  off : ∀ b ∈ B, b ∉ fA L
theorem Gd.here {h : Heap} {L : Addr} {B : List Addr} {P : Heap → Prop} (g : Gd h L B P) : P h := g.st h fun _ _ _ e => e
theorem Gd.kp {W : List Addr} {h h' : Heap} {L : Addr} {B : List Addr} {P : Heap → Prop} (g : Gd h L B P) (k : Kp W h h') (n : ∀ b ∈ B, b ∉ W) : Gd h' L B P :=
  ⟨fun h'' q => g.st h'' fun b hb o e => q b hb o (k b o (n b hb) e), fun b hb => let ⟨o, e⟩ := g.live b hb; ⟨o, k b o (n b hb) e⟩, g.off⟩
theorem Gd.ex {h h' : Heap} {L : Addr} {B : List Addr} {P : Heap → Prop} (g : Gd h L B P) (k : Ex h h') : Gd h' L B P := g.kp k (by simp)
theorem Gd.fr {h h' : Heap} {L : Addr} {B : List Addr} {P : Heap → Prop} (g : Gd h L B P) (k : Kp (fA L) h h') : Gd h' L B P := g.kp k g.off
theorem Gd.one {c : Addr} {h h' : Heap} {L : Addr} {B : List Addr} {P : Heap → Prop} (g : Gd h L B P) (k : Kp [c] h h') (n : c ∉ B) : Gd h' L B P := g.kp k fun b hb q => n (by rw [List.mem_singleton.mp q] at hb; exact hb)
theorem Gd.nin {c : Addr} {h : Heap} {L : Addr} {B : List Addr} {P : Heap → Prop} (g : Gd h L B P) (n : h.get? c = none) : c ∉ B := fun q => by obtain ⟨o, e⟩ := g.live c q; rw [n] at e; cases e
theorem Gd.and {h : Heap} {L : Addr} {B B' : List Addr} {P P' : Heap → Prop} (g : Gd h L B P) (g' : Gd h L B' P') : Gd h L (B ++ B') (fun h => P h ∧ P' h) :=
  ⟨fun h' q => ⟨g.st h' fun b hb => q b (List.mem_append_left _ hb), g'.st h' fun b hb => q b (List.mem_append_right _ hb)⟩,
   fun b hb => (List.mem_append.mp hb).elim (g.live b) (g'.live b), fun b hb => (List.mem_append.mp hb).elim (g.off b) (g'.off b)⟩
theorem Gd.imp {h : Heap} {L : Addr} {B : List Addr} {P P' : Heap → Prop} (g : Gd h L B P) (f : ∀ h, P h → P' h) : Gd h L B P' := ⟨fun h' q => f _ (g.st h' q), g.live, g.off⟩
theorem LF.kq {W : List Addr} {h₀ h h' : Heap} {L : Addr} {m mc : Str → Option Value} (l : LF h₀ L h m mc) (k : Kp W h h') (hW : ∀ c ∈ W, h₀.get? c = none) (hf : ∀ c ∈ W, c ∉ fA L) : LF h₀ L h' m mc := l.kp k fun c hc => ⟨hW c hc, hf c hc⟩
theorem LF.k1 {c : Addr} {h₀ h h' : Heap} {L : Addr} {m mc : Str → Option Value} (l : LF h₀ L h m mc) (k : Kp [c] h h') (n : h₀.get? c = none) (nf : c ∉ fA L) : LF h₀ L h' m mc := l.kp k fun d hd => by rw [List.mem_singleton.mp hd]; exact ⟨n, nf⟩
/-- a plain list of whole numbers -/
noncomputable def LI (h : Heap) (a : Addr) (ns : List Int) : Prop := ∃ vs, PL h a vs ∧ AI vs ns
theorem LI.il {h : Heap} {a : Addr} {ns : List Int} (x : LI h a ns) : IL h a ns := let ⟨_, p, q⟩ := x; q.il p.isList
theorem LI.kp {W : List Addr} {h h' : Heap} {a : Addr} {ns : List Int} (x : LI h a ns) (k : Kp W h h') (n : a ∉ W) : LI h' a ns := let ⟨vs, p, q⟩ := x; ⟨vs, pl_kp p k n, q⟩
theorem LI.ex {h h' : Heap} {a : Addr} {ns : List Int} (x : LI h a ns) (k : Ex h h') : LI h' a ns := x.kp k (by simp)
theorem LI.live {h : Heap} {a : Addr} {ns : List Int} (x : LI h a ns) : ∃ o, h.get? a = some o := let ⟨_, p, _⟩ := x; pl_live p
theorem LI.at {h h' : Heap} {a : Addr} {ns : List Int} (x : LI h a ns) (k : ∀ o, h.get? a = some o → h'.get? a = some o) : LI h' a ns := let ⟨vs, p, q⟩ := x; ⟨vs, p.at k, q⟩
theorem LI.gd {h : Heap} {L a : Addr} {ns : List Int} (x : LI h a ns) (n : a ∉ fA L) : Gd h L [a] (fun h => LI h a ns) :=
  ⟨fun h' q => x.at (q a (by simp)), fun b hb => by rw [List.mem_singleton.mp hb]; exact x.live, fun b hb => by rw [List.mem_singleton.mp hb]; exact n⟩
theorem AI.rdAll {h : Heap} : ∀ {vs : List Value} {ns : List Int}, AI vs ns → ReadsAll h vs (ns.map .int) []
  | _, _, .nil => .nil
  | _, _, .cons r => .cons (as := []) (bs := []) (.int _ _) r.rdAll
theorem LI.rd {h : Heap} {a : Addr} {ns : List Int} (x : LI h a ns) : Reads h (.ref a) (.list (ns.map .int)) [a] := by
  obtain ⟨vs, ⟨n, e⟩, q⟩ := x
  exact .list (as := []) e rfl rfl (by simpa using q.rdAll)
theorem lay_ints : ∀ ns : List Int, PyData.canLayAll0 (ns.map .int) = true
  | [] => rfl
  | a :: r => by simp only [List.map_cons, PyData.canLayAll0, PyData.canLay0, lay_ints r, Bool.and_self]
theorem dep_ints : ∀ ns : List Int, PyData.depthAll (ns.map .int) = 0
  | [] => rfl
  | a :: r => by simp only [List.map_cons, PyData.depthAll, PyData.depth, dep_ints r, Nat.max_self]
theorem eqv_ints : ∀ a b : List Int, PyData.eqvAll (a.map .int) (b.map .int) = (a == b)
  | [], [] => rfl
  | [], b :: r => rfl
  | a :: r, [] => rfl
  | a :: r, b :: r' => by
    simp only [List.map_cons, PyData.eqvAll, PyData.eqv, eqv_ints r r']
    rfl
noncomputable abbrev dP (p : Int × Int) : PyData := .tuple [.int p.1, .int p.2]
theorem AT.rdAll {N : Addr → Prop} {h : Heap} : ∀ {vs : List Value} {ps : List (Int × Int)}, AT N h vs ps → ReadsAll h vs (ps.map dP) []
  | _, _, .nil => .nil
  | _, _, .cons n ⟨k, e⟩ r => .cons (as := []) (bs := []) (.tuple e rfl rfl (.cons (as := []) (bs := []) (.int _ _) (.cons (as := []) (bs := []) (.int _ _) .nil))) r.rdAll
theorem lay_pairs : ∀ ns : List (Int × Int), PyData.canLayAll0 (ns.map dP) = true
  | [] => rfl
  | a :: r => by simp only [List.map_cons, PyData.canLayAll0, PyData.canLay0, lay_pairs r, Bool.and_self]
theorem dep_pairs : ∀ ns : List (Int × Int), PyData.depthAll (ns.map dP) ≤ 1
  | [] => by simp [PyData.depthAll]
  | a :: r => by
    simp only [List.map_cons, PyData.depthAll, PyData.depth, Nat.max_self]
    have := dep_pairs r
    omega
theorem eqv_pairs : ∀ a b : List (Int × Int), PyData.eqvAll (a.map dP) (b.map dP) = (a == b)
  | [], [] => rfl
  | [], b :: r => rfl
  | a :: r, [] => rfl
  | (a1, a2) :: r, (b1, b2) :: r' => by
    simp only [List.map_cons, PyData.eqvAll, PyData.eqv, eqv_pairs r r', Bool.and_true]
    rfl
section
variable {w : World} {A : Around} {G : Array GenState} {D : Drawn} {O : OsState} {h h' h₀ h1 : Heap} {t t1 : Nat} {env : Env} {m mc : Str → Option Value} {L : Addr}
theorem neLI {a b : Addr} {x y : List Int} {Q : Value → Shared → Prop} {n : Nat} (hh : Room A (n + 1)) (p : LI h a x) (q : LI h b y) (k : Q (.bool (!(x == y))) ⟨h, G, D, t, O⟩) : wpAny (model P0 w) A (compareOp .NotEq (.ref a) (.ref b)) Q NoE ⟨h, G, D, t, O⟩ := by
  refine SeqAt.compareNe_reads p.rd q.rd (by simp [PyData.canLay0, lay_ints]) (by simp [PyData.canLay0, lay_ints]) ?_ (by simpa only [PyData.eqv, eqv_ints] using k)
  have := hh.uni
  simp only [PyData.depth, dep_ints]
  omega
theorem eqLI {a b : Addr} {x y : List Int} {Q : Value → Shared → Prop} {n : Nat} (hh : Room A (n + 1)) (p : LI h a x) (q : LI h b y) (k : Q (.bool (x == y)) ⟨h, G, D, t, O⟩) : wpAny (model P0 w) A (compareOp .Eq (.ref a) (.ref b)) Q NoE ⟨h, G, D, t, O⟩ := by
  refine SeqAt.compareEq_reads p.rd q.rd (by simp [PyData.canLay0, lay_ints]) (by simp [PyData.canLay0, lay_ints]) ?_ (by simpa only [PyData.eqv, eqv_ints] using k)
  have := hh.uni
  simp only [PyData.depth, dep_ints]
  omega
theorem any_ints (x : List Int) (i : Int) : ((x.map PyData.int).any fun y => PyData.eqv y (.int i)) = x.contains i := by
  induction x with
  | nil => rfl
  | cons a r ih =>
    simp only [List.map_cons, List.any_cons, ih, PyData.eqv, List.contains_cons]
    rw [BEq.comm (a := a)]
theorem inLI {a : Addr} {x : List Int} {i : Int} {u : Tok} {Q : Value → Shared → Prop} {n : Nat} (hh : Room A (n + 1)) (p : LI h a x) (k : Q (.bool (x.contains i)) ⟨h, G, D, t, O⟩) : wpAny (model P0 w) A (compareOp .In (.int i u) (.ref a)) Q NoE ⟨h, G, D, t, O⟩ := by
  refine SeqAt.in_list_reads p.rd (.int i u) (lay_ints x) (by simp [PyData.canLay0]) ?_ (by rw [any_ints]; exact k)
  have := hh.uni
  simp only [PyData.depth, dep_ints]
  omega
theorem notInLI {a : Addr} {x : List Int} {i : Int} {u : Tok} {Q : Value → Shared → Prop} {n : Nat} (hh : Room A (n + 1)) (p : LI h a x) (k : Q (.bool (!x.contains i)) ⟨h, G, D, t, O⟩) : wpAny (model P0 w) A (compareOp .NotIn (.int i u) (.ref a)) Q NoE ⟨h, G, D, t, O⟩ := by
  refine SeqAt.notIn_list_reads p.rd (.int i u) (lay_ints x) (by simp [PyData.canLay0]) ?_ (by rw [any_ints]; exact k)
  have := hh.uni
  simp only [PyData.depth, dep_ints]
  omega
theorem neAT {N N' : Addr → Prop} {a b : Addr} {vs ws : List Value} {x y : List (Int × Int)} {Q : Value → Shared → Prop} {n : Nat} (hh : Room A (n + 1)) (p : PL h a vs) (p' : AT N h vs x) (q : PL h b ws) (q' : AT N' h ws y) (k : Q (.bool (!(x == y))) ⟨h, G, D, t, O⟩) :
    wpAny (model P0 w) A (compareOp .NotEq (.ref a) (.ref b)) Q NoE ⟨h, G, D, t, O⟩ := by
  obtain ⟨n1, e1⟩ := p
  obtain ⟨n2, e2⟩ := q
  refine SeqAt.compareNe_reads (da := .list (x.map dP)) (db := .list (y.map dP)) (.list (as := []) e1 rfl rfl (by simpa using p'.rdAll)) (.list (as := []) e2 rfl rfl (by simpa using q'.rdAll)) (by simp only [PyData.canLay0, lay_pairs]) (by simp only [PyData.canLay0, lay_pairs]) ?_ (by simpa only [PyData.eqv, eqv_pairs] using k)
  have := hh.uni
  have := dep_pairs x
  simp only [PyData.depth]
  omega
theorem neTS {a b : Addr} {s1 s2 z1 z2 : Str} {u1 u2 v1 v2 : Tok} {Q : Value → Shared → Prop} {n : Nat} (hh : Room A (n + 1)) (p : TU h a [.str s1 u1, .str s2 u2]) (q : TU h b [.str z1 v1, .str z2 v2])
    (o1 : PyData.strOk s1 = true) (o2 : PyData.strOk s2 = true) (o3 : PyData.strOk z1 = true) (o4 : PyData.strOk z2 = true) (k : Q (.bool (!(s1 == z1 && s2 == z2))) ⟨h, G, D, t, O⟩) :
    wpAny (model P0 w) A (compareOp .NotEq (.ref a) (.ref b)) Q NoE ⟨h, G, D, t, O⟩ := by
  obtain ⟨n1, e1⟩ := p
  obtain ⟨n2, e2⟩ := q
  refine SeqAt.compareNe_reads (da := .tuple [.str s1, .str s2]) (db := .tuple [.str z1, .str z2]) (.tuple (as := []) e1 rfl rfl (.cons (as := []) (bs := []) (.str _ _) (.cons (as := []) (bs := []) (.str _ _) .nil))) (.tuple (as := []) e2 rfl rfl (.cons (as := []) (bs := []) (.str _ _) (.cons (as := []) (bs := []) (.str _ _) .nil))) (by show (PyData.strOk s1 && (PyData.strOk s2 && true)) = true; rw [o1, o2]; rfl) (by show (PyData.strOk z1 && (PyData.strOk z2 && true)) = true; rw [o3, o4]; rfl) ?_ (by simpa only [PyData.eqv, PyData.eqvAll, Bool.and_true] using k)
  have := hh.uni
  simp only [PyData.depth, PyData.depthAll]
  omega
/-- turns -/
theorem turn0 {elt : Expr} {cenv : Env} {f : Nat → List Value → Prop} {i : Nat} {vs : List Value} (q : wpAny (model P0 w) A (eval elt cenv) (fun y s₄ => ∃ h4 t4, s₄ = ⟨h4, G, D, t4, O⟩ ∧ f (i + 1) (vs ++ [y]) ∧ Ex h h4) NoE ⟨h, G, D, t, O⟩) : Turn w A G D O [] elt cenv f i vs h t := by
  unfold Turn
  simp only [List.forIn_nil]
  exact wpAny_pure (by simpa using q)
theorem turn1 {elt c : Expr} {cenv : Env} {f : Nat → List Value → Prop} {i : Nat} {vs : List Value} (q : wpAny (model P0 w) A (isTrue c cenv (eval c cenv)) (fun b s₃ => if b = true then wpAny (model P0 w) A (eval elt cenv) (fun y s₄ => ∃ h4 t4, s₄ = ⟨h4, G, D, t4, O⟩ ∧ f (i + 1) (vs ++ [y]) ∧ Ex h h4) NoE s₃
    else ∃ h4 t4, s₃ = ⟨h4, G, D, t4, O⟩ ∧ f (i + 1) vs ∧ Ex h h4) NoE ⟨h, G, D, t, O⟩) : Turn w A G D O [c] elt cenv f i vs h t := by
  unfold Turn
  simp only [List.forIn_cons, List.forIn_nil, if_true]
  refine wpAny_bind (wpAny_bind (wpAny_mono q (fun b s k => ?_) fun _ _ e => e))
  refine wpAny_pure ?_
  cases b with
  | true => exact wpAny_pure (by simpa using k)
  | false => exact wpAny_pure (by simpa using k)
end
end

-- C6
section
theorem sw_of {a : Expr} {g : List Comprehension} {scope sce : Scope} {p py : Pos} {y : Str} {l : Nat} {env : Env} (V : Ev env sce) (hk : sce.kind = .function) (hy : sce.names.lookup y = some .local)
   (e : (py.line == p.line && !(scope.names.any fun (n, k) => n == y && (k == .local || k == .cell))) = true) : swapsWith (.ListComp a g scope p) (some (.Name y py)) l env = pure true := by
  have h1 : env.blockKind = .function := by unfold Env.blockKind; rw [V.sc, hk]; rfl
  have h2 : env.kindOf y = some .local := V.kind hy
  rw [Bool.and_eq_true] at e
  show (pure (env.blockKind == .function && env.kindOf y == some .local && py.line == p.line && !(scope.names.any fun (n, k) => n == y && (k == .local || k == .cell))) : Sem Bool) = pure true
  rw [h1, h2, e.1, e.2]
  rfl
/-- the texts' list -/
noncomputable def FL (h : Heap) (a : Addr) : Prop := ∃ us : List Tok, us.length = 7 ∧ PL h a (strValues (flagL.zip us))
theorem FL.gd {h : Heap} {L a : Addr} (x : FL h a) (n : a ∉ fA L) : Gd h L [a] (fun h => FL h a) := by
  obtain ⟨us, e, p⟩ := x
  exact ⟨fun h' q => ⟨us, e, p.at (q a (by simp))⟩, fun b hb => by rw [List.mem_singleton.mp hb]; exact pl_live p, fun b hb => by rw [List.mem_singleton.mp hb]; exact n⟩
structure S1 (w : World) (h₀ : Heap) (L : Addr) (h : Heap) (m mc : Str → Option Value) (fa da : Addr) (d : List Int) : Prop where
  l : LF h₀ L h m mc
  e1 : mc "flags" = some (.ref fa)
  e2 : m "drawn" = some (.ref da)
  g : Gd h L ([fa] ++ [da]) (fun h => FL h fa ∧ LI h da d)
section
variable {w : World} {A : Around} {G : Array GenState} {D : Drawn} {O : OsState} {h h' h₀ h1 : Heap} {t t1 : Nat} {env : Env} {m mc : Str → Option Value} {L : Addr}
theorem Lv.kd (V : Lv env L) {x : Str} {k : NameKind} (e : (topd 19).2.2.names.lookup x = some k) : env.kindOf x = some k := V.V.kind e
theorem Lv.fn (V : Lv env L) : env.scope.kind = .function := by rw [V.V.sc]; kernel_rfl
theorem Lv.cel (V : Lv env L) {e : List (Str × NameKind)} {scope : Scope} {cl : List (Str × Addr)} (q : closL (lawCells L) scope.names [] = some cl) : closureFor scope env = pure cl := clos_of V.cells q
theorem Lv.r7 (V : Lv env L) (X : KB w h) {pos : Pos} {k : Nat} {Q : Value → Shared → Prop} (q : ∀ r h' t', h.get? r = none → Ex h h' → (∃ a b c, IsRange h' r 0 7 1 a b c) → Q (.ref r) ⟨h', G, D, t', O⟩)
   {p1 p2 p3 : Pos} : wpAny (model P0 w) A (eval (.Call (.Name (Str.ofString "range") p1) [.Constant (.int 7) k p2] [] p3) env) Q NoE ⟨h, G, D, t, O⟩ := by
  refine wpAny_Call_NameR ?_
  refine r_blt X V.fn (V.kd (by kernel_rfl)) V.V.g V.V.b (by kernel_rfl) (v := .type "range") (by kernel_rfl) ?_
  refine PyProof.Rows.callWith_type1 ?_
  refine args_cons ?_
  refine r_int ?_
  intro u t
  refine args_nil ?_
  exact r_range1 q
set_option maxHeartbeats 1000000 in
theorem ph1 {fa ba sc : Addr} {ns : List Int} {Q : Flow → Shared → Prop} {n : Nat} (V : Lv env L) (hh : Room A n) (X : KB w h₀) (s : S0 w h₀ L h m mc fa ba sc) (hs : IL h₀ sc ns) (hz : ns.length ≤ 63)
    (k : ∀ h t m mc da, S1 w h₀ L h m mc fa da (drawnL ns) → wpAny (model P0 w) A (execs (lw 3) env) Q NoE ⟨h, G, D, t, O⟩) :
    wpAny (model P0 w) A (execs (lw 2) env) Q NoE ⟨h, G, D, t, O⟩ := by
  obtain ⟨l, e1, e2, e3, p1, p2, a1⟩ := s
  have X' := X.ex l.F.keep
  refine r_seq (st := stm 19 2) (rest := lw 3) (by kernel_rfl) ?_
  refine asg_core (sw_of V.V (by kernel_rfl) (by kernel_rfl) (by kernel_rfl)) (cl := [("script", L + 1), ("base", L + 3)]) (clos_of V.cells (by kernel_rfl)) (by kernel_rfl) (by kernel_rfl) (by kernel_rfl) (by kernel_rfl) (fun x => by rfl) ?_
  refine V.r7 X' (pos := p00) ?_
  intro r h2 t2 nr x2 hr1
  refine r_iterRange (a := 0) (n := 7) (by rfl) hr1 ?_
  intro I h3 nI x3 st3
  have S := CSrc.range (w := w) hh.hd st3 (by decide) (Ex.old x2 nI) (x2.trans x3)
  refine asg_pure V l (y := Str.ofString "drawn") (by kernel_rfl) (by kernel_rfl) l.F.keep S (f := fun i vs => AI vs ((List.range i).map (drawnI ns))) .nil ?_ ?_
  · rintro C cenv i v h' t' vs m' V' hi ⟨u, rfl⟩ fi k' nsC hv
    have l' := l.ex k'
    refine turn0 ?_
    refine wpAny_BinOp ?_
    refine wpAny_BinOp ?_
    refine wpAny_Subscript_Name_late ?_
    refine cv_cld V' (by kernel_rfl) (c := L + 3) (by kernel_rfl) (by rw [← e2]; exact l'.cell _ _ (by kernel_rfl)) ?_
    refine cv_ld V' (by kernel_rfl) nsC hv ?_
    refine r_idxIL (n := baseL.getD i 0) (p2.ex k') (by omega) (by omega) (getD_lt (by simp only [baseL, List.length_cons, List.length_nil]; omega)) ?_
    intro u1
    refine r_join (R := fun v s => ∃ u t, v = .int (if i < ns.length then ns.getD i 0 else 0) u ∧ s = ⟨h', G, D, t, O⟩) ?_ ?_
    · refine wpAny_IfExp ?_
      refine wpAny_isTrue_Compare1 ?_
      refine cv_ld V' (by kernel_rfl) nsC hv ?_
      refine wpAny_Call_NameR ?_
      refine r_blt (X'.ex k') V'.fn (V'.V.kind (by kernel_rfl)) V'.V.g V'.V.b (by kernel_rfl) (v := .builtin "len") (by kernel_rfl) ?_
      refine PyProof.Rows.callWith_builtin1 ?_
      refine args_cons ?_
      have hs' := (hs.ex l.F.keep).ex k'
      obtain ⟨vs', lv, sv, gv⟩ := id hs'
      refine cv_cld V' (by kernel_rfl) (c := L + 1) (by kernel_rfl) (by rw [← e3]; exact l'.cell _ _ (by kernel_rfl)) ?_
      refine args_nil ?_
      refine r_len lv (by omega) ?_
      intro u2 t2
      walk_at "e"
      walk_at "e"
      rw [sv]
      refine if_b (fun b1 => ?_) fun b1 => ?_
      · have hi' : i < ns.length := by simpa using b1
        refine wpAny_Subscript_Name_late ?_
        refine cv_cld V' (by kernel_rfl) (c := L + 1) (by kernel_rfl) (by rw [← e3]; exact l'.cell _ _ (by kernel_rfl)) ?_
        refine cv_ld V' (by kernel_rfl) nsC hv ?_
        refine r_idxIL (n := ns.getD i 0) hs' (by omega) (by omega) (getD_lt (by simpa using hi')) ?_
        intro u3
        exact ⟨_, _, by rw [if_pos hi'], rfl⟩
      · have hi' : ¬ i < ns.length := by simpa using b1
        walk_at "e"
        exact ⟨_, _, by rw [if_neg hi'], rfl⟩
    rintro _ _ ⟨u, t, rfl, rfl⟩
    walk_at "e"
    walk_at "e"
    walk_at "e"
    refine ⟨_, _, rfl, ?_, Kp.refl _ _⟩
    rw [List.range_succ, List.map_append]
    exact fi.append (.cons .nil)
  · intro a h4 t4 vs na aA p fn l4 k4
    refine k h4 t4 _ _ a ⟨l4, e1, up_eq, ?_⟩
    have g1 : Gd h4 L [fa] (fun h => FL h fa) := (FL.gd p1 a1).fr k4
    exact g1.and (LI.gd ⟨vs, p, fn⟩ aA)
end
end

-- Q1
section
-- whole numbers that are naturals
theorem bAnd (a b : Nat) : Builtin.bitAnd (a : Int) (b : Int) = ((a &&& b : Nat) : Int) := by
  unfold Builtin.bitAnd
  have h1 : decide (0 ≤ (a : Int)) = true := by simp
  have h2 : decide (0 ≤ (b : Int)) = true := by simp
  rw [h1, h2]
  rfl
theorem bOr (a b : Nat) : Builtin.bitOr (a : Int) (b : Int) = ((a ||| b : Nat) : Int) := by
  unfold Builtin.bitOr Builtin.bitAnd Builtin.bitNot
  have h1 : decide (0 ≤ (-(a : Int) - 1)) = false := by simp; omega
  have h2 : decide (0 ≤ (-(b : Int) - 1)) = false := by simp; omega
  rw [h1, h2]
  have e1 : (-(-(a : Int) - 1) - 1) = (a : Int) := by omega
  have e2 : (-(-(b : Int) - 1) - 1) = (b : Int) := by omega
  simp only [e1, e2, Int.toNat_natCast]
  omega
theorem fd2 (a i : Nat) : (a : Int).fdiv (2 ^ i) = ((a / 2 ^ i : Nat) : Int) := by
  rw [Int.fdiv_eq_ediv_of_nonneg _ (by have := Int.pow_pos (n := 2) (m := i) (by decide); omega)]
  simp
theorem tbit (a i : Nat) : (Builtin.bitAnd ((a : Int).fdiv (2 ^ i)) 1 != 0) = a.testBit i := by
  rw [fd2, show (1 : Int) = ((1 : Nat) : Int) from rfl, bAnd]
  unfold Nat.testBit
  rw [Nat.shiftRight_eq_div_pow, Nat.and_comm]
  generalize a / 2 ^ i = z
  rw [Bool.eq_iff_iff]
  simp
  try omega
noncomputable def movedN (mask aim : Nat) (rows : List Nat) : Nat → Nat
  | 0 => 0
  | i + 1 => if (mask.testBit i && i != aim) = true then movedN mask aim rows i ||| rows.getD i 0 else movedN mask aim rows i
noncomputable abbrev iL (l : List Nat) : List Int := l.map fun (n : Nat) => (n : Int)
theorem iL_getD (l : List Nat) (i : Nat) : (iL l).getD i 0 = ((l.getD i 0 : Nat) : Int) := by
  simp only [List.getD_eq_getElem?_getD, List.getElem?_map]
  cases l[i]? <;> rfl
theorem movedI_eq (mask aim : Nat) (rows : List Nat) : ∀ k, movedI (mask : Int) (aim : Int) (iL rows) k = (movedN mask aim rows k : Int)
  | 0 => rfl
  | i + 1 => by
    unfold movedI movedN
    rw [tbit, movedI_eq mask aim rows i, iL_getD, bOr]
    have : ((i : Int) != (aim : Int)) = (i != aim) := by rw [Bool.eq_iff_iff]; simp; omega
    rw [this]
    split <;> rfl
theorem movedN_lt {mask aim : Nat} {rows : List Nat} (h : ∀ r ∈ rows, r < 128) : ∀ k, movedN mask aim rows k < 128
  | 0 => by simp [movedN]
  | i + 1 => by
    unfold movedN
    have ih := movedN_lt (mask := mask) (aim := aim) h i
    have hr : rows.getD i 0 < 128 := by
      rw [List.getD_eq_getElem?_getD]
      cases e : rows[i]? with
      | none => simp
      | some x => exact h x (List.mem_of_getElem? e)
    split
    · exact Nat.or_lt_two_pow (n := 7) ih hr
    · exact ih
theorem movedN_bit {mask aim : Nat} {rows : List Nat} (p : Nat) : ∀ k, (movedN mask aim rows k).testBit p = true ↔ ∃ v, v < k ∧ mask.testBit v = true ∧ v ≠ aim ∧ (rows.getD v 0).testBit p = true
  | 0 => by simp [movedN]
  | i + 1 => by
    unfold movedN
    have ih := movedN_bit (mask := mask) (aim := aim) (rows := rows) p i
    split
    · rename_i hc
      simp only [Bool.and_eq_true, bne_iff_ne] at hc
      rw [Nat.testBit_or, Bool.or_eq_true, ih]
      constructor
      · rintro (⟨v, a, b⟩ | a)
        · exact ⟨v, by omega, b⟩
        · exact ⟨i, by omega, hc.1, hc.2, a⟩
      · rintro ⟨v, a, b⟩
        by_cases e : v = i
        · subst e; exact .inr b.2.2
        · exact .inl ⟨v, by omega, b⟩
    · rename_i hc
      rw [ih]
      constructor
      · rintro ⟨v, a, b⟩; exact ⟨v, by omega, b⟩
      · rintro ⟨v, a, b, c, d⟩
        refine ⟨v, ?_, b, c, d⟩
        rcases Nat.lt_succ_iff_lt_or_eq.mp a with h | h
        · exact h
        · subst h; exact absurd (by simp [b, c]) hc
theorem movedN_mono {m m' aim : Nat} {rows : List Nat} (h : m &&& m' = m) (k : Nat) : movedN m aim rows k &&& movedN m' aim rows k = movedN m aim rows k := by
  apply Nat.eq_of_testBit_eq
  intro p
  rw [Nat.testBit_and]
  cases e : (movedN m aim rows k).testBit p with
  | false => rfl
  | true =>
    obtain ⟨v, a, b, c⟩ := (movedN_bit p k).mp e
    have hb : m'.testBit v = true := by
      have := congrArg (fun n => n.testBit v) h
      simp only [Nat.testBit_and, b, Bool.true_and] at this
      exact this
    simp only [Bool.true_and]
    exact (movedN_bit p k).mpr ⟨v, a, hb, c⟩
-- the search
noncomputable def shotN (rows : List Nat) (mask i : Nat) : Nat × List Nat → Option (Nat × List Nat)
  | (M, w) => if mask.testBit i = true then
      (if movedN mask i rows 7 = 0 then none else if M.testBit (movedN mask i rows 7) = true then some (M, w) else some (M ||| 2 ^ movedN mask i rows 7, w ++ [movedN mask i rows 7]))
    else some (M, w)
noncomputable def restN (rows : List Nat) (mask : Nat) : Nat → Nat → Nat × List Nat → Option (Nat × List Nat)
  | _, 0, st => some st
  | i, k + 1, st => match shotN rows mask i st with
    | some st' => restN rows mask (i + 1) k st'
    | none => none
noncomputable def levelN (rows : List Nat) : List Nat → Nat × List Nat → Option (Nat × List Nat)
  | [], st => some st
  | mask :: r, st => match restN rows mask 0 7 st with
    | some st' => levelN rows r st'
    | none => none
noncomputable def bfsN (rows : List Nat) : Nat → Nat → Nat × List Nat → Option Nat
  | 0, _, _ => none
  | f + 1, ln, (M, w) => if w.isEmpty then some 0 else match levelN rows w (M, []) with
    | some st => bfsN rows f (ln + 1) st
    | none => some (ln + 1)
structure BI (met : List Int) (M : Nat) : Prop where
  nd : met.Nodup
  rg : ∀ k ∈ met, 0 ≤ k ∧ k < 128
  bit : ∀ k : Nat, k < 128 → met.contains (k : Int) = M.testBit k
theorem nd_len : ∀ (n : Nat) {l : List Int}, l.Nodup → (∀ k ∈ l, 0 ≤ k ∧ k < n) → l.length ≤ n
  | 0, l, _, h => by
    cases l with
    | nil => simp
    | cons a r => have := h a (by simp); omega
  | n + 1, l, hd, h => by
    by_cases hm : (n : Int) ∈ l
    · have := nd_len n (l := l.erase (n : Int)) (hd.erase _) (fun k hk => by
        have hk' := (List.Nodup.mem_erase_iff hd).mp hk
        have := h k hk'.2
        have := hk'.1
        omega)
      rw [List.length_erase_of_mem hm] at this
      omega
    · have := nd_len n hd (fun k hk => by
        have := h k hk
        have : k ≠ n := fun e => hm (e ▸ hk)
        omega)
      omega
theorem BI.len {met : List Int} {M : Nat} (b : BI met M) : met.length ≤ 128 := nd_len 128 b.nd b.rg
theorem BI.add {met : List Int} {M a : Nat} (b : BI met M) (ha : a < 128) (n : M.testBit a = false) : BI (met ++ [(a : Int)]) (M ||| 2 ^ a) := by
  have hn : (a : Int) ∉ met := by
    have := b.bit a ha
    rw [n] at this
    simpa using this
  refine ⟨?_, ?_, ?_⟩
  · rw [List.nodup_append]
    refine ⟨b.nd, by simp, ?_⟩
    intro x hx y hy e
    simp at hy
    subst hy; subst e
    exact hn hx
  · intro k hk
    rcases List.mem_append.mp hk with h | h
    · exact b.rg k h
    · simp at h; omega
  · intro k hk
    rw [Nat.testBit_or, Nat.testBit_two_pow, ← b.bit k hk]
    rw [Bool.eq_iff_iff]
    simp
    constructor
    · rintro (h | h)
      · exact .inl h
      · exact .inr (by omega)
    · rintro (h | h)
      · exact .inl h
      · exact .inr (by omega)
noncomputable abbrev wI (ln : Nat) (w : List Nat) : List (Nat × Int) := w.map fun (a : Nat) => (ln, (a : Int))
/-- where the search in numbers stands, so stands the program's -/
noncomputable def Ref (rows : List Nat) (ln : Nat) (n0 : Nat) (r : FRes) : Option (Nat × List Nat) → Prop
  | none => r = .error (some ((ln : Int) + 1))
  | some (M, w) => ∃ met, r = .ok (met, wI (ln + 1) w) ∧ BI met M ∧ met.length = n0 + w.length ∧ ∀ a ∈ w, a < 128
theorem shot_ref {rows : List Nat} (hr : ∀ r ∈ rows, r < 128) {ln n0 mask i : Nat} {met : List Int} {M : Nat} {w : List Nat} (b : BI met M) (hl : met.length = n0 + w.length) (h0 : ln < n0) (hw : ∀ a ∈ w, a < 128) :
    Ref rows ln n0 (shotP (iL rows) ln (mask : Int) i (met, wI (ln + 1) w)) (shotN rows mask i (M, w)) := by
  unfold shotP shotN
  rw [tbit]
  have hm : movedI (mask : Int) (i : Int) (iL rows) 7 = (movedN mask i rows 7 : Int) := movedI_eq mask i rows 7
  rw [hm]
  have ha := movedN_lt (mask := mask) (aim := i) hr 7
  generalize movedN mask i rows 7 = a at *
  have hz := b.len
  dsimp only
  split
  · by_cases h1 : a = 0
    · rw [if_pos (by simp [h1]), if_pos h1]; rfl
    · rw [if_neg (by simp; omega), if_neg h1]
      have hb := b.bit a ha
      rw [hb]
      cases e : M.testBit a with
      | true => simp only [if_true]; exact ⟨met, rfl, b, hl, hw⟩
      | false =>
        simp only [Bool.false_eq_true, if_false]
        rw [if_pos (by simp only [List.length_map]; omega)]
        refine ⟨_, ?_, b.add ha e, ?_, ?_⟩
        · simp only [List.map_append, List.map_cons, List.map_nil]
        · simp only [List.length_append, List.length_cons, List.length_nil]; omega
        · intro x hx
          rcases List.mem_append.mp hx with h | h
          · exact hw x h
          · simp at h; omega
  · exact ⟨met, rfl, b, hl, hw⟩
theorem rest_ref {rows : List Nat} (hr : ∀ r ∈ rows, r < 128) {ln n0 mask : Nat} (h0 : ln < n0) : ∀ (k i : Nat) {met : List Int} {M : Nat} {w : List Nat}, BI met M → met.length = n0 + w.length → (∀ a ∈ w, a < 128) →
    Ref rows ln n0 (restP (iL rows) ln (mask : Int) i k (met, wI (ln + 1) w)) (restN rows mask i k (M, w))
  | 0, i, met, M, w, b, hl, hw => ⟨met, rfl, b, hl, hw⟩
  | k + 1, i, met, M, w, b, hl, hw => by
    have s := shot_ref hr (mask := mask) (i := i) b hl h0 hw
    unfold restP restN
    cases e : shotN rows mask i (M, w) with
    | none => rw [e] at s; rw [show shotP (iL rows) ln (mask : Int) i (met, wI (ln + 1) w) = _ from s]; rfl
    | some st =>
      obtain ⟨M', w'⟩ := st
      rw [e] at s
      obtain ⟨met', e', b', hl', hw'⟩ := s
      rw [e']
      exact rest_ref hr h0 k (i + 1) b' hl' hw'
theorem level_ref {rows : List Nat} (hr : ∀ r ∈ rows, r < 128) {ln n0 : Nat} (h0 : ln < n0) : ∀ (l : List Nat) {met : List Int} {M : Nat} {w : List Nat}, BI met M → met.length = n0 + w.length → (∀ a ∈ w, a < 128) →
    Ref rows ln n0 (levelP (iL rows) (wI ln l) (met, wI (ln + 1) w)) (levelN rows l (M, w))
  | [], met, M, w, b, hl, hw => ⟨met, rfl, b, hl, hw⟩
  | mask :: r, met, M, w, b, hl, hw => by
    have s := rest_ref hr (mask := mask) h0 7 0 b hl hw
    unfold levelN
    show Ref rows ln n0 (match restP (iL rows) ln (mask : Int) 0 7 (met, wI (ln + 1) w) with | .ok st' => levelP (iL rows) (wI ln r) st' | .error e => .error e) _
    cases e : restN rows mask 0 7 (M, w) with
    | none => rw [e] at s; rw [show restP (iL rows) ln (mask : Int) 0 7 (met, wI (ln + 1) w) = _ from s]; rfl
    | some st =>
      obtain ⟨M', w'⟩ := st
      rw [e] at s
      obtain ⟨met', e', b', hl', hw'⟩ := s
      rw [e']
      exact level_ref hr h0 r b' hl' hw'
theorem bfs_ref {rows : List Nat} (hr : ∀ r ∈ rows, r < 128) : ∀ (f ln : Nat) {met : List Int} {M : Nat} {w : List Nat}, BI met M → (w ≠ [] → ln < met.length) →
    bfsP (iL rows) f (met, wI ln w) = (bfsN rows f ln (M, w)).map fun n => (n : Int)
  | 0, _, _, _, _, _, _ => rfl
  | f + 1, ln, met, M, w, b, h0 => by
    unfold bfsP bfsN
    cases w with
    | nil => rfl
    | cons a r =>
      rw [show (wI ln (a :: r)).isEmpty = false from rfl, show (a :: r).isEmpty = false from rfl, if_neg (by decide), if_neg (by decide)]
      have s := level_ref hr (h0 (by simp)) (a :: r) (w := []) b (by simp) (by simp)
      cases e : levelN rows (a :: r) (M, []) with
      | none => rw [e] at s; rw [show levelP (iL rows) (wI ln (a :: r)) (met, []) = _ from s]; rfl
      | some st =>
        obtain ⟨M', w'⟩ := st
        rw [e] at s
        obtain ⟨met', e', b', hl', hw'⟩ := s
        rw [show levelP (iL rows) (wI ln (a :: r)) (met, []) = _ from e']
        refine bfs_ref hr f (ln + 1) b' fun hn => ?_
        have : 0 < w'.length := List.length_pos_iff.mpr hn
        have := h0 (by simp)
        omega
-- with a ring none of the sets is emptied
structure Core (rows : List Nat) (c : Nat) : Prop where
  c0 : c ≠ 0
  all : ∀ aim, aim < 7 → c &&& movedN c aim rows 7 = c
theorem Core.step {rows : List Nat} {c m aim : Nat} (C : Core rows c) (h : c &&& m = c) (ha : aim < 7) : c &&& movedN m aim rows 7 = c := by
  have h1 := C.all aim ha
  have h2 := movedN_mono (aim := aim) (rows := rows) h 7
  have : c &&& movedN m aim rows 7 = (c &&& movedN c aim rows 7) &&& movedN m aim rows 7 := by rw [h1]
  rw [this, Nat.and_assoc, h2, h1]
theorem Core.ne {rows : List Nat} {c m : Nat} (C : Core rows c) (h : c &&& m = c) : m ≠ 0 := fun e => by subst e; simp at h; exact C.c0 h.symm
theorem shot_core {rows : List Nat} {c mask i M : Nat} {w : List Nat} (C : Core rows c) (hi : i < 7) (h : c &&& mask = c) (hw : ∀ a ∈ w, c &&& a = c) : ∃ M' w', shotN rows mask i (M, w) = some (M', w') ∧ ∀ a ∈ w', c &&& a = c := by
  unfold shotN
  dsimp only
  have h1 := C.step h hi
  split
  · rw [if_neg (C.ne h1)]
    split
    · exact ⟨_, _, rfl, hw⟩
    · refine ⟨_, _, rfl, fun a ha => ?_⟩
      rcases List.mem_append.mp ha with q | q
      · exact hw a q
      · simp at q; subst q; exact h1
  · exact ⟨_, _, rfl, hw⟩
theorem rest_core {rows : List Nat} {c mask : Nat} (C : Core rows c) (h : c &&& mask = c) : ∀ (k i : Nat) {M : Nat} {w : List Nat}, i + k ≤ 7 → (∀ a ∈ w, c &&& a = c) → ∃ M' w', restN rows mask i k (M, w) = some (M', w') ∧ ∀ a ∈ w', c &&& a = c
  | 0, i, M, w, _, hw => ⟨_, _, rfl, hw⟩
  | k + 1, i, M, w, hi, hw => by
    obtain ⟨M', w', e, hw'⟩ := shot_core (M := M) C (i := i) (by omega) h hw
    unfold restN
    rw [e]
    exact rest_core C h k (i + 1) (by omega) hw'
theorem level_core {rows : List Nat} {c : Nat} (C : Core rows c) : ∀ (l : List Nat) {M : Nat} {w : List Nat}, (∀ a ∈ l, c &&& a = c) → (∀ a ∈ w, c &&& a = c) → ∃ M' w', levelN rows l (M, w) = some (M', w') ∧ ∀ a ∈ w', c &&& a = c
  | [], M, w, _, hw => ⟨_, _, rfl, hw⟩
  | a :: r, M, w, hl, hw => by
    obtain ⟨M', w', e, hw'⟩ := rest_core (M := M) C (hl a (by simp)) 7 0 (by omega) hw
    unfold levelN
    rw [e]
    exact level_core C r (fun x hx => hl x (by simp [hx])) hw'
theorem bfs_core {rows : List Nat} {c : Nat} (hr : ∀ r ∈ rows, r < 128) (C : Core rows c) : ∀ (f ln : Nat) {met : List Int} {M : Nat} {w : List Nat}, BI met M → (w ≠ [] → ln < met.length) → 130 ≤ f + met.length → (∀ a ∈ w, c &&& a = c) → bfsN rows f ln (M, w) = some 0
  | 0, ln, met, M, w, b, _, h, _ => by have := b.len; omega
  | f + 1, ln, met, M, w, b, h0, h, hw => by
    unfold bfsN
    cases w with
    | nil => rfl
    | cons a r =>
      rw [show (a :: r).isEmpty = false from rfl, if_neg (by decide)]
      obtain ⟨M', w', e, hw'⟩ := level_core (M := M) C (a :: r) (w := []) hw (by simp)
      have s := level_ref hr (h0 (by simp)) (a :: r) (w := []) b (by simp) (by simp)
      rw [e] at s
      obtain ⟨met', e', b', hl', _⟩ := s
      rw [e]
      dsimp only
      by_cases hn : w' = []
      · subst hn
        have := b.len
        obtain ⟨g, rfl⟩ : ∃ g, f = g + 1 := ⟨f - 1, by omega⟩
        rfl
      · have : 0 < w'.length := List.length_pos_iff.mpr hn
        have := h0 (by simp)
        exact bfs_core hr C f (ln + 1) b' (fun _ => by omega) (by omega) hw'
end

-- Q2
section
-- the row of places
noncomputable def nb (near : List (List Nat)) (p : Nat) : List Nat := near.getD p []
noncomputable def pushN (near : List (List Nat)) (i x : Nat) : List (List Nat) := near.set i (nb near i ++ [x])
noncomputable abbrev TSt := Nat × List (Nat × Nat) × List (List Nat)
noncomputable def stepN (b : Bool) (p : Nat) : TSt → TSt
  | (e, due, near) => (if b then p + 1 else e, due ++ [(e, p + 1)], pushN (pushN near e (p + 1)) (p + 1) e)
noncomputable def treeN (bs : Nat → Bool) : Nat → TSt
  | 0 => (0, [], List.replicate 7 [])
  | p + 1 => stepN (bs p) p (treeN bs p)
theorem treeN_congr {bs bs' : Nat → Bool} : ∀ k, (∀ p, p < k → bs p = bs' p) → treeN bs k = treeN bs' k
  | 0, _ => rfl
  | k + 1, h => by unfold treeN; rw [treeN_congr k fun p hp => h p (by omega), h k (by omega)]
noncomputable def hbstep (st : List (Nat × Nat) × List Nat) (b : Bool) : List (Nat × Nat) × List Nat :=
  (st.1 ++ [(st.2.getLastD 0, st.1.length + 1)], if b then st.2 ++ [st.1.length + 1] else st.2)
noncomputable def hbL (l : List Bool) : List (Nat × Nat) × List Nat := l.foldl hbstep ([], [0])
noncomputable def codeN (bs : Nat → Bool) : Nat := (bs 0).toNat + 2 * (bs 1).toNat + 4 * (bs 2).toNat + 8 * (bs 3).toNat + 16 * (bs 4).toNat + 32 * (bs 5).toNat
theorem code_lt (bs : Nat → Bool) : codeN bs < 64 := by
  unfold codeN
  have t : ∀ b : Bool, b.toNat ≤ 1 := by decide
  have := t (bs 0); have := t (bs 1); have := t (bs 2); have := t (bs 3); have := t (bs 4); have := t (bs 5)
  omega
theorem code_bits : ∀ b0 b1 b2 b3 b4 b5 : Bool, let c := (b0).toNat + 2 * (b1).toNat + 4 * (b2).toNat + 8 * (b3).toNat + 16 * (b4).toNat + 32 * (b5).toNat
    c.testBit 0 = b0 ∧ c.testBit 1 = b1 ∧ c.testBit 2 = b2 ∧ c.testBit 3 = b3 ∧ c.testBit 4 = b4 ∧ c.testBit 5 = b5 := by decide +kernel
theorem code_bit (bs : Nat → Bool) (p : Nat) (h : p < 6) : (codeN bs).testBit p = bs p := by
  obtain ⟨a0, a1, a2, a3, a4, a5⟩ := code_bits (bs 0) (bs 1) (bs 2) (bs 3) (bs 4) (bs 5)
  match p, h with
  | 0, _ => exact a0
  | 1, _ => exact a1
  | 2, _ => exact a2
  | 3, _ => exact a3
  | 4, _ => exact a4
  | 5, _ => exact a5
noncomputable abbrev bc (c : Nat) : Nat → Bool := fun p => c.testBit p
noncomputable abbrev bl (bs : Nat → Bool) : List Bool := [bs 0, bs 1, bs 2, bs 3, bs 4, bs 5]
noncomputable def nearC (c : Nat) : List (List Nat) := (treeN (bc c) 6).2.2
noncomputable def rowC (c : Nat) : List Nat := (hbL (bl (bc c))).2
noncomputable def innerN (near : List (List Nat)) (row : List Nat) : List Nat := row.filter fun p => decide (1 < (nb near p).length)
noncomputable def sumN (l : List Nat) : Nat := (l.map (2 ^ ·)).sum
noncomputable def rowsN (near : List (List Nat)) : List Nat := (List.range 7).map fun p => sumN (nb near p)
/-- facts of a tree by looking at all 64 -/
noncomputable def symB (near : List (List Nat)) : Bool := near.length == 7 && (List.range 7).all fun p => decide ((nb near p).Nodup) && (nb near p).all (· < 7) && !(nb near p).contains p && (List.range 7).all fun q => (nb near p).contains q == (nb near q).contains p
noncomputable def hangB (c : Nat) : Bool := (hbL (bl (bc c))).1 == (treeN (bc c) 6).2.1 && (rowC c).all (· < 7) && decide ((rowC c).length ≤ 7) && decide ((treeN (bc c) 6).1 < 7)
theorem sym_all : ∀ c : Fin 64, symB (nearC c) = true := by decide +kernel
theorem hang_all : ∀ c : Fin 64, hangB c = true := by decide +kernel
noncomputable def gstep (rows : List Nat) : Nat × Nat × Nat → Nat → Nat × Nat × Nat
  | (s, g, k), a => (movedN s a rows 7, if movedN s a rows 7 = 0 ∧ g = 0 then k + 1 else g, k + 1)
noncomputable def goneN (rows : List Nat) (aims : List Nat) : Nat × Nat × Nat := aims.foldl (gstep rows) (127, 0, 0)
noncomputable def aimsN (inner : List Nat) : List Nat := inner ++ inner.reverse
noncomputable def treeB (c : Nat) : Bool :=
  let near := nearC c
  let inner := innerN near (rowC c)
  let rows := rowsN near
  (goneN rows (aimsN inner)).2.1 == 2 * inner.length && bfsN rows 200 0 (2 ^ 127, [127]) == some (2 * inner.length)
theorem tree_0 : ∀ c : Fin 16, treeB c = true := by decide +kernel
theorem tree_1 : ∀ c : Fin 16, treeB (16 + c) = true := by decide +kernel
theorem tree_2 : ∀ c : Fin 16, treeB (32 + c) = true := by decide +kernel
theorem tree_3 : ∀ c : Fin 16, treeB (48 + c) = true := by decide +kernel
end

-- Q3
section
noncomputable def ringB (near : List (List Nat)) (one two : Nat) : Bool := one != two && !(nb near one).contains two
noncomputable def tieN (near : List (List Nat)) (one two : Nat) : List (List Nat) := if ringB near one two = true then pushN (pushN near one two) two one else near
noncomputable def twoIn (rows : List Nat) (c p : Nat) : Bool :=
  let m := rows.getD p 0 &&& c
  m != 0 && m &&& (m - 1) != 0
noncomputable def thinN (rows : List Nat) (c : Nat) : Nat := (List.range 7).foldl (fun k p => if c.testBit p && twoIn rows c p then k ||| 2 ^ p else k) 0
noncomputable def coreN (rows : List Nat) : Nat := thinN rows (thinN rows (thinN rows (thinN rows (thinN rows (thinN rows 127)))))
noncomputable def coreB (rows : List Nat) (k : Nat) : Bool := k != 0 && (List.range 7).all fun aim => k &&& movedN k aim rows 7 == k
noncomputable def ringOK (c one two : Nat) : Bool :=
  let near := nearC c
  let tied := tieN near one two
  !ringB near one two || (let rows := rowsN tied; coreB rows (coreN rows))
theorem ring_0 : ∀ c : Fin 8, ∀ one two : Fin 7, one < two → ringOK c one two = true := by decide +kernel
theorem ring_1 : ∀ c : Fin 8, ∀ one two : Fin 7, one < two → ringOK (8 + c) one two = true := by decide +kernel
theorem ring_2 : ∀ c : Fin 8, ∀ one two : Fin 7, one < two → ringOK (16 + c) one two = true := by decide +kernel
theorem ring_3 : ∀ c : Fin 8, ∀ one two : Fin 7, one < two → ringOK (24 + c) one two = true := by decide +kernel
theorem ring_lt (c one two : Nat) (hc : c < 32) (h : one < two) (h2 : two < 7) : ringOK c one two = true := by
  by_cases a : c < 8
  · exact ring_0 ⟨c, a⟩ ⟨one, by omega⟩ ⟨two, h2⟩ h
  · by_cases b : c < 16
    · have := ring_1 ⟨c - 8, by omega⟩ ⟨one, by omega⟩ ⟨two, h2⟩ h
      rwa [show 8 + (c - 8) = c by omega] at this
    · by_cases d : c < 24
      · have := ring_2 ⟨c - 16, by omega⟩ ⟨one, by omega⟩ ⟨two, h2⟩ h
        rwa [show 16 + (c - 16) = c by omega] at this
      · have := ring_3 ⟨c - 24, by omega⟩ ⟨one, by omega⟩ ⟨two, h2⟩ h
        rwa [show 24 + (c - 24) = c by omega] at this
theorem step_near (b b' : Bool) (p : Nat) (st : TSt) : (stepN b p st).2.2 = (stepN b' p st).2.2 := by
  obtain ⟨e, due, near⟩ := st; rfl
theorem near_mod (c : Nat) : nearC c = nearC (c % 32) := by
  unfold nearC treeN
  rw [step_near _ (bc (c % 32) 5)]
  rw [treeN_congr (bs := bc c) (bs' := bc (c % 32)) 5 fun p hp => ?_]
  show c.testBit p = (c % 2 ^ 5).testBit p
  rw [Nat.testBit_mod_two_pow]
  simp [hp]
theorem nb_push {near : List (List Nat)} {i x p : Nat} (hi : i < near.length) : nb (pushN near i x) p = if p = i then nb near p ++ [x] else nb near p := by
  unfold nb pushN
  simp only [List.getD_eq_getElem?_getD, List.getElem?_set]
  by_cases h : p = i
  · subst h; simp [hi, nb]
  · rw [if_neg h, if_neg (Ne.symm h)]
theorem push_len {near : List (List Nat)} {i x : Nat} : (pushN near i x).length = near.length := by simp [pushN]
structure Sym (near : List (List Nat)) : Prop where
  len : near.length = 7
  nd : ∀ p, p < 7 → (nb near p).Nodup
  lt : ∀ p, p < 7 → ∀ q ∈ nb near p, q < 7
  sy : ∀ p q, p < 7 → q < 7 → (nb near p).contains q = (nb near q).contains p
  ir : ∀ p, p < 7 → (nb near p).contains p = false
theorem sym_of {near : List (List Nat)} (h : symB near = true) : Sym near := by
  unfold symB at h
  simp only [Bool.and_eq_true, beq_iff_eq, List.all_eq_true, List.mem_range, decide_eq_true_eq, Bool.not_eq_true'] at h
  exact ⟨h.1, fun p hp => (h.2 p hp).1.1.1, fun p hp q hq => (h.2 p hp).1.1.2 q hq, fun p q hp hq => (h.2 p hp).2 q hq, fun p hp => (h.2 p hp).1.2⟩
theorem tie_comm {near : List (List Nat)} {one two : Nat} (S : Sym near) (h1 : one < 7) (h2 : two < 7) : tieN near one two = tieN near two one := by
  have e : ringB near one two = ringB near two one := by
    unfold ringB
    rw [S.sy one two h1 h2]
    exact congrArg (· && _) bne_comm
  unfold tieN
  rw [e]
  split
  · rename_i h
    unfold ringB at h
    simp only [Bool.and_eq_true, bne_iff_ne] at h
    have ne : two ≠ one := h.1
    unfold pushN nb
    simp only [List.getD_eq_getElem?_getD, List.getElem?_set, if_neg ne, if_neg ne.symm]
    exact List.set_comm _ _ ne.symm
  · rfl
theorem near_sym (c : Nat) (hc : c < 64) : Sym (nearC c) := sym_of (sym_all ⟨c, hc⟩)
theorem ringB_comm {near : List (List Nat)} {one two : Nat} (S : Sym near) (h1 : one < 7) (h2 : two < 7) : ringB near one two = ringB near two one := by
  unfold ringB
  rw [S.sy one two h1 h2]
  exact congrArg (· && _) bne_comm
theorem nb_tie {near : List (List Nat)} {one two : Nat} (S : Sym near) (h1 : one < 7) (h2 : two < 7) (r : ringB near one two = true) (p : Nat) : nb (tieN near one two) p = nb near p ++ ((if p = one then [two] else []) ++ if p = two then [one] else []) := by
  unfold tieN
  have ne : one ≠ two := by unfold ringB at r; simp only [Bool.and_eq_true, bne_iff_ne] at r; exact r.1
  rw [if_pos r, nb_push (by rw [push_len, S.len]; exact h2), nb_push (by rw [S.len]; exact h1)]
  by_cases a : p = one
  · subst a; simp [ne]
  · by_cases b : p = two
    · subst b; simp [a]
    · simp [a, b]
theorem tie_sym {near : List (List Nat)} {one two : Nat} (S : Sym near) (h1 : one < 7) (h2 : two < 7) : Sym (tieN near one two) := by
  cases r : ringB near one two with
  | false => unfold tieN; rw [r]; simpa using S
  | true =>
    have N := nb_tie S h1 h2 r
    unfold ringB at r
    simp only [Bool.and_eq_true, bne_iff_ne, Bool.not_eq_true'] at r
    obtain ⟨ne, n1⟩ := r
    have n2 : (nb near two).contains one = false := by rw [← S.sy one two h1 h2]; exact n1
    have m1 : two ∉ nb near one := by simpa using n1
    have m2 : one ∉ nb near two := by simpa using n2
    have C : ∀ p q, (nb (tieN near one two) p).contains q = true ↔ (q ∈ nb near p ∨ (p = one ∧ q = two) ∨ (p = two ∧ q = one)) := by
      intro p q
      rw [N, List.contains_iff_mem, List.mem_append, List.mem_append]
      by_cases a : p = one <;> by_cases b : p = two <;> simp [a, b]
    refine ⟨by unfold tieN; split <;> simp [push_len, S.len], ?_, ?_, ?_, ?_⟩
    · intro p hp
      rw [N]
      by_cases a : p = one
      · subst a
        rw [if_pos rfl, if_neg ne, List.append_nil, List.nodup_append]
        exact ⟨S.nd p hp, by simp, fun x hx y hy e => by simp at hy; subst hy; subst e; exact m1 hx⟩
      · by_cases b : p = two
        · subst b
          rw [if_neg a, if_pos rfl, List.nil_append, List.nodup_append]
          exact ⟨S.nd p hp, by simp, fun x hx y hy e => by simp at hy; subst hy; subst e; exact m2 hx⟩
        · rw [if_neg a, if_neg b, List.append_nil, List.append_nil]; exact S.nd p hp
    · intro p hp q hq
      rcases (C p q).mp (by simpa using hq) with h | ⟨_, h⟩ | ⟨_, h⟩
      · exact S.lt p hp q h
      · omega
      · omega
    · intro p q hp hq
      rw [Bool.eq_iff_iff, C, C]
      have := S.sy p q hp hq
      rw [Bool.eq_iff_iff] at this
      simp only [List.contains_iff_mem] at this
      rw [this]
      constructor
      · rintro (h | ⟨a, b⟩ | ⟨a, b⟩)
        · exact .inl h
        · exact .inr (.inr ⟨b, a⟩)
        · exact .inr (.inl ⟨b, a⟩)
      · rintro (h | ⟨a, b⟩ | ⟨a, b⟩)
        · exact .inl h
        · exact .inr (.inr ⟨b, a⟩)
        · exact .inr (.inl ⟨b, a⟩)
    · intro p hp
      cases e : (nb (tieN near one two) p).contains p with
      | false => rfl
      | true =>
        rcases (C p p).mp e with h | ⟨a, b⟩ | ⟨a, b⟩
        · have := S.ir p hp
          rw [List.contains_iff_mem.mpr h] at this
          cases this
        · exact absurd (a.symm.trans b) ne
        · exact absurd (b.symm.trans a) ne
theorem ring_ok (c one two : Nat) (hc : c < 64) (h1 : one < 7) (h2 : two < 7) : Sym (tieN (nearC c) one two) ∧ (ringB (nearC c) one two = true → ∃ k, coreB (rowsN (tieN (nearC c) one two)) k = true) := by
  have S := near_sym c hc
  have lt : ∀ one two, one < two → two < 7 → Sym (tieN (nearC c) one two) ∧ (ringB (nearC c) one two = true → ∃ k, coreB (rowsN (tieN (nearC c) one two)) k = true) := by
    intro one two h h2
    have := ring_lt (c % 32) one two (Nat.mod_lt _ (by decide)) h h2
    unfold ringOK at this
    rw [← near_mod] at this
    simp only [Bool.or_eq_true, Bool.not_eq_true'] at this
    exact ⟨tie_sym S (by omega) h2, fun r => ⟨_, this.resolve_left (by rw [r]; decide)⟩⟩
  rcases Nat.lt_trichotomy one two with h | h | h
  · exact lt one two h h2
  · subst h
    have : ringB (nearC c) one one = false := by simp [ringB]
    unfold tieN
    rw [this]
    exact ⟨by simpa using S, by simp⟩
  · rw [tie_comm S h1 h2, ringB_comm S h1 h2]
    exact lt two one h h1
theorem core_of {rows : List Nat} {k : Nat} (h : coreB rows k = true) : Core rows k := by
  unfold coreB at h
  simp only [Bool.and_eq_true, bne_iff_ne, List.all_eq_true, List.mem_range, beq_iff_eq] at h
  exact ⟨h.1, h.2⟩
theorem add_bit : ∀ n : Fin 128, ∀ a : Fin 7, (n : Nat).testBit a = false → 2 ^ (a : Nat) + (n : Nat) < 128 ∧ ∀ p : Fin 7, (2 ^ (a : Nat) + (n : Nat)).testBit p = ((p : Nat) == a || (n : Nat).testBit p) := by decide +kernel
theorem sum_bit : ∀ l : List Nat, l.Nodup → (∀ q ∈ l, q < 7) → sumN l < 128 ∧ ∀ p, p < 7 → (sumN l).testBit p = l.contains p
  | [], _, _ => ⟨by simp [sumN], fun p _ => by simp [sumN]⟩
  | a :: r, hd, hl => by
    have hd' := List.nodup_cons.mp hd
    obtain ⟨b, ih⟩ := sum_bit r hd'.2 fun q hq => hl q (List.mem_cons_of_mem _ hq)
    have ha := hl a List.mem_cons_self
    have e : sumN (a :: r) = 2 ^ a + sumN r := by simp [sumN]
    rw [e]
    have := add_bit ⟨sumN r, b⟩ ⟨a, ha⟩ (by
      show (sumN r).testBit a = false
      rw [ih a ha]
      simpa using hd'.1)
    refine ⟨this.1, fun p hp => ?_⟩
    have h2 := this.2 ⟨p, hp⟩
    rw [show (2 ^ a + sumN r).testBit p = (p == a || (sumN r).testBit p) from h2, ih p hp, List.contains_cons]
theorem rows_getD {near : List (List Nat)} {v : Nat} (h : v < 7) : (rowsN near).getD v 0 = sumN (nb near v) := by
  unfold rowsN
  simp [List.getD_eq_getElem?_getD, h]
theorem rows_lt {near : List (List Nat)} (S : Sym near) : ∀ r ∈ rowsN near, r < 128 := by
  intro r hr
  unfold rowsN at hr
  obtain ⟨p, hp, rfl⟩ := List.mem_map.mp hr
  have hp := List.mem_range.mp hp
  exact (sum_bit _ (S.nd p hp) (S.lt p hp)).1
noncomputable def bitsOf (s : Nat) : List Nat := (List.range 7).filter fun p => s.testBit p
noncomputable def seatsN (near : List (List Nat)) (seats : List Nat) (aim : Nat) : List Nat := (List.range 7).filter fun p => ((nb near p).filter fun q => seats.contains q && q != aim) != []
theorem bits_contains {s q : Nat} (h : q < 7) : (bitsOf s).contains q = s.testBit q := by
  rw [Bool.eq_iff_iff]; simp [bitsOf, h]
theorem seat_step {near : List (List Nat)} (S : Sym near) (s aim : Nat) : seatsN near (bitsOf s) aim = bitsOf (movedN s aim (rowsN near) 7) := by
  unfold seatsN
  rw [show bitsOf (movedN s aim (rowsN near) 7) = (List.range 7).filter fun p => (movedN s aim (rowsN near) 7).testBit p from rfl]
  apply List.filter_congr
  intro p hp
  have hp := List.mem_range.mp hp
  rw [Bool.eq_iff_iff, movedN_bit]
  simp only [bne_iff_ne, ne_eq, List.filter_eq_nil_iff, Bool.and_eq_true, bne_iff_ne]
  constructor
  · intro h
    simp only [Classical.not_forall, Classical.not_not] at h
    obtain ⟨q, hq, h1, h2⟩ := h
    have h7 := S.lt p hp q hq
    rw [bits_contains h7] at h1
    refine ⟨q, h7, h1, h2, ?_⟩
    rw [rows_getD h7, (sum_bit _ (S.nd q h7) (S.lt q h7)).2 p hp, S.sy q p h7 hp]
    simpa using hq
  · rintro ⟨v, hv, h1, h2, h3⟩ h
    rw [rows_getD hv, (sum_bit _ (S.nd v hv) (S.lt v hv)).2 p hp, S.sy v p hv hp] at h3
    exact h v (by simpa using h3) ⟨by rw [bits_contains hv]; exact h1, h2⟩
theorem bitsN_eq (s : Nat) : ∀ i, bitsN s i = ((List.range i).filter fun p => s.testBit p).map nm
  | 0 => rfl
  | i + 1 => by
    unfold bitsN
    rw [bitsN_eq s i, List.range_succ, List.filter_append, List.map_append]
    congr 1
    cases e : s.testBit i <;> simp [e]
/-- the texts of the places -/
theorem pp_eq (s : Nat) (h : s < 128) : pp s = if s = 0 then [Str.ofString "0x0"] else (bitsOf s).map nm := by
  unfold pp
  rw [bitsN_eq]
  rfl
theorem bits_nil : ∀ s : Fin 128, (bitsOf s == []) = ((s : Nat) == 0) := by decide +kernel
end

-- Q4
section
-- the signs hang as the parities say
noncomputable def oddI (x : Int) : Bool := x.fmod 2 == 1
noncomputable abbrev ipr (l : List (Nat × Nat)) : List (Int × Int) := l.map fun (p : Nat × Nat) => ((p.1 : Int), (p.2 : Int))
noncomputable abbrev castH (st : List (Nat × Nat) × List Nat) : List (Int × Int) × List Int := (ipr st.1, iL st.2)
theorem bes_none (x : Int) : (inC7 (besC x).toNat || inC8 (besC x).toNat) = false := by
  have h := all_getD (l := besL) (p := fun y => !(inC7 y || inC8 y)) (by decide) (by decide) ((x.fdiv 30).fmod 10).toNat
  have := (besC_ok x).1
  rw [show (((besC x).toNat : Nat) : Int) = besC x by omega]
  simpa [besC] using h
theorem sig_odd {x : Int} (h : oddI x = true) : inC7 (sigC x).toNat = true := by
  have := (sigC_ok x).1
  rw [show (((sigC x).toNat : Nat) : Int) = sigC x by omega]
  unfold sigC
  rw [if_pos (show (x.fmod 2 == 1) = true from h)]
  have := fm (x := x.fdiv 2) (b := 12) (by decide)
  simp only [inC7, Bool.and_eq_true, decide_eq_true_eq]
  omega
theorem sig_even {x : Int} (h : oddI x = false) : inC7 (sigC x).toNat = false ∧ inC8 (sigC x).toNat = true := by
  have := (sigC_ok x).1
  rw [show (((sigC x).toNat : Nat) : Int) = sigC x by omega]
  unfold sigC
  rw [if_neg (by rw [show (x.fmod 2 == 1) = false from h]; decide)]
  have h15 := fm (x := x.fdiv 2) (b := 15) (by decide)
  have hm : leaL.getD ((x.fdiv 2).fmod 15).toNat 0 ∈ leaL := by
    have : ((x.fdiv 2).fmod 15).toNat < leaL.length := by simp only [leaL, List.length_cons, List.length_nil]; omega
    exact List.mem_of_getElem? (getD_lt this)
  have := List.all_eq_true.mp (show leaL.all (fun y => !inC7 y && inC8 y) = true by decide) _ hm
  simpa using this
theorem last_iL (l : List Nat) : (iL l).getLastD 0 = ((l.getLastD 0 : Nat) : Int) := by
  rw [List.getLastD_eq_getLast?, List.getLastD_eq_getLast?, List.getLast?_map]
  cases l.getLast? <;> rfl
theorem hstep_cast (st : List (Nat × Nat) × List Nat) (x : Int) : hstep (castH st) (sigC x).toNat = castH (hbstep st (oddI x)) := by
  unfold hstep hbstep
  cases h : oddI x with
  | true =>
    have := sig_odd h
    rw [this]
    simp only [Bool.true_or, if_true]
    dsimp only [castH]
    rw [last_iL]
    simp [ipr, iL]
  | false =>
    obtain ⟨a, b⟩ := sig_even h
    rw [a, b]
    simp only [Bool.false_or, if_true, Bool.false_eq_true, if_false]
    dsimp only [castH]
    rw [last_iL]
    simp [ipr, iL]
theorem hung_signs (xs : List Int) : hungP (signsL xs) = castH (hbL (xs.map oddI)) := by
  unfold hungP hbL
  have : ∀ (xs : List Int) (st : List (Nat × Nat) × List Nat), (signsL xs).foldl hstep (castH st) = castH ((xs.map oddI).foldl hbstep st) := by
    intro xs
    induction xs with
    | nil => intro st; rfl
    | cons x xs ih =>
      intro st
      have e : signsL (x :: xs) = (besC x).toNat :: (sigC x).toNat :: signsL xs := rfl
      rw [e, List.foldl_cons, List.foldl_cons, List.map_cons, List.foldl_cons]
      have h1 : hstep (castH st) (besC x).toNat = castH st := by
        unfold hstep
        rw [bes_none]
        simp
      rw [h1, hstep_cast]
      exact ih _
  exact this xs ([], [0])
noncomputable abbrev bsD (d : List Int) : Nat → Bool := fun p => oddI (d.getD p 0)
noncomputable abbrev cD (d : List Int) : Nat := codeN (bsD d)
theorem take6 {d : List Int} (h : d.length = 7) : (d.take 6).map oddI = bl (bc (cD d)) := by
  have e : bl (bc (cD d)) = bl (bsD d) := by
    simp only [bl, bc]
    rw [code_bit _ 0 (by decide), code_bit _ 1 (by decide), code_bit _ 2 (by decide), code_bit _ 3 (by decide), code_bit _ 4 (by decide), code_bit _ 5 (by decide)]
  rw [e]
  match d, h with
  | [a, b, c, d, e, f, g], _ => rfl
theorem tree_D (d : List Int) : treeN (bsD d) 6 = treeN (bc (cD d)) 6 := treeN_congr 6 fun p hp => (code_bit _ p hp).symm
theorem hang_D {d : List Int} (h : d.length = 7) : (hungP (signsL (d.take 6))).1 = ipr (treeN (bsD d) 6).2.1 ∧ (hungP (signsL (d.take 6))).2 = iL (rowC (cD d)) := by
  rw [hung_signs, take6 h, tree_D]
  have := hang_all ⟨cD d, code_lt _⟩
  unfold hangB at this
  simp only [Bool.and_eq_true, beq_iff_eq] at this
  refine ⟨?_, rfl⟩
  show ipr _ = _
  rw [this.1.1.1]
theorem row_D (c : Nat) (h : c < 64) : (∀ p ∈ rowC c, p < 7) ∧ (rowC c).length ≤ 7 := by
  have := hang_all ⟨c, h⟩
  unfold hangB at this
  simp only [Bool.and_eq_true, beq_iff_eq, List.all_eq_true, decide_eq_true_eq] at this
  exact ⟨this.1.1.2, this.1.2⟩
theorem inner_D (c : Nat) (h : c < 64) : (∀ p ∈ innerN (nearC c) (rowC c), p < 7) ∧ (innerN (nearC c) (rowC c)).length ≤ 7 := by
  have := row_D c h
  unfold innerN
  exact ⟨fun p hp => this.1 p (List.mem_filter.mp hp).1, Nat.le_trans (List.length_filter_le _ _) this.2⟩
-- the octets are read back
noncomputable def encI (v : Nat) (r : Int) : List Int := List.replicate ((v : Int).fmod 3).toNat 64 ++
     (if decide (63 < r) = true then [128 * (v : Int).fmod 2 + 64 + r.fdiv 64, r.fmod 64] else [128 * (v : Int).fmod 2 + r])
theorem oct_succ (rows : List Int) (v : Nat) : octP rows (v + 1) = octP rows v ++ encI v (rows.getD v 0) := by
  show octP rows v ++ _ ++ _ = _
  rw [List.append_assoc]; rfl
noncomputable def tlO (rows : List Int) : Nat → List Int
  | 0 => []
  | j + 1 => encI (6 - j) (rows.getD (6 - j) 0) ++ tlO rows j
theorem oct_tl (rows : List Int) : octP rows 7 = tlO rows 7 := by
  simp only [oct_succ, tlO]
  simp only [octP, List.nil_append, List.append_assoc, List.append_nil]
theorem vrun_app {x : Int} : ∀ {l r : List Int} {v b : Int}, vrun v b l = some (x, []) → vrun v b (l ++ r) = some (x, r)
  | [], r, v, b, h => by
    unfold vrun at h
    split at h
    · cases h
    · rename_i hb
      simp at h; subst h
      cases r with
      | nil => simp only [List.append_nil]; unfold vrun; rw [if_neg hb]
      | cons c r => simp only [List.nil_append]; unfold vrun; rw [if_neg hb]
  | c :: l, r, v, b, h => by
    unfold vrun at h
    rw [List.cons_append]
    unfold vrun
    split at h
    · rename_i hb
      rw [if_pos hb]
      split at h
      · rename_i hv
        rw [if_pos hv]
        exact vrun_app h
      · cases h
    · simp at h
theorem varint_app {x : Int} {l r : List Int} (h : varint l = some (x, [])) : varint (l ++ r) = some (x, r) := by
  cases l with
  | nil => cases h
  | cons b l => exact vrun_app h
theorem enc_ok : ∀ v : Fin 7, ∀ r : Fin 128, varint (encI v ((r : Nat) : Int)) = some (((r : Nat) : Int), []) := by decide +kernel
theorem read_ok {rows : List Nat} (h : ∀ r ∈ rows, r < 128) {i : Nat} (hi : i < 7) : varint (tlO (iL rows) (7 - i)) = some ((iL rows).getD i 0, tlO (iL rows) (7 - (i + 1))) := by
  obtain ⟨j, hj⟩ : ∃ j, 7 - i = j + 1 := ⟨6 - i, by omega⟩
  have e : 6 - j = i := by omega
  have e2 : 7 - (i + 1) = j := by omega
  rw [hj, e2]
  show varint (encI (6 - j) ((iL rows).getD (6 - j) 0) ++ tlO (iL rows) j) = _
  rw [e]
  refine varint_app ?_
  rw [iL_getD]
  have hr : rows.getD i 0 < 128 := by
    rw [List.getD_eq_getElem?_getD]
    cases e : rows[i]? with
    | none => simp
    | some x => exact h x (List.mem_of_getElem? e)
  exact enc_ok ⟨i, hi⟩ ⟨_, hr⟩
-- what is asked
theorem bi_start : BI [127] (2 ^ 127) := by
  refine ⟨by simp, by simp, fun k hk => ?_⟩
  rw [Nat.testBit_two_pow, Bool.eq_iff_iff]
  simp
  omega
theorem tree_all (c : Nat) (h : c < 64) : treeB c = true := by
  by_cases a : c < 16
  · exact tree_0 ⟨c, a⟩
  · by_cases b : c < 32
    · have := tree_1 ⟨c - 16, by omega⟩
      rwa [show 16 + (c - 16) = c by omega] at this
    · by_cases d : c < 48
      · have := tree_2 ⟨c - 32, by omega⟩
        rwa [show 32 + (c - 32) = c by omega] at this
      · have := tree_3 ⟨c - 48, by omega⟩
        rwa [show 48 + (c - 48) = c by omega] at this
noncomputable def askedN (c one two : Nat) : Nat := if ringB (nearC c) one two = true then 0 else 2 * (innerN (nearC c) (rowC c)).length
theorem gone_core {rows : List Nat} {k : Nat} (C : Core rows k) (h127 : k &&& 127 = k) : ∀ (aims : List Nat) (st : Nat × Nat × Nat), (∀ a ∈ aims, a < 7) → k &&& st.1 = k → st.2.1 = 0 → (aims.foldl (gstep rows) st).2.1 = 0
  | [], st, _, _, h => h
  | a :: r, (s, g, n), ha, h1, h2 => by
    rw [List.foldl_cons]
    have s1 := C.step (aim := a) h1 (ha a (by simp))
    refine gone_core C h127 r _ (fun x hx => ha x (by simp [hx])) s1 ?_
    show (if movedN s a rows 7 = 0 ∧ g = 0 then n + 1 else g) = 0
    rw [if_neg (fun q => C.ne s1 q.1)]
    exact h2
theorem core_127 {rows : List Nat} {k : Nat} (hr : ∀ r ∈ rows, r < 128) (C : Core rows k) : k &&& 127 = k := by
  have h := C.all 0 (by decide)
  have hm := movedN_lt (mask := k) (aim := 0) hr 7
  rw [← h, Nat.and_assoc]
  congr 1
  have : movedN k 0 rows 7 &&& 127 = movedN k 0 rows 7 % 2 ^ 7 := Nat.and_two_pow_sub_one_eq_mod _ 7
  rw [this, Nat.mod_eq_of_lt hm]
theorem asked_ok (c one two : Nat) (hc : c < 64) (h1 : one < 7) (h2 : two < 7) :
    (goneN (rowsN (tieN (nearC c) one two)) (aimsN (innerN (nearC c) (rowC c)))).2.1 = askedN c one two ∧ bfsP (iL (rowsN (tieN (nearC c) one two))) 200 ([127], [(0, 127)]) = some (askedN c one two : Int) := by
  obtain ⟨S, R⟩ := ring_ok c one two hc h1 h2
  have hr := rows_lt S
  have B := bfs_ref hr 200 0 (w := [127]) bi_start (by simp)
  rw [show bfsP (iL (rowsN (tieN (nearC c) one two))) 200 ([127], [(0, 127)]) = _ from B]
  have ai : ∀ a ∈ aimsN (innerN (nearC c) (rowC c)), a < 7 := by
    have := (inner_D c hc).1
    intro a ha
    unfold aimsN at ha
    simp only [List.mem_append, List.mem_reverse, or_self] at ha
    exact this a ha
  unfold askedN
  cases r : ringB (nearC c) one two with
  | true =>
    obtain ⟨k, hk⟩ := R r
    have C := core_of hk
    have h127 := core_127 hr C
    rw [if_pos rfl]
    refine ⟨gone_core C h127 _ _ ai h127 rfl, ?_⟩
    rw [bfs_core hr C 200 0 bi_start (by simp) (by simp) (by simpa using h127)]
    rfl
  | false =>
    rw [if_neg (by decide)]
    have e : tieN (nearC c) one two = nearC c := by unfold tieN; rw [r]; rfl
    rw [e]
    have := tree_all c hc
    unfold treeB at this
    simp only [Bool.and_eq_true, beq_iff_eq] at this
    exact ⟨this.1, by rw [this.2]; rfl⟩
end

-- C7
section
/-- a list of pairs of whole numbers -/
noncomputable def LP (h : Heap) (a : Addr) (ps : List (Int × Int)) : Prop := ∃ vs, PL h a vs ∧ AT (fun _ => True) h vs ps
noncomputable def adrs : List Value → List Addr
  | [] => []
  | .ref b :: r => b :: adrs r
  | _ :: r => adrs r
theorem AT.at {N : Addr → Prop} {h h' : Heap} : ∀ {vs : List Value} {ps : List (Int × Int)}, AT N h vs ps → (∀ b ∈ adrs vs, ∀ o, h.get? b = some o → h'.get? b = some o) → AT N h' vs ps
  | _, _, .nil, _ => .nil
  | _, _, .cons n ⟨k, e⟩ r, q => .cons n ⟨k, q _ (by simp [adrs]) _ e⟩ (r.at fun b hb => q b (by simp [adrs, hb]))
theorem AT.adr {N : Addr → Prop} {h : Heap} : ∀ {vs : List Value} {ps : List (Int × Int)}, AT N h vs ps → ∀ b ∈ adrs vs, N b ∧ ∃ o, h.get? b = some o
  | _, _, .nil, b, hb => by simp [adrs] at hb
  | _, _, .cons n ⟨k, e⟩ r, b, hb => by
    simp only [adrs, List.mem_cons] at hb
    rcases hb with rfl | hb
    · exact ⟨n, _, e⟩
    · exact r.adr b hb
theorem LP.gd {h : Heap} {L a : Addr} {vs : List Value} {ps : List (Int × Int)} {N : Addr → Prop} (p : PL h a vs) (x : AT N h vs ps) (n : a ∉ fA L) (nN : ∀ b, N b → b ∉ fA L) : Gd h L (a :: adrs vs) (fun h => LP h a ps) := by
  refine ⟨fun h' q => ⟨vs, p.at (q a (by simp)), (x.at fun b hb => q b (by simp [hb])).imp fun _ _ => trivial⟩, fun b hb => ?_, fun b hb => ?_⟩
  · rcases List.mem_cons.mp hb with rfl | hb
    · exact pl_live p
    · exact (x.adr b hb).2
  · rcases List.mem_cons.mp hb with rfl | hb
    · exact n
    · exact nN b (x.adr b hb).1
structure S2 (w : World) (h₀ : Heap) (L : Addr) (h : Heap) (m mc : Str → Option Value) (B : List Addr) (fa da ta sa : Addr) (d : List Int) (T : List (Int × Int)) (R : List Int) : Prop where
  l : LF h₀ L h m mc
  e1 : mc "flags" = some (.ref fa)
  e2 : m "drawn" = some (.ref da)
  e3 : m "told" = some (.ref ta)
  e4 : m "row" = some (.ref sa)
  g : Gd h L B (fun h => (FL h fa ∧ LI h da d) ∧ LP h ta T ∧ LI h sa R)
section
variable {w : World} {A : Around} {G : Array GenState} {D : Drawn} {O : OsState} {h h' h₀ h1 : Heap} {t t1 : Nat} {env : Env} {m mc : Str → Option Value} {L : Addr}
theorem ai_take {vs : List Value} {ns : List Int} (x : AI vs ns) : ∀ k, AI (vs.take k) (ns.take k) := by
  induction x with
  | nil => intro k; simp; exact .nil
  | cons r ih => intro k; cases k with
    | zero => simp; exact .nil
    | succ k => simp only [List.take_succ_cons]; exact .cons (ih k)
theorem r_slice6 {value : Expr} {p pos : Pos} {b : Int} {c : Expr} {Q : Value → Shared → Prop} (hb : 0 ≤ b)
    (ht : ∀ o r, letTemporaryGo value o r = pure ())
    (q : wpAny (model P0 w) A (eval value env) (fun o s₁ => ∃ l ns h1 t1, o = .ref l ∧ s₁ = ⟨h1, G, D, t1, O⟩ ∧ LI h1 l ns ∧ ns.length ≤ 1000 ∧ wpAny (model P0 w) A (eval c env) (fun v s₂ => ∃ u t2, v = .int b u ∧ s₂ = ⟨h1, G, D, t2, O⟩ ∧
      ∀ r h2, Ex h1 h2 → h1.get? r = none → LI h2 r (ns.take b.toNat) → Q (.ref r) ⟨h2, G, D, t2, O⟩) NoE ⟨h1, G, D, t1, O⟩) NoE ⟨h, G, D, t, O⟩) :
    wpAny (model P0 w) A (eval (.Subscript value (.Slice none (some c) none p) pos) env) Q NoE ⟨h, G, D, t, O⟩ := by
  refine wpAny_Subscript_list_slice (wpAny_mono q (fun o s₁ k => ?_) fun _ _ e => e) ht
  obtain ⟨l, ns, h1, t1, rfl, rfl, li, hz, k⟩ := k
  refine wpAny_evalPart_none ?_
  refine wpAny_evalPart_some (wpAny_mono k (fun v s₂ k => ?_) fun _ _ e => e)
  obtain ⟨u, t2, rfl, rfl, k⟩ := k
  obtain ⟨vs, pl, ai⟩ := id li
  refine ⟨l, vs.toArray, none, some b, rfl, pl.isList, szl (by have := ai.length; simp; omega), .none, .int _ _, ?_⟩
  have eb : b = (b.toNat : Int) := by omega
  refine k _ _ ((Ex.push _ _).trans (Ex.push _ _)) (Heap.get?_none_of_le (Nat.le_succ _)) ⟨vs.take b.toNat, ⟨0, ?_⟩, ai_take ai _⟩
  have e1 := Heap.get?_push_size (h1.push { cls := .type "slice", data := .fields #[Value.none, .int b u, .none] }) (o := { cls := .type "list", data := .seq (slicePick vs.toArray none (some b) none) }) rfl
  rw [Heap.size_push] at e1
  rw [e1]
  have : slicePick vs.toArray none (some b) none = (vs.take b.toNat).toArray := by
    conv => lhs; rw [eb]
    rw [slicePick_upto']
  rw [this]
set_option maxHeartbeats 1000000 in
theorem ph2 {fa da : Addr} {d : List Int} {Q : Flow → Shared → Prop} {n : Nat} (V : Lv env L) (hh : Room A (n + 2)) (X : KB w h₀) (s : S1 w h₀ L h m mc fa da d) (hd : d.length = 7)
    (k : ∀ h t m mc B ta sa, S2 w h₀ L h m mc B fa da ta sa d (hungP (signsL (d.take 6))).1 (hungP (signsL (d.take 6))).2 → wpAny (model P0 w) A (execs (lw 4) env) Q NoE ⟨h, G, D, t, O⟩) :
    wpAny (model P0 w) A (execs (lw 3) env) Q NoE ⟨h, G, D, t, O⟩ := by
  obtain ⟨l, e1, e2, g⟩ := s
  have X1 := X.ex l.F.keep
  refine r_seq (st := stm 19 3) (rest := lw 4) (by kernel_rfl) ?_
  refine Assign_Tuple ?_
  refine wpAny_Call_NameR ?_
  refine r_glob X1 V.fn (V.kd (by kernel_rfl)) V.V.g (v := .ref 170) (by kernel_rfl) ?_
  refine r_cw (fo := o170 w.params) (fd := fHung w.params) (by kernel_rfl) (by kernel_rfl) ?_
  refine args_cons ?_
  refine wpAny_Call_NameR ?_
  refine r_glob X1 V.fn (V.kd (by kernel_rfl)) V.V.g (v := .ref 163) (by kernel_rfl) ?_
  refine r_cw (fo := o163 w.params) (fd := fSigns w.params) (by kernel_rfl) (by kernel_rfl) ?_
  refine args_cons ?_
  refine r_slice6 (b := 6) (by decide) (fun _ _ => rfl) ?_
  refine l_ld V l (by kernel_rfl) e2 ?_
  refine ⟨da, d, _, _, rfl, rfl, g.here.2, by omega, ?_⟩
  refine r_int ?_
  intro u t
  refine ⟨u, t, rfl, rfl, ?_⟩
  intro r h2 x2 nr li
  have l2 := l.ex x2
  have g2 := g.ex x2
  refine args_nil ⟨X.ex l2.F.keep, ?_⟩
  refine signs_spec (X.ex l2.F.keep) (hh.less (by omega)) li.il (by simp; omega) ?_
  intro u3 h3 t3 x3
  have l3 := l2.ex x3
  have g3 := g2.ex x3
  refine args_nil ⟨X.ex l3.F.keep, ?_⟩
  refine hung_spec (X.ex l3.F.keep) (hh.less (by omega)) (by rw [signs_len]; simp; omega) ?_
  intro ra ta sa tvs svs h4 t4 x4 tr pt ps at1 ai n1 n2 n3
  have l4 := l3.ex x4
  have g4 := g3.ex x4
  refine wpAny_assign_Tuple hh.hd tr.is rfl rfl ?_
  intro h5 x5
  have x5 := ext_ex x5
  have l5 := l4.ex x5
  have g5 := (g4.ex x5).and ((LP.gd (L := L) (pl_ex pt x5) (at1.ex x5) (l3.off n1) (fun b n => l3.off n)).and (LI.gd ⟨svs, pl_ex ps x5, ai⟩ (l3.off n2)))
  show wpAny _ A (do holding [.ref sa] (assign (.Name _ _) env (.ref ta)); do holding [] (assign (.Name _ _) env (.ref sa)); pure ()) _ _ _
  refine wpAny_bind (wpAny_holding (wpAny_assign_Name ?_))
  refine l_st V l5 (by kernel_rfl) ?_
  intro h6 t6 l6 k6
  have g6 := g5.fr k6
  refine wpAny_bind (wpAny_holding (wpAny_assign_Name ?_))
  refine l_st V l6 (by kernel_rfl) ?_
  intro h7 t7 l7 k7
  have g7 := g6.fr k7
  refine wpAny_pure ?_
  exact k h7 t7 _ _ _ ta sa ⟨l7, e1, by walk_at "hv", by walk_at "hv", by walk_at "hv", g7⟩
end
end

-- C8
section
/-- the places' neighbours -/
structure NR (h : Heap) (na : Addr) (as : List Addr) (near : List (List Nat)) : Prop where
  pl : PL h na (as.map .ref)
  nd : as.Nodup
  out : na ∉ as
  len : as.length = near.length
  at' : ∀ i a, as[i]? = some a → LI h a (iL (nb near i))
theorem NR.kp {W : List Addr} {h h' : Heap} {na : Addr} {as : List Addr} {near : List (List Nat)} (x : NR h na as near) (k : Kp W h h') (n : na ∉ W) (n' : ∀ a ∈ as, a ∉ W) : NR h' na as near :=
  ⟨pl_kp x.pl k n, x.nd, x.out, x.len, fun i a e => (x.at' i a e).kp k (n' a (List.mem_of_getElem? e))⟩
theorem NR.ex {h h' : Heap} {na : Addr} {as : List Addr} {near : List (List Nat)} (x : NR h na as near) (k : Ex h h') : NR h' na as near := x.kp k (by simp) (by simp)
theorem NR.push {h h' : Heap} {na a : Addr} {as : List Addr} {near : List (List Nat)} {i v : Nat} (x : NR h na as near) (hi : i < near.length) (e : as[i]? = some a) (k : Kp [a] h h') (p : LI h' a (iL (nb near i ++ [v]))) : NR h' na as (pushN near i v) := by
  have ha := List.mem_of_getElem? e
  refine ⟨pl_kp x.pl k (by simp; intro q; exact x.out (q ▸ ha)), x.nd, x.out, by rw [push_len]; exact x.len, fun j b ej => ?_⟩
  rw [nb_push hi]
  by_cases h : j = i
  · subst h
    rw [e] at ej; cases ej
    rw [if_pos rfl]; exact p
  · rw [if_neg h]
    refine (x.at' j b ej).kp k ?_
    simp
    rintro rfl
    have hj := (List.getElem?_eq_some_iff.mp ej)
    have hi' := (List.getElem?_eq_some_iff.mp e)
    obtain ⟨l1, e1⟩ := hj
    obtain ⟨l2, e2⟩ := hi'
    have pw := List.pairwise_iff_getElem.mp x.nd
    rcases Nat.lt_trichotomy j i with q | q | q
    · exact pw j i l1 l2 q (e1.trans e2.symm)
    · exact h q
    · exact pw i j l2 l1 q (e2.trans e1.symm)
theorem NR.gd {h : Heap} {L na : Addr} {as : List Addr} {near : List (List Nat)} (x : NR h na as near) (off : ∀ b ∈ na :: as, b ∉ fA L) : Gd h L (na :: as) (fun h => NR h na as near) := by
  refine ⟨fun h' q => ⟨x.pl.at (q na (by simp)), x.nd, x.out, x.len, fun i a e => (x.at' i a e).at (q a (by simp [List.mem_of_getElem? e]))⟩, fun b hb => ?_, off⟩
  rcases List.mem_cons.mp hb with rfl | hb
  · exact pl_live x.pl
  · obtain ⟨i, e⟩ := List.mem_iff_getElem?.mp hb
    exact (x.at' i b e).live
section
variable {w : World} {A : Around} {G : Array GenState} {D : Drawn} {O : OsState} {h h' h₀ h1 : Heap} {t t1 : Nat} {env : Env} {m mc : Str → Option Value} {L : Addr}
theorem near_comp {x : Str} {px p1 p2 p3 p4 pos : Pos} {kk : Nat} {scope : Scope} {cl : List (Str × Addr)} {Q : Value → Shared → Prop} {n : Nat} (V : Lv env L) (X : KB w h) (hh : Room A n)
    (hclos : closureFor scope env = pure cl) (hcell : scope.names.all (fun y => y.2 != .cell) = true) (hkind : scope.kind = .function) (hnames : scope.names.all (fun y => y.2 != .local || scope.names.lookup y.1 == some .local) = true)
    (hx : scope.names.lookup x = some .local)
    (k : ∀ (na : Addr) (as : List Addr) h' t', Ex h h' → PL h' na (as.map .ref) → as.length = 7 → as.Nodup → na ∉ as → (∀ a ∈ as, LI h' a [] ∧ h.get? a = none) → h.get? na = none → Q (.ref na) ⟨h', G, D, t', O⟩) :
    wpAny (model P0 w) A (eval (.ListComp (.List [] p1) [⟨.Name x px, .Call (.Name (Str.ofString "range") p2) [.Constant (.int 7) kk p3] [] p4, [], 0⟩] scope pos) env) Q NoE ⟨h, G, D, t, O⟩ := by
  refine r_comp hclos hcell hkind hnames hx (fun x => by rfl) ?_
  refine V.r7 X (pos := p00) ?_
  intro r h2 t2 nr x2 hr1
  refine r_iterRange (a := 0) (n := 7) (by rfl) hr1 ?_
  intro I h3 nI x3 st3
  have S := CSrc.range (w := w) hh.hd st3 (by decide) (Ex.old x2 nI) (x2.trans x3)
  refine ⟨I, 7, _, _, _, [], h3, _, rfl, rfl, S.W, S.st, S.hn, fun b hb => S.live b (by simpa using hb), by simp, S.sI, fun a C na nC naC =>
    ⟨fun i h' vs => ∃ as : List Addr, vs = as.map .ref ∧ as.length = i ∧ as.Nodup ∧ ∀ b ∈ as, LI h' b [] ∧ h3.get? b = none ∧ b ≠ I ∧ b ≠ a ∧ b ≠ C, fun h2 _ => ⟨[], rfl, rfl, by simp, by simp⟩, ?_, ?_, ?_⟩⟩
  · rintro i h' h'' vs c ⟨as, e1, e2, e3, e4⟩ kp hc k1
    refine ⟨as, e1, e2, e3, fun b hb => ?_⟩
    obtain ⟨p, q, n1, n2, n3⟩ := e4 b hb
    refine ⟨p.kp k1 ?_, q, n1, n2, n3⟩
    simp
    rcases hc with rfl | rfl | rfl <;> assumption
  · rintro i v h' t' vs m' hi hp ⟨as, rfl, e2, e3, e4⟩ kp ns hv la lI
    simp only [List.forIn_nil]
    refine wpAny_pure ?_
    rw [if_pos rfl]
    refine r_list ?_
    refine args_nil ⟨szl (by simp), _, _, rfl, ?_⟩
    intro b h4 nb x4 pb
    obtain ⟨oa, ea⟩ := la
    obtain ⟨oI, eI⟩ := lI
    have bI : b ≠ I := (ne_new nb eI).symm
    have ba : b ≠ a := (ne_new nb ea).symm
    have bC : b ≠ C := by obtain ⟨o, _, _, e, _⟩ := ns; exact (ne_new nb e).symm
    have b3 : h3.get? b = none := by
      cases e : h3.get? b with
      | none => rfl
      | some o => have := kp b o (by simpa using bI) e; rw [nb] at this; cases this
    refine ⟨h4, _, rfl, ⟨as ++ [b], by simp, by simp [e2], ?_, ?_⟩, x4⟩
    · rw [List.nodup_append]
      refine ⟨e3, by simp, fun x hx y hy e => ?_⟩
      simp at hy
      subst hy; subst e
      obtain ⟨o, e⟩ := (e4 x hx).1.live
      rw [nb] at e; cases e
    · intro c hc
      rcases List.mem_append.mp hc with hc | hc
      · obtain ⟨p, q, n1, n2, n3⟩ := e4 c hc
        exact ⟨p.ex x4, q, n1, n2, n3⟩
      · simp at hc; subst hc
        exact ⟨⟨[], pb, .nil⟩, b3, bI, ba, bC⟩
  · rintro h' t' vs m' ⟨as, rfl, e2, e3, e4⟩ kp p ns
    dsimp only
    intro h'' k1
    have kx : Ex h h' := Kp.drop S.ex kp (by simpa using S.new)
    have C0 : h.get? C = none := Ex.old S.ex nC
    refine k a as h'' _ (Kp.drop kx k1 (by simpa using C0)) (pl_kp p k1 (by simpa using naC)) e2 e3 (fun q => (e4 a q).2.2.2.1 rfl) (fun b hb => ?_) (Ex.old S.ex na)
    obtain ⟨p, q, n1, n2, n3⟩ := e4 b hb
    exact ⟨p.kp k1 (by simpa using n3), Ex.old S.ex q⟩
structure S3 (w : World) (h₀ : Heap) (L : Addr) (h : Heap) (m mc : Str → Option Value) (B : List Addr) (fa da ta sa na dua : Addr) (as : List Addr) (d : List Int) (T : List (Int × Int)) (R : List Int) : Prop where
  l : LF h₀ L h m mc
  e1 : mc "flags" = some (.ref fa)
  e2 : m "drawn" = some (.ref da)
  e3 : m "told" = some (.ref ta)
  e4 : m "row" = some (.ref sa)
  e5 : mc "near" = some (.ref na)
  e6 : ∃ u, m "end" = some (.int 0 u)
  e7 : m "due" = some (.ref dua)
  g : Gd h L B (fun h => (FL h fa ∧ LI h da d) ∧ LP h ta T ∧ LI h sa R)
  nr : NR h na as (List.replicate 7 [])
  du : PL h dua []
  nn : ∀ b ∈ dua :: na :: as, h₀.get? b = none ∧ b ∉ fA L ∧ b ∉ B
  nd : dua ∉ na :: as
theorem sw_cell {a : Expr} {gg : List Comprehension} {scope : Scope} {p py : Pos} {y : Str} {l : Nat} (hy : env.kindOf y = some .cell) : swapsWith (.ListComp a gg scope p) (some (.Name y py)) l env = pure false := by
  show (pure (env.blockKind == .function && env.kindOf y == some .local && py.line == p.line && !(scope.names.any fun (n, k) => n == y && (k == .local || k == .cell))) : Sem Bool) = pure false
  rw [hy, show ((some NameKind.cell : Option NameKind) == some .local) = false from rfl]
  simp only [Bool.and_false, Bool.false_and]
set_option maxHeartbeats 1000000 in
theorem ph3 {B : List Addr} {fa da ta sa : Addr} {d : List Int} {T : List (Int × Int)} {R : List Int} {Q : Flow → Shared → Prop} {n : Nat} (V : Lv env L) (hh : Room A (n + 2)) (X : KB w h₀) (s : S2 w h₀ L h m mc B fa da ta sa d T R)
    (k : ∀ h t m mc na dua as, S3 w h₀ L h m mc B fa da ta sa na dua as d T R → wpAny (model P0 w) A (execs (lw 7) env) Q NoE ⟨h, G, D, t, O⟩) :
    wpAny (model P0 w) A (execs (lw 4) env) Q NoE ⟨h, G, D, t, O⟩ := by
  obtain ⟨l, e1, e2, e3, e4, g⟩ := s
  refine r_seq (st := stm 19 4) (rest := lw 5) (by kernel_rfl) ?_
  refine wpAny_Assign_Name ?_ (sw_cell (V.kd (by kernel_rfl)))
  refine near_comp (cl := []) V (X.ex l.F.keep) hh (clos_of V.cells (by kernel_rfl)) (by kernel_rfl) (by kernel_rfl) (by kernel_rfl) (by kernel_rfl) ?_
  intro na as h2 t2 x2 p2 a1 a2 a3 a4 a5
  have l2 := l.ex x2
  have g2 := g.ex x2
  have nn : ∀ b ∈ na :: as, h.get? b = none := by
    intro b hb
    rcases List.mem_cons.mp hb with rfl | hb
    · exact a5
    · exact (a4 b hb).2
  have nA : ∀ b ∈ na :: as, b ∉ fA L := fun b hb => l.off (nn b hb)
  have N2 : NR h2 na as (List.replicate 7 []) := ⟨p2, a2, a3, by rw [a1]; rfl, fun i a e => by
    have := (a4 a (List.mem_of_getElem? e)).1
    have e : nb (List.replicate 7 []) i = [] := by
      unfold nb
      rw [List.getD_eq_getElem?_getD, List.getElem?_replicate]
      split <;> rfl
    rw [e]; exact this⟩
  refine l_cst V l2 (by kernel_rfl) (c := L + 4) (by kernel_rfl) ?_
  intro h3 t3 l3 k3
  have g3 := g2.fr k3
  have N3 := N2.kp k3 (nA na (by simp)) fun a ha => nA a (by simp [ha])
  dsimp only
  refine r_seq (st := stm 19 5) (rest := lw 6) (by kernel_rfl) ?_
  refine wpAny_Assign_Name ?_
  walk_at "e"
  refine l_st V l3 (by kernel_rfl) ?_
  intro h4 t4 l4 k4
  have g4 := g3.fr k4
  have N4 := N3.kp k4 (nA na (by simp)) fun a ha => nA a (by simp [ha])
  dsimp only
  refine r_seq (st := stm 19 6) (rest := lw 7) (by kernel_rfl) ?_
  refine wpAny_Assign_Name ?_
  refine r_list ?_
  refine args_nil ⟨szl (by simp), _, _, rfl, ?_⟩
  intro dua h5 n5 x5 p5
  have l5 := l4.ex x5
  have g5 := g4.ex x5
  have N5 := N4.ex x5
  have dA := l4.off n5
  have dB := g4.nin n5
  have G4 := N4.gd nA
  have dN := G4.nin n5
  have d0 := Ex.old l4.F.keep n5
  refine l_st V l5 (by kernel_rfl) ?_
  intro h6 t6 l6 k6
  have g6 := g5.fr k6
  have N6 := N5.kp k6 (nA na (by simp)) fun a ha => nA a (by simp [ha])
  refine k h6 t6 _ _ na dua as ⟨l6, by walk_at "hv", by walk_at "hv", by walk_at "hv", by walk_at "hv", by walk_at "hv", ⟨_, by walk_at "hv"⟩, by walk_at "hv", g6, N6, pl_kp p5 k6 dA, ?_, dN⟩
  intro b hb
  rcases List.mem_cons.mp hb with rfl | hb
  · exact ⟨d0, dA, dB⟩
  · exact ⟨Ex.old l.F.keep (nn b hb), nA b hb, g.nin (nn b hb)⟩
end
end

-- C9
section
theorem tree_len (bs : Nat → Bool) : ∀ i, (treeN bs i).2.1.length = i ∧ (treeN bs i).2.2.length = 7 ∧ (treeN bs i).1 ≤ i
  | 0 => ⟨rfl, rfl, Nat.le_refl _⟩
  | i + 1 => by
    obtain ⟨a, b, c⟩ := tree_len bs i
    unfold treeN stepN
    generalize treeN bs i = st at *
    obtain ⟨e, due, near⟩ := st
    dsimp only at *
    refine ⟨by simp [a], by simp [push_len, b], ?_⟩
    split <;> omega
theorem tree_nb (bs : Nat → Bool) : ∀ i, i ≤ 6 → ∀ p, (nb (treeN bs i).2.2 p).length ≤ 2 * i
  | 0, _, p => by
    have e : nb (treeN bs 0).2.2 p = [] := by
      unfold nb treeN
      rw [List.getD_eq_getElem?_getD, List.getElem?_replicate]
      split <;> rfl
    rw [e]; simp
  | i + 1, h, p => by
    have ih := tree_nb bs i (by omega) p
    obtain ⟨a, b, c⟩ := tree_len bs i
    unfold treeN stepN
    generalize treeN bs i = st at *
    obtain ⟨e, due, near⟩ := st
    dsimp only at *
    rw [nb_push (by rw [push_len]; omega), nb_push (by omega)]
    split <;> split <;> (try simp only [List.length_append, List.length_cons, List.length_nil]) <;> omega
section
variable {w : World} {A : Around} {G : Array GenState} {D : Drawn} {O : OsState} {h h' h₀ h1 : Heap} {t t1 : Nat} {env : Env} {m mc : Str → Option Value} {L : Addr}
theorem near_push {x y : Str} {na : Addr} {as : List Addr} {near : List (List Nat)} {i v : Nat} {u1 u2 : Tok} {p1 p2 p3 p4 ap pos pos2 : Pos} {Q : Flow → Shared → Prop}
   (V : Lv env L) (l : LF h₀ L h m mc) (e5 : mc "near" = some (.ref na)) (N : NR h na as near) (hx : (topd 19).2.2.names.lookup x = some .local) (hy : (topd 19).2.2.names.lookup y = some .local)
   (ex : m x = some (.int (i : Int) u1)) (ey : m y = some (.int (v : Int) u2)) (hi : i < near.length) (hl : near.length = 7) (hz : (nb near i).length ≤ 1000) (nn : ∀ b ∈ as, h₀.get? b = none ∧ b ∉ fA L)
   (hline : (ap.endLine == pos.line) = true) (dx : (x == ("__debug__" : Str)) = false) (dy : (y == ("__debug__" : Str)) = false)
   (q : ∀ a h', a ∈ as → Kp [a] h h' → NR h' na as (pushN near i v) → LF h₀ L h' m mc → Q .next ⟨h', G, D, t, O⟩) :
   wpAny (model P0 w) A (exec (.Expr (.Call (.Attribute (.Subscript (.Name (Str.ofString "near") p1) (.Name x p2) p3) (Str.ofString "append") ap) [.Name y p4] [] pos) pos2) env) Q NoE ⟨h, G, D, t, O⟩ := by
  refine wpAny_Expr_any ?_ (intr V.fn)
  refine r_append (by rfl) hline (by rfl) ?_
  refine wpAny_Subscript_Name_late ?_
  refine l_cld V l (by kernel_rfl) (c := L + 4) (by kernel_rfl) e5 ?_
  refine l_ld V l hx ex ?_ dx
  have hi' : i < as.length := by rw [N.len]; exact hi
  have ea : as[i]? = some as[i] := List.getElem?_eq_getElem hi'
  refine r_idx N.pl.isList (x := .ref as[i]) (by omega) (by omega) (by simp [ea]) ?_
  obtain ⟨vs, pl, ai⟩ := N.at' _ _ ea
  refine ⟨_, vs, _, _, rfl, rfl, pl, ?_⟩
  refine l_ld V l hy ey ?_ dy
  have lz := ai.length
  refine ⟨vs, _, _, rfl, pl, szl (by rw [lz]; simp; omega), ?_⟩
  intro h2 p2 k2
  have hm := List.mem_of_getElem? ea
  refine q as[i] h2 hm k2 (N.push hi ea k2 ⟨_, p2, ?_⟩) (l.k1 k2 (nn _ hm).1 (nn _ hm).2)
  simp only [iL, List.map_append, List.map_cons, List.map_nil]
  exact ai.append (.cons .nil)
structure S4 (w : World) (h₀ : Heap) (L : Addr) (h : Heap) (m mc : Str → Option Value) (B : List Addr) (fa da sa na : Addr) (as : List Addr) (d : List Int) (near : List (List Nat)) (R : List Int) : Prop where
  l : LF h₀ L h m mc
  e1 : mc "flags" = some (.ref fa)
  e2 : m "drawn" = some (.ref da)
  e4 : m "row" = some (.ref sa)
  e5 : mc "near" = some (.ref na)
  g : Gd h L B (fun h => FL h fa ∧ LI h da d ∧ LI h sa R)
  nr : NR h na as near
  nn : ∀ b ∈ na :: as, h₀.get? b = none ∧ b ∉ fA L ∧ b ∉ B
noncomputable def lwFor : List Stmt := match stm 19 7 with | .For _ _ b _ _ => b | _ => []
set_option maxHeartbeats 4000000 in
theorem ph4 {B : List Addr} {fa da ta sa na dua : Addr} {as : List Addr} {d : List Int} {R : List Int} {Q : Flow → Shared → Prop} {n : Nat} (V : Lv env L) (hh : Room A (n + 2)) (X : KB w h₀) (hd : d.length = 7)
    (s : S3 w h₀ L h m mc B fa da ta sa na dua as d (ipr (treeN (bsD d) 6).2.1) R)
    (k : ∀ h t m mc, S4 w h₀ L h m mc B fa da sa na as d (treeN (bsD d) 6).2.2 R → wpAny (model P0 w) A (execs (lw 9) env) Q NoE ⟨h, G, D, t, O⟩) :
    wpAny (model P0 w) A (execs (lw 7) env) Q NoE ⟨h, G, D, t, O⟩ := by
  obtain ⟨l, e1, e2, e3, e4, e5, ⟨u0, e6⟩, e7, g, N, du, nn, nd⟩ := s
  have X1 := X.ex l.F.keep
  have nnA : ∀ b ∈ as, h₀.get? b = none ∧ b ∉ fA L := fun b hb => ⟨(nn b (by simp [hb])).1, (nn b (by simp [hb])).2.1⟩
  have naN := nn na (by simp)
  have duN := nn dua (by simp)
  have dna : dua ≠ na := fun q => nd (by simp [q])
  have das : ∀ a ∈ as, dua ≠ a := fun a ha q => nd (by simp [q, ha])
  refine r_seq (st := stm 19 7) (rest := lw 8) (by kernel_rfl) ?_
  refine wpAny_For ?_
  refine wpAny_Call_NameR ?_
  refine r_blt X1 V.fn (V.kd (by kernel_rfl)) V.V.g V.V.b (by kernel_rfl) (v := .type "range") (by kernel_rfl) ?_
  refine PyProof.Rows.callWith_type1 ?_
  refine args_cons (r_int ?_)
  intro u t
  refine args_cons (r_int ?_)
  intro u t
  refine args_nil ?_
  refine r_range2 ?_
  intro r h2 t2 nr x2 hr1
  refine r_iterRange (a := 1) (n := 6) (by rfl) hr1 ?_
  intro I h3 nI x3 st3
  have I1 : h.get? I = none := Ex.old x2 nI
  have I0 : h₀.get? I = none := Ex.old l.F.keep I1
  have IA := l.off I1
  have IB := g.nin I1
  have Ina : I ≠ na := by obtain ⟨o, e⟩ := pl_live N.pl; exact (ne_new I1 e).symm
  have Ias : ∀ a ∈ as, I ≠ a := fun a ha => by
    obtain ⟨i, e⟩ := List.mem_iff_getElem?.mp ha
    obtain ⟨o, e⟩ := (N.at' i a e).live
    exact (ne_new I1 e).symm
  have Idu : I ≠ dua := by obtain ⟨o, e⟩ := pl_live du; exact (ne_new I1 e).symm
  have x23 := x2.trans x3
  have rsf : ∀ {h h' : Heap} {c : Addr} {i : Nat}, RSt I 1 6 i h → Kp [c] h h' → I ≠ c → RSt I 1 6 i h' := fun st k n => k _ _ (by simpa using n) st
  have rsA : ∀ {h h' : Heap} {i : Nat}, RSt I 1 6 i h → Kp (fA L) h h' → RSt I 1 6 i h' := fun st k => k _ _ IA st
  let NN : Addr → Prop := fun b => h₀.get? b = none ∧ b ∉ fA L ∧ b ≠ na ∧ b ∉ as ∧ b ≠ dua ∧ b ≠ I
  refine r_for (walkRange hh.hd I 1 6) (fun i h' => ∃ m dvs, LF h₀ L h' m mc ∧ m "drawn" = some (.ref da) ∧ m "told" = some (.ref ta) ∧ m "row" = some (.ref sa) ∧ (∃ u, m "end" = some (.int ((treeN (bsD d) i).1 : Nat) u)) ∧ m "due" = some (.ref dua) ∧
      Gd h' L B (fun h => (FL h fa ∧ LI h da d) ∧ LP h ta (ipr (treeN (bsD d) 6).2.1) ∧ LI h sa R) ∧ NR h' na as (treeN (bsD d) i).2.2 ∧ PL h' dua dvs ∧ AT NN h' dvs (ipr (treeN (bsD d) i).2.1))
    ?_ ?_ ?_ ⟨m, [], l.ex x23, e2, e3, e4, ⟨u0, e6⟩, e7, g.ex x23, N.ex x23, pl_ex du x23, .nil⟩ st3
  · rintro i h' h'' ⟨m, dvs, l, a1, a2, a3, a4, a5, g, N, du, at1⟩ k
    exact ⟨m, dvs, l.k1 k I0 IA, a1, a2, a3, a4, a5, g.one k IB, N.kp k (by simpa using Ina.symm) (fun a ha => by simpa using (Ias a ha).symm), pl_kp du k (by simpa using Idu.symm), at1.kp k fun b hb => by simpa using hb.2.2.2.2.2⟩
  · rintro i v h' t hi ⟨ui, rfl⟩ ⟨m, dvs, l, a1, a2, a3, ⟨ue, a4⟩, a5, g, N, du, at1⟩ st
    rw [show (1 : Int) + (i : Int) * 1 = ((i + 1 : Nat) : Int) by omega]
    obtain ⟨tl1, tl2, tl3⟩ := tree_len (bsD d) i
    have tnb := tree_nb (bsD d) i (by omega)
    have hst : treeN (bsD d) (i + 1) = stepN (bsD d i) i (treeN (bsD d) i) := rfl
    rw [hst]
    generalize treeN (bsD d) i = st0 at *
    obtain ⟨en, due, near⟩ := st0
    dsimp only at *
    unfold stepN
    dsimp only
    refine l_st V l (by kernel_rfl) ?_
    intro h4 t4 l4 k4
    replace a1 : up m (Str.ofString "place") (.int ((i + 1 : Nat) : Int) ui) "drawn" = _ := up_ne (by decide) a1
    replace a2 : up m (Str.ofString "place") (.int ((i + 1 : Nat) : Int) ui) "told" = _ := up_ne (by decide) a2
    replace a3 : up m (Str.ofString "place") (.int ((i + 1 : Nat) : Int) ui) "row" = _ := up_ne (by decide) a3
    replace a4 : up m (Str.ofString "place") (.int ((i + 1 : Nat) : Int) ui) "end" = _ := up_ne (by decide) a4
    replace a5 : up m (Str.ofString "place") (.int ((i + 1 : Nat) : Int) ui) "due" = _ := up_ne (by decide) a5
    have a6 : up m (Str.ofString "place") (.int ((i + 1 : Nat) : Int) ui) "place" = some (.int ((i + 1 : Nat) : Int) ui) := up_eq
    generalize up m (Str.ofString "place") (.int ((i + 1 : Nat) : Int) ui) = m at l4 a1 a2 a3 a4 a5 a6
    replace g := g.fr k4
    replace N := N.kp k4 naN.2.1 fun a ha => (nnA a ha).2
    replace du := pl_kp du k4 duN.2.1
    replace at1 := at1.kp k4 fun b hb => hb.2.1
    replace st := rsA st k4
    clear k4 l
    -- due.append
    refine wpAny_execs_cons ?_
    refine wpAny_Expr_any ?_ (intr V.fn)
    refine r_append (by rfl) (by rfl) (by rfl) ?_
    refine l_ld V l4 (by kernel_rfl) a5 ?_
    refine ⟨_, _, _, _, rfl, rfl, du, ?_⟩
    refine r_tuple ?_
    refine args_cons (l_ld V l4 (by kernel_rfl) a4 ?_)
    refine args_cons (l_ld V l4 (by kernel_rfl) a6 ?_)
    refine args_nil ⟨szl (by simp), _, _, rfl, ?_⟩
    intro b h5 n5 x5 tb
    have l5 := l4.ex x5
    have hdl := at1.length
    refine ⟨_, _, _, rfl, pl_ex du x5, szl (by simp at hdl; omega), ?_⟩
    intro h6 du6 k6
    have bN : NN b := by
      refine ⟨Ex.old l4.F.keep n5, l4.off n5, ?_, ?_, ?_, ?_⟩
      · obtain ⟨o, e⟩ := pl_live N.pl; exact (ne_new n5 e).symm
      · intro hb
        obtain ⟨j, e⟩ := List.mem_iff_getElem?.mp hb
        obtain ⟨o, e⟩ := (N.at' j b e).live
        rw [n5] at e; cases e
      · obtain ⟨o, e⟩ := pl_live du; exact (ne_new n5 e).symm
      · exact (ne_new n5 st).symm
    have l6 := l5.k1 k6 duN.1 duN.2.1
    have g6 := (g.ex x5).one k6 duN.2.2
    have N6 := (N.ex x5).kp k6 (by simpa using dna.symm) fun a ha => by simpa using (das a ha).symm
    have at6 := ((at1.ex x5).kp k6 fun b hb => by simpa using hb.2.2.2.2.1).snoc bN (tb.kp k6 (by simpa using bN.2.2.2.2.1))
    have st6 := rsf (x5.get st) k6 Idu
    clear tb k6 x5 l5 at1 du N g st l4
    -- near[end].append(place)
    refine wpAny_execs_cons ?_
    refine near_push V l6 e5 N6 (by kernel_rfl) (by kernel_rfl) a4 a6 (by omega) tl2 (by have := tnb en; omega) nnA (by rfl) (by decide) (by decide) ?_
    intro c1 h7 hc1 k7 N7 l7
    have g7 := g6.one k7 (nn c1 (by simp [hc1])).2.2
    have du7 := pl_kp du6 k7 (by simpa using das c1 hc1)
    have at7 := at6.kp k7 fun b hb => by simp; rintro rfl; exact hb.2.2.2.1 hc1
    have st7 := rsf st6 k7 (Ias c1 hc1)
    clear k7 g6 du6 at6 st6 l6
    -- near[place].append(end)
    refine wpAny_execs_cons ?_
    refine near_push V l7 e5 N7 (by kernel_rfl) (by kernel_rfl) a6 a4 (by rw [push_len]; omega) (by rw [push_len]; exact tl2) (by
      rw [nb_push (by omega)]
      have := tnb (i + 1)
      split
      · simp only [List.length_append, List.length_cons, List.length_nil]; omega
      · omega) nnA (by rfl) (by decide) (by decide) ?_
    intro c2 h8 hc2 k8 N8 l8
    have g8 := g7.one k8 (nn c2 (by simp [hc2])).2.2
    have du8 := pl_kp du7 k8 (by simpa using das c2 hc2)
    have at8 := at7.kp k8 fun b hb => by simp; rintro rfl; exact hb.2.2.2.1 hc2
    have st8 := rsf st7 k8 (Ias c2 hc2)
    clear k8 g7 du7 at7 st7 l7
    have hpr : ipr (due ++ [(en, i + 1)]) = ipr due ++ [((en : Int), ((i + 1 : Nat) : Int))] := by simp [ipr]
    rw [hpr]
    -- if
    refine wpAny_execs_cons ?_
    refine wpAny_If ?_
    refine wpAny_isTrue_Compare1 ?_
    refine wpAny_BinOp ?_
    refine wpAny_Subscript_BinOp_late ?_
    refine l_ld V l8 (by kernel_rfl) a1 ?_
    refine wpAny_BinOp ?_
    refine l_ld V l8 (by kernel_rfl) a6 ?_
    refine r_int ?_
    intro u t
    refine r_sub ?_
    intro u t
    rw [show (((i + 1 : Nat) : Int) - 1) = (i : Int) by omega]
    refine r_idxIL (n := d.getD i 0) g8.here.1.2.il (by omega) (by omega) (getD_lt (by simp; omega)) ?_
    intro u
    iterate 5 walk_at "e"
    refine if_b (fun b1 => ?_) fun b1 => ?_
    · have hb : bsD d i = true := b1
      rw [hb]
      refine wpAny_execs_cons ?_
      refine wpAny_Assign_Name ?_
      refine l_ld V l8 (by kernel_rfl) a6 ?_
      refine l_st V l8 (by kernel_rfl) ?_
      intro h9 t9 l9 k9
      refine wpAny_execs_nil (wpAny_execs_nil ⟨h9, t9, rfl, ⟨_, _, l9, by walk_at "hv", by walk_at "hv", by walk_at "hv", ⟨_, by walk_at "hv"⟩, by walk_at "hv", g8.fr k9, N8.kp k9 naN.2.1 (fun a ha => (nnA a ha).2), pl_kp du8 k9 duN.2.1, at8.kp k9 fun b hb => hb.2.1⟩, rsA st8 k9⟩)
    · have hb : bsD d i = false := b1
      rw [hb]
      exact wpAny_execs_nil (wpAny_execs_nil ⟨h8, _, rfl, ⟨m, _, l8, a1, a2, a3, ⟨_, a4⟩, a5, g8, N8, du8, at8⟩, st8⟩)
  · rintro h' t ⟨m, dvs, l, a1, a2, a3, ⟨ue, a4⟩, a5, g, N, du, at1⟩
    refine wpAny_execs_nil ?_
    dsimp only
    refine r_seq (st := stm 19 8) (rest := lw 9) (by kernel_rfl) ?_
    refine wpAny_If ?_
    refine wpAny_isTrue_Compare1 ?_
    refine l_ld V l (by kernel_rfl) a2 ?_
    refine l_ld V l (by kernel_rfl) a5 ?_
    obtain ⟨vs2, pt, at2⟩ := g.here.2.1
    refine neAT hh pt at2 du at1 ?_
    rw [beq_self_eq_true]
    refine r_tbool ?_
    refine if_f ?_
    refine wpAny_execs_nil ?_
    refine k h' t m mc ⟨l, e1, a1, a3, e5, g.imp fun h p => ⟨p.1.1, p.1.2, p.2.2⟩, N, fun b hb => nn b (by simp only [List.mem_cons] at hb ⊢; exact .inr hb)⟩
end
end

-- C10
section
structure S5 (w : World) (h₀ : Heap) (L : Addr) (h : Heap) (m mc : Str → Option Value) (B : List Addr) (fa da ia na : Addr) (as : List Addr) (d : List Int) (near : List (List Nat)) (inn : List Nat) : Prop where
  l : LF h₀ L h m mc
  e1 : mc "flags" = some (.ref fa)
  e2 : m "drawn" = some (.ref da)
  e4 : m "inner" = some (.ref ia)
  e5 : mc "near" = some (.ref na)
  g : Gd h L B (fun h => FL h fa ∧ LI h da d ∧ LI h ia (iL inn))
  ib : ia ∈ B
  nr : NR h na as near
  nn : ∀ b ∈ na :: as, h₀.get? b = none ∧ b ∉ fA L ∧ b ∉ B
structure S6 (w : World) (h₀ : Heap) (L : Addr) (h : Heap) (m mc : Str → Option Value) (B : List Addr) (fa ia na : Addr) (as : List Addr) (near : List (List Nat)) (inn : List Nat) (rg : Bool) : Prop where
  l : LF h₀ L h m mc
  e1 : mc "flags" = some (.ref fa)
  e2 : m "ring" = some (.bool rg)
  e4 : m "inner" = some (.ref ia)
  e5 : mc "near" = some (.ref na)
  g : Gd h L B (fun h => (FL h fa ∧ LI h ia (iL inn)) ∧ NR h na as near)
  ib : ia ∈ B
section
variable {w : World} {A : Around} {G : Array GenState} {D : Drawn} {O : OsState} {h h' h₀ h1 : Heap} {t t1 : Nat} {env : Env} {m mc : Str → Option Value} {L : Addr}
theorem NR.get {h : Heap} {na : Addr} {as : List Addr} {near : List (List Nat)} (N : NR h na as near) {p : Nat} (hp : p < near.length) : ∃ a, (as.map Value.ref).toArray[p]? = some (.ref a) ∧ as[p]? = some a ∧ LI h a (iL (nb near p)) := by
  have hi' : p < as.length := by rw [N.len]; exact hp
  have ea : as[p]? = some as[p] := List.getElem?_eq_getElem hi'
  exact ⟨as[p], by simp [ea], ea, N.at' _ _ ea⟩
theorem iL_get {l : List Nat} {i : Nat} (h : i < l.length) : (iL l)[i]? = some ((l[i] : Nat) : Int) := by simp [h]
set_option maxHeartbeats 1000000 in
theorem ph5a {B : List Addr} {fa da sa na : Addr} {as : List Addr} {d : List Int} {near : List (List Nat)} {row : List Nat} {Q : Flow → Shared → Prop} {n : Nat} (V : Lv env L) (hh : Room A (n + 2)) (X : KB w h₀)
    (s : S4 w h₀ L h m mc B fa da sa na as d near (iL row)) (hl : near.length = 7) (hrow : ∀ p ∈ row, p < 7) (hz : row.length ≤ 7) (hn : ∀ p, p < 7 → (nb near p).length ≤ 100)
    (k : ∀ h t m mc B ia, S5 w h₀ L h m mc B fa da ia na as d near (innerN near row) → wpAny (model P0 w) A (execs (lw 10) env) Q NoE ⟨h, G, D, t, O⟩) :
    wpAny (model P0 w) A (execs (lw 9) env) Q NoE ⟨h, G, D, t, O⟩ := by
  obtain ⟨l, e1, e2, e4, e5, g, N, nn⟩ := s
  have X1 := X.ex l.F.keep
  refine r_seq (st := stm 19 9) (rest := lw 10) (by kernel_rfl) ?_
  refine asg_core (sw_of V.V (by kernel_rfl) (by kernel_rfl) (by kernel_rfl)) (cl := [("near", L + 4)]) (clos_of V.cells (by kernel_rfl)) (by kernel_rfl) (by kernel_rfl) (by kernel_rfl) (by kernel_rfl) (fun x => by rfl) ?_
  refine l_ld V l (by kernel_rfl) e4 ?_
  obtain ⟨vs, pl, ai⟩ := id g.here.2.2
  refine r_iterList pl.isList ?_
  intro I h3 nI x3 st3
  have sI : sa ≠ I := by obtain ⟨o, e⟩ := pl_live pl; exact ne_new nI e
  have lz := ai.length
  simp only [iL, List.length_map] at lz
  have S := CSrc.list (w := w) hh.hd sI st3 (by simp; omega) nI x3
  refine asg_pure V l (y := Str.ofString "inner") (by kernel_rfl) (by kernel_rfl) l.F.keep S (f := fun i vs => AI vs (iL (innerN near (row.take i)))) .nil ?_ ?_
  · rintro C cenv i v h' t' vs' m' V' hi hv fi k' nsC hm
    have hi' : i < row.length := by simp at hi; omega
    obtain ⟨u, ev⟩ := ai.get (iL_get hi')
    obtain rfl : v = .int ((row[i] : Nat) : Int) u := by simp at hv; rw [ev] at hv; exact (Option.some.inj hv).symm
    have hp7 : row[i] < 7 := hrow _ (List.getElem_mem hi')
    have ht : row.take (i + 1) = row.take i ++ [row[i]] := by rw [List.take_add_one, List.getElem?_eq_getElem hi']; rfl
    have hf : ∀ xs, AI xs (iL (innerN near (row.take i ++ [row[i]]))) → AI xs (iL (innerN near (row.take (i + 1)))) := fun xs x => by rw [ht]; exact x
    clear ht
    generalize row[i] = p at *
    have N' := N.ex k'
    obtain ⟨a, q1, q2, q3⟩ := N'.get (p := p) (by omega)
    obtain ⟨ws, pw, aw⟩ := q3
    have lw := aw.length
    simp only [iL, List.length_map] at lw
    have l' := l.ex k'
    refine turn1 ?_
    refine wpAny_isTrue_Compare1 ?_
    refine wpAny_Call_NameR ?_
    refine r_blt (X1.ex k') V'.fn (V'.V.kind (by kernel_rfl)) V'.V.g V'.V.b (by kernel_rfl) (v := .builtin "len") (by kernel_rfl) ?_
    refine PyProof.Rows.callWith_builtin1 ?_
    refine args_cons ?_
    refine wpAny_Subscript_Name_late ?_
    refine cv_cld V' (by kernel_rfl) (c := L + 4) (by kernel_rfl) (by rw [← e5]; exact l'.cell _ _ (by kernel_rfl)) ?_
    refine cv_ld V' (by kernel_rfl) nsC hm ?_
    refine r_idx N'.pl.isList (x := .ref a) (by omega) (by omega) (by simpa using q1) ?_
    refine args_nil ?_
    have hnp := hn p hp7
    refine r_len pw.isList (by simp; omega) ?_
    intro u2 t2
    iterate 3 walk_at "e"
    have hs : (ws.toArray.size : Int) = ((nb near p).length : Int) := by simp [lw]
    rw [hs]
    refine if_b (fun b1 => ?_) fun b1 => ?_
    · have b1 : 1 < (nb near p).length := by have := of_decide_eq_true b1; omega
      refine cv_ld V' (by kernel_rfl) nsC hm ?_
      refine ⟨_, _, rfl, hf _ ?_, Kp.refl _ _⟩
      unfold innerN
      rw [List.filter_append]
      rw [List.filter_cons_of_pos (by simpa using b1)]
      simp only [List.filter_nil, iL, List.map_append, List.map_cons, List.map_nil]
      exact fi.append (.cons .nil)
    · have b1 : ¬ 1 < (nb near p).length := by have := of_decide_eq_false b1; omega
      refine ⟨_, _, rfl, hf _ ?_, Kp.refl _ _⟩
      unfold innerN
      rw [List.filter_append]
      rw [List.filter_cons_of_neg (by simpa using b1)]
      simp only [List.filter_nil, List.append_nil]
      exact fi
  · intro a h4 t4 vs' na' aA p fn l4 k4
    have e : (row.take vs.toArray.size) = row := by simp [lz]
    rw [e] at fn
    have N4 := N.kp k4 (nn na (by simp)).2.1 fun a ha => (nn a (by simp [ha])).2.1
    have g4 := (g.fr k4).and (LI.gd ⟨vs', p, fn⟩ aA)
    refine k h4 t4 _ _ _ a ⟨l4, e1, by walk_at "hv", by walk_at "hv", e5, g4.imp fun h p => ⟨p.1.1, p.1.2.1, p.2⟩, List.mem_append_right _ (by simp), N4, ?_⟩
    intro b hb
    obtain ⟨b1, b2, b3⟩ := nn b hb
    refine ⟨b1, b2, ?_⟩
    rw [List.mem_append]
    rintro (q | q)
    · exact b3 q
    · simp at q
      have : b ∉ na :: as := (N.gd (L := L) fun b hb => (nn b hb).2.1).nin (q ▸ na')
      exact this hb
noncomputable abbrev oneN (d : List Int) : Nat := ((d.getD 6 0).fmod 7).toNat
noncomputable abbrev twoN (d : List Int) : Nat := (((d.getD 6 0).fdiv 7).fmod 7).toNat
theorem fm7 (x : Int) : ((x.fmod 7).toNat : Int) = x.fmod 7 ∧ (x.fmod 7).toNat < 7 := by
  have := fm (x := x) (b := 7) (by decide)
  omega
set_option maxHeartbeats 2000000 in
theorem ph5b {B : List Addr} {fa da ia na : Addr} {as : List Addr} {d : List Int} {near : List (List Nat)} {inn : List Nat} {Q : Flow → Shared → Prop} {n : Nat} (V : Lv env L) (hh : Room A (n + 2)) (X : KB w h₀)
    (s : S5 w h₀ L h m mc B fa da ia na as d near inn) (hd : d.length = 7) (hl : near.length = 7) (hn : ∀ p, p < 7 → (nb near p).length ≤ 100)
    (k : ∀ h t m mc B, S6 w h₀ L h m mc B fa ia na as (tieN near (oneN d) (twoN d)) inn (ringB near (oneN d) (twoN d)) → wpAny (model P0 w) A (execs (lw 14) env) Q NoE ⟨h, G, D, t, O⟩) :
    wpAny (model P0 w) A (execs (lw 10) env) Q NoE ⟨h, G, D, t, O⟩ := by
  obtain ⟨l, e1, e2, e4, e5, g, ib, N, nn⟩ := s
  have nna := nn na (by simp)
  have nnA : ∀ b ∈ as, h₀.get? b = none ∧ b ∉ fA L := fun b hb => ⟨(nn b (by simp [hb])).1, (nn b (by simp [hb])).2.1⟩
  obtain ⟨o1, o2⟩ := fm7 (d.getD 6 0)
  obtain ⟨w1, w2⟩ := fm7 ((d.getD 6 0).fdiv 7)
  refine r_seq (st := stm 19 10) (rest := lw 11) (by kernel_rfl) ?_
  refine wpAny_Assign_Name ?_
  refine wpAny_BinOp ?_
  refine Subscript_ ?_
  refine l_ld V l (by kernel_rfl) e2 ?_
  refine r_int ?_
  intro u t
  obtain ⟨vd, pd, ad⟩ := id g.here.2.1
  obtain ⟨ud, ed⟩ := ad.get (getD_lt (l := d) (i := 6) (by omega))
  refine r_subTail pd.isList (wpAny_getItem_list pd.isList (by decide) (by decide) (x := .int (d.getD 6 0) ud) (by simpa using ed) ?_)
  iterate 2 walk_at "e"
  rw [← o1]
  refine l_st V l (by kernel_rfl) ?_
  intro h2 t2 l2 k2
  have g2 := g.fr k2
  have N2 := N.kp k2 nna.2.1 fun a ha => (nnA a ha).2
  clear k2
  dsimp only
  refine r_seq (st := stm 19 11) (rest := lw 12) (by kernel_rfl) ?_
  refine wpAny_Assign_Name ?_
  refine wpAny_BinOp ?_
  refine wpAny_BinOp ?_
  refine Subscript_ ?_
  refine l_ld V l2 (by kernel_rfl) (up_ne (by decide) e2) ?_
  refine r_int ?_
  intro u t
  obtain ⟨vd, pd, ad⟩ := id g2.here.2.1
  obtain ⟨ud, ed⟩ := ad.get (getD_lt (l := d) (i := 6) (by omega))
  refine r_subTail pd.isList (wpAny_getItem_list pd.isList (by decide) (by decide) (x := .int (d.getD 6 0) ud) (by simpa using ed) ?_)
  iterate 4 walk_at "e"
  rw [← w1]
  refine l_st V l2 (by kernel_rfl) ?_
  intro h3 t3 l3 k3
  have g3 := g2.fr k3
  have N3 := N2.kp k3 nna.2.1 fun a ha => (nnA a ha).2
  clear k3 l l2 N2 g2
  dsimp only
  show wpAny (model P0 w) A (execs (lw 12) env) Q NoE _
  generalize ho : oneN d = one at *
  generalize ht : twoN d = two at *
  rw [show ((d.getD 6 0).fmod 7).toNat = one from ho] at *
  rw [show (((d.getD 6 0).fdiv 7).fmod 7).toNat = two from ht] at *
  refine r_seq (st := stm 19 12) (rest := lw 13) (by kernel_rfl) ?_
  refine wpAny_Assign_Name ?_
  have e6 : m "inner" = some (.ref ia) := e4
  refine r_join (R := fun v s => ∃ t, v = .bool (ringB near one two) ∧ s = ⟨h3, G, D, t, O⟩) ?_ ?_
  · refine BoolOp_and ?_
    refine wpAny_Compare1 ?_
    refine l_ld V l3 (by kernel_rfl) (up_ne (by decide) up_eq) ?_
    refine l_ld V l3 (by kernel_rfl) up_eq ?_
    iterate 2 walk_at "e"
    have hne : ((one : Int) != (two : Int)) = (one != two) := by rw [Bool.eq_iff_iff]; simp; omega
    rw [hne]
    refine if_b (fun b1 => ?_) fun b1 => ?_
    · refine BoolOp_one ?_
      refine wpAny_Compare1 ?_
      refine l_ld V l3 (by kernel_rfl) up_eq ?_
      refine wpAny_Subscript_Name_late ?_
      refine l_cld V l3 (by kernel_rfl) (c := L + 4) (by kernel_rfl) e5 ?_
      refine l_ld V l3 (by kernel_rfl) (up_ne (by decide) up_eq) ?_
      obtain ⟨a, q1, q2, q3⟩ := N3.get (p := one) (by omega)
      refine r_idx N3.pl.isList (x := .ref a) (by omega) (by omega) (by simpa using q1) ?_
      refine notInLI hh q3 ?_
      refine ⟨_, ?_, rfl⟩
      unfold ringB
      rw [b1, Bool.true_and]
      congr 2
      rw [Bool.eq_iff_iff]
      simp only [List.contains_iff_mem, iL, List.mem_map]
      constructor
      · rintro ⟨x, hx, e⟩; have : x = two := by omega
        exact this ▸ hx
      · exact fun hx => ⟨two, hx, rfl⟩
    · exact ⟨_, by unfold ringB; rw [b1]; rfl, rfl⟩
  rintro _ _ ⟨t, rfl, rfl⟩
  refine l_st V l3 (by kernel_rfl) ?_
  intro h4 t4 l4 k4
  have g4 := g3.fr k4
  have N4 := N3.kp k4 nna.2.1 fun a ha => (nnA a ha).2
  clear k4 l3 N3 g3
  dsimp only
  refine r_seq (st := stm 19 13) (rest := lw 14) (by kernel_rfl) ?_
  refine wpAny_If ?_
  refine wpAny_isTrue_value ?_
  refine l_ld V l4 (by kernel_rfl) up_eq ?_
  refine r_tbool ?_
  refine if_b (fun b1 => ?_) fun b1 => ?_
  · refine wpAny_execs_cons ?_
    refine near_push V l4 e5 N4 (by kernel_rfl) (by kernel_rfl) (by walk_at "hv") (by walk_at "hv") (by omega) hl (by have := hn one o2; omega) nnA (by rfl) (by decide) (by decide) ?_
    intro c1 h5 hc1 k5 N5 l5
    have g5 := g4.one k5 (nn c1 (by simp [hc1])).2.2
    refine wpAny_execs_cons ?_
    refine near_push V l5 e5 N5 (by kernel_rfl) (by kernel_rfl) (by walk_at "hv") (by walk_at "hv") (by rw [push_len]; omega) (by rw [push_len]; exact hl) (by
      rw [nb_push (by omega)]
      have := hn two w2
      split
      · simp only [List.length_append, List.length_cons, List.length_nil]; omega
      · omega) nnA (by rfl) (by decide) (by decide) ?_
    intro c2 h6 hc2 k6 N6 l6
    have g6 := g5.one k6 (nn c2 (by simp [hc2])).2.2
    refine wpAny_execs_nil ?_
    have e : tieN near one two = pushN (pushN near one two) two one := by unfold tieN; rw [if_pos b1]
    rw [← e] at N6
    rw [b1] at l6 k
    refine k h6 _ _ _ _ ⟨l6, e1, by walk_at "hv", by walk_at "hv", e5, (g6.and (N6.gd fun b hb => (nn b hb).2.1)).imp fun h p => ⟨⟨p.1.1, p.1.2.2⟩, p.2⟩, List.mem_append_left _ ib⟩
  · refine wpAny_execs_nil ?_
    have e : tieN near one two = near := by unfold tieN; rw [b1]; rfl
    rw [b1] at l4 k
    rw [e] at k
    refine k h4 _ _ _ _ ⟨l4, e1, by walk_at "hv", by walk_at "hv", e5, (g4.and (N4.gd fun b hb => (nn b hb).2.1)).imp fun h p => ⟨⟨p.1.1, p.1.2.2⟩, p.2⟩, List.mem_append_left _ ib⟩
end
end

-- C11
section
theorem ai_are : ∀ {vs : List Value} {ns : List Int}, AI vs ns → IntsAre vs ns
  | _, _, .nil => .nil
  | _, _, .cons r => .cons _ _ (ai_are r)
theorem iL_sum : ∀ l : List Nat, (iL (l.map (2 ^ ·))).sum = (sumN l : Int)
  | [] => rfl
  | a :: r => by
    have := iL_sum r
    unfold sumN at *
    simp only [iL, List.map_cons, List.sum_cons] at *
    rw [this]
    push_cast
    rfl
structure S7 (w : World) (h₀ : Heap) (L : Addr) (h : Heap) (m mc : Str → Option Value) (B : List Addr) (fa ia na sua : Addr) (as : List Addr) (near : List (List Nat)) (inn : List Nat) (rg : Bool) : Prop where
  l : LF h₀ L h m mc
  e1 : mc "flags" = some (.ref fa)
  e2 : m "ring" = some (.bool rg)
  e4 : m "inner" = some (.ref ia)
  e5 : mc "near" = some (.ref na)
  e6 : m "sums" = some (.ref sua)
  g : Gd h L B (fun h => ((FL h fa ∧ LI h ia (iL inn)) ∧ NR h na as near) ∧ LI h sua (iL (rowsN near)))
  ib : ia ∈ B
section
variable {w : World} {A : Around} {G : Array GenState} {D : Drawn} {O : OsState} {h h' h₀ h1 : Heap} {t t1 : Nat} {env : Env} {m mc : Str → Option Value} {L : Addr}
theorem r_pow2 {q : Nat} {u v : Tok} {Q : Value → Shared → Prop} (hq : q < 7) (k : ∀ u t, Q (.int ((2 ^ q : Nat) : Int) u) ⟨h, G, D, t, O⟩) : wpAny (model P0 w) A (binaryOp .Pow (.int 2 u) (.int (q : Int) v)) Q NoE ⟨h, G, D, t, O⟩ := by
  have hp : ((2 ^ q : Nat) : Int) = (2 : Int) ^ ((q : Int)).toNat := by rw [Int.toNat_natCast]; push_cast; rfl
  by_cases h0 : q = 0
  · subst h0
    exact AutoIntOps.pow_0 (by decide) (by decide) (k _ _)
  · refine AutoIntOps.pow_4 (by omega) (by simp; omega) (by decide) (by decide) ?_ ?_
    · have : q = 1 ∨ q = 2 ∨ q = 3 ∨ q = 4 ∨ q = 5 ∨ q = 6 := by omega
      rcases this with rfl | rfl | rfl | rfl | rfl | rfl <;> decide +kernel
    · rw [← hp]; exact k _ _
theorem r_sum {a : Addr} {ns : List Int} {Q : Value → Shared → Prop} (hh : A.handled = none) (li : LI h a ns) (q : ∀ u h' t', Ex h h' → Q (.int ns.sum u) ⟨h', G, D, t', O⟩) : wpAny (model P0 w) A (call (.builtin "sum") [.ref a]) Q NoE ⟨h, G, D, t, O⟩ := by
  obtain ⟨vs, pl, ai⟩ := li
  have hi := ai_are ai
  obtain ⟨xs, e⟩ := hi.allInts.items
  have hn := hi.numsOf
  rw [show vs = vs.toArray.toList from rfl, e, nums_intItems] at hn
  have pl := pl.isList
  rw [e] at pl
  refine sum_intListG hh pl fun h' tk t' k => ?_
  have es : preSum (numAt xs) xs.size = ns.sum := by
    rw [preSum_eq, List.take_of_length_le (by simp), hn]
  rw [es]
  exact q _ _ _ fun b o _ e => k b o e
set_option maxHeartbeats 2000000 in
theorem ph6a {B : List Addr} {fa ia na : Addr} {as : List Addr} {near : List (List Nat)} {inn : List Nat} {rg : Bool} {Q : Flow → Shared → Prop} {n : Nat} (V : Lv env L) (hh : Room A (n + 2)) (X : KB w h₀)
    (s : S6 w h₀ L h m mc B fa ia na as near inn rg) (S : Sym near) (hn : ∀ p, p < 7 → (nb near p).length ≤ 100)
    (k : ∀ h t m mc B sua, S7 w h₀ L h m mc B fa ia na sua as near inn rg → wpAny (model P0 w) A (execs (lw 15) env) Q NoE ⟨h, G, D, t, O⟩) :
    wpAny (model P0 w) A (execs (lw 14) env) Q NoE ⟨h, G, D, t, O⟩ := by
  obtain ⟨l, e1, e2, e4, e5, g, ib⟩ := s
  have X1 := X.ex l.F.keep
  refine r_seq (st := stm 19 14) (rest := lw 15) (by kernel_rfl) ?_
  refine asg_core (sw_of V.V (by kernel_rfl) (by kernel_rfl) (by kernel_rfl)) (cl := [("near", L + 4)]) (clos_of V.cells (by kernel_rfl)) (by kernel_rfl) (by kernel_rfl) (by kernel_rfl) (by kernel_rfl) (fun x => by rfl) ?_
  refine V.r7 X1 (pos := p00) ?_
  intro r h2 t2 nr x2 hr1
  refine r_iterRange (a := 0) (n := 7) (by rfl) hr1 ?_
  intro I h3 nI x3 st3
  have SC := CSrc.range (w := w) hh.hd st3 (by decide) (Ex.old x2 nI) (x2.trans x3)
  refine asg_pure V l (y := Str.ofString "sums") (by kernel_rfl) (by kernel_rfl) l.F.keep SC (f := fun i vs => AI vs (iL ((List.range i).map fun p => sumN (nb near p)))) .nil ?_ ?_
  · rintro C cenv i v h' t' vs' m' V' hi ⟨u, rfl⟩ fi k' nsC hm
    have l' := l.ex k'
    have N' := (g.ex k').here.2
    obtain ⟨a, q1, q2, q3⟩ := N'.get (p := i) (by rw [S.len]; exact hi)
    obtain ⟨ws, pw, aw⟩ := q3
    have lw' := aw.length
    simp only [iL, List.length_map] at lw'
    refine turn0 ?_
    refine wpAny_Call_NameR ?_
    refine r_blt (X1.ex k') V'.fn (V'.V.kind (by kernel_rfl)) V'.V.g V'.V.b (by kernel_rfl) (v := .builtin "sum") (by kernel_rfl) ?_
    refine PyProof.Rows.callWith_builtin1 ?_
    refine args_cons ?_
    refine r_comp (cl := []) (clos_of V'.cells (by kernel_rfl)) (by kernel_rfl) (by kernel_rfl) (by kernel_rfl) (by kernel_rfl) (fun x => by rfl) ?_
    refine wpAny_Subscript_Name_late ?_
    refine cv_cld V' (by kernel_rfl) (c := L + 4) (by kernel_rfl) (by rw [← e5]; exact l'.cell _ _ (by kernel_rfl)) ?_
    refine cv_ld V' (by kernel_rfl) nsC hm ?_
    refine r_idx N'.pl.isList (x := .ref a) (by omega) (by omega) (by simpa using q1) ?_
    refine r_iterList pw.isList ?_
    intro I2 h5 nI2 x5 st5
    have aI : a ≠ I2 := by obtain ⟨o, e⟩ := pl_live pw; exact ne_new nI2 e
    have hnp := hn i hi
    have SC2 := CSrc.list (w := w) hh.hd aI st5 (by simp; omega) nI2 x5
    refine compq_pure V'.V (by kernel_rfl) SC2 (f := fun j vs => AI vs (iL (((nb near i).take j).map (2 ^ ·)))) .nil ?_ ?_
    · rintro C2 cenv2 j v2 h6 t6 vs2 m2 V2 hj hv fj k6 nsC2 hm2
      have hj' : j < (nb near i).length := by simp at hj; omega
      obtain ⟨u2, ev⟩ := aw.get (iL_get hj')
      obtain rfl : v2 = .int (((nb near i)[j] : Nat) : Int) u2 := by simp at hv; rw [ev] at hv; exact (Option.some.inj hv).symm
      have hq7 := S.lt i hi _ (List.getElem_mem hj')
      have ht : (nb near i).take (j + 1) = (nb near i).take j ++ [(nb near i)[j]] := by rw [List.take_add_one, List.getElem?_eq_getElem hj']; rfl
      refine turn0 ?_
      refine wpAny_BinOp ?_
      refine r_int ?_
      intro u3 t3
      refine cv_ld V2 (by kernel_rfl) nsC2 hm2 ?_
      refine r_pow2 hq7 ?_
      intro u4 t4
      refine ⟨_, _, rfl, ?_, Kp.refl _ _⟩
      rw [ht]
      simp only [iL, List.map_append, List.map_cons, List.map_nil]
      exact fj.append (.cons .nil)
    · intro a2 C2 h6 t6 vs2 m2 na2 nC2 naC2 k6 p6 f6 ns6 la6
      dsimp only
      intro h7 k7
      have eT : (nb near i).take ws.toArray.size = nb near i := by simp [lw']
      rw [eT] at f6
      refine args_nil ?_
      refine r_sum hh.hd ⟨vs2, pl_kp p6 k7 (by simpa using naC2), f6⟩ ?_
      intro u8 h8 t8 x8
      refine ⟨_, _, rfl, ?_, (Kp.drop k6 k7 (by simpa using nC2)).trans x8⟩
      rw [iL_sum, List.range_succ, List.map_append]
      simp only [iL, List.map_append, List.map_cons, List.map_nil]
      exact AI.append (by simpa [iL] using fi) (.cons .nil)
  · intro a h4 t4 vs' na' aA p fn l4 k4
    have g4 := (g.fr k4).and (LI.gd ⟨vs', p, fn⟩ aA)
    exact k h4 t4 _ _ _ a ⟨l4, e1, by walk_at "hv", by walk_at "hv", e5, by walk_at "hv", g4, List.mem_append_left _ ib⟩
end
end

-- C12
section
structure S8 (w : World) (h₀ : Heap) (L : Addr) (h : Heap) (m mc : Str → Option Value) (B : List Addr) (fa ia na ra : Addr) (as : List Addr) (near : List (List Nat)) (inn : List Nat) (rg : Bool) : Prop where
  l : LF h₀ L h m mc
  e1 : mc "flags" = some (.ref fa)
  e2 : m "ring" = some (.bool rg)
  e4 : m "inner" = some (.ref ia)
  e5 : mc "near" = some (.ref na)
  e6 : m "read" = some (.ref ra)
  g : Gd h L B (fun h => FL h fa ∧ LI h ia (iL inn) ∧ NR h na as near ∧ LI h ra (iL (rowsN near)))
  ib : ia ∈ B
section
variable {w : World} {A : Around} {G : Array GenState} {D : Drawn} {O : OsState} {h h' h₀ h1 : Heap} {t t1 : Nat} {env : Env} {m mc : Str → Option Value} {L : Addr}
theorem Feed.live {h : Heap} {I fa : Addr} {rem : List Int} (x : Feed h I fa rem) : (∃ o, h.get? I = some o) ∧ ∃ o, h.get? fa = some o := by
  obtain ⟨vs, ns, i, n1, ⟨⟨o, e, _⟩, ⟨o2, e2, _⟩⟩, r⟩ := x
  exact ⟨⟨o, e⟩, ⟨o2, e2⟩⟩
theorem Feed.at {h h' : Heap} {I fa : Addr} {rem : List Int} (x : Feed h I fa rem) (k : ∀ b, b = I ∨ b = fa → ∀ o, h.get? b = some o → h'.get? b = some o) : Feed h' I fa rem := by
  obtain ⟨vs, ns, i, n1, st, r⟩ := x
  exact ⟨vs, ns, i, n1, ⟨st.1.at fun o e => k _ (.inl rfl) o e, st.2.at fun o e => k _ (.inr rfl) o e⟩, r⟩
theorem Feed.k1 {c : Addr} {h h' : Heap} {I fa : Addr} {rem : List Int} (x : Feed h I fa rem) (k : Kp [c] h h') (n1 : I ≠ c) (n2 : fa ≠ c) : Feed h' I fa rem := x.at fun b hb o e => k b o (by rcases hb with rfl | rfl <;> simpa) e
theorem with_cv {scope sce : Scope} {cl : List (Str × Addr)} {C : Addr} {elt : Expr} {Q : Value → Shared → Prop} {s : Shared} (V : Ev env sce) (hk : scope.kind = .function) (q : ∀ cenv, Cv cenv (relS scope sce) C cl → wpAny (model P0 w) A (eval elt cenv) Q NoE s) :
    wpAny (model P0 w) A (eval elt (compEnvC scope cl C env)) Q NoE s := q _ ⟨cev V, rfl, rfl, by simpa [compEnvC, relabel] using hk⟩
theorem rows_len (near : List (List Nat)) : (rowsN near).length = 7 := by simp [rowsN]
set_option maxHeartbeats 2000000 in
theorem ph6b {B : List Addr} {fa ia na sua : Addr} {as : List Addr} {near : List (List Nat)} {inn : List Nat} {rg : Bool} {Q : Flow → Shared → Prop} {n : Nat} (V : Lv env L) (hh : Room A (n + 3)) (X : KB w h₀)
    (s : S7 w h₀ L h m mc B fa ia na sua as near inn rg) (S : Sym near)
    (k : ∀ h t m mc B ra, S8 w h₀ L h m mc B fa ia na ra as near inn rg → wpAny (model P0 w) A (execs (lw 18) env) Q NoE ⟨h, G, D, t, O⟩) :
    wpAny (model P0 w) A (execs (lw 15) env) Q NoE ⟨h, G, D, t, O⟩ := by
  obtain ⟨l, e1, e2, e4, e5, e6, g, ib⟩ := s
  have hr := rows_lt S
  have rl := rows_len near
  generalize hrows : rowsN near = rows at *
  have X1 := X.ex l.F.keep
  refine r_seq (st := stm 19 15) (rest := lw 16) (by kernel_rfl) ?_
  refine wpAny_Assign_Name ?_
  refine wpAny_Call_NameR ?_
  refine r_blt X1 V.fn (V.kd (by kernel_rfl)) V.V.g V.V.b (by kernel_rfl) (v := .builtin "iter") (by kernel_rfl) ?_
  refine PyProof.Rows.callWith_builtin1 ?_
  refine args_cons ?_
  refine wpAny_Call_NameR ?_
  refine r_glob X1 V.fn (V.kd (by kernel_rfl)) V.V.g (v := .ref 177) (by kernel_rfl) ?_
  refine r_cw (fo := o177 w.params) (fd := fOct w.params) (by kernel_rfl) (by kernel_rfl) ?_
  refine args_cons ?_
  refine l_ld V l (by kernel_rfl) e6 ?_
  refine args_nil ⟨X1, ?_⟩
  refine oct_spec X1 (hh.less (by omega)) g.here.2.il (by simp [rl]) ?_
  intro oa ovs h2 t2 x2 no po ao
  refine args_nil ?_
  refine r_iter po.isList ?_
  intro If h3 nIf x3 st3
  have x23 := x2.trans x3
  have l3 := l.ex x23
  have g3 := g.ex x23
  have If1 : h.get? If = none := Ex.old x2 nIf
  have oIf : oa ≠ If := by obtain ⟨o, e⟩ := pl_live po; exact ne_new nIf e
  have F3 : Feed h3 If oa (tlO (iL rows) 7) := ⟨ovs, _, 0, oIf, st3, ao, by rw [oct_tl]; rfl⟩
  have IfA := l.off If1
  have oaA := l.off no
  have If0 := Ex.old l.F.keep If1
  have IfB := g.nin If1
  refine l_cst V l3 (by kernel_rfl) (c := L + 5) (by kernel_rfl) ?_
  intro h4 t4 l4 k4
  have g4 := g3.fr k4
  have F4 : Feed h4 If oa (tlO (iL rows) 7) := F3.at fun b hb o e => k4 b o (by rcases hb with rfl | rfl <;> assumption) e
  clear F3 k4 st3 g3 l3
  have ef : up mc (Str.ofString "feed") (.ref If) "feed" = some (.ref If) := up_eq
  replace e1 : up mc (Str.ofString "feed") (.ref If) "flags" = _ := up_ne (by decide) e1
  replace e5 : up mc (Str.ofString "feed") (.ref If) "near" = _ := up_ne (by decide) e5
  generalize up mc (Str.ofString "feed") (.ref If) = mc at l4 e1 e5 ef
  dsimp only
  -- read
  refine r_seq (st := stm 19 16) (rest := lw 17) (by kernel_rfl) ?_
  refine asg_core (sw_of V.V (by kernel_rfl) (by kernel_rfl) (by kernel_rfl)) (cl := [("feed", L + 5)]) (clos_of V.cells (by kernel_rfl)) (by kernel_rfl) (by kernel_rfl) (by kernel_rfl) (by kernel_rfl) (fun x => by rfl) ?_
  refine V.r7 (X.ex l4.F.keep) (pos := p00) ?_
  intro r h5 t5 nr x5 hr1
  refine r_iterRange (a := 0) (n := 7) (by rfl) hr1 ?_
  intro I h6 nI x6 st6
  have x56 : Ex h4 h6 := x5.trans x6
  have I4 : h4.get? I = none := Ex.old x5 nI
  have SC := CSrc.range (w := w) hh.hd st6 (by decide) I4 x56
  have F6 : Feed h6 If oa (tlO (iL rows) 7) := F4.at fun b _ o e => x56.get e
  have l6 := l4.ex x56
  have g6 := g4.ex x56
  have IIf : I ≠ If := by obtain ⟨⟨o, e⟩, _⟩ := F4.live; exact (ne_new I4 e).symm
  have oI : oa ≠ I := by obtain ⟨_, o, e⟩ := F4.live; exact ne_new I4 e
  have IA := l4.off I4
  have I0 := Ex.old l4.F.keep I4
  have IB := g4.nin I4
  have lk : ∀ {h' : Heap}, Kp [I, If] h6 h' → LF h₀ L h' m mc := fun k => l6.kp k (by
    intro c hc
    simp at hc
    rcases hc with rfl | rfl
    · exact ⟨I0, IA⟩
    · exact ⟨If0, IfA⟩)
  refine ⟨I, 7, _, _, _, [If], h6, _, rfl, rfl, SC.W, SC.st, SC.hn, ?_, by simpa using IIf, SC.sI, fun a C na' nC naC => ?_⟩
  · intro b hb
    simp at hb
    rcases hb with rfl | rfl
    · exact ⟨_, st6⟩
    · exact F6.live.1
  have aIf : If ≠ a := by obtain ⟨⟨o, e⟩, _⟩ := F6.live; exact ne_new na' e
  have CIf : If ≠ C := by obtain ⟨⟨o, e⟩, _⟩ := F6.live; exact ne_new nC e
  have oaa : oa ≠ a := by obtain ⟨_, o, e⟩ := F6.live; exact ne_new na' e
  have oaC : oa ≠ C := by obtain ⟨_, o, e⟩ := F6.live; exact ne_new nC e
  refine ⟨fun i h' vs => AI vs ((List.range i).map fun p => (iL rows).getD p 0) ∧ Feed h' If oa (tlO (iL rows) (7 - i)), fun h' x => ⟨.nil, F6.at fun b _ o e => x.get e⟩, ?_, ?_, ?_⟩
  · rintro i h' h'' vs c ⟨q1, q2⟩ kp hc k1
    refine ⟨q1, ?_⟩
    rcases hc with rfl | rfl | rfl
    · exact q2.k1 k1 IIf.symm oI
    · exact q2.k1 k1 aIf oaa
    · exact q2.k1 k1 CIf oaC
  · rintro i v h' t' vs m' hi ⟨u, rfl⟩ ⟨q1, q2⟩ kp ns hv la lI
    have l' := lk kp
    simp only [List.forIn_nil]
    refine wpAny_pure ?_
    rw [if_pos rfl]
    refine with_cv V.V (by kernel_rfl) ?_
    intro cenv V'
    refine wpAny_Call_NameR ?_
    refine r_glob (X.ex l'.F.keep) V'.fn (V'.V.kind (by kernel_rfl)) V'.V.g (v := .ref 72) (by kernel_rfl) ?_
    refine r_cw (fo := o72 w.params) (fd := fVar w.params) (by kernel_rfl) (by kernel_rfl) ?_
    refine args_cons ?_
    refine cv_cld V' (by kernel_rfl) (c := L + 5) (by kernel_rfl) (by rw [← ef]; exact l'.cell _ _ (by kernel_rfl)) ?_
    refine args_nil ⟨X.ex l'.F.keep, ?_⟩
    refine varint_spec X l'.F.keep If0 (hh.less (by omega)) q2 (read_ok hr hi) ?_
    intro u2 h7 t7 k7 f7
    refine ⟨_, _, rfl, ⟨?_, f7⟩, k7⟩
    rw [List.range_succ, List.map_append]
    exact q1.append (.cons .nil)
  · rintro h7 t7 vs m' ⟨q1, q2⟩ kp p7 ns
    dsimp only
    have l7 := lk kp
    have g7 := g6.kp kp (by
      intro b hb q
      simp at q
      rcases q with rfl | rfl
      · exact IB hb
      · exact IfB hb)
    have aA := l6.off na'
    have CA := l6.off nC
    have C0 := Ex.old l6.F.keep nC
    refine wpAny_assign_Name (l_st V l7 (by kernel_rfl) fun h8 t8 l8 k8 => ?_)
    have p8 := pl_kp p7 k8 aA
    refine ⟨m', ns.at' fun o e => k8 _ _ CA e, fun h9 hs => ?_⟩
    have k9 : Kp [C] h8 h9 := kp_same hs
    have l9 := l8.k1 k9 C0 CA
    have CB := g6.nin nC
    have g9 := (g7.fr k8).one k9 CB
    have p9 := pl_kp p8 k9 (by simpa using naC)
    have f9 : Feed h9 If oa [] := (q2.at fun b hb o e => k8 b o (by rcases hb with rfl | rfl <;> assumption) e).k1 k9 CIf oaC
    have hv : (List.range 7).map (fun p => (iL rows).getD p 0) = iL rows := by
      apply List.ext_getElem?
      intro j
      simp only [List.getElem?_map]
      by_cases hj : j < 7
      · rw [List.getElem?_range hj]
        simp [List.getD_eq_getElem?_getD, rl, hj]
      · rw [List.getElem?_eq_none (by simp; omega), List.getElem?_eq_none (by omega)]; rfl
    rw [hv] at q1
    have g9 := g9.and (LI.gd ⟨vs, p9, q1⟩ aA)
    have e2 : up m (Str.ofString "read") (.ref a) "ring" = _ := up_ne (by decide) e2
    have e4 : up m (Str.ofString "read") (.ref a) "inner" = _ := up_ne (by decide) e4
    have e6 : up m (Str.ofString "read") (.ref a) "sums" = _ := up_ne (by decide) e6
    have e7 : up m (Str.ofString "read") (.ref a) "read" = some (.ref a) := up_eq
    generalize up m (Str.ofString "read") (.ref a) = m at l9 e2 e4 e6 e7
    clear l7 l8 g7 p7 p8 k8 k9 ns hs q2 p9 kp
    dsimp only
    -- if
    refine r_seq (st := stm 19 17) (rest := lw 18) (by kernel_rfl) ?_
    refine wpAny_If ?_
    refine wpAny_isTrue_BoolOp ?_
    refine r_tor ?_
    refine wpAny_isTrue_Compare1 ?_
    refine l_ld V l9 (by kernel_rfl) e7 ?_
    refine l_ld V l9 (by kernel_rfl) e6 ?_
    refine neLI (n := n) (hh.less (by omega)) g9.here.2 g9.here.1.2 ?_
    rw [beq_self_eq_true]
    refine r_tbool ?_
    refine if_f ?_
    refine r_tor ?_
    refine wpAny_isTrue_Compare1 ?_
    refine r_comp (cl := []) (clos_of V.cells (by kernel_rfl)) (by kernel_rfl) (by kernel_rfl) (by kernel_rfl) (by kernel_rfl) (fun x => by rfl) ?_
    refine l_cld V l9 (by kernel_rfl) (c := L + 5) (by kernel_rfl) ef ?_
    obtain ⟨fvs, fns, j, fn1, fst, fai, fe⟩ := f9
    refine wpAny_pyIter_listiter fst.1 ?_
    have hj : fvs.toArray.size ≤ j := by
      have h1 := fai.length
      have h2 := congrArg List.length fe
      simp at h2
      simp; omega
    have fin : fvs.toArray[j]? = none := Array.getElem?_eq_none hj
    have WD : Walks P0 w A If [If, oa] [If] 0 (fun _ _ => False) (fun _ h => h.IsListIter If oa j ∧ h.IsList oa fvs.toArray) := by
      refine ⟨fun b hb => by simp at hb; simp [hb], fun _ _ _ st hk => ⟨st.1.at fun o e => hk If (by simp) o e, st.2.at fun o e => hk oa (by simp) o e⟩, fun i _ _ _ hi => by omega, ?_, fun _ _ _ _ st hQ => wpAny_pyIter_listiter st.1 hQ⟩
      exact fun s Q E st hQ => wpAny_pyNext_list_end hh.hd st.1 st.2 fin fun h' he' => hQ h' s.toks fun b o hb e => he' b o (fun h => hb (by simp [h])) e
    refine ⟨If, 0, _, _, _, [], h9, _, rfl, rfl, WD, fst, by decide, ?_, by simp, fun i h st => let ⟨⟨o, e, _⟩, _⟩ := st; ⟨o, e⟩, fun a2 C2 na2 nC2 naC2 => ⟨fun _ _ vs => vs = [], fun _ _ => rfl, fun _ _ _ _ _ q _ _ _ => q, fun i v h' t' vs m hi => by omega, ?_⟩⟩
    · intro b hb
      simp at hb
      rcases hb with rfl | rfl
      · obtain ⟨o, e, _⟩ := fst.1; exact ⟨o, e⟩
      · obtain ⟨o, e, _⟩ := fst.2; exact ⟨o, e⟩
    · rintro h10 t10 vs2 m2 rfl kp p10 ns2
      dsimp only
      intro h11 k11
      have k10 : Kp [If] h9 h10 := kp
      have C20 := Ex.old l9.F.keep nC2
      have C2A := l9.off nC2
      have l11 := (l9.k1 k10 If0 IfA).k1 k11 C20 C2A
      have g11 := (g9.one k10 (by
        intro q
        rcases List.mem_append.mp q with q | q
        · exact IfB q
        · simp at q; exact aIf q)).one k11 (g9.nin nC2)
      have p11 := pl_kp p10 k11 (by simpa using naC2)
      refine r_list ?_
      refine args_nil ⟨szl (by simp), _, _, rfl, ?_⟩
      intro ea h12 n12 x12 p12
      refine neLI (n := n) (hh.less (by omega)) (x := []) (y := []) ⟨[], pl_ex p11 x12, .nil⟩ ⟨[], p12, .nil⟩ ?_
      rw [beq_self_eq_true]
      refine r_tbool ?_
      refine if_f ?_
      refine r_tor0 ?_
      refine if_f ?_
      refine wpAny_execs_nil ?_
      refine k h12 _ m mc _ a ⟨l11.ex x12, e1, e2, e4, e5, e7, (g11.ex x12).imp fun h p => ⟨p.1.1.1.1, p.1.1.1.2, p.1.1.2, by rw [hrows]; exact p.2⟩, List.mem_append_left _ ib⟩
end
end

-- C13
section
noncomputable abbrev oneS (p : Nat) : Str := ⟨#[97 + p]⟩
/-- the road's pairs -/
inductive RT (h : Heap) : List Value → List Nat → Prop
  | nil : RT h [] []
  | cons {b : Addr} {p : Nat} {u v : Tok} {vs : List Value} {ps : List Nat} (e : TU h b [.str (Str.ofString "") u, .str (oneS p) v]) (r : RT h vs ps) : RT h (.ref b :: vs) (p :: ps)
theorem RT.kp {W : List Addr} {h h' : Heap} (k : Kp W h h') (n : ∀ c ∈ W, Tg h c) : ∀ {vs : List Value} {ps : List Nat}, RT h vs ps → RT h' vs ps
  | _, _, .nil => .nil
  | _, _, .cons e r => .cons (e.kp k fun m => n _ m _ e) (r.kp k n)
theorem RT.ex {h h' : Heap} (k : Ex h h') {vs : List Value} {ps : List Nat} (x : RT h vs ps) : RT h' vs ps := x.kp k (by simp)
theorem RT.snoc {h : Heap} {b : Addr} {p : Nat} {u v : Tok} (e : TU h b [.str (Str.ofString "") u, .str (oneS p) v]) : ∀ {vs : List Value} {ps : List Nat}, RT h vs ps → RT h (vs ++ [.ref b]) (ps ++ [p])
  | _, _, .nil => .cons e .nil
  | _, _, .cons e' r => .cons e' (r.snoc e)
theorem RT.length {h : Heap} : ∀ {vs : List Value} {ps : List Nat}, RT h vs ps → vs.length = ps.length
  | _, _, .nil => rfl
  | _, _, .cons _ r => by simp [r.length]
theorem RT.unsnoc {h : Heap} : ∀ {vs : List Value} {ps : List Nat} {v : Value}, RT h (vs ++ [v]) ps → ∃ ps' p b u u2, ps = ps' ++ [p] ∧ v = .ref b ∧ RT h vs ps' ∧ TU h b [.str (Str.ofString "") u, .str (oneS p) u2]
  | [], _, _, x => by
    cases x with
    | cons e r => cases r; exact ⟨[], _, _, _, _, rfl, rfl, .nil, e⟩
  | a :: vs, _, _, x => by
    cases x with
    | cons e r =>
      obtain ⟨ps', p, b, u, u2, rfl, rfl, r', e'⟩ := RT.unsnoc r
      exact ⟨_ :: ps', p, b, u, u2, rfl, rfl, .cons e r', e'⟩
theorem tg_cell {h : Heap} {c : Addr} {v : Option Value} (x : h.IsCell c v) : Tg h c := fun vs ⟨k, q⟩ => by
  obtain ⟨o, e, d⟩ := x
  rw [q] at e; cases e; cases d
theorem LF.tg {h₀ h : Heap} {L : Addr} {m mc : Str → Option Value} (l : LF h₀ L h m mc) : ∀ c ∈ fA L, Tg h c := by
  intro c hc
  simp only [fA, List.mem_cons, List.not_mem_nil, or_false] at hc
  have lk : ∀ n, (lawCells L).lookup n = some c → Tg h c := fun n e => tg_cell (l.cell n c e)
  rw [lawCells_eq] at lk
  rcases hc with rfl | rfl | rfl | rfl | rfl | rfl | rfl | rfl | rfl
  · exact tg_ns l.F.ns
  · exact lk (Str.ofString "script") (by kernel_rfl)
  · exact lk (Str.ofString "flags") (by kernel_rfl)
  · exact lk (Str.ofString "base") (by kernel_rfl)
  · exact lk (Str.ofString "near") (by kernel_rfl)
  · exact lk (Str.ofString "feed") (by kernel_rfl)
  · exact lk (Str.ofString "aims") (by kernel_rfl)
  · exact lk (Str.ofString "seats") (by kernel_rfl)
  · exact lk (Str.ofString "turn") (by kernel_rfl)
theorem tg_pl {h : Heap} {a : Addr} {vs : List Value} (x : PL h a vs) : Tg h a := by
  obtain ⟨n, e⟩ := x
  exact tg_cls e (show Value.type "list" ≠ .type "tuple" by decide)
/-- the road: the shooter's list and the aims -/
structure Rd (h₀ h : Heap) (L : Addr) (B : List Addr) (x d aa : Addr) (rem : List Nat) (aims : List Nat) : Prop where
  acc : ∃ xs, Acc h x d xs ∧ RT h xs rem
  li : LI h aa (iL aims)
  n0 : ∀ c, c = x ∨ c = d ∨ c = aa → h₀.get? c = none ∧ c ∉ fA L ∧ c ∉ B
  ax : aa ≠ x
  ad : aa ≠ d
theorem Acc.live {h : Heap} {x d : Addr} {xs : List Value} (a : Acc h x d xs) : (∃ o, h.get? x = some o) ∧ ∃ o, h.get? d = some o := by
  obtain ⟨⟨c, e⟩, o, e2, _⟩ := a
  exact ⟨⟨_, e⟩, ⟨_, e2⟩⟩
theorem Rd.fr {h₀ h h' : Heap} {L : Addr} {B : List Addr} {x d aa : Addr} {rem aims : List Nat} {m mc : Str → Option Value} (r : Rd h₀ h L B x d aa rem aims) (l : LF h₀ L h m mc) (k : Kp (fA L) h h') : Rd h₀ h' L B x d aa rem aims := by
  obtain ⟨⟨xs, a, rt⟩, li, n0, ax, ad⟩ := r
  exact ⟨⟨xs, a.kp k (n0 x (.inl rfl)).2.1 (n0 d (.inr (.inl rfl))).2.1, rt.kp k l.tg⟩, li.kp k (n0 aa (.inr (.inr rfl))).2.1, n0, ax, ad⟩
theorem Rd.k1 {h₀ h h' : Heap} {L c : Addr} {B : List Addr} {x d aa : Addr} {rem aims : List Nat} (r : Rd h₀ h L B x d aa rem aims) (k : Kp [c] h h') (tg : Tg h c) (n1 : x ≠ c) (n2 : d ≠ c) (n3 : aa ≠ c) : Rd h₀ h' L B x d aa rem aims := by
  obtain ⟨⟨xs, a, rt⟩, li, n0, ax, ad⟩ := r
  exact ⟨⟨xs, a.kp k (by simpa using n1) (by simpa using n2), rt.kp k (by simpa using tg)⟩, li.kp k (by simpa using n3), n0, ax, ad⟩
theorem Rd.ex {h₀ h h' : Heap} {L : Addr} {B : List Addr} {x d aa : Addr} {rem aims : List Nat} (r : Rd h₀ h L B x d aa rem aims) (k : Ex h h') : Rd h₀ h' L B x d aa rem aims := by
  obtain ⟨⟨xs, a, rt⟩, li, n0, ax, ad⟩ := r
  exact ⟨⟨xs, a.ex k, rt.ex k⟩, li.ex k, n0, ax, ad⟩
structure S9 (w : World) (h₀ : Heap) (L : Addr) (h : Heap) (m mc : Str → Option Value) (B : List Addr) (fa ia na ra x d aa : Addr) (as : List Addr) (near : List (List Nat)) (inn : List Nat) (rg : Bool) (rem aims : List Nat) : Prop where
  l : LF h₀ L h m mc
  e1 : mc "flags" = some (.ref fa)
  e2 : m "ring" = some (.bool rg)
  e4 : m "inner" = some (.ref ia)
  e5 : mc "near" = some (.ref na)
  e6 : m "read" = some (.ref ra)
  e7 : m "road" = some (.ref x)
  e8 : mc "aims" = some (.ref aa)
  g : Gd h L B (fun h => FL h fa ∧ LI h ia (iL inn) ∧ NR h na as near ∧ LI h ra (iL (rowsN near)))
  ib : ia ∈ B
  r : Rd h₀ h L B x d aa rem aims
section
variable {w : World} {A : Around} {G : Array GenState} {D : Drawn} {O : OsState} {h h' h₀ h1 : Heap} {t t1 : Nat} {env : Env} {m mc : Str → Option Value} {L : Addr}
theorem S9.nm {m' : Str → Option Value} {B : List Addr} {fa ia na ra x d aa : Addr} {as : List Addr} {near : List (List Nat)} {inn rem aims : List Nat} {rg : Bool} (s : S9 w h₀ L h m mc B fa ia na ra x d aa as near inn rg rem aims)
   (l : LF h₀ L h' m' mc) (k : Kp (fA L) h h') (hm : ∀ y, y = Str.ofString "ring" ∨ y = Str.ofString "inner" ∨ y = Str.ofString "read" ∨ y = Str.ofString "road" → m' y = m y) : S9 w h₀ L h' m' mc B fa ia na ra x d aa as near inn rg rem aims :=
  ⟨l, s.e1, (hm _ (.inl rfl)).trans s.e2, (hm _ (.inr (.inl rfl))).trans s.e4, s.e5, (hm _ (.inr (.inr (.inl rfl)))).trans s.e6, (hm _ (.inr (.inr (.inr rfl)))).trans s.e7, s.e8, s.g.fr k, s.ib, s.r.fr s.l k⟩
theorem S9.k1 {c : Addr} {B : List Addr} {fa ia na ra x d aa : Addr} {as : List Addr} {near : List (List Nat)} {inn rem aims : List Nat} {rg : Bool} (s : S9 w h₀ L h m mc B fa ia na ra x d aa as near inn rg rem aims)
   (k : Kp [c] h h') (n0 : h₀.get? c = none) (nf : c ∉ fA L) (nB : c ∉ B) (tg : Tg h c) (n1 : x ≠ c) (n2 : d ≠ c) (n3 : aa ≠ c) : S9 w h₀ L h' m mc B fa ia na ra x d aa as near inn rg rem aims :=
  ⟨s.l.k1 k n0 nf, s.e1, s.e2, s.e4, s.e5, s.e6, s.e7, s.e8, s.g.one k nB, s.ib, s.r.k1 k tg n1 n2 n3⟩
theorem S9.ex {B : List Addr} {fa ia na ra x d aa : Addr} {as : List Addr} {near : List (List Nat)} {inn rem aims : List Nat} {rg : Bool} (s : S9 w h₀ L h m mc B fa ia na ra x d aa as near inn rg rem aims)
   (k : Ex h h') : S9 w h₀ L h' m mc B fa ia na ra x d aa as near inn rg rem aims :=
  ⟨s.l.ex k, s.e1, s.e2, s.e4, s.e5, s.e6, s.e7, s.e8, s.g.ex k, s.ib, s.r.ex k⟩
theorem S9.nin {c : Addr} {B : List Addr} {fa ia na ra x d aa : Addr} {as : List Addr} {near : List (List Nat)} {inn rem aims : List Nat} {rg : Bool} (s : S9 w h₀ L h m mc B fa ia na ra x d aa as near inn rg rem aims)
   (n : h.get? c = none) : h₀.get? c = none ∧ c ∉ fA L ∧ c ∉ B ∧ x ≠ c ∧ d ≠ c ∧ aa ≠ c := by
  obtain ⟨xs, a, _⟩ := s.r.acc
  obtain ⟨⟨o1, q1⟩, ⟨o2, q2⟩⟩ := a.live
  obtain ⟨o3, q3⟩ := s.r.li.live
  exact ⟨Ex.old s.l.F.keep n, s.l.off n, s.g.nin n, ne_new n q1, ne_new n q2, ne_new n q3⟩
/-- aims.append(e) -/
theorem r_aims {e : Expr} {p1 ap pos pos2 : Pos} {Q : Flow → Shared → Prop} {B : List Addr} {fa ia na ra x d aa : Addr} {as : List Addr} {near : List (List Nat)} {inn rem aims : List Nat} {rg : Bool} (V : Lv env L) (s : S9 w h₀ L h m mc B fa ia na ra x d aa as near inn rg rem aims) (hz : aims.length ≤ 1000)
   (hline : (ap.endLine == pos.line) = true) (htrees : backTo pos (starEach [e] env) = [(false, eval e env)])
   (q : wpAny (model P0 w) A (eval e env) (fun v s₁ => ∃ (p : Nat) (u : Tok) (t1 : Nat), v = .int (p : Int) u ∧ s₁ = ⟨h, G, D, t1, O⟩ ∧ ∀ h', S9 w h₀ L h' m mc B fa ia na ra x d aa as near inn rg rem (aims ++ [p]) → Kp [aa] h h' → Q .next ⟨h', G, D, t1, O⟩) NoE ⟨h, G, D, t, O⟩) :
   wpAny (model P0 w) A (exec (.Expr (.Call (.Attribute (.Name (Str.ofString "aims") p1) (Str.ofString "append") ap) [e] [] pos) pos2) env) Q NoE ⟨h, G, D, t, O⟩ := by
  refine wpAny_Expr_any ?_ (intr V.fn)
  refine r_append (by rfl) hline htrees ?_
  refine l_cld V s.l (by kernel_rfl) (c := L + 6) (by kernel_rfl) s.e8 ?_
  obtain ⟨vs, pl, ai⟩ := s.r.li
  refine ⟨aa, vs, _, _, rfl, rfl, pl, ?_⟩
  refine wpAny_mono q (fun v s₁ k => ?_) fun _ _ e => e
  obtain ⟨p, u, t1, rfl, rfl, k⟩ := k
  have hl := ai.length
  refine ⟨vs, _, _, rfl, pl, szl (by rw [hl]; simp; omega), ?_⟩
  intro h2 p2 k2
  obtain ⟨n1, n2, n3⟩ := s.r.n0 aa (.inr (.inr rfl))
  obtain ⟨xs, a, rt⟩ := s.r.acc
  refine k h2 ⟨s.l.k1 k2 n1 n2, s.e1, s.e2, s.e4, s.e5, s.e6, s.e7, s.e8, s.g.one k2 n3, s.ib, ⟨⟨xs, a.kp k2 (by simpa using s.r.ax.symm) (by simpa using s.r.ad.symm), rt.kp k2 (by simpa using tg_pl pl)⟩, ⟨_, p2, ?_⟩, s.r.n0, s.r.ax, s.r.ad⟩⟩ k2
  simp only [iL, List.map_append, List.map_cons, List.map_nil]
  exact ai.append (.cons .nil)
set_option maxHeartbeats 2000000 in
theorem ph7a {B : List Addr} {fa ia na ra : Addr} {as : List Addr} {near : List (List Nat)} {inn : List Nat} {rg : Bool} {Q : Flow → Shared → Prop} {n : Nat} (V : Lv env L) (hh : Room A (n + 3)) (X : KB w h₀)
    (s : S8 w h₀ L h m mc B fa ia na ra as near inn rg) (hi7 : ∀ p ∈ inn, p < 7) (hz : inn.length ≤ 7)
    (k : ∀ h t m mc x d aa, S9 w h₀ L h m mc B fa ia na ra x d aa as near inn rg inn inn → wpAny (model P0 w) A (execs (lw 21) env) Q NoE ⟨h, G, D, t, O⟩) :
    wpAny (model P0 w) A (execs (lw 18) env) Q NoE ⟨h, G, D, t, O⟩ := by
  obtain ⟨l, e1, e2, e4, e5, e6, g, ib⟩ := s
  have X1 := X.ex l.F.keep
  refine r_seq (st := stm 19 18) (rest := lw 19) (by kernel_rfl) ?_
  refine wpAny_Assign_Name ?_
  refine wpAny_Call_NameR ?_
  refine r_glob X1 V.fn (V.kd (by kernel_rfl)) V.V.g (v := .ref 152) (by kernel_rfl) ?_
  refine callWith_K0 (K := KH w.params) X1 (by kernel_rfl) ?_
  refine acc_spec X1 (hh.less (by omega)) ?_
  intro x d h2 t2 nx nd x2 a2
  have l2 := l.ex x2
  have g2 := g.ex x2
  have xA := l.off nx
  have dA := l.off nd
  have xB := g.nin nx
  have dB := g.nin nd
  have x0 := Ex.old l.F.keep nx
  have d0 := Ex.old l.F.keep nd
  refine l_st V l2 (by kernel_rfl) ?_
  intro h3 t3 l3 k3
  have g3 := g2.fr k3
  have a3 := a2.kp k3 xA dA
  dsimp only
  refine r_seq (st := stm 19 19) (rest := lw 20) (by kernel_rfl) ?_
  refine wpAny_Assign_Name ?_
  refine r_list ?_
  refine args_nil ⟨szl (by simp), _, _, rfl, ?_⟩
  intro aa h4 n4 x4 p4
  have l4 := l3.ex x4
  have g4 := g3.ex x4
  have a4 := a3.ex x4
  have aA := l3.off n4
  have aB := g3.nin n4
  have a0 := Ex.old l3.F.keep n4
  have ax : aa ≠ x := by obtain ⟨⟨o, e⟩, _⟩ := a3.live; exact (ne_new n4 e).symm
  have ad : aa ≠ d := by obtain ⟨_, ⟨o, e⟩⟩ := a3.live; exact (ne_new n4 e).symm
  refine l_cst V l4 (by kernel_rfl) (c := L + 6) (by kernel_rfl) ?_
  intro h5 t5 l5 k5
  have s5 : S9 w h₀ L h5 (up m (Str.ofString "road") (.ref x)) (up mc (Str.ofString "aims") (.ref aa)) B fa ia na ra x d aa as near inn rg [] [] := by
    refine ⟨l5, by walk_at "hv", by walk_at "hv", by walk_at "hv", by walk_at "hv", by walk_at "hv", by walk_at "hv", by walk_at "hv", g4.fr k5, ib, ⟨⟨[], a4.kp k5 xA dA, .nil⟩, ⟨[], pl_kp p4 k5 aA, .nil⟩, ?_, ax, ad⟩⟩
    rintro c (rfl | rfl | rfl)
    · exact ⟨x0, xA, xB⟩
    · exact ⟨d0, dA, dB⟩
    · exact ⟨a0, aA, aB⟩
  clear l l2 l3 l4 l5 g g2 g3 g4 a2 a3 a4 p4 k3 k5 x2 x4 e1 e2 e4 e5 e6
  generalize up m (Str.ofString "road") (.ref x) = m at s5
  generalize up mc (Str.ofString "aims") (.ref aa) = mc at s5
  dsimp only
  refine r_seq (st := stm 19 20) (rest := lw 21) (by kernel_rfl) ?_
  refine wpAny_For ?_
  refine l_ld V s5.l (by kernel_rfl) s5.e4 ?_
  obtain ⟨vs, pl, ai⟩ := id s5.g.here.2.1
  refine r_iterList pl.isList ?_
  intro I h6 nI x6 st6
  have iI : ia ≠ I := by obtain ⟨o, e⟩ := pl_live pl; exact ne_new nI e
  obtain ⟨I0, IA, IB, Ix, Id, Ia⟩ := s5.nin nI
  have lz := ai.length
  simp only [iL, List.length_map] at lz
  have iaA : ia ∉ fA L := s5.g.off ia ib
  have nB : ∀ c, c ∉ B → I ≠ c → ∀ {h h' : Heap} {i : Nat}, LSt I ia vs.toArray i h → Kp [c] h h' → LSt I ia vs.toArray i h' := fun c hc hI h h' i st k =>
    ⟨st.1.at fun o e => k _ _ (by simpa using hI) e, isl_kp st.2 k (by simp; rintro rfl; exact hc ib)⟩
  have nA : ∀ {h h' : Heap} {i : Nat}, LSt I ia vs.toArray i h → Kp (fA L) h h' → LSt I ia vs.toArray i h' := fun st k => ⟨st.1.at fun o e => k _ _ IA e, isl_kp st.2 k iaA⟩
  refine r_forS (walkList hh.hd I ia iI vs.toArray) (fun i h' => ∃ m, S9 w h₀ L h' m mc B fa ia na ra x d aa as near inn rg (inn.take i) (inn.take i)) ?_ ?_ ?_ ⟨m, by simpa using s5.ex x6⟩ st6
  · rintro i h' h'' ⟨m, s⟩ st k
    exact ⟨m, s.k1 k I0 IA IB (tg_it st) Ix Id Ia⟩
  · rintro i v h' t hi hv ⟨m, s⟩ st
    have hi' : i < inn.length := by simp at hi; omega
    obtain ⟨u, ev⟩ := ai.get (iL_get hi')
    obtain rfl : v = .int ((inn[i] : Nat) : Int) u := by simp at hv; rw [ev] at hv; exact (Option.some.inj hv).symm
    have hp7 := hi7 _ (List.getElem_mem hi')
    have ht : inn.take (i + 1) = inn.take i ++ [inn[i]] := by rw [List.take_add_one, List.getElem?_eq_getElem hi']; rfl
    rw [ht]
    have htl : (inn.take i).length ≤ 7 := by simp; omega
    generalize inn[i] = p at *
    generalize inn.take i = tk at *
    refine l_st V s.l (by kernel_rfl) ?_
    intro h7 t7 l7 k7
    have s7 := s.nm l7 k7 (by rintro y (rfl | rfl | rfl | rfl) <;> exact up_ne (by decide) rfl)
    have st7 := nA st k7
    have ep : up m (Str.ofString "place") (.int (p : Int) u) "place" = some (.int (p : Int) u) := up_eq
    generalize up m (Str.ofString "place") (.int (p : Int) u) = m at s7 l7 ep
    clear s st k7
    refine wpAny_execs_cons ?_
    refine wpAny_Expr_any ?_ (intr V.fn) (by rfl)
    refine r_push2 rfl (by rfl) (by rfl) (by rfl) (hh.less (by omega)) X ?_
    refine l_ld V l7 (by kernel_rfl) s7.e7 ?_
    obtain ⟨xs, a7, rt7⟩ := s7.r.acc
    obtain ⟨x0, xA, xB⟩ := s7.r.n0 x (.inl rfl)
    have lx := rt7.length
    refine ⟨x, d, _, _, rfl, x0, rfl, X.ex l7.F.keep, ⟨_, a7⟩, ?_⟩
    refine args_cons (r_str ?_)
    intro us ts
    refine args_cons ?_
    refine wpAny_Call_NameR ?_
    refine r_blt (X.ex l7.F.keep) V.fn (V.kd (by kernel_rfl)) V.V.g V.V.b (by kernel_rfl) (v := .builtin "chr") (by kernel_rfl) ?_
    refine PyProof.Rows.callWith_builtin1 ?_
    refine args_cons ?_
    refine wpAny_BinOp (r_int ?_)
    intro ui ti
    refine l_ld V l7 (by kernel_rfl) ep ?_
    refine r_add ?_
    intro ua ta
    refine args_nil ?_
    refine r_chr (by omega) (by omega) ?_
    intro uc tc
    refine args_nil ?_
    refine ⟨xs, _, _, _, _, _, _, rfl, rfl, l7.F.keep, a7, by omega, ?_⟩
    intro b h8 t8 tb a8 k8
    have hc : (97 + (p : Int)).toNat = 97 + p := by omega
    rw [hc] at tb
    have st8 := nB x xB Ix.symm st7 k8
    have s8 : S9 w h₀ L h8 m mc B fa ia na ra x d aa as near inn rg (tk ++ [p]) tk :=
      ⟨l7.k1 k8 x0 xA, s7.e1, s7.e2, s7.e4, s7.e5, s7.e6, s7.e7, s7.e8, s7.g.one k8 xB, ib, ⟨⟨_, a8, (rt7.kp k8 (by simpa using tg_acc a7)).snoc tb⟩, s7.r.li.kp k8 (by simpa using s7.r.ax), s7.r.n0, s7.r.ax, s7.r.ad⟩⟩
    refine wpAny_execs_cons ?_
    refine r_aims V s8 (by omega) (by rfl) (by rfl) ?_
    refine l_ld V s8.l (by kernel_rfl) ep ?_
    refine ⟨p, u, _, rfl, rfl, ?_⟩
    intro h9 s9 k9
    exact wpAny_execs_nil ⟨h9, _, rfl, ⟨m, s9⟩, nB aa (s8.r.n0 aa (.inr (.inr rfl))).2.2 Ia.symm st8 k9⟩
  · rintro h' t ⟨m, s⟩
    have e : inn.take vs.toArray.size = inn := by simp [lz]
    rw [e] at s
    refine wpAny_execs_nil ?_
    exact k h' t m mc x d aa s
end
end

-- C14
section
section
variable {w : World} {A : Around} {G : Array GenState} {D : Drawn} {O : OsState} {h h' h₀ h1 : Heap} {t t1 : Nat} {env : Env} {m mc : Str → Option Value} {L : Addr}
/-- road.pop() -/
theorem r_pop {o : Expr} {apos pos : Pos} {pl : Sem Bool} {Q : Value → Shared → Prop}
    (he : eval (.Call (.Attribute o (Str.ofString "pop") apos) [] [] pos) env = (do
      let ov ← attributeBase o (Str.ofString "pop") env (eval o env)
      standAt apos.atName
      let (f, first) ← holding [ov] (getMethod ov (Str.ofString "pop") pl)
      callWith pos f first (backTo pos (starEach [] env)) [])) (hbase : attributeBase o (Str.ofString "pop") env (eval o env) = eval o env)
    (hh : Room A 2) {hB : Heap} (XB : KB w hB) (q : wpAny (model P0 w) A (eval o env) (fun ov s₁ => ∃ x d xs h1 t1, ov = .ref x ∧ s₁ = ⟨h1, G, D, t1, O⟩ ∧ hB.get? x = none ∧ Ex hB h1 ∧ Acc h1 x d xs ∧ xs.length ≤ 1000 ∧
      (xs = [] → ∀ b u v h' t', TU h' b [.str ⟨#[]⟩ u, .str ⟨#[]⟩ v] → Ex h1 h' → Q (.ref b) ⟨h', G, D, t', O⟩) ∧
      ∀ ys v h' t', xs = ys ++ [v] → Acc h' x d ys → Kp [x] h1 h' → Q v ⟨h', G, D, t', O⟩) NoE ⟨h, G, D, t, O⟩) :
    wpAny (model P0 w) A (eval (.Call (.Attribute o (Str.ofString "pop") apos) [] [] pos) env) Q NoE ⟨h, G, D, t, O⟩ := by
  refine r_mcall he hbase (wpAny_mono q (fun ov s₁ k => ?_) fun _ _ e => e)
  obtain ⟨x, d, xs, h1, t1, rfl, rfl, nx, xB, a, z, k0, k⟩ := k
  refine acc_meth (XB.ex xB) a (by kernel_rfl) (f := 112) (by kernel_rfl) (by decide) ?_
  refine callWith_K0 (K := KH w.params) (XB.ex xB) (by kernel_rfl) ?_
  exact pop_spec XB xB nx hh a z k0 k
/-- what back holds: nothing more, or the place p with rem behind it -/
noncomputable def BK (h : Heap) (b : Addr) (rem : List Nat) : Option Nat → Prop
  | none => rem = [] ∧ ∃ u v, TU h b [.str (Str.ofString "") u, .str (Str.ofString "") v]
  | some p => ∃ u v, TU h b [.str (Str.ofString "") u, .str (oneS p) v]
theorem BK.kp {W : List Addr} {h h' : Heap} {b : Addr} {rem : List Nat} {o : Option Nat} (x : BK h b rem o) (k : Kp W h h') (n : ∀ c ∈ W, Tg h c) : BK h' b rem o := by
  cases o with
  | none => obtain ⟨e, u, v, q⟩ := x; exact ⟨e, u, v, q.kp k fun m => n _ m _ q⟩
  | some p => obtain ⟨u, v, q⟩ := x; exact ⟨u, v, q.kp k fun m => n _ m _ q⟩
/-- back = road.pop() -/
theorem r_back {B : List Addr} {fa ia na ra x d aa : Addr} {as : List Addr} {near : List (List Nat)} {inn rem aims : List Nat} {rg : Bool} {Q : Flow → Shared → Prop} {n : Nat} {p1 ap pos pos2 pb : Pos}
   (V : Lv env L) (hh : Room A (n + 3)) (X : KB w h₀) (s : S9 w h₀ L h m mc B fa ia na ra x d aa as near inn rg rem aims) (hz : rem.length ≤ 7)
   (q : ∀ h' t' m' b rem' o, S9 w h₀ L h' m' mc B fa ia na ra x d aa as near inn rg rem' aims → m' "back" = some (.ref b) → BK h' b rem' o → (match o with | none => rem = [] ∧ rem' = [] | some p => rem = rem' ++ [p]) → Q .next ⟨h', G, D, t', O⟩)
   {pl : Sem Bool}
   (he : eval (.Call (.Attribute (.Name (Str.ofString "road") p1) (Str.ofString "pop") ap) [] [] pos) env = (do
      let ov ← attributeBase (.Name (Str.ofString "road") p1) (Str.ofString "pop") env (eval (.Name (Str.ofString "road") p1) env)
      standAt ap.atName
      let (f, first) ← holding [ov] (getMethod ov (Str.ofString "pop") pl)
      callWith pos f first (backTo pos (starEach [] env)) [])) :
   wpAny (model P0 w) A (exec (.Assign [.Name (Str.ofString "back") pb] (.Call (.Attribute (.Name (Str.ofString "road") p1) (Str.ofString "pop") ap) [] [] pos) pos2) env) Q NoE ⟨h, G, D, t, O⟩ := by
  obtain ⟨xs, a, rt⟩ := s.r.acc
  obtain ⟨x0, xA, xB⟩ := s.r.n0 x (.inl rfl)
  have lx := rt.length
  refine wpAny_Assign_Name ?_
  refine r_pop he (by rfl) (hh.less (by omega)) X ?_
  refine l_ld V s.l (by kernel_rfl) s.e7 ?_
  refine ⟨x, d, xs, _, _, rfl, rfl, x0, s.l.F.keep, a, by omega, ?_, ?_⟩
  · intro e b u v h2 t2 tb k2
    subst e
    have s2 := s.ex k2
    refine l_st V s2.l (by kernel_rfl) ?_
    intro h3 t3 l3 k3
    have s3 := s2.nm l3 k3 (by rintro y (rfl | rfl | rfl | rfl) <;> exact up_ne (by decide) rfl)
    have hr : rem = [] := by cases rt; rfl
    subst hr
    exact q h3 t3 _ b [] none s3 up_eq ⟨rfl, u, v, tb.kp k3 fun m => s2.l.tg _ m _ tb⟩ ⟨rfl, rfl⟩
  · intro ys v h2 t2 e a2 k2
    subst e
    obtain ⟨rem', p, b, u, u2, rfl, rfl, rt', tb⟩ := rt.unsnoc
    have tgx := tg_acc a
    have tb2 := tb.kp k2 (by simp; rintro rfl; exact tgx _ tb)
    have s2 : S9 w h₀ L h2 m mc B fa ia na ra x d aa as near inn rg rem' aims :=
      ⟨s.l.k1 k2 x0 xA, s.e1, s.e2, s.e4, s.e5, s.e6, s.e7, s.e8, s.g.one k2 xB, s.ib, ⟨⟨_, a2, rt'.kp k2 (by simpa using tgx)⟩, s.r.li.kp k2 (by simpa using s.r.ax), s.r.n0, s.r.ax, s.r.ad⟩⟩
    refine l_st V s2.l (by kernel_rfl) ?_
    intro h3 t3 l3 k3
    have s3 := s2.nm l3 k3 (by rintro y (rfl | rfl | rfl | rfl) <;> exact up_ne (by decide) rfl)
    exact q h3 t3 _ b rem' (some p) s3 up_eq ⟨u, u2, tb2.kp k3 fun m => s2.l.tg _ m _ tb2⟩ rfl
set_option maxHeartbeats 2000000 in
theorem ph7b {B : List Addr} {fa ia na ra x d aa : Addr} {as : List Addr} {near : List (List Nat)} {inn : List Nat} {rg : Bool} {Q : Flow → Shared → Prop} {n : Nat} (V : Lv env L) (hh : Room A (n + 3)) (X : KB w h₀)
    (s : S9 w h₀ L h m mc B fa ia na ra x d aa as near inn rg inn inn) (hi7 : ∀ p ∈ inn, p < 7) (hz : inn.length ≤ 7)
    (k : ∀ h t m, S9 w h₀ L h m mc B fa ia na ra x d aa as near inn rg [] (aimsN inn) → wpAny (model P0 w) A (execs (lw 23) env) Q NoE ⟨h, G, D, t, O⟩) :
    wpAny (model P0 w) A (execs (lw 21) env) Q NoE ⟨h, G, D, t, O⟩ := by
  refine r_seq (st := stm 19 21) (rest := lw 22) (by kernel_rfl) ?_
  refine r_back V hh X s hz ?_ rfl
  intro h2 t2 m2 b rem' o s2 eb bk ho
  dsimp only
  refine r_seq (st := stm 19 22) (rest := lw 23) (by kernel_rfl) ?_
  refine wpAny_While ?_
  refine r_while (fun j h' => ∃ m rem b o done, S9 w h₀ L h' m mc B fa ia na ra x d aa as near inn rg rem (inn ++ done) ∧ m "back" = some (.ref b) ∧ BK h' b rem o ∧
     (match o with | none => j = 0 ∧ rem = [] ∧ done = inn.reverse | some p => j = rem.length + 1 ∧ p < 7 ∧ rem.length + done.length ≤ 7 ∧ inn.reverse = done ++ p :: rem.reverse)) ?_ (match o with | none => 0 | some _ => rem'.length + 1)
     ⟨m2, rem', b, o, [], by simpa using s2, eb, bk, ?_⟩
  · clear s s2 eb bk ho
    rintro j h3 t3 ⟨m, rem, b, o, done, s, eb, bk, ho⟩
    refine wpAny_isTrue_Compare1 ?_
    refine l_ld V s.l (by kernel_rfl) eb ?_
    refine r_tuple ?_
    refine args_cons (r_str ?_)
    intro u t
    refine args_cons (r_str ?_)
    intro u' t'
    refine args_nil ⟨szl (by simp), _, _, rfl, ?_⟩
    intro c h4 n4 x4 tc
    have s4 := s.ex x4
    cases o with
    | none =>
      obtain ⟨rfl, u1, v1, tb⟩ := bk
      obtain ⟨rfl, _, rfl⟩ := ho
      refine neTS hh (tb.ex x4) tc (by decide +kernel) (by decide +kernel) (by decide +kernel) (by decide +kernel) ?_
      rw [beq_self_eq_true]
      refine r_tbool ?_
      refine if_f ?_
      exact wpAny_execs_nil (k h4 _ m s4)
    | some p =>
      obtain ⟨u1, v1, tb⟩ := bk
      obtain ⟨rfl, hp, hl, hr⟩ := ho
      have so : ∀ p : Nat, p < 7 → PyData.strOk (oneS p) = true ∧ (oneS p == Str.ofString "") = false := by
        intro p hp
        rcases (show p = 0 ∨ p = 1 ∨ p = 2 ∨ p = 3 ∨ p = 4 ∨ p = 5 ∨ p = 6 by omega) with rfl | rfl | rfl | rfl | rfl | rfl | rfl <;> exact ⟨by decide +kernel, by decide +kernel⟩
      refine neTS hh (tb.ex x4) tc (by decide +kernel) (so p hp).1 (by decide +kernel) (by decide +kernel) ?_
      rw [(so p hp).2, Bool.and_false]
      refine r_tbool ?_
      refine if_t ?_
      have tb4 := tb.ex x4
      have hl2 : inn.length = done.length + 1 + rem.length := by
        have := congrArg List.length hr
        simp at this
        omega
      refine wpAny_execs_cons ?_
      refine r_aims V s4 (by simp; omega) (by rfl) (by rfl) ?_
      refine wpAny_BinOp ?_
      refine wpAny_Call_NameR ?_
      refine r_blt (X.ex s4.l.F.keep) V.fn (V.kd (by kernel_rfl)) V.V.g V.V.b (by kernel_rfl) (v := .builtin "ord") (by kernel_rfl) ?_
      refine PyProof.Rows.callWith_builtin1 ?_
      refine args_cons ?_
      refine Subscript_ ?_
      refine l_ld V s4.l (by kernel_rfl) eb ?_
      refine r_int ?_
      intro ui ti
      refine item_tupleT (l := [.str (Str.ofString "") u1, .str (oneS p) v1]) tb4.is (by decide) (by decide) (j := 1) (by rfl) (by rfl) ?_
      refine args_nil ?_
      refine r_ord ?_
      intro uo to
      refine r_int ?_
      intro u5 t5
      refine r_sub ?_
      intro u6 t6
      refine ⟨p, _, _, by congr 1; omega, rfl, ?_⟩
      intro h5 s5 k5
      refine wpAny_execs_cons ?_
      refine r_back V hh X s5 (by omega) ?_ rfl
      intro h6 t6' m6 b6 rem6 o6 s6 eb6 bk6 ho6
      refine wpAny_execs_nil ?_
      cases o6 with
      | none =>
        obtain ⟨rfl, rfl⟩ := ho6
        refine ⟨0, h6, t6', rfl, by omega, m6, [], b6, none, done ++ [p], ?_, eb6, bk6, rfl, rfl, ?_⟩
        · rw [← List.append_assoc]; exact s6
        · rw [hr]; simp
      | some p6 =>
        dsimp only at ho6
        subst ho6
        refine ⟨rem6.length + 1, h6, t6', rfl, by simp, m6, rem6, b6, some p6, done ++ [p], ?_, eb6, bk6, rfl, ?_, ?_, ?_⟩
        · rw [← List.append_assoc]; exact s6
        · have : p6 ∈ inn.reverse := by rw [hr]; simp
          exact hi7 p6 (by simpa using this)
        · simp at hl2 ⊢; omega
        · rw [hr]; simp
  · cases o with
    | none =>
      obtain ⟨rfl, rfl⟩ := ho
      exact ⟨rfl, rfl, rfl⟩
    | some p =>
      dsimp only at ho
      subst ho
      exact ⟨rfl, hi7 p (by simp), by simp at hz ⊢; omega, by simp⟩
end
end

-- C15
section
noncomputable def turnB : List Stmt := match stm 19 26 with | .For _ _ b _ _ => b | _ => []
noncomputable abbrev pT (fa ia na ra aa : Addr) (as : List Addr) (near : List (List Nat)) (inn aims : List Nat) : Heap → Prop := fun h => FL h fa ∧ LI h ia (iL inn) ∧ NR h na as near ∧ LI h ra (iL (rowsN near)) ∧ LI h aa (iL aims)
structure ST (w : World) (h₀ : Heap) (L : Addr) (h : Heap) (m mc : Str → Option Value) (B : List Addr) (fa ia na ra aa za : Addr) (as : List Addr) (near : List (List Nat)) (inn : List Nat) (rg : Bool) (aims : List Nat) (st : Nat) (seats : List Nat) (gn : Nat) : Prop where
  l : LF h₀ L h m mc
  e1 : mc "flags" = some (.ref fa)
  e2 : m "ring" = some (.bool rg)
  e4 : m "inner" = some (.ref ia)
  e5 : mc "near" = some (.ref na)
  e6 : m "read" = some (.ref ra)
  e8 : mc "aims" = some (.ref aa)
  e9 : mc "seats" = some (.ref za)
  e10 : ∃ u, m "state" = some (.int (st : Int) u)
  e11 : ∃ u, m "gone" = some (.int (gn : Int) u)
  g : Gd h L B (pT fa ia na ra aa as near inn aims)
  z : LI h za (iL seats)
  zA : za ∉ fA L
section
variable {w : World} {A : Around} {G : Array GenState} {D : Drawn} {O : OsState} {h h' h₀ h1 : Heap} {t t1 : Nat} {env : Env} {m mc : Str → Option Value} {L : Addr}
  {B : List Addr} {fa ia na ra aa za : Addr} {as : List Addr} {near : List (List Nat)} {inn : List Nat} {rg : Bool} {aims : List Nat} {st gn : Nat} {seats : List Nat}
theorem ST.ex (s : ST w h₀ L h m mc B fa ia na ra aa za as near inn rg aims st seats gn) (k : Ex h h') : ST w h₀ L h' m mc B fa ia na ra aa za as near inn rg aims st seats gn :=
  ⟨s.l.ex k, s.e1, s.e2, s.e4, s.e5, s.e6, s.e8, s.e9, s.e10, s.e11, s.g.ex k, s.z.ex k, s.zA⟩
theorem ST.k1 {c : Addr} (s : ST w h₀ L h m mc B fa ia na ra aa za as near inn rg aims st seats gn) (k : Kp [c] h h') (n0 : h₀.get? c = none) (nf : c ∉ fA L) (nB : c ∉ B) (nz : za ≠ c) : ST w h₀ L h' m mc B fa ia na ra aa za as near inn rg aims st seats gn :=
  ⟨s.l.k1 k n0 nf, s.e1, s.e2, s.e4, s.e5, s.e6, s.e8, s.e9, s.e10, s.e11, s.g.one k nB, s.z.kp k (by simpa using nz), s.zA⟩
theorem iL_contains (l : List Nat) (q : Nat) : (iL l).contains (q : Int) = l.contains q := by
  rw [Bool.eq_iff_iff]
  simp only [List.contains_iff_mem, iL, List.mem_map]
  constructor
  · rintro ⟨x, hx, e⟩
    have : x = q := by omega
    exact this ▸ hx
  · exact fun hx => ⟨q, hx, rfl⟩
theorem cast_ne (a b : Nat) : ((a : Int) != (b : Int)) = (a != b) := by
  by_cases h : a = b
  · subst h; simp
  · have h' : (a : Int) ≠ b := by omega
    rw [bne_iff_ne.mpr h, bne_iff_ne.mpr h']
noncomputable abbrev clT (L : Addr) : List (Str × Addr) := [("turn", L + 8), ("seats", L + 7), ("near", L + 4), ("aims", L + 6)]
noncomputable abbrev clU (L : Addr) : List (Str × Addr) := [("turn", L + 8), ("seats", L + 7), ("aims", L + 6)]
set_option maxHeartbeats 4000000 in
theorem t_seats {Q : Flow → Shared → Prop} {n i : Nat} {ut : Tok} (V : Lv env L) (hh : Room A (n + 3)) (X : KB w h₀) (S : Sym near) (hn : ∀ p, p < 7 → (nb near p).length ≤ 100)
    (s : ST w h₀ L h m mc B fa ia na ra aa za as near inn rg aims st seats gn) (et : mc "turn" = some (.int (i : Int) ut)) (hi : i < aims.length) (hz : aims.length ≤ 100)
    (q : ∀ h' t' mc' za', ST w h₀ L h' m mc' B fa ia na ra aa za' as near inn rg aims st (seatsN near seats (aims.getD i 0)) gn → mc' "turn" = some (.int (i : Int) ut) → h.get? za' = none → Kp (fA L) h h' → Q .next ⟨h', G, D, t', O⟩) :
    wpAny (model P0 w) A (exec (turnB.getD 1 (.Pass p00)) env) Q NoE ⟨h, G, D, t, O⟩ := by
  have X1 := X.ex s.l.F.keep
  generalize ha : aims.getD i 0 = aim at q
  have hai : (iL aims)[i]? = some (aim : Int) := by rw [iL_get hi]; congr 2; rw [← ha, List.getD_eq_getElem?_getD, List.getElem?_eq_getElem hi]; rfl
  refine wpAny_Assign_Name ?_ (sw_cell (V.kd (by kernel_rfl)))
  refine r_comp (cl := clT L) (clos_of V.cells (by kernel_rfl)) (by kernel_rfl) (by kernel_rfl) (by kernel_rfl) (by kernel_rfl) (fun x => by rfl) ?_
  refine V.r7 X1 (pos := p00) ?_
  intro r h2 t2 nr x2 hr1
  refine r_iterRange (a := 0) (n := 7) (by rfl) hr1 ?_
  intro I h3 nI x3 st3
  have SC := CSrc.range (w := w) hh.hd st3 (by decide) (Ex.old x2 nI) (x2.trans x3)
  refine compq_pure V.V (by kernel_rfl) SC (f := fun j vs => AI vs (iL ((List.range j).filter fun p => ((nb near p).filter fun q => seats.contains q && q != aim) != []))) .nil ?_ ?_
  · rintro C cenv p v h' t' vs' m' V' hp ⟨u, rfl⟩ fi k' nsC hm
    have s' := s.ex k'
    obtain ⟨a, q1, q2, q3⟩ := s'.g.here.2.2.1.get (p := p) (by rw [S.len]; exact hp)
    obtain ⟨ws, pw, aw⟩ := q3
    have lw' := aw.length
    simp only [iL, List.length_map] at lw'
    have hcell : ∀ {h2 : Heap} {n : Str} {c : Addr} {v : Value}, Ex h' h2 → (lawCells L).lookup n = some c → mc n = some v → h2.IsCell c (some v) := fun {h2 n c v} x e e' => by rw [← e']; exact (s'.l.ex x).cell n c e
    have rx := Kp.refl [] h'
    refine turn1 ?_
    refine wpAny_isTrue_Compare1 ?_
    refine r_comp (cl := clU L) (clos_of V'.cells (by kernel_rfl)) (by kernel_rfl) (by kernel_rfl) (by kernel_rfl) (by kernel_rfl) (fun x => by rfl) ?_
    refine wpAny_Subscript_Name_late ?_
    refine cv_cld V' (by kernel_rfl) (c := L + 4) (by kernel_rfl) (hcell rx (by kernel_rfl) s.e5) ?_
    refine cv_ld V' (by kernel_rfl) nsC hm ?_
    refine r_idx s'.g.here.2.2.1.pl.isList (x := .ref a) (by omega) (by omega) (by simpa using q1) ?_
    refine r_iterList pw.isList ?_
    intro I2 h5 nI2 x5 st5
    have aI : a ≠ I2 := by obtain ⟨o, e⟩ := pl_live pw; exact ne_new nI2 e
    have hnp := hn p hp
    have SC2 := CSrc.list (w := w) hh.hd aI st5 (by simp; omega) nI2 x5
    refine compq_pure V'.V (by kernel_rfl) SC2 (f := fun j vs => AI vs (iL (((nb near p).take j).filter fun q => seats.contains q && q != aim))) .nil ?_ ?_
    · rintro C2 cenv2 j v2 h6 t6 vs2 m2 V2 hj hv fj k6 nsC2 hm2
      have hj' : j < (nb near p).length := by simp at hj; omega
      obtain ⟨u2, ev⟩ := aw.get (iL_get hj')
      obtain rfl : v2 = .int (((nb near p)[j] : Nat) : Int) u2 := by simp at hv; rw [ev] at hv; exact (Option.some.inj hv).symm
      have hf : ∀ xs, AI xs (iL (((nb near p).take j ++ [(nb near p)[j]]).filter fun q => seats.contains q && q != aim)) → AI xs (iL (((nb near p).take (j + 1)).filter fun q => seats.contains q && q != aim)) := fun xs x => by
        rw [List.take_add_one, List.getElem?_eq_getElem hj']; exact x
      generalize (nb near p)[j] = y at *
      have s6 := s'.ex k6
      have skip : (seats.contains y && y != aim) = false → ∀ t6, ∃ h4 t4, (⟨h6, G, D, t6, O⟩ : Shared) = ⟨h4, G, D, t4, O⟩ ∧ AI vs2 (iL (((nb near p).take (j + 1)).filter fun q => seats.contains q && q != aim)) ∧ Ex h6 h4 := fun e t6 => by
        refine ⟨_, _, rfl, hf _ ?_, Kp.refl _ _⟩
        rw [List.filter_append, List.filter_cons_of_neg (by rw [e]; decide), List.filter_nil, List.append_nil]
        exact fj
      refine turn1 ?_
      refine wpAny_isTrue_BoolOp ?_
      refine r_tand ?_
      refine wpAny_isTrue_Compare1 ?_
      refine cv_ld V2 (by kernel_rfl) nsC2 hm2 ?_
      refine cv_cld V2 (by kernel_rfl) (c := L + 7) (by kernel_rfl) (hcell k6 (by kernel_rfl) s.e9) ?_
      refine inLI hh s6.z ?_
      rw [iL_contains]
      refine r_tbool ?_
      refine if_b (fun b1 => ?_) fun b1 => ?_
      · refine r_tand ?_
        refine wpAny_isTrue_Compare1 ?_
        refine cv_ld V2 (by kernel_rfl) nsC2 hm2 ?_
        refine wpAny_Subscript_Name_late ?_
        refine cv_cld V2 (by kernel_rfl) (c := L + 6) (by kernel_rfl) (hcell k6 (by kernel_rfl) s.e8) ?_
        refine cv_cld V2 (by kernel_rfl) (c := L + 8) (by kernel_rfl) (hcell k6 (by kernel_rfl) et) ?_
        refine r_idxIL (n := (aim : Int)) s6.g.here.2.2.2.2.il (by omega) (by omega) (by simpa using hai) ?_
        intro u7
        refine r_ne ?_
        rw [cast_ne]
        refine r_tbool ?_
        refine if_b (fun b2 => ?_) fun b2 => ?_
        · refine wpAny_allTrue_And_nil ?_
          refine if_t ?_
          refine cv_ld V2 (by kernel_rfl) nsC2 hm2 ?_
          refine ⟨_, _, rfl, hf _ ?_, Kp.refl _ _⟩
          rw [List.filter_append, List.filter_cons_of_pos (by rw [b1, b2]; rfl), List.filter_nil]
          simp only [iL, List.map_append, List.map_cons, List.map_nil]
          exact fj.append (.cons .nil)
        · exact if_f (skip (by rw [b1, b2]; rfl) _)
      · exact if_f (skip (by rw [b1]; rfl) _)
    · intro a2 C2 h6 t6 vs2 m2 na2 nC2 naC2 k6 p6 f6 ns6 la6
      dsimp only
      intro h7 k7
      have eT : (nb near p).take ws.toArray.size = nb near p := by simp [lw']
      rw [eT] at f6
      have k67 : Ex h' h7 := Kp.drop k6 k7 (by simpa using nC2)
      refine r_list ?_
      refine args_nil ⟨szl (by simp), _, _, rfl, ?_⟩
      intro ea h8 n8 x8 p8
      refine neLI hh (x := iL ((nb near p).filter fun q => seats.contains q && q != aim)) (y := []) ⟨vs2, pl_ex (pl_kp p6 k7 (by simpa using naC2)) x8, f6⟩ ⟨[], p8, .nil⟩ ?_
      refine r_tbool ?_
      have hb : (!(iL ((nb near p).filter fun q => seats.contains q && q != aim) == [])) = (((nb near p).filter fun q => seats.contains q && q != aim) != []) := by
        cases (nb near p).filter fun q => seats.contains q && q != aim <;> rfl
      rw [hb]
      have k78 : Ex h' h8 := k67.trans x8
      have hfil : ∀ (b : Bool), (((nb near p).filter fun q => seats.contains q && q != aim) != []) = b → (List.range (p + 1)).filter (fun p => ((nb near p).filter fun q => seats.contains q && q != aim) != []) = (List.range p).filter (fun p => ((nb near p).filter fun q => seats.contains q && q != aim) != []) ++ (if b = true then [p] else []) := fun b e => by
        rw [List.range_succ, List.filter_append]
        congr 1
        rw [List.filter_cons, e, List.filter_nil]
      refine if_b (fun b1 => ?_) fun b1 => ?_
      · refine cv_ld V' (by kernel_rfl) (nsC.at' fun o e => k78.get e) hm ?_
        refine ⟨_, _, rfl, ?_, k78⟩
        rw [hfil _ b1, if_pos rfl]
        simp only [iL, List.map_append, List.map_cons, List.map_nil]
        exact AI.append fi (.cons .nil)
      · refine ⟨_, _, rfl, ?_, k78⟩
        rw [hfil _ b1, if_neg (by decide), List.append_nil]
        exact fi
  · intro a2 C2 h6 t6 vs2 m2 na2 nC2 naC2 k6 p6 f6 ns6 la6
    dsimp only
    intro h7 k7
    have k67 : Ex h h7 := Kp.drop k6 k7 (by simpa using nC2)
    have s7 := s.ex k67
    have aA := s.l.off na2
    refine l_cst V s7.l (by kernel_rfl) (c := L + 7) (by kernel_rfl) ?_
    intro h8 t8 l8 k8
    have p8 := pl_kp (pl_kp p6 k7 (by simpa using naC2)) k8 aA
    refine q h8 t8 _ a2 ⟨l8, (up_ne (by decide) s.e1), s.e2, s.e4, up_ne (by decide) s.e5, s.e6, up_ne (by decide) s.e8, up_eq, s.e10, s.e11, s7.g.fr k8, ⟨_, p8, f6⟩, aA⟩ (up_ne (by decide) et) na2 (k67.kp.trans k8)
end
end

-- C16
section
theorem jn1 : ∀ s : Fin 128, JoinOk ", " ((bitsOf s).map nm) = true ∧ ((s : Nat) = 0 → (Txt.join ", " ((bitsOf s).map nm)).length = 0) ∧ ((s : Nat) ≠ 0 → (Txt.join ", " ((bitsOf s).map nm)).length ≠ 0) ∧ (Txt.join ", " ((bitsOf s).map nm)).length ≤ 1000 := by decide +kernel
theorem jn0 : Txt.join ", " [Str.ofString "0x0"] = Str.ofString "0x0" := by decide +kernel
theorem zip_get (l : List Str) (us : List Tok) (p : Nat) (h1 : p < l.length) (h2 : p < us.length) : (strValues (l.zip us))[p]? = some (.str (l.getD p Str.empty) us[p]) := by
  unfold strValues
  rw [List.getElem?_map, List.getElem?_eq_getElem (by simp; omega), List.getElem_zip]
  simp [List.getD_eq_getElem?_getD, h1]
theorem nm_get {us : List Tok} (hu : us.length = 7) {p : Nat} (hp : p < 7) : ∃ u, (strValues (flagL.zip us))[p]? = some (.str (nm p) u) :=
  ⟨_, zip_get flagL us p (show p < 7 from hp) (by omega)⟩
section
variable {w : World} {A : Around} {G : Array GenState} {D : Drawn} {O : OsState} {h h' h₀ h1 : Heap} {t t1 : Nat} {env : Env} {m mc : Str → Option Value} {L : Addr}
  {B : List Addr} {fa ia na ra aa za : Addr} {as : List Addr} {near : List (List Nat)} {inn : List Nat} {rg : Bool} {aims : List Nat} {st gn : Nat} {seats : List Nat}
theorem bits_lt {s : Nat} : ∀ p ∈ bitsOf s, p < 7 := fun p hp => List.mem_range.mp (List.mem_filter.mp hp).1
theorem bits_len {s : Nat} : (bitsOf s).length ≤ 7 := by
  have := List.length_filter_le (fun p => s.testBit p) (List.range 7)
  simpa [bitsOf] using this
set_option maxHeartbeats 4000000 in
theorem t_text {Q : Flow → Shared → Prop} {n : Nat} (V : Lv env L) (hh : Room A (n + 3)) (X : KB w h₀) (hst : st < 128)
    (s : ST w h₀ L h m mc B fa ia na ra aa za as near inn rg aims st (bitsOf st) gn)
    (q : ∀ h' t', Ex h h' → Q .next ⟨h', G, D, t', O⟩) :
    wpAny (model P0 w) A (exec (turnB.getD 2 (.Pass p00)) env) Q NoE ⟨h, G, D, t, O⟩ := by
  have X1 := X.ex s.l.F.keep
  obtain ⟨us, es⟩ := s.e10
  obtain ⟨j1, j2, j3, j4⟩ := jn1 ⟨st, hst⟩
  dsimp only at j1 j2 j3 j4
  refine wpAny_If ?_
  refine wpAny_isTrue_Compare1 ?_
  refine wpAny_Call_NameR ?_
  refine r_glob X1 V.fn (V.kd (by kernel_rfl)) V.V.g (v := .ref 65) (by kernel_rfl) ?_
  refine r_cw (fo := o65 w.params) (fd := fPretty w.params) (by kernel_rfl) (by kernel_rfl) ?_
  refine args_cons ?_
  refine l_ld V s.l (by kernel_rfl) es ?_
  refine args_nil ⟨X1, ?_⟩
  refine pretty_spec X1 (hh.less (by omega)) hst ?_
  intro u2 h2 t2 x2
  have s2 := s.ex x2
  refine r_join (R := fun v s' => ∃ u h3 t3, v = .str (Txt.join ", " (pp st)) u ∧ s' = ⟨h3, G, D, t3, O⟩ ∧ Ex h h3) ?_ ?_
  · refine BoolOp_or ?_
    refine r_sjoin (by rfl) (by rfl) (by rfl) ?_
    refine r_str ?_
    intro u3 t3
    refine ⟨_, _, rfl, ?_⟩
    refine r_comp (cl := [("flags", L + 2)]) (clos_of V.cells (by kernel_rfl)) (by kernel_rfl) (by kernel_rfl) (by kernel_rfl) (by kernel_rfl) (fun x => by rfl) ?_
    refine l_cld V s2.l (by kernel_rfl) (c := L + 7) (by kernel_rfl) s2.e9 ?_
    obtain ⟨zs, pz, az⟩ := s2.z
    have lz := az.length
    simp only [iL, List.length_map] at lz
    have zl := bits_len (s := st)
    refine r_iterList pz.isList ?_
    intro I h4 nI x4 st4
    have zI : za ≠ I := by obtain ⟨o, e⟩ := pl_live pz; exact ne_new nI e
    have SC := CSrc.list (w := w) hh.hd zI st4 (by simp; omega) nI x4
    refine compq_pure V.V (by kernel_rfl) SC (f := fun j vs => ∃ l : List (Str × Tok), vs = strValues l ∧ l.map (·.1) = ((bitsOf st).take j).map nm) ⟨[], rfl, rfl⟩ ?_ ?_
    · rintro C cenv j v h6 t6 vs' m' V' hj hv ⟨l, rfl, el⟩ k6 nsC hm
      have hj' : j < (bitsOf st).length := by simp at hj; omega
      obtain ⟨u5, ev⟩ := az.get (iL_get hj')
      obtain rfl : v = .int (((bitsOf st)[j] : Nat) : Int) u5 := by simp at hv; rw [ev] at hv; exact (Option.some.inj hv).symm
      have hp := bits_lt (s := st) _ (List.getElem_mem hj')
      have ht : (bitsOf st).take (j + 1) = (bitsOf st).take j ++ [(bitsOf st)[j]] := by rw [List.take_add_one, List.getElem?_eq_getElem hj']; rfl
      have s6 := s2.ex k6
      obtain ⟨uf, hu, pf⟩ := s6.g.here.1
      obtain ⟨u7, e7⟩ := nm_get hu hp
      refine turn0 ?_
      refine wpAny_Subscript_Name_late ?_
      refine cv_cld V' (by kernel_rfl) (c := L + 2) (by kernel_rfl) (by rw [← s6.e1]; exact s6.l.cell _ _ (by kernel_rfl)) ?_
      refine cv_ld V' (by kernel_rfl) nsC hm ?_
      refine r_idx pf.isList (x := .str (nm (bitsOf st)[j]) u7) (by omega) (by omega) (by simpa using e7) ?_
      refine ⟨_, _, rfl, ⟨l ++ [(nm (bitsOf st)[j], u7)], by simp [strValues], ?_⟩, Kp.refl _ _⟩
      rw [ht, List.map_append, List.map_append, el]
      rfl
    · rintro a2 C2 h6 t6 vs2 m2 na2 nC2 naC2 k6 p6 ⟨l, rfl, el⟩ ns6 la6
      dsimp only
      intro h7 k7
      have eT : (bitsOf st).take zs.toArray.size = bitsOf st := by simp [lz]
      rw [eT] at el
      have k67 : Ex h2 h7 := Kp.drop k6 k7 (by simpa using nC2)
      have k07 := x2.trans k67
      refine ⟨a2, l, h7, _, rfl, rfl, (pl_kp p6 k7 (by simpa using naC2)).isList, by rw [el]; exact j1, ?_⟩
      rw [el]
      intro u8 t8
      refine P.truthy_str (by omega) ?_
      refine if_b (fun b1 => ?_) fun b1 => ?_
      · have hs0 : st ≠ 0 := fun e => by
          have := j2 e
          rw [this] at b1
          exact absurd b1 (by decide)
        refine ⟨u8, h7, _, ?_, rfl, k07⟩
        rw [pp_eq st hst, if_neg hs0]
      · have hs0 : st = 0 := by
          by_cases e : st = 0
          · exact e
          · have := j3 e
            simp only [bne_eq_false_iff_eq] at b1
            omega
        refine BoolOp_one ?_
        refine r_str ?_
        intro u9 t9
        refine ⟨u9, h7, _, ?_, rfl, k07⟩
        rw [pp_eq st hst, if_pos hs0, jn0]
  rintro _ _ ⟨u, h3, t3, rfl, rfl, x3⟩
  refine ne_str ?_
  rw [bne_self_eq_false]
  refine r_tbool ?_
  refine if_f ?_
  exact wpAny_execs_nil (q h3 _ x3)
end
end

-- C17
section
theorem small_n : ∀ n : Fin 100, Builtin.Range.small 0 (0 + ((n : Nat) : Int)) 1 = true := by decide +kernel
theorem bits_127 : iL (bitsOf 127) = [0, 1, 2, 3, 4, 5, 6] := by decide +kernel
theorem gone_k (rows : List Nat) (l : List Nat) : (goneN rows l).2.2 = l.length := by
  have : ∀ (l : List Nat) (st : Nat × Nat × Nat), (l.foldl (gstep rows) st).2.2 = st.2.2 + l.length := by
    intro l
    induction l with
    | nil => intro st; rfl
    | cons a r ih =>
      rintro ⟨s, g, k⟩
      rw [List.foldl_cons, ih]
      simp only [gstep, List.length_cons]
      omega
  have := this l (127, 0, 0)
  simpa [goneN] using this
theorem gone_lt {rows : List Nat} (h : ∀ r ∈ rows, r < 128) (l : List Nat) : (goneN rows l).1 < 128 := by
  have : ∀ (l : List Nat) (st : Nat × Nat × Nat), st.1 < 128 → (l.foldl (gstep rows) st).1 < 128 := by
    intro l
    induction l with
    | nil => intro st h; exact h
    | cons a r ih => rintro ⟨s, g, k⟩ hs; exact ih _ (movedN_lt h 7)
  exact this l (127, 0, 0) (by decide)
theorem gone_snoc (rows : List Nat) (l : List Nat) (a : Nat) : goneN rows (l ++ [a]) = gstep rows (goneN rows l) a := by simp [goneN]
section
variable {w : World} {A : Around} {G : Array GenState} {D : Drawn} {O : OsState} {h h' h₀ h1 : Heap} {t t1 : Nat} {env : Env} {m mc : Str → Option Value} {L : Addr}
  {B : List Addr} {fa ia na ra aa za : Addr} {as : List Addr} {near : List (List Nat)} {inn : List Nat} {rg : Bool} {aims : List Nat} {st gn : Nat} {seats : List Nat}
set_option maxHeartbeats 4000000 in
theorem ph8 {x d : Addr} {Q : Flow → Shared → Prop} {n : Nat} (V : Lv env L) (hh : Room A (n + 3)) (X : KB w h₀) (S : Sym near) (hn : ∀ p, p < 7 → (nb near p).length ≤ 100)
    (s : S9 w h₀ L h m mc B fa ia na ra x d aa as near inn rg [] aims) (ha7 : ∀ a ∈ aims, a < 7) (hz : aims.length ≤ 14)
    (k : ∀ h t m mc B za, ST w h₀ L h m mc B fa ia na ra aa za as near inn rg aims (goneN (rowsN near) aims).1 (bitsOf (goneN (rowsN near) aims).1) (goneN (rowsN near) aims).2.1 → wpAny (model P0 w) A (execs (lw 27) env) Q NoE ⟨h, G, D, t, O⟩) :
    wpAny (model P0 w) A (execs (lw 23) env) Q NoE ⟨h, G, D, t, O⟩ := by
  have hr := rows_lt S
  have rl := rows_len near
  have aA := (s.r.n0 aa (.inr (.inr rfl))).2.1
  have g := (s.g.and (LI.gd s.r.li aA)).imp (P' := pT fa ia na ra aa as near inn aims) fun h p => ⟨p.1.1, p.1.2.1, p.1.2.2.1, p.1.2.2.2, p.2⟩
  obtain ⟨l, e1, e2, e4, e5, e6, e7, e8, _, _, _⟩ := s
  refine r_seq (st := stm 19 23) (rest := lw 24) (by kernel_rfl) ?_
  refine wpAny_Assign_Name (r_int ?_)
  intro u1 t1
  refine l_st V l (by kernel_rfl) ?_
  intro h2 t2 l2 k2
  have g2 := g.fr k2
  dsimp only
  refine r_seq (st := stm 19 24) (rest := lw 25) (by kernel_rfl) ?_
  refine wpAny_Assign_Name ?_
  refine r_list ?_
  iterate 14 walk_at "e"
  refine args_nil ⟨szl (by simp), _, _, rfl, ?_⟩
  intro za h3 n3 x3 p3
  have l3 := l2.ex x3
  have g3 := g2.ex x3
  have zA := l2.off n3
  have z3 : LI h3 za (iL (bitsOf 127)) := ⟨_, p3, by rw [bits_127]; repeat (first | exact .nil | refine .cons ?_)⟩
  refine l_cst V l3 (by kernel_rfl) (c := L + 7) (by kernel_rfl) ?_
  intro h4 t4 l4 k4
  have g4 := g3.fr k4
  have z4 := z3.kp k4 zA
  dsimp only
  refine r_seq (st := stm 19 25) (rest := lw 26) (by kernel_rfl) ?_
  refine wpAny_Assign_Name (r_int ?_)
  intro u5 t5
  refine l_st V l4 (by kernel_rfl) ?_
  intro h5 t5' l5 k5
  have s5 : ST w h₀ L h5 (up (up m (Str.ofString "state") (.int 127 u1)) (Str.ofString "gone") (.int 0 u5)) (up mc (Str.ofString "seats") (.ref za)) _ fa ia na ra aa za as near inn rg aims 127 (bitsOf 127) 0 :=
    ⟨l5, by walk_at "hv", by walk_at "hv", by walk_at "hv", by walk_at "hv", by walk_at "hv", by walk_at "hv", up_eq, ⟨u1, up_ne (by decide) up_eq⟩, ⟨u5, up_eq⟩, g4.fr k5, z4.kp k5 zA, zA⟩
  clear l l2 l3 l4 l5 g g2 g3 g4 z3 z4 k2 k4 k5 x3 p3 e1 e2 e4 e5 e6 e7 e8
  generalize up (up m (Str.ofString "state") (.int 127 u1)) (Str.ofString "gone") (.int 0 u5) = m at s5
  generalize up mc (Str.ofString "seats") (.ref za) = mc at s5
  generalize B ++ [aa] = B at s5
  dsimp only
  refine r_seq (st := stm 19 26) (rest := lw 27) (by kernel_rfl) ?_
  refine wpAny_For ?_
  refine wpAny_Call_NameR ?_
  refine r_blt (X.ex s5.l.F.keep) V.fn (V.kd (by kernel_rfl)) V.V.g V.V.b (by kernel_rfl) (v := .type "range") (by kernel_rfl) ?_
  refine PyProof.Rows.callWith_type1 ?_
  refine args_cons ?_
  refine wpAny_Call_NameR ?_
  refine r_blt (X.ex s5.l.F.keep) V.fn (V.kd (by kernel_rfl)) V.V.g V.V.b (by kernel_rfl) (v := .builtin "len") (by kernel_rfl) ?_
  refine PyProof.Rows.callWith_builtin1 ?_
  refine args_cons ?_
  refine l_cld V s5.l (by kernel_rfl) (c := L + 6) (by kernel_rfl) s5.e8 ?_
  obtain ⟨avs, pa, ai⟩ := id s5.g.here.2.2.2.2
  have la := ai.length
  simp only [iL, List.length_map] at la
  refine args_nil ?_
  refine r_len pa.isList (by simp; omega) ?_
  intro u6 t6
  have esz : (avs.toArray.size : Int) = (aims.length : Int) := by simp [la]
  rw [esz]
  refine args_nil ?_
  refine r_range1 ?_
  intro r h6 t6' nr x6 hr1
  refine r_iterRange (a := 0) (n := aims.length) (small_n ⟨aims.length, by omega⟩) (by rw [Int.zero_add]; exact hr1) ?_
  intro I h7 nI x7 st7
  have x67 : Ex h5 h7 := x6.trans x7
  have I5 : h5.get? I = none := Ex.old x6 nI
  have I0 := Ex.old s5.l.F.keep I5
  have IA := s5.l.off I5
  have IB := s5.g.nin I5
  have zI : za ≠ I := by obtain ⟨o, e⟩ := s5.z.live; exact ne_new I5 e
  refine r_forS (walkRange hh.hd I 0 aims.length) (fun i h' => ∃ m mc za, ST w h₀ L h' m mc B fa ia na ra aa za as near inn rg aims (goneN (rowsN near) (aims.take i)).1 (bitsOf (goneN (rowsN near) (aims.take i)).1) (goneN (rowsN near) (aims.take i)).2.1 ∧ za ≠ I) ?_ ?_ ?_
    ⟨m, mc, za, by simpa [goneN] using s5.ex x67, zI⟩ st7
  · rintro i h' h'' ⟨m, mc, za, s, zI⟩ st k
    exact ⟨m, mc, za, s.k1 k I0 IA IB zI, zI⟩
  · rintro i v h' t hi ⟨ui, rfl⟩ ⟨m, mc, za, s, zI⟩ st8
    clear s5 st7 x67 x6 x7 pa ai la
    rw [show (0 : Int) + (i : Int) * 1 = (i : Int) by omega]
    have hk := gone_k (rowsN near) (aims.take i)
    have hg := gone_lt hr (aims.take i)
    have ht : aims.take (i + 1) = aims.take i ++ [aims.getD i 0] := by
      rw [List.take_add_one, List.getElem?_eq_getElem hi, List.getD_eq_getElem?_getD, List.getElem?_eq_getElem hi]; rfl
    rw [ht, gone_snoc]
    have hl : (aims.take i).length = i := by simp; omega
    rw [hl] at hk
    generalize goneN (rowsN near) (aims.take i) = gs at *
    obtain ⟨st, gn, kk⟩ := gs
    dsimp only at *
    subst hk
    have ham : aims.getD kk 0 < 7 := ha7 _ (by rw [List.getD_eq_getElem?_getD, List.getElem?_eq_getElem hi]; exact List.getElem_mem hi)
    have hai : (iL aims)[kk]? = some ((aims.getD kk 0 : Nat) : Int) := by rw [iL_get hi]; congr 2; rw [List.getD_eq_getElem?_getD, List.getElem?_eq_getElem hi]; rfl
    have rsA : ∀ {h h' : Heap} {i : Nat}, RSt I 0 aims.length i h → Kp (fA L) h h' → RSt I 0 aims.length i h' := fun st k => k _ _ IA st
    -- turn
    refine l_cst V s.l (by kernel_rfl) (c := L + 8) (by kernel_rfl) ?_
    intro h9 t9 l9 k9
    have et : up mc (Str.ofString "turn") (.int (kk : Int) ui) "turn" = some (.int (kk : Int) ui) := up_eq
    have s9 : ST w h₀ L h9 m (up mc (Str.ofString "turn") (.int (kk : Int) ui)) B fa ia na ra aa za as near inn rg aims st (bitsOf st) gn :=
      ⟨l9, up_ne (by decide) s.e1, s.e2, s.e4, up_ne (by decide) s.e5, s.e6, up_ne (by decide) s.e8, up_ne (by decide) s.e9, s.e10, s.e11, s.g.fr k9, s.z.kp k9 s.zA, s.zA⟩
    have st9 := rsA st8 k9
    generalize up mc (Str.ofString "turn") (.int (kk : Int) ui) = mc at s9 et
    clear s k9 l9 st8
    -- state
    refine wpAny_execs_cons ?_
    obtain ⟨us, es⟩ := s9.e10
    refine wpAny_Assign_Name ?_
    refine wpAny_Call_NameR ?_
    refine r_glob (X.ex s9.l.F.keep) V.fn (V.kd (by kernel_rfl)) V.V.g (v := .ref 184) (by kernel_rfl) ?_
    refine r_cw (fo := o184 w.params) (fd := fMoved w.params) (by kernel_rfl) (by kernel_rfl) ?_
    refine args_cons ?_
    refine l_ld V s9.l (by kernel_rfl) es ?_
    refine args_cons ?_
    refine wpAny_Subscript_Name_late ?_
    refine l_cld V s9.l (by kernel_rfl) (c := L + 6) (by kernel_rfl) s9.e8 ?_
    refine l_cld V s9.l (by kernel_rfl) (c := L + 8) (by kernel_rfl) et ?_
    refine r_idxIL (n := ((aims.getD kk 0 : Nat) : Int)) s9.g.here.2.2.2.2.il (by omega) (by omega) (by simpa using hai) ?_
    intro u10
    refine args_cons ?_
    refine l_ld V s9.l (by kernel_rfl) s9.e6 ?_
    refine args_nil ⟨X.ex s9.l.F.keep, ?_⟩
    refine moved_spec (rows := iL (rowsN near)) (X.ex s9.l.F.keep) (hh.less (by omega)) s9.g.here.2.2.2.1.il (by simp [rl]) ?_
    intro u11 h11 t11 x11
    rw [movedI_eq]
    have s11 := s9.ex x11
    have st11 : RSt I 0 aims.length (kk + 1) h11 := x11.get st9
    refine l_st V s11.l (by kernel_rfl) ?_
    intro h12 t12 l12 k12
    have st12 := rsA st11 k12
    obtain ⟨ug, eg⟩ := s11.e11
    have hmv := movedN_lt (mask := st) (aim := aims.getD kk 0) hr 7
    have hss := seat_step S st (aims.getD kk 0)
    unfold gstep
    dsimp only
    generalize hst' : movedN st (aims.getD kk 0) (rowsN near) 7 = st' at *
    have s12 : ST w h₀ L h12 (up m (Str.ofString "state") (.int (st' : Int) u11)) mc B fa ia na ra aa za as near inn rg aims st' (bitsOf st) gn :=
      ⟨l12, s11.e1, up_ne (by decide) s11.e2, up_ne (by decide) s11.e4, s11.e5, up_ne (by decide) s11.e6, s11.e8, s11.e9, ⟨u11, up_eq⟩, ⟨ug, up_ne (by decide) eg⟩, s11.g.fr k12, s11.z.kp k12 s11.zA, s11.zA⟩
    generalize up m (Str.ofString "state") (.int (st' : Int) u11) = m at s12
    clear s9 s11 k12 l12 st9 st11 es eg
    -- seats
    refine wpAny_execs_cons ?_
    refine t_seats V hh X S hn s12 et hi (by omega) ?_
    intro h13 t13 mc13 za13 s13 et13 nz k13
    rw [hss] at s13
    have st13 := rsA st12 k13
    have zI13 : za13 ≠ I := (ne_new nz st12).symm
    clear s12 et k13 nz st12
    dsimp only
    -- text
    refine wpAny_execs_cons ?_
    refine t_text V hh X hmv s13 ?_
    intro h14 t14 x14
    have s14 := s13.ex x14
    have st14 : RSt I 0 aims.length (kk + 1) h14 := x14.get st13
    clear s13 st13
    dsimp only
    -- gone
    have keep : ∀ {gn'} t, (if st' = 0 ∧ gn = 0 then kk + 1 else gn) = gn' → gn' = gn → ∀ {h14}, ST w h₀ L h14 m mc13 B fa ia na ra aa za13 as near inn rg aims st' (bitsOf st') gn → RSt I 0 aims.length (kk + 1) h14 →
      ∃ h' t', (⟨h14, G, D, t, O⟩ : Shared) = ⟨h', G, D, t', O⟩ ∧ (∃ m mc za, ST w h₀ L h' m mc B fa ia na ra aa za as near inn rg aims st' (bitsOf st') (if st' = 0 ∧ gn = 0 then kk + 1 else gn) ∧ za ≠ I) ∧ RSt I 0 aims.length (kk + 1) h' := by
      intro gn' t e1 e2 h14 s14 st14
      refine ⟨h14, t, rfl, ⟨m, mc13, za13, ?_, zI13⟩, st14⟩
      rw [e1, e2]; exact s14
    refine wpAny_execs_cons ?_
    refine wpAny_If ?_
    refine wpAny_isTrue_BoolOp ?_
    refine r_tand ?_
    refine wpAny_isTrue_Compare1 ?_
    refine l_cld V s14.l (by kernel_rfl) (c := L + 7) (by kernel_rfl) s14.e9 ?_
    refine r_list ?_
    refine args_nil ⟨szl (by simp), _, _, rfl, ?_⟩
    intro ea h15 n15 x15 p15
    have s15 := s14.ex x15
    have st15 : RSt I 0 aims.length (kk + 1) h15 := x15.get st14
    refine eqLI hh s15.z (y := []) ⟨[], p15, .nil⟩ ?_
    refine r_tbool ?_
    have hb : (iL (bitsOf st') == []) = (st' == 0) := by
      rw [← bits_nil ⟨st', hmv⟩]
      show (iL (bitsOf st') == []) = (bitsOf st' == [])
      cases bitsOf st' <;> rfl
    rw [hb]
    refine if_b (fun b1 => ?_) fun b1 => ?_
    · have h0 : st' = 0 := by simpa using b1
      refine r_tand ?_
      refine wpAny_isTrue_Compare1 ?_
      obtain ⟨ug, eg⟩ := s15.e11
      refine l_ld V s15.l (by kernel_rfl) eg ?_
      refine r_int ?_
      intro u16 t16
      refine r_eq ?_
      refine r_tbool ?_
      refine if_b (fun b2 => ?_) fun b2 => ?_
      · have hg0 : gn = 0 := by simpa using b2
        refine wpAny_allTrue_And_nil ?_
        refine if_t ?_
        refine wpAny_execs_cons ?_
        refine wpAny_Assign_Name ?_
        refine wpAny_BinOp ?_
        refine l_cld V s15.l (by kernel_rfl) (c := L + 8) (by kernel_rfl) et13 ?_
        refine r_int ?_
        intro u17 t17
        refine r_add ?_
        intro u18 t18
        refine l_st V s15.l (by kernel_rfl) ?_
        intro h18 t18' l18 k18
        refine wpAny_execs_nil (wpAny_execs_nil ⟨h18, t18', rfl, ⟨up m (Str.ofString "gone") (.int ((kk : Int) + 1) u18), mc13, za13, ?_, zI13⟩, rsA st15 k18⟩)
        rw [if_pos ⟨h0, hg0⟩]
        exact ⟨l18, s15.e1, up_ne (by decide) s15.e2, up_ne (by decide) s15.e4, s15.e5, up_ne (by decide) s15.e6, s15.e8, s15.e9, (let ⟨u, e⟩ := s15.e10; ⟨u, up_ne (by decide) e⟩), ⟨u18, up_eq⟩, s15.g.fr k18, s15.z.kp k18 s15.zA, s15.zA⟩
      · have hg0 : gn ≠ 0 := fun e => by subst e; exact absurd b2 (by decide)
        refine if_f ?_
        exact wpAny_execs_nil (wpAny_execs_nil (keep _ rfl (if_neg fun q => hg0 q.2) s15 st15))
    · have h0 : st' ≠ 0 := by simpa using b1
      refine if_f ?_
      exact wpAny_execs_nil (wpAny_execs_nil (keep _ rfl (if_neg fun q => h0 q.1) s15 st15))
  · rintro h' t' ⟨m, mc, za, s, _⟩
    rw [List.take_length] at s
    exact wpAny_execs_nil (k h' t' m mc B za s)
set_option maxHeartbeats 1000000 in
theorem ph9 {Q : Flow → Shared → Prop} {n : Nat} (V : Lv env L) (hh : Room A (n + 3)) (X : KB w h₀) (S : Sym near)
    (s : ST w h₀ L h m mc B fa ia na ra aa za as near inn rg aims st seats gn) (hz : inn.length ≤ 7)
    (hg : gn = if rg = true then 0 else 2 * inn.length) (hb : bfsP (iL (rowsN near)) 200 ([127], [(0, 127)]) = some ((if rg = true then 0 else 2 * inn.length : Nat) : Int))
    (q : ∀ h t, Ex h₀ h → Q (.ret (.bool true)) ⟨h, G, D, t, O⟩) :
    wpAny (model P0 w) A (execs (lw 27) env) Q NoE ⟨h, G, D, t, O⟩ := by
  rw [← hg] at hb
  refine r_seq (st := stm 19 27) (rest := lw 28) (by kernel_rfl) ?_
  refine wpAny_Assign_Name ?_
  refine r_join (R := fun v s' => ∃ u t, v = .int (gn : Int) u ∧ s' = ⟨h, G, D, t, O⟩) ?_ ?_
  · refine wpAny_IfExp ?_
    refine wpAny_isTrue_value ?_
    refine l_ld V s.l (by kernel_rfl) s.e2 ?_
    refine r_tbool ?_
    refine if_b (fun b1 => ?_) fun b1 => ?_
    · refine r_int ?_
      intro u t
      rw [if_pos b1] at hg
      exact ⟨u, t, by rw [hg]; rfl, rfl⟩
    · rw [if_neg (by rw [b1]; decide)] at hg
      refine wpAny_BinOp ?_
      refine r_int ?_
      intro u t
      refine wpAny_Call_NameR ?_
      refine r_blt (X.ex s.l.F.keep) V.fn (V.kd (by kernel_rfl)) V.V.g V.V.b (by kernel_rfl) (v := .builtin "len") (by kernel_rfl) ?_
      refine PyProof.Rows.callWith_builtin1 ?_
      refine args_cons ?_
      refine l_ld V s.l (by kernel_rfl) s.e4 ?_
      obtain ⟨ivs, pi, ai⟩ := s.g.here.2.1
      have li := ai.length
      simp only [iL, List.length_map] at li
      refine args_nil ?_
      refine r_len pi.isList (by simp; omega) ?_
      intro u2 t2
      refine r_mul (IntMulOk.of_left (by decide)) ?_
      intro u3 t3
      exact ⟨u3, t3, by rw [hg]; congr 1; simp [li], rfl⟩
  rintro _ _ ⟨u, t, rfl, rfl⟩
  refine l_st V s.l (by kernel_rfl) ?_
  intro h2 t2 l2 k2
  have ea : up m (Str.ofString "asked") (.int (gn : Int) u) "asked" = some (.int (gn : Int) u) := up_eq
  obtain ⟨ug, eg⟩ := s.e11
  replace eg : up m (Str.ofString "asked") (.int (gn : Int) u) "gone" = _ := up_ne (by decide) eg
  have er : up m (Str.ofString "asked") (.int (gn : Int) u) "read" = _ := up_ne (by decide) s.e6
  have g2 := s.g.fr k2
  generalize up m (Str.ofString "asked") (.int (gn : Int) u) = m at l2 ea eg er
  dsimp only
  refine r_seq (st := stm 19 28) (rest := []) (by kernel_rfl) ?_
  refine wpAny_Return_some ?_
  refine wpAny_Compare1 ?_
  refine r_list ?_
  refine args_cons ?_
  refine l_ld V l2 (by kernel_rfl) eg ?_
  refine args_cons ?_
  refine wpAny_Call_NameR ?_
  refine r_glob (X.ex l2.F.keep) V.fn (V.kd (by kernel_rfl)) V.V.g (v := .ref 191) (by kernel_rfl) ?_
  refine r_cw (fo := o191 w.params) (fd := fFew w.params) (by kernel_rfl) (by kernel_rfl) ?_
  refine args_cons ?_
  refine l_ld V l2 (by kernel_rfl) er ?_
  refine args_nil ⟨X.ex l2.F.keep, ?_⟩
  refine fewest_spec (X.ex l2.F.keep) (hh.less (by omega)) g2.here.2.2.2.1.il (by simp [rows_len]) hb ?_
  intro u3 h3 t3 x3
  refine args_nil ⟨szl (by simp), _, _, rfl, ?_⟩
  intro p h4 n4 x4 p4
  have l4 := (l2.ex x3).ex x4
  refine r_list ?_
  refine args_cons ?_
  refine l_ld V l4 (by kernel_rfl) ea ?_
  refine args_cons ?_
  refine l_ld V l4 (by kernel_rfl) ea ?_
  refine args_nil ⟨szl (by simp), _, _, rfl, ?_⟩
  intro p' h5 n5 x5 p5
  refine eqLI hh (x := [(gn : Int), (gn : Int)]) (y := [(gn : Int), (gn : Int)]) ⟨_, pl_ex p4 x5, .cons (.cons .nil)⟩ ⟨_, p5, .cons (.cons .nil)⟩ ?_
  rw [beq_self_eq_true]
  exact q _ _ (l4.F.keep.trans x5)
end
end

-- C18
section
theorem are_ai : ∀ {vs : List Value} {ns : List Int}, IntsAre vs ns → AI vs ns
  | _, _, .nil => .nil
  | _, _, .cons _ _ r => .cons (are_ai r)
theorem near_len {c : Nat} : (nearC c).length = 7 := (tree_len _ 6).2.1
theorem near_short {c : Nat} : ∀ p, p < 7 → (nb (nearC c) p).length ≤ 12 := fun p _ => tree_nb _ 6 (by decide) p
theorem tie_short {c one two : Nat} (hc : c < 64) (h1 : one < 7) (h2 : two < 7) : ∀ p, p < 7 → (nb (tieN (nearC c) one two) p).length ≤ 100 := by
  intro p hp
  have := near_short (c := c) p hp
  cases r : ringB (nearC c) one two with
  | false => unfold tieN; rw [r]; simpa using (by omega)
  | true =>
    rw [nb_tie (near_sym c hc) h1 h2 r]
    simp only [List.length_append]
    split <;> split <;> simp <;> omega
section
variable {w : World} {A : Around} {G : Array GenState} {D : Drawn} {O : OsState} {h : Heap} {t : Nat}
set_option maxHeartbeats 1000000 in
theorem law_ok {sc : Addr} {ns : List Int} {Q : Value → Shared → Prop} (X : KB w h) (hh : Room A 10) (hs : IL h sc ns) (hz : ns.length ≤ 63) (q : ∀ h' t', Ex h h' → Q (.bool true) ⟨h', G, D, t', O⟩) :
    wpAny (model P0 w) A (call (.ref 196) [.ref sc]) Q NoE ⟨h, G, D, t, O⟩ := by
  refine law_call X hh.lt ?_
  intro env L h1 t1 m mc V l hmc
  have hh := hh.deeper env
  show wpAny (model P0 w) (A.deeper env) (execs (lw 0) env) _ NoE _
  have hd : (drawnL ns).length = 7 := by simp [drawnL]
  have hc := code_lt (bsD (drawnL ns))
  obtain ⟨o1, o2⟩ := fm7 ((drawnL ns).getD 6 0)
  obtain ⟨w1, w2⟩ := fm7 (((drawnL ns).getD 6 0).fdiv 7)
  obtain ⟨hT, hR⟩ := hang_D hd
  have hN := tree_D (drawnL ns)
  obtain ⟨r1, r2⟩ := row_D (cD (drawnL ns)) hc
  obtain ⟨i1, i2⟩ := inner_D (cD (drawnL ns)) hc
  obtain ⟨S, _⟩ := ring_ok (cD (drawnL ns)) (oneN (drawnL ns)) (twoN (drawnL ns)) hc o2 w2
  obtain ⟨g1, g2⟩ := asked_ok (cD (drawnL ns)) (oneN (drawnL ns)) (twoN (drawnL ns)) hc o2 w2
  have hsh := tie_short (c := cD (drawnL ns)) hc o2 w2
  have hne : (treeN (bsD (drawnL ns)) 6).2.2 = nearC (cD (drawnL ns)) := by rw [hN]; rfl
  refine ph0 V l hmc fun h2 t2 m2 mc2 fa ba s0 => ?_
  refine ph1 V hh X s0 hs hz fun h3 t3 m3 mc3 da s1 => ?_
  generalize drawnL ns = d at *
  refine ph2 V (hh.less (by decide : 2 ≤ 9)) X s1 hd fun h4 t4 m4 mc4 B ta sa s2 => ?_
  refine ph3 V (hh.less (by decide : 2 ≤ 9)) X s2 fun h5 t5 m5 mc5 na dua as s3 => ?_
  rw [hT, hR] at s3
  refine ph4 V (hh.less (by decide : 2 ≤ 9)) X hd s3 fun h6 t6 m6 mc6 s4 => ?_
  rw [hne] at s4
  refine ph5a V (hh.less (by decide : 2 ≤ 9)) X s4 near_len r1 r2 (fun p hp => by have := near_short (c := cD d) p hp; omega) fun h7 t7 m7 mc7 B7 ia s5 => ?_
  refine ph5b V (hh.less (by decide : 2 ≤ 9)) X s5 hd near_len (fun p hp => by have := near_short (c := cD d) p hp; omega) fun h8 t8 m8 mc8 B8 s6 => ?_
  refine ph6a V (hh.less (by decide : 2 ≤ 9)) X s6 S hsh fun h9 t9 m9 mc9 B9 sua s7 => ?_
  refine ph6b V (hh.less (by decide : 3 ≤ 9)) X s7 S fun ha ta' ma mca Ba ra s8 => ?_
  refine ph7a V (hh.less (by decide : 3 ≤ 9)) X s8 i1 i2 fun hb tb mb mcb x dd aa s9 => ?_
  refine ph7b V (hh.less (by decide : 3 ≤ 9)) X s9 i1 i2 fun hc' tc mc' s9' => ?_
  refine ph8 V (hh.less (by decide : 3 ≤ 9)) X S hsh s9' (fun a ha => ?_) (by simp [aimsN]; omega) fun hd' td md mcd Bd za st => ?_
  · unfold aimsN at ha
    simp only [List.mem_append, List.mem_reverse, or_self] at ha
    exact i1 a ha
  · exact ph9 V (hh.less (by decide : 3 ≤ 9)) X S st i2 g1 g2 fun h' t' k => q h' t' k
end
end

end Mine
end

-- J1
noncomputable section
open PySem PySem.W PyProof.Rows
set_option maxRecDepth 100000
namespace Mine
theorem law_adr {w : World} {h : Heap} {mg : Str → Option Value} {fa : Addr} (X : KB w h) (n : h.Ns mainGlobals mg) (e : mg (Str.ofString "law") = some (.ref fa)) : fa = 196 := by
  have n' := ns_of (X 3 (o3_g19 w.params) (by kernel_rfl)) (by rfl) (by kernel_rfl)
  have : mg (Str.ofString "law") = some (.ref 196) := by
    rw [n.agree n' (Str.ofString "law")]
    kernel_rfl
  rw [e] at this
  cases this
  rfl
set_option maxHeartbeats 8000000 in
theorem joined : PySem.Challenge.rw_wk0012_01.Holds := by
  w_on
  o_law
  refine holds_open (q := qV) (loose := looseV) (Xt := XtH) (XP := XL qV []) (Yf := YfH) (Ya := YaH) (YP := (kHook KH asH asK).says) (N := 4458) leftH (kHook KH asH asK).of (kHook KH asH asK).keeps
    (fun s e => xl_of s (Bool.and_eq_true_iff.mp e).1) XL.keeps (by rfl) (by rfl) (by rfl) (fun s e => recFacts_of (Bool.and_eq_true_iff.mp e).2) (by rfl) (by first | assumption | decide +kernel) (by decide +kernel) ⟨rfl, rfl, rfl, rfl, rfl, by decide +kernel⟩ ?hw ?hc
  case hw => w_witness2
  intro w s₀ s₁ mg mb G Y fa o pm cd doc dV kV ho hd hcd hD hmg hg args vals as hpre hlay hrd hwl hlo
  have KX := kIn_of Y
  replace hmg : mg (Str.ofString "law") = some (.ref fa) := hmg
  clear hcd hD hd
  refine Ground.open G ?_
  intro T B D TE TW
  obtain ⟨_, _, M⟩ := bmod_of_top T
  clear D B TE TW G Y
  obtain rfl := law_adr KX M.ns hmg
  wrow_args hpre hlay hrd hwl hlo
  obtain ⟨h1, g1, d1, t1, os1⟩ := s₁
  refine wpAny_mono (law_ok (Q := fun v s' => v = .bool true ∧ ∃ h' t', s' = ⟨h', g1, d1, t', os1⟩ ∧ Ex h1 h') KX ⟨rfl, by decide +kernel, by decide +kernel⟩ (AI.il (are_ai (by assumption)) (by assumption)) (by omega) fun h' t' k => ⟨rfl, h', t', rfl, k⟩) (fun v s' r => ?_) fun _ _ e => e.elim
  obtain ⟨rfl, h', t', rfl, k⟩ := r
  refine GoodW.toG ⟨.inl ⟨_, .bool true, [], rfl, fun _ => rfl, .bool true, ?_, ?_⟩, fun b o e => k.get e, rfl, hg⟩
  · refine postW_of (X := true) (by rfl) ?_ rfl
    show (WTm.eq .res (.lit (.bool true))).value _ _ = _
    simp only [WTm.value, Option.bind_some, Option.some.injEq, WData.bool.injEq] <;> first | decide +kernel | rfl | simp [same, WTm.value]
  · exact unshared_nil
end Mine
end

set_option maxRecDepth 100000 in
theorem PySem.Challenge.cw_wk0012_01_holds : PySem.Challenge.rw_wk0012_01.Holds :=
  Mine.joined
