import PyProof.Rows.All
import Wide.All
import OpenK.AllK
import Wide.FinOn
import PySem.Challenge.RW_un0040_01
set_option Elab.async false
set_option compiler.extract_closed false
set_option rowWalk.seconds 0
section
open PySem PySem.W PyProof.Rows
set_option maxRecDepth 100000
set_option linter.unusedVariables false
namespace Mine
abbrev rw : OpenLaw := PySem.Challenge.rw_un0040_01
noncomputable abbrev pg : Program := PySem.Challenge.pw_un0040_01
noncomputable def stm (i : Nat) : Stmt := (pg.main.body[i]?).getD (.Pass ⟨0, 0, 0, 0⟩)
noncomputable def cBody : Stmt → List Stmt
  | .ClassDef _ _ _ b .. => b
  | _ => []
noncomputable def mth (i j : Nat) : Stmt := ((cBody (stm i))[j]?).getD (.Pass ⟨0, 0, 0, 0⟩)
noncomputable def fBody : Stmt → List Stmt
  | .FunctionDef _ _ b .. => b
  | _ => []
noncomputable def fPar : Stmt → Arguments
  | .FunctionDef _ a .. => a
  | _ => ⟨[], [], none, [], [], none, []⟩
noncomputable def fScope : Stmt → Scope
  | .FunctionDef _ _ _ _ _ _ s .. => s
  | _ => ⟨.function, [], false, false, []⟩
@[reducible] noncomputable def lit {α : Type} {a b : α} (_ : a = b) : α := b
@[reducible] noncomputable def par_s0 : Arguments := lit (show fPar (stm 0) = _ by conv => lhs; whnf)
@[reducible] noncomputable def body_s0 : List Stmt := lit (show fBody (stm 0) = _ by conv => lhs; whnf)
@[reducible] noncomputable def scope_s0 : Scope := lit (show fScope (stm 0) = _ by conv => lhs; whnf)
@[reducible] noncomputable def par_s3 : Arguments := lit (show fPar (stm 3) = _ by conv => lhs; whnf)
@[reducible] noncomputable def body_s3 : List Stmt := lit (show fBody (stm 3) = _ by conv => lhs; whnf)
@[reducible] noncomputable def scope_s3 : Scope := lit (show fScope (stm 3) = _ by conv => lhs; whnf)
@[reducible] noncomputable def par_s4 : Arguments := lit (show fPar (stm 4) = _ by conv => lhs; whnf)
@[reducible] noncomputable def body_s4 : List Stmt := lit (show fBody (stm 4) = _ by conv => lhs; whnf)
@[reducible] noncomputable def scope_s4 : Scope := lit (show fScope (stm 4) = _ by conv => lhs; whnf)
@[reducible] noncomputable def par_s5 : Arguments := lit (show fPar (stm 5) = _ by conv => lhs; whnf)
@[reducible] noncomputable def body_s5 : List Stmt := lit (show fBody (stm 5) = _ by conv => lhs; whnf)
@[reducible] noncomputable def scope_s5 : Scope := lit (show fScope (stm 5) = _ by conv => lhs; whnf)
@[reducible] noncomputable def par_s6 : Arguments := lit (show fPar (stm 6) = _ by conv => lhs; whnf)
@[reducible] noncomputable def body_s6 : List Stmt := lit (show fBody (stm 6) = _ by conv => lhs; whnf)
@[reducible] noncomputable def scope_s6 : Scope := lit (show fScope (stm 6) = _ by conv => lhs; whnf)
@[reducible] noncomputable def par_s7 : Arguments := lit (show fPar (stm 7) = _ by conv => lhs; whnf)
@[reducible] noncomputable def body_s7 : List Stmt := lit (show fBody (stm 7) = _ by conv => lhs; whnf)
@[reducible] noncomputable def scope_s7 : Scope := lit (show fScope (stm 7) = _ by conv => lhs; whnf)
@[reducible] noncomputable def par_s8 : Arguments := lit (show fPar (stm 8) = _ by conv => lhs; whnf)
@[reducible] noncomputable def body_s8 : List Stmt := lit (show fBody (stm 8) = _ by conv => lhs; whnf)
@[reducible] noncomputable def scope_s8 : Scope := lit (show fScope (stm 8) = _ by conv => lhs; whnf)
@[reducible] noncomputable def par_s11_0 : Arguments := lit (show fPar (mth 11 0) = _ by conv => lhs; whnf)
@[reducible] noncomputable def body_s11_0 : List Stmt := lit (show fBody (mth 11 0) = _ by conv => lhs; whnf)
@[reducible] noncomputable def scope_s11_0 : Scope := lit (show fScope (mth 11 0) = _ by conv => lhs; whnf)
@[reducible] noncomputable def par_s11_1 : Arguments := lit (show fPar (mth 11 1) = _ by conv => lhs; whnf)
@[reducible] noncomputable def body_s11_1 : List Stmt := lit (show fBody (mth 11 1) = _ by conv => lhs; whnf)
@[reducible] noncomputable def scope_s11_1 : Scope := lit (show fScope (mth 11 1) = _ by conv => lhs; whnf)
@[reducible] noncomputable def par_s11_2 : Arguments := lit (show fPar (mth 11 2) = _ by conv => lhs; whnf)
@[reducible] noncomputable def body_s11_2 : List Stmt := lit (show fBody (mth 11 2) = _ by conv => lhs; whnf)
@[reducible] noncomputable def scope_s11_2 : Scope := lit (show fScope (mth 11 2) = _ by conv => lhs; whnf)
@[reducible] noncomputable def par_s11_3 : Arguments := lit (show fPar (mth 11 3) = _ by conv => lhs; whnf)
@[reducible] noncomputable def body_s11_3 : List Stmt := lit (show fBody (mth 11 3) = _ by conv => lhs; whnf)
@[reducible] noncomputable def scope_s11_3 : Scope := lit (show fScope (mth 11 3) = _ by conv => lhs; whnf)
@[reducible] noncomputable def par_s11_4 : Arguments := lit (show fPar (mth 11 4) = _ by conv => lhs; whnf)
@[reducible] noncomputable def body_s11_4 : List Stmt := lit (show fBody (mth 11 4) = _ by conv => lhs; whnf)
@[reducible] noncomputable def scope_s11_4 : Scope := lit (show fScope (mth 11 4) = _ by conv => lhs; whnf)
@[reducible] noncomputable def par_s11_5 : Arguments := lit (show fPar (mth 11 5) = _ by conv => lhs; whnf)
@[reducible] noncomputable def body_s11_5 : List Stmt := lit (show fBody (mth 11 5) = _ by conv => lhs; whnf)
@[reducible] noncomputable def scope_s11_5 : Scope := lit (show fScope (mth 11 5) = _ by conv => lhs; whnf)
@[reducible] noncomputable def par_s11_6 : Arguments := lit (show fPar (mth 11 6) = _ by conv => lhs; whnf)
@[reducible] noncomputable def body_s11_6 : List Stmt := lit (show fBody (mth 11 6) = _ by conv => lhs; whnf)
@[reducible] noncomputable def scope_s11_6 : Scope := lit (show fScope (mth 11 6) = _ by conv => lhs; whnf)
@[reducible] noncomputable def par_s11_7 : Arguments := lit (show fPar (mth 11 7) = _ by conv => lhs; whnf)
@[reducible] noncomputable def body_s11_7 : List Stmt := lit (show fBody (mth 11 7) = _ by conv => lhs; whnf)
@[reducible] noncomputable def scope_s11_7 : Scope := lit (show fScope (mth 11 7) = _ by conv => lhs; whnf)
@[reducible] noncomputable def par_s11_8 : Arguments := lit (show fPar (mth 11 8) = _ by conv => lhs; whnf)
@[reducible] noncomputable def body_s11_8 : List Stmt := lit (show fBody (mth 11 8) = _ by conv => lhs; whnf)
@[reducible] noncomputable def scope_s11_8 : Scope := lit (show fScope (mth 11 8) = _ by conv => lhs; whnf)
@[reducible] noncomputable def par_s14 : Arguments := lit (show fPar (stm 14) = _ by conv => lhs; whnf)
@[reducible] noncomputable def body_s14 : List Stmt := lit (show fBody (stm 14) = _ by conv => lhs; whnf)
@[reducible] noncomputable def scope_s14 : Scope := lit (show fScope (stm 14) = _ by conv => lhs; whnf)
@[reducible] noncomputable def par_s16 : Arguments := lit (show fPar (stm 16) = _ by conv => lhs; whnf)
@[reducible] noncomputable def body_s16 : List Stmt := lit (show fBody (stm 16) = _ by conv => lhs; whnf)
@[reducible] noncomputable def scope_s16 : Scope := lit (show fScope (stm 16) = _ by conv => lhs; whnf)
@[reducible] noncomputable def par_s18 : Arguments := lit (show fPar (stm 18) = _ by conv => lhs; whnf)
@[reducible] noncomputable def body_s18 : List Stmt := lit (show fBody (stm 18) = _ by conv => lhs; whnf)
@[reducible] noncomputable def scope_s18 : Scope := lit (show fScope (stm 18) = _ by conv => lhs; whnf)
@[reducible] noncomputable def par_s19 : Arguments := lit (show fPar (stm 19) = _ by conv => lhs; whnf)
@[reducible] noncomputable def body_s19 : List Stmt := lit (show fBody (stm 19) = _ by conv => lhs; whnf)
@[reducible] noncomputable def scope_s19 : Scope := lit (show fScope (stm 19) = _ by conv => lhs; whnf)
@[reducible] noncomputable def par_s20 : Arguments := lit (show fPar (stm 20) = _ by conv => lhs; whnf)
@[reducible] noncomputable def body_s20 : List Stmt := lit (show fBody (stm 20) = _ by conv => lhs; whnf)
@[reducible] noncomputable def scope_s20 : Scope := lit (show fScope (stm 20) = _ by conv => lhs; whnf)
@[reducible] noncomputable def par_s21 : Arguments := lit (show fPar (stm 21) = _ by conv => lhs; whnf)
@[reducible] noncomputable def body_s21 : List Stmt := lit (show fBody (stm 21) = _ by conv => lhs; whnf)
@[reducible] noncomputable def scope_s21 : Scope := lit (show fScope (stm 21) = _ by conv => lhs; whnf)
@[reducible] noncomputable def par_s22 : Arguments := lit (show fPar (stm 22) = _ by conv => lhs; whnf)
@[reducible] noncomputable def body_s22 : List Stmt := lit (show fBody (stm 22) = _ by conv => lhs; whnf)
@[reducible] noncomputable def scope_s22 : Scope := lit (show fScope (stm 22) = _ by conv => lhs; whnf)
@[reducible] noncomputable def par_s23 : Arguments := lit (show fPar (stm 23) = _ by conv => lhs; whnf)
@[reducible] noncomputable def body_s23 : List Stmt := lit (show fBody (stm 23) = _ by conv => lhs; whnf)
@[reducible] noncomputable def scope_s23 : Scope := lit (show fScope (stm 23) = _ by conv => lhs; whnf)
@[reducible] noncomputable def o2 (P : Params) : Obj := ⟨.none, .none, (.dict (List.toArray []) 0), #[]⟩
@[reducible] noncomputable def o3 (P : Params) : Obj := ⟨(.type "dict"), .none, (.dict (List.toArray [⟨PyData.keyHash P (Str.ofString "__name__"), (.str (Str.ofString "__name__") 165), (.str (Str.ofString "law_un0040_01") 2403)⟩, ⟨PyData.keyHash P (Str.ofString "__doc__"), (.str (Str.ofString "__doc__") 166), .none⟩, ⟨PyData.keyHash P (Str.ofString "__package__"), (.str (Str.ofString "__package__") 167), .none⟩, ⟨PyData.keyHash P (Str.ofString "__loader__"), (.str (Str.ofString "__loader__") 168), (.builtin "__main__.__loader__#opaque")⟩, ⟨PyData.keyHash P (Str.ofString "__spec__"), (.str (Str.ofString "__spec__") 169), .none⟩, ⟨PyData.keyHash P (Str.ofString "__annotations__"), (.str (Str.ofString "__annotations__") 170), (.ref 6)⟩, ⟨PyData.keyHash P (Str.ofString "__builtins__"), (.str (Str.ofString "__builtins__") 171), (.ref 4)⟩, ⟨PyData.keyHash P (Str.ofString "__file__"), (.str (Str.ofString "__file__") 173), (.str (Str.ofString "/claim/cut.py") 172)⟩, ⟨PyData.keyHash P (Str.ofString "__cached__"), (.str (Str.ofString "__cached__") 174), .none⟩, ⟨PyData.keyHash P (Str.ofString "_wall"), (.str (Str.ofString "_wall") 193), (.ref 21)⟩, ⟨PyData.keyHash P (Str.ofString "_DIV_LIMIT"), (.str (Str.ofString "_DIV_LIMIT") 197), (.int 4000 196)⟩, ⟨PyData.keyHash P (Str.ofString "_div2n1n"), (.str (Str.ofString "_div2n1n") 214), (.ref 28)⟩, ⟨PyData.keyHash P (Str.ofString "_div3n2n"), (.str (Str.ofString "_div3n2n") 228), (.ref 35)⟩, ⟨PyData.keyHash P (Str.ofString "_int2digits"), (.str (Str.ofString "_int2digits") 239), (.ref 42)⟩, ⟨PyData.keyHash P (Str.ofString "_digits2int"), (.str (Str.ofString "_digits2int") 250), (.ref 49)⟩, ⟨PyData.keyHash P (Str.ofString "_divmod_pos"), (.str (Str.ofString "_divmod_pos") 265), (.ref 56)⟩, ⟨PyData.keyHash P (Str.ofString "int_divmod"), (.str (Str.ofString "int_divmod") 275), (.ref 63)⟩, ⟨PyData.keyHash P (Str.ofString "EMPTYSTRING"), (.str (Str.ofString "EMPTYSTRING") 279), (.str (Str.ofString "") 278)⟩, ⟨PyData.keyHash P (Str.ofString "_Accumulator"), (.str (Str.ofString "_Accumulator") 374), (.ref 143)⟩, ⟨PyData.keyHash P (Str.ofString "b1_set"), (.str (Str.ofString "b1_set") 436), (.ref 155)⟩, ⟨PyData.keyHash P (Str.ofString "in_table_b1"), (.str (Str.ofString "in_table_b1") 443), (.ref 165)⟩, ⟨PyData.keyHash P (Str.ofString "b3_exceptions"), (.str (Str.ofString "b3_exceptions") 2394), (.ref 166)⟩, ⟨PyData.keyHash P (Str.ofString "map_table_b3"), (.str (Str.ofString "map_table_b3") 2402), (.ref 211)⟩, ⟨PyData.keyHash P (Str.ofString "_law_drawn"), (.str (Str.ofString "_law_drawn") 2410), (.ref 216)⟩, ⟨PyData.keyHash P (Str.ofString "_law_sign"), (.str (Str.ofString "_law_sign") 2422), (.ref 223)⟩, ⟨PyData.keyHash P (Str.ofString "_law_table"), (.str (Str.ofString "_law_table") 2433), (.ref 230)⟩, ⟨PyData.keyHash P (Str.ofString "_law_laid"), (.str (Str.ofString "_law_laid") 2450), (.ref 237)⟩, ⟨PyData.keyHash P (Str.ofString "_law_ahead"), (.str (Str.ofString "_law_ahead") 2460), (.ref 244)⟩, ⟨PyData.keyHash P (Str.ofString "law"), (.str (Str.ofString "law") 2466), (.ref 249)⟩]) 29), #[]⟩
@[reducible] noncomputable def o15 (P : Params) : Obj := ⟨(.type "tuple"), .none, (.seq #[] 0), #[]⟩
@[reducible] noncomputable def o17 (P : Params) : Obj := ⟨(.type "tuple"), .none, (.seq #[(.str (Str.ofString "k") 190)] 0), #[]⟩
@[reducible] noncomputable def o18 (P : Params) : Obj := ⟨(.type "tuple"), .none, (.seq #[] 0), #[]⟩
@[reducible] noncomputable def o20 (P : Params) : Obj := ⟨(.type "code"), .none, (.fields #[(.str (Str.ofString "_wall") 187), (.str (Str.ofString "_wall") 188), (.str (Str.ofString "/claim/cut.py") 189), (.int 1 0), (.int 1 0), (.int 0 0), (.int 0 0), (.int 3 0), (.ref 15), (.bool true), (.int 181 0), (.ref 16), .none, (.ref 17), (.ref 18), (.ref 19), (.int 191 0), (.int 1 0), (.str (Str.ofString "/claim/cut.py") 192)]), #[]⟩
@[reducible] noncomputable def o21 (P : Params) : Obj := ⟨(.type "function"), .none, (.func { name := (Str.ofString "_wall"), qualname := (Str.ofString "_wall"), params := par_s0, body := .stmts (body_s0), scope := scope_s0, globals := mainGlobals, closure := [], defaults := .none, kwdefaults := .none, doc := .none, pyModule := (.str (Str.ofString "__main__") 164), annotations := .none, code := (.ref 20), closureTuple := .none, builtins := builtinsNs }), #[]⟩
@[reducible] noncomputable def o22 (P : Params) : Obj := ⟨(.type "tuple"), .none, (.seq #[] 0), #[]⟩
@[reducible] noncomputable def o24 (P : Params) : Obj := ⟨(.type "tuple"), .none, (.seq #[(.str (Str.ofString "a") 201), (.str (Str.ofString "b") 202), (.str (Str.ofString "n") 203), (.str (Str.ofString "pad") 204), (.str (Str.ofString "half_n") 205), (.str (Str.ofString "mask") 206), (.str (Str.ofString "b1") 207), (.str (Str.ofString "b2") 208), (.str (Str.ofString "q1") 209), (.str (Str.ofString "r") 210), (.str (Str.ofString "q2") 211)] 0), #[]⟩
@[reducible] noncomputable def o25 (P : Params) : Obj := ⟨(.type "tuple"), .none, (.seq #[] 0), #[]⟩
@[reducible] noncomputable def o27 (P : Params) : Obj := ⟨(.type "code"), .none, (.fields #[(.str (Str.ofString "_div2n1n") 198), (.str (Str.ofString "_div2n1n") 199), (.str (Str.ofString "/claim/cut.py") 200), (.int 6 0), (.int 3 0), (.int 0 0), (.int 0 0), (.int 3 0), (.ref 22), (.bool true), (.int 181 0), (.ref 23), .none, (.ref 24), (.ref 25), (.ref 26), (.int 212 0), (.int 6 0), (.str (Str.ofString "/claim/cut.py") 213)]), #[]⟩
@[reducible] noncomputable def o28 (P : Params) : Obj := ⟨(.type "function"), .none, (.func { name := (Str.ofString "_div2n1n"), qualname := (Str.ofString "_div2n1n"), params := par_s3, body := .stmts (body_s3), scope := scope_s3, globals := mainGlobals, closure := [], defaults := .none, kwdefaults := .none, doc := .none, pyModule := (.str (Str.ofString "cpy313._pylong") 194), annotations := .none, code := (.ref 27), closureTuple := .none, builtins := builtinsNs }), #[]⟩
@[reducible] noncomputable def o29 (P : Params) : Obj := ⟨(.type "tuple"), .none, (.seq #[] 0), #[]⟩
@[reducible] noncomputable def o31 (P : Params) : Obj := ⟨(.type "tuple"), .none, (.seq #[(.str (Str.ofString "a12") 218), (.str (Str.ofString "a3") 219), (.str (Str.ofString "b") 220), (.str (Str.ofString "b1") 221), (.str (Str.ofString "b2") 222), (.str (Str.ofString "n") 223), (.str (Str.ofString "q") 224), (.str (Str.ofString "r") 225)] 0), #[]⟩
@[reducible] noncomputable def o32 (P : Params) : Obj := ⟨(.type "tuple"), .none, (.seq #[] 0), #[]⟩
@[reducible] noncomputable def o34 (P : Params) : Obj := ⟨(.type "code"), .none, (.fields #[(.str (Str.ofString "_div3n2n") 215), (.str (Str.ofString "_div3n2n") 216), (.str (Str.ofString "/claim/cut.py") 217), (.int 22 0), (.int 6 0), (.int 0 0), (.int 0 0), (.int 3 0), (.ref 29), (.bool true), (.int 181 0), (.ref 30), .none, (.ref 31), (.ref 32), (.ref 33), (.int 226 0), (.int 22 0), (.str (Str.ofString "/claim/cut.py") 227)]), #[]⟩
@[reducible] noncomputable def o35 (P : Params) : Obj := ⟨(.type "function"), .none, (.func { name := (Str.ofString "_div3n2n"), qualname := (Str.ofString "_div3n2n"), params := par_s4, body := .stmts (body_s4), scope := scope_s4, globals := mainGlobals, closure := [], defaults := .none, kwdefaults := .none, doc := .none, pyModule := (.str (Str.ofString "cpy313._pylong") 194), annotations := .none, code := (.ref 34), closureTuple := .none, builtins := builtinsNs }), #[]⟩
@[reducible] noncomputable def o36 (P : Params) : Obj := ⟨(.type "tuple"), .none, (.seq #[] 0), #[]⟩
@[reducible] noncomputable def o38 (P : Params) : Obj := ⟨(.type "tuple"), .none, (.seq #[(.str (Str.ofString "a") 232), (.str (Str.ofString "n") 233)] 0), #[]⟩
@[reducible] noncomputable def o39 (P : Params) : Obj := ⟨(.type "tuple"), .none, (.seq #[(.str (Str.ofString "n") 234), (.str (Str.ofString "a_digits") 235), (.str (Str.ofString "inner") 236)] 0), #[]⟩
@[reducible] noncomputable def o41 (P : Params) : Obj := ⟨(.type "code"), .none, (.fields #[(.str (Str.ofString "_int2digits") 229), (.str (Str.ofString "_int2digits") 230), (.str (Str.ofString "/claim/cut.py") 231), (.int 32 0), (.int 2 0), (.int 0 0), (.int 0 0), (.int 3 0), (.ref 36), (.bool true), (.int 181 0), (.ref 37), .none, (.ref 38), (.ref 39), (.ref 40), (.int 237 0), (.int 32 0), (.str (Str.ofString "/claim/cut.py") 238)]), #[]⟩
@[reducible] noncomputable def o42 (P : Params) : Obj := ⟨(.type "function"), .none, (.func { name := (Str.ofString "_int2digits"), qualname := (Str.ofString "_int2digits"), params := par_s5, body := .stmts (body_s5), scope := scope_s5, globals := mainGlobals, closure := [], defaults := .none, kwdefaults := .none, doc := .none, pyModule := (.str (Str.ofString "cpy313._pylong") 194), annotations := .none, code := (.ref 41), closureTuple := .none, builtins := builtinsNs }), #[]⟩
@[reducible] noncomputable def o43 (P : Params) : Obj := ⟨(.type "tuple"), .none, (.seq #[] 0), #[]⟩
@[reducible] noncomputable def o45 (P : Params) : Obj := ⟨(.type "tuple"), .none, (.seq #[(.str (Str.ofString "digits") 243), (.str (Str.ofString "n") 244)] 0), #[]⟩
@[reducible] noncomputable def o46 (P : Params) : Obj := ⟨(.type "tuple"), .none, (.seq #[(.str (Str.ofString "digits") 245), (.str (Str.ofString "n") 246), (.str (Str.ofString "inner") 247)] 0), #[]⟩
@[reducible] noncomputable def o48 (P : Params) : Obj := ⟨(.type "code"), .none, (.fields #[(.str (Str.ofString "_digits2int") 240), (.str (Str.ofString "_digits2int") 241), (.str (Str.ofString "/claim/cut.py") 242), (.int 48 0), (.int 2 0), (.int 0 0), (.int 0 0), (.int 3 0), (.ref 43), (.bool true), (.int 181 0), (.ref 44), .none, (.ref 45), (.ref 46), (.ref 47), (.int 248 0), (.int 48 0), (.str (Str.ofString "/claim/cut.py") 249)]), #[]⟩
@[reducible] noncomputable def o49 (P : Params) : Obj := ⟨(.type "function"), .none, (.func { name := (Str.ofString "_digits2int"), qualname := (Str.ofString "_digits2int"), params := par_s6, body := .stmts (body_s6), scope := scope_s6, globals := mainGlobals, closure := [], defaults := .none, kwdefaults := .none, doc := .none, pyModule := (.str (Str.ofString "cpy313._pylong") 194), annotations := .none, code := (.ref 48), closureTuple := .none, builtins := builtinsNs }), #[]⟩
@[reducible] noncomputable def o50 (P : Params) : Obj := ⟨(.type "tuple"), .none, (.seq #[] 0), #[]⟩
@[reducible] noncomputable def o52 (P : Params) : Obj := ⟨(.type "tuple"), .none, (.seq #[(.str (Str.ofString "a") 254), (.str (Str.ofString "b") 255), (.str (Str.ofString "n") 256), (.str (Str.ofString "a_digits") 257), (.str (Str.ofString "r") 258), (.str (Str.ofString "q_digits") 259), (.str (Str.ofString "a_digit") 260), (.str (Str.ofString "q_digit") 261), (.str (Str.ofString "q") 262)] 0), #[]⟩
@[reducible] noncomputable def o53 (P : Params) : Obj := ⟨(.type "tuple"), .none, (.seq #[] 0), #[]⟩
@[reducible] noncomputable def o55 (P : Params) : Obj := ⟨(.type "code"), .none, (.fields #[(.str (Str.ofString "_divmod_pos") 251), (.str (Str.ofString "_divmod_pos") 252), (.str (Str.ofString "/claim/cut.py") 253), (.int 57 0), (.int 2 0), (.int 0 0), (.int 0 0), (.int 3 0), (.ref 50), (.bool true), (.int 181 0), (.ref 51), .none, (.ref 52), (.ref 53), (.ref 54), (.int 263 0), (.int 57 0), (.str (Str.ofString "/claim/cut.py") 264)]), #[]⟩
@[reducible] noncomputable def o56 (P : Params) : Obj := ⟨(.type "function"), .none, (.func { name := (Str.ofString "_divmod_pos"), qualname := (Str.ofString "_divmod_pos"), params := par_s7, body := .stmts (body_s7), scope := scope_s7, globals := mainGlobals, closure := [], defaults := .none, kwdefaults := .none, doc := .none, pyModule := (.str (Str.ofString "cpy313._pylong") 194), annotations := .none, code := (.ref 55), closureTuple := .none, builtins := builtinsNs }), #[]⟩
@[reducible] noncomputable def o57 (P : Params) : Obj := ⟨(.type "tuple"), .none, (.seq #[] 0), #[]⟩
@[reducible] noncomputable def o59 (P : Params) : Obj := ⟨(.type "tuple"), .none, (.seq #[(.str (Str.ofString "a") 269), (.str (Str.ofString "b") 270), (.str (Str.ofString "q") 271), (.str (Str.ofString "r") 272)] 0), #[]⟩
@[reducible] noncomputable def o60 (P : Params) : Obj := ⟨(.type "tuple"), .none, (.seq #[] 0), #[]⟩
@[reducible] noncomputable def o62 (P : Params) : Obj := ⟨(.type "code"), .none, (.fields #[(.str (Str.ofString "int_divmod") 266), (.str (Str.ofString "int_divmod") 267), (.str (Str.ofString "/claim/cut.py") 268), (.int 68 0), (.int 2 0), (.int 0 0), (.int 0 0), (.int 3 0), (.ref 57), (.bool true), (.int 181 0), (.ref 58), .none, (.ref 59), (.ref 60), (.ref 61), (.int 273 0), (.int 68 0), (.str (Str.ofString "/claim/cut.py") 274)]), #[]⟩
@[reducible] noncomputable def o63 (P : Params) : Obj := ⟨(.type "function"), .none, (.func { name := (Str.ofString "int_divmod"), qualname := (Str.ofString "int_divmod"), params := par_s8, body := .stmts (body_s8), scope := scope_s8, globals := mainGlobals, closure := [], defaults := .none, kwdefaults := .none, doc := .none, pyModule := (.str (Str.ofString "cpy313._pylong") 194), annotations := .none, code := (.ref 62), closureTuple := .none, builtins := builtinsNs }), #[]⟩
@[reducible] noncomputable def o64 (P : Params) : Obj := ⟨(.type "tuple"), .none, (.seq #[(.type "list")] 0), #[]⟩
@[reducible] noncomputable def o67 (P : Params) : Obj := ⟨(.type "cell"), .none, (.cell (.some (.ref 143))), #[]⟩
@[reducible] noncomputable def o72 (P : Params) : Obj := ⟨(.type "tuple"), .none, (.seq #[(.int 0 292)] 0), #[]⟩
@[reducible] noncomputable def o73 (P : Params) : Obj := ⟨(.type "tuple"), .none, (.seq #[(.ref 67)] 0), #[]⟩
@[reducible] noncomputable def o74 (P : Params) : Obj := ⟨(.type "tuple"), .none, (.seq #[(.str (Str.ofString "__class__") 296)] 0), #[]⟩
@[reducible] noncomputable def o76 (P : Params) : Obj := ⟨(.type "tuple"), .none, (.seq #[(.str (Str.ofString "self") 297), (.str (Str.ofString "initial_size") 298)] 0), #[]⟩
@[reducible] noncomputable def o77 (P : Params) : Obj := ⟨(.type "tuple"), .none, (.seq #[] 0), #[]⟩
@[reducible] noncomputable def o79 (P : Params) : Obj := ⟨(.type "code"), .none, (.fields #[(.str (Str.ofString "__init__") 293), (.str (Str.ofString "_Accumulator.__init__") 294), (.str (Str.ofString "/claim/cut.py") 295), (.int 83 0), (.int 2 0), (.int 0 0), (.int 0 0), (.int 3 0), (.ref 74), (.bool true), (.int 181 0), (.ref 75), .none, (.ref 76), (.ref 77), (.ref 78), (.int 299 0), (.int 83 0), (.str (Str.ofString "/claim/cut.py") 300)]), #[]⟩
@[reducible] noncomputable def o80 (P : Params) : Obj := ⟨(.type "function"), .none, (.func { name := (Str.ofString "__init__"), qualname := (Str.ofString "_Accumulator.__init__"), params := par_s11_0, body := .stmts (body_s11_0), scope := scope_s11_0, globals := mainGlobals, closure := [((Str.ofString "__class__"), 67)], defaults := (.ref 72), kwdefaults := .none, doc := .none, pyModule := (.str (Str.ofString "cpy313.email.header") 276), annotations := .none, code := (.ref 79), closureTuple := (.ref 73), builtins := builtinsNs }), #[]⟩
@[reducible] noncomputable def o81 (P : Params) : Obj := ⟨(.type "tuple"), .none, (.seq #[] 0), #[]⟩
@[reducible] noncomputable def o83 (P : Params) : Obj := ⟨(.type "tuple"), .none, (.seq #[(.str (Str.ofString "self") 305), (.str (Str.ofString "fws") 306), (.str (Str.ofString "string") 307)] 0), #[]⟩
@[reducible] noncomputable def o84 (P : Params) : Obj := ⟨(.type "tuple"), .none, (.seq #[] 0), #[]⟩
@[reducible] noncomputable def o86 (P : Params) : Obj := ⟨(.type "code"), .none, (.fields #[(.str (Str.ofString "push") 302), (.str (Str.ofString "_Accumulator.push") 303), (.str (Str.ofString "/claim/cut.py") 304), (.int 87 0), (.int 3 0), (.int 0 0), (.int 0 0), (.int 3 0), (.ref 81), (.bool true), (.int 181 0), (.ref 82), .none, (.ref 83), (.ref 84), (.ref 85), (.int 308 0), (.int 87 0), (.str (Str.ofString "/claim/cut.py") 309)]), #[]⟩
@[reducible] noncomputable def o87 (P : Params) : Obj := ⟨(.type "function"), .none, (.func { name := (Str.ofString "push"), qualname := (Str.ofString "_Accumulator.push"), params := par_s11_1, body := .stmts (body_s11_1), scope := scope_s11_1, globals := mainGlobals, closure := [], defaults := .none, kwdefaults := .none, doc := .none, pyModule := (.str (Str.ofString "cpy313.email.header") 276), annotations := .none, code := (.ref 86), closureTuple := .none, builtins := builtinsNs }), #[]⟩
@[reducible] noncomputable def o88 (P : Params) : Obj := ⟨(.type "tuple"), .none, (.seq #[(.int 0 311)] 0), #[]⟩
@[reducible] noncomputable def o89 (P : Params) : Obj := ⟨(.type "tuple"), .none, (.seq #[] 0), #[]⟩
@[reducible] noncomputable def o91 (P : Params) : Obj := ⟨(.type "tuple"), .none, (.seq #[(.str (Str.ofString "self") 315), (.str (Str.ofString "i") 316)] 0), #[]⟩
@[reducible] noncomputable def o92 (P : Params) : Obj := ⟨(.type "tuple"), .none, (.seq #[] 0), #[]⟩
@[reducible] noncomputable def o94 (P : Params) : Obj := ⟨(.type "code"), .none, (.fields #[(.str (Str.ofString "pop_from") 312), (.str (Str.ofString "_Accumulator.pop_from") 313), (.str (Str.ofString "/claim/cut.py") 314), (.int 90 0), (.int 2 0), (.int 0 0), (.int 0 0), (.int 3 0), (.ref 89), (.bool true), (.int 181 0), (.ref 90), .none, (.ref 91), (.ref 92), (.ref 93), (.int 317 0), (.int 90 0), (.str (Str.ofString "/claim/cut.py") 318)]), #[]⟩
@[reducible] noncomputable def o95 (P : Params) : Obj := ⟨(.type "function"), .none, (.func { name := (Str.ofString "pop_from"), qualname := (Str.ofString "_Accumulator.pop_from"), params := par_s11_2, body := .stmts (body_s11_2), scope := scope_s11_2, globals := mainGlobals, closure := [], defaults := (.ref 88), kwdefaults := .none, doc := .none, pyModule := (.str (Str.ofString "cpy313.email.header") 276), annotations := .none, code := (.ref 94), closureTuple := .none, builtins := builtinsNs }), #[]⟩
@[reducible] noncomputable def o96 (P : Params) : Obj := ⟨(.type "tuple"), .none, (.seq #[(.ref 67)] 0), #[]⟩
@[reducible] noncomputable def o97 (P : Params) : Obj := ⟨(.type "tuple"), .none, (.seq #[(.str (Str.ofString "__class__") 323)] 0), #[]⟩
@[reducible] noncomputable def o99 (P : Params) : Obj := ⟨(.type "tuple"), .none, (.seq #[(.str (Str.ofString "self") 324)] 0), #[]⟩
@[reducible] noncomputable def o100 (P : Params) : Obj := ⟨(.type "tuple"), .none, (.seq #[] 0), #[]⟩
@[reducible] noncomputable def o102 (P : Params) : Obj := ⟨(.type "code"), .none, (.fields #[(.str (Str.ofString "pop") 320), (.str (Str.ofString "_Accumulator.pop") 321), (.str (Str.ofString "/claim/cut.py") 322), (.int 93 0), (.int 1 0), (.int 0 0), (.int 0 0), (.int 3 0), (.ref 97), (.bool true), (.int 181 0), (.ref 98), .none, (.ref 99), (.ref 100), (.ref 101), (.int 325 0), (.int 93 0), (.str (Str.ofString "/claim/cut.py") 326)]), #[]⟩
@[reducible] noncomputable def o103 (P : Params) : Obj := ⟨(.type "function"), .none, (.func { name := (Str.ofString "pop"), qualname := (Str.ofString "_Accumulator.pop"), params := par_s11_3, body := .stmts (body_s11_3), scope := scope_s11_3, globals := mainGlobals, closure := [((Str.ofString "__class__"), 67)], defaults := .none, kwdefaults := .none, doc := .none, pyModule := (.str (Str.ofString "cpy313.email.header") 276), annotations := .none, code := (.ref 102), closureTuple := (.ref 96), builtins := builtinsNs }), #[]⟩
@[reducible] noncomputable def o104 (P : Params) : Obj := ⟨(.type "tuple"), .none, (.seq #[] 0), #[]⟩
@[reducible] noncomputable def o106 (P : Params) : Obj := ⟨(.type "tuple"), .none, (.seq #[(.str (Str.ofString "self") 331)] 0), #[]⟩
@[reducible] noncomputable def o107 (P : Params) : Obj := ⟨(.type "tuple"), .none, (.seq #[] 0), #[]⟩
@[reducible] noncomputable def o109 (P : Params) : Obj := ⟨(.type "code"), .none, (.fields #[(.str (Str.ofString "__len__") 328), (.str (Str.ofString "_Accumulator.__len__") 329), (.str (Str.ofString "/claim/cut.py") 330), (.int 98 0), (.int 1 0), (.int 0 0), (.int 0 0), (.int 3 0), (.ref 104), (.bool true), (.int 181 0), (.ref 105), .none, (.ref 106), (.ref 107), (.ref 108), (.int 332 0), (.int 98 0), (.str (Str.ofString "/claim/cut.py") 333)]), #[]⟩
@[reducible] noncomputable def o110 (P : Params) : Obj := ⟨(.type "function"), .none, (.func { name := (Str.ofString "__len__"), qualname := (Str.ofString "_Accumulator.__len__"), params := par_s11_4, body := .stmts (body_s11_4), scope := scope_s11_4, globals := mainGlobals, closure := [], defaults := .none, kwdefaults := .none, doc := .none, pyModule := (.str (Str.ofString "cpy313.email.header") 276), annotations := .none, code := (.ref 109), closureTuple := .none, builtins := builtinsNs }), #[]⟩
@[reducible] noncomputable def o111 (P : Params) : Obj := ⟨(.type "tuple"), .none, (.seq #[] 0), #[]⟩
@[reducible] noncomputable def o113 (P : Params) : Obj := ⟨(.type "tuple"), .none, (.seq #[(.str (Str.ofString "self") 338)] 0), #[]⟩
@[reducible] noncomputable def o114 (P : Params) : Obj := ⟨(.type "tuple"), .none, (.seq #[] 0), #[]⟩
@[reducible] noncomputable def o116 (P : Params) : Obj := ⟨(.type "code"), .none, (.fields #[(.str (Str.ofString "__str__") 335), (.str (Str.ofString "_Accumulator.__str__") 336), (.str (Str.ofString "/claim/cut.py") 337), (.int 101 0), (.int 1 0), (.int 0 0), (.int 0 0), (.int 3 0), (.ref 111), (.bool true), (.int 181 0), (.ref 112), .none, (.ref 113), (.ref 114), (.ref 115), (.int 339 0), (.int 101 0), (.str (Str.ofString "/claim/cut.py") 340)]), #[]⟩
@[reducible] noncomputable def o117 (P : Params) : Obj := ⟨(.type "function"), .none, (.func { name := (Str.ofString "__str__"), qualname := (Str.ofString "_Accumulator.__str__"), params := par_s11_5, body := .stmts (body_s11_5), scope := scope_s11_5, globals := mainGlobals, closure := [], defaults := .none, kwdefaults := .none, doc := .none, pyModule := (.str (Str.ofString "cpy313.email.header") 276), annotations := .none, code := (.ref 116), closureTuple := .none, builtins := builtinsNs }), #[]⟩
@[reducible] noncomputable def o118 (P : Params) : Obj := ⟨(.type "tuple"), .none, (.seq #[.none] 0), #[]⟩
@[reducible] noncomputable def o119 (P : Params) : Obj := ⟨(.type "tuple"), .none, (.seq #[] 0), #[]⟩
@[reducible] noncomputable def o121 (P : Params) : Obj := ⟨(.type "tuple"), .none, (.seq #[(.str (Str.ofString "self") 345), (.str (Str.ofString "startval") 346)] 0), #[]⟩
@[reducible] noncomputable def o122 (P : Params) : Obj := ⟨(.type "tuple"), .none, (.seq #[] 0), #[]⟩
@[reducible] noncomputable def o124 (P : Params) : Obj := ⟨(.type "code"), .none, (.fields #[(.str (Str.ofString "reset") 342), (.str (Str.ofString "_Accumulator.reset") 343), (.str (Str.ofString "/claim/cut.py") 344), (.int 104 0), (.int 2 0), (.int 0 0), (.int 0 0), (.int 3 0), (.ref 119), (.bool true), (.int 181 0), (.ref 120), .none, (.ref 121), (.ref 122), (.ref 123), (.int 347 0), (.int 104 0), (.str (Str.ofString "/claim/cut.py") 348)]), #[]⟩
@[reducible] noncomputable def o125 (P : Params) : Obj := ⟨(.type "function"), .none, (.func { name := (Str.ofString "reset"), qualname := (Str.ofString "_Accumulator.reset"), params := par_s11_6, body := .stmts (body_s11_6), scope := scope_s11_6, globals := mainGlobals, closure := [], defaults := (.ref 118), kwdefaults := .none, doc := .none, pyModule := (.str (Str.ofString "cpy313.email.header") 276), annotations := .none, code := (.ref 124), closureTuple := .none, builtins := builtinsNs }), #[]⟩
@[reducible] noncomputable def o126 (P : Params) : Obj := ⟨(.type "tuple"), .none, (.seq #[] 0), #[]⟩
@[reducible] noncomputable def o128 (P : Params) : Obj := ⟨(.type "tuple"), .none, (.seq #[(.str (Str.ofString "self") 353)] 0), #[]⟩
@[reducible] noncomputable def o129 (P : Params) : Obj := ⟨(.type "tuple"), .none, (.seq #[] 0), #[]⟩
@[reducible] noncomputable def o131 (P : Params) : Obj := ⟨(.type "code"), .none, (.fields #[(.str (Str.ofString "is_onlyws") 350), (.str (Str.ofString "_Accumulator.is_onlyws") 351), (.str (Str.ofString "/claim/cut.py") 352), (.int 107 0), (.int 1 0), (.int 0 0), (.int 0 0), (.int 3 0), (.ref 126), (.bool true), (.int 181 0), (.ref 127), .none, (.ref 128), (.ref 129), (.ref 130), (.int 354 0), (.int 107 0), (.str (Str.ofString "/claim/cut.py") 355)]), #[]⟩
@[reducible] noncomputable def o132 (P : Params) : Obj := ⟨(.type "function"), .none, (.func { name := (Str.ofString "is_onlyws"), qualname := (Str.ofString "_Accumulator.is_onlyws"), params := par_s11_7, body := .stmts (body_s11_7), scope := scope_s11_7, globals := mainGlobals, closure := [], defaults := .none, kwdefaults := .none, doc := .none, pyModule := (.str (Str.ofString "cpy313.email.header") 276), annotations := .none, code := (.ref 131), closureTuple := .none, builtins := builtinsNs }), #[]⟩
@[reducible] noncomputable def o133 (P : Params) : Obj := ⟨(.type "tuple"), .none, (.seq #[(.ref 67)] 0), #[]⟩
@[reducible] noncomputable def o134 (P : Params) : Obj := ⟨(.type "tuple"), .none, (.seq #[(.str (Str.ofString "__class__") 360)] 0), #[]⟩
@[reducible] noncomputable def o136 (P : Params) : Obj := ⟨(.type "tuple"), .none, (.seq #[(.str (Str.ofString "self") 361)] 0), #[]⟩
@[reducible] noncomputable def o137 (P : Params) : Obj := ⟨(.type "tuple"), .none, (.seq #[] 0), #[]⟩
@[reducible] noncomputable def o139 (P : Params) : Obj := ⟨(.type "code"), .none, (.fields #[(.str (Str.ofString "part_count") 357), (.str (Str.ofString "_Accumulator.part_count") 358), (.str (Str.ofString "/claim/cut.py") 359), (.int 110 0), (.int 1 0), (.int 0 0), (.int 0 0), (.int 3 0), (.ref 134), (.bool true), (.int 181 0), (.ref 135), .none, (.ref 136), (.ref 137), (.ref 138), (.int 362 0), (.int 110 0), (.str (Str.ofString "/claim/cut.py") 363)]), #[]⟩
@[reducible] noncomputable def o140 (P : Params) : Obj := ⟨(.type "function"), .none, (.func { name := (Str.ofString "part_count"), qualname := (Str.ofString "_Accumulator.part_count"), params := par_s11_8, body := .stmts (body_s11_8), scope := scope_s11_8, globals := mainGlobals, closure := [((Str.ofString "__class__"), 67)], defaults := .none, kwdefaults := .none, doc := .none, pyModule := (.str (Str.ofString "cpy313.email.header") 276), annotations := .none, code := (.ref 139), closureTuple := (.ref 133), builtins := builtinsNs }), #[]⟩
@[reducible] noncomputable def o141 (P : Params) : Obj := ⟨(.type "tuple"), .none, (.seq #[(.str (Str.ofString "_initial_size") 365)] 0), #[]⟩
@[reducible] noncomputable def o142 (P : Params) : Obj := ⟨(.type "dict"), .none, (.dict (List.toArray [⟨PyData.keyHash P (Str.ofString "__module__"), (.str (Str.ofString "__module__") 287), (.str (Str.ofString "cpy313.email.header") 276)⟩, ⟨PyData.keyHash P (Str.ofString "__firstlineno__"), (.str (Str.ofString "__firstlineno__") 291), (.int 81 290)⟩, ⟨PyData.keyHash P (Str.ofString "__init__"), (.str (Str.ofString "__init__") 301), (.ref 80)⟩, ⟨PyData.keyHash P (Str.ofString "push"), (.str (Str.ofString "push") 310), (.ref 87)⟩, ⟨PyData.keyHash P (Str.ofString "pop_from"), (.str (Str.ofString "pop_from") 319), (.ref 95)⟩, ⟨PyData.keyHash P (Str.ofString "pop"), (.str (Str.ofString "pop") 327), (.ref 103)⟩, ⟨PyData.keyHash P (Str.ofString "__len__"), (.str (Str.ofString "__len__") 334), (.ref 110)⟩, ⟨PyData.keyHash P (Str.ofString "__str__"), (.str (Str.ofString "__str__") 341), (.ref 117)⟩, ⟨PyData.keyHash P (Str.ofString "reset"), (.str (Str.ofString "reset") 349), (.ref 125)⟩, ⟨PyData.keyHash P (Str.ofString "is_onlyws"), (.str (Str.ofString "is_onlyws") 356), (.ref 132)⟩, ⟨PyData.keyHash P (Str.ofString "part_count"), (.str (Str.ofString "part_count") 364), (.ref 140)⟩, ⟨PyData.keyHash P (Str.ofString "__static_attributes__"), (.str (Str.ofString "__static_attributes__") 366), (.ref 141)⟩, ⟨PyData.keyHash P (Str.ofString "__dict__"), (.str (Str.ofString "__dict__") 369), (.ref 144)⟩, ⟨PyData.keyHash P (Str.ofString "__weakref__"), (.str (Str.ofString "__weakref__") 371), (.ref 145)⟩, ⟨PyData.keyHash P (Str.ofString "__doc__"), (.str (Str.ofString "__doc__") 372), .none⟩]) 5), #[]⟩
@[reducible] noncomputable def o143 (P : Params) : Obj := ⟨(.type "type"), .none, (.cls { name := (Str.ofString "_Accumulator"), bases := [(.type "list")], mro := [(.ref 143), (.type "list"), (.type "object")], ns := 142, qualname := (Str.ofString "_Accumulator"), hasDict := true, slotNames := [], subclasses := [], abstract := false, collection := .none, hasDel := false }), #[(.some (.ref 64)), .none, (.some (.str (Str.ofString "_Accumulator") 280)), (.some (.str (Str.ofString "_Accumulator") 288)), (.some (.builtin "list.__new__")), (.some (.bool true))]⟩
@[reducible] noncomputable def o144 (P : Params) : Obj := ⟨(.type "getset_descriptor"), .none, (.fields #[(.str (Str.ofString "__dict__") 368), (.ref 143), (.builtin "function.__dict__"), (.builtin "function.__dict__#set")]), #[]⟩
@[reducible] noncomputable def o145 (P : Params) : Obj := ⟨(.type "getset_descriptor"), .none, (.fields #[(.str (Str.ofString "__weakref__") 370), (.ref 143), (.builtin "ExceptionGroup.__weakref__"), .none]), #[]⟩
@[reducible] noncomputable def o155 (P : Params) : Obj := ⟨(.type "set"), .none, (.set #[(65024, (.int 65024 393)), (65025, (.int 65025 394)), (65026, (.int 65026 395)), (65027, (.int 65027 396)), (65028, (.int 65028 397)), (65029, (.int 65029 398)), (6150, (.int 6150 379)), (65030, (.int 65030 399)), (65031, (.int 65031 400)), (65032, (.int 65032 401)), (65033, (.int 65033 402)), (6155, (.int 6155 380)), (6156, (.int 6156 381)), (6157, (.int 6157 382)), (8203, (.int 8203 383)), (8204, (.int 8204 384)), (8205, (.int 8205 385)), (65034, (.int 65034 403)), (65035, (.int 65035 404)), (65036, (.int 65036 405)), (65037, (.int 65037 406)), (65038, (.int 65038 407)), (65039, (.int 65039 408)), (173, (.int 173 377)), (847, (.int 847 378)), (8288, (.int 8288 386)), (65279, (.int 65279 387))] 29 ⟨127, #[0, 1, 2, 3, 4, 5, 6, 7, 8, 9, 10, 11, 12, 13, 14, 15, 16, 17, 18, 19, 20, 21, 22, 45, 79, 96, 127], #[], 0, !P.followText "set-order", 2, true⟩), #[]⟩
@[reducible] noncomputable def o159 (P : Params) : Obj := ⟨(.type "tuple"), .none, (.seq #[] 0), #[]⟩
@[reducible] noncomputable def o161 (P : Params) : Obj := ⟨(.type "tuple"), .none, (.seq #[(.str (Str.ofString "code") 440)] 0), #[]⟩
@[reducible] noncomputable def o162 (P : Params) : Obj := ⟨(.type "tuple"), .none, (.seq #[] 0), #[]⟩
@[reducible] noncomputable def o164 (P : Params) : Obj := ⟨(.type "code"), .none, (.fields #[(.str (Str.ofString "in_table_b1") 437), (.str (Str.ofString "in_table_b1") 438), (.str (Str.ofString "/claim/cut.py") 439), (.int 114 0), (.int 1 0), (.int 0 0), (.int 0 0), (.int 3 0), (.ref 159), (.bool true), (.int 181 0), (.ref 160), .none, (.ref 161), (.ref 162), (.ref 163), (.int 441 0), (.int 114 0), (.str (Str.ofString "/claim/cut.py") 442)]), #[]⟩
@[reducible] noncomputable def o165 (P : Params) : Obj := ⟨(.type "function"), .none, (.func { name := (Str.ofString "in_table_b1"), qualname := (Str.ofString "in_table_b1"), params := par_s14, body := .stmts (body_s14), scope := scope_s14, globals := mainGlobals, closure := [], defaults := .none, kwdefaults := .none, doc := .none, pyModule := (.str (Str.ofString "cpy313.stringprep") 375), annotations := .none, code := (.ref 164), closureTuple := .none, builtins := builtinsNs }), #[]⟩
@[reducible] noncomputable def o205 (P : Params) : Obj := ⟨(.type "tuple"), .none, (.seq #[] 0), #[]⟩
@[reducible] noncomputable def o207 (P : Params) : Obj := ⟨(.type "tuple"), .none, (.seq #[(.str (Str.ofString "code") 2398), (.str (Str.ofString "r") 2399)] 0), #[]⟩
@[reducible] noncomputable def o208 (P : Params) : Obj := ⟨(.type "tuple"), .none, (.seq #[] 0), #[]⟩
@[reducible] noncomputable def o210 (P : Params) : Obj := ⟨(.type "code"), .none, (.fields #[(.str (Str.ofString "map_table_b3") 2395), (.str (Str.ofString "map_table_b3") 2396), (.str (Str.ofString "/claim/cut.py") 2397), (.int 117 0), (.int 1 0), (.int 0 0), (.int 0 0), (.int 3 0), (.ref 205), (.bool true), (.int 181 0), (.ref 206), .none, (.ref 207), (.ref 208), (.ref 209), (.int 2400 0), (.int 117 0), (.str (Str.ofString "/claim/cut.py") 2401)]), #[]⟩
@[reducible] noncomputable def o211 (P : Params) : Obj := ⟨(.type "function"), .none, (.func { name := (Str.ofString "map_table_b3"), qualname := (Str.ofString "map_table_b3"), params := par_s16, body := .stmts (body_s16), scope := scope_s16, globals := mainGlobals, closure := [], defaults := .none, kwdefaults := .none, doc := .none, pyModule := (.str (Str.ofString "cpy313.stringprep") 375), annotations := .none, code := (.ref 210), closureTuple := .none, builtins := builtinsNs }), #[]⟩
@[reducible] noncomputable def o212 (P : Params) : Obj := ⟨(.type "tuple"), .none, (.seq #[] 0), #[]⟩
@[reducible] noncomputable def o215 (P : Params) : Obj := ⟨(.type "code"), .none, (.fields #[(.str (Str.ofString "_law_drawn") 2405), (.str (Str.ofString "_law_drawn") 2406), (.str (Str.ofString "/claim/cut.py") 2407), (.int 123 0), (.int 1 0), (.int 0 0), (.int 0 0), (.int 3 0), (.ref 212), (.bool true), (.int 181 0), (.ref 213), .none, .none, .none, (.ref 214), (.int 2408 0), (.int 123 0), (.str (Str.ofString "/claim/cut.py") 2409)]), #[]⟩
@[reducible] noncomputable def o216 (P : Params) : Obj := ⟨(.type "function"), .none, (.func { name := (Str.ofString "_law_drawn"), qualname := (Str.ofString "_law_drawn"), params := par_s18, body := .stmts (body_s18), scope := scope_s18, globals := mainGlobals, closure := [], defaults := .none, kwdefaults := .none, doc := .none, pyModule := (.str (Str.ofString "law_un0040_01") 2403), annotations := .none, code := (.ref 215), closureTuple := .none, builtins := builtinsNs }), #[]⟩
@[reducible] noncomputable def o217 (P : Params) : Obj := ⟨(.type "tuple"), .none, (.seq #[] 0), #[]⟩
@[reducible] noncomputable def o219 (P : Params) : Obj := ⟨(.type "tuple"), .none, (.seq #[(.str (Str.ofString "x") 2414), (.str (Str.ofString "kind") 2415), (.str (Str.ofString "which") 2416), (.str (Str.ofString "letter") 2417), (.str (Str.ofString "capitals") 2418), (.str (Str.ofString "nothing") 2419)] 0), #[]⟩
@[reducible] noncomputable def o220 (P : Params) : Obj := ⟨(.type "tuple"), .none, (.seq #[] 0), #[]⟩
@[reducible] noncomputable def o222 (P : Params) : Obj := ⟨(.type "code"), .none, (.fields #[(.str (Str.ofString "_law_sign") 2411), (.str (Str.ofString "_law_sign") 2412), (.str (Str.ofString "/claim/cut.py") 2413), (.int 126 0), (.int 1 0), (.int 0 0), (.int 0 0), (.int 3 0), (.ref 217), (.bool true), (.int 181 0), (.ref 218), .none, (.ref 219), (.ref 220), (.ref 221), (.int 2420 0), (.int 126 0), (.str (Str.ofString "/claim/cut.py") 2421)]), #[]⟩
@[reducible] noncomputable def o223 (P : Params) : Obj := ⟨(.type "function"), .none, (.func { name := (Str.ofString "_law_sign"), qualname := (Str.ofString "_law_sign"), params := par_s19, body := .stmts (body_s19), scope := scope_s19, globals := mainGlobals, closure := [], defaults := .none, kwdefaults := .none, doc := .none, pyModule := (.str (Str.ofString "law_un0040_01") 2403), annotations := .none, code := (.ref 222), closureTuple := .none, builtins := builtinsNs }), #[]⟩
@[reducible] noncomputable def o224 (P : Params) : Obj := ⟨(.type "tuple"), .none, (.seq #[] 0), #[]⟩
@[reducible] noncomputable def o226 (P : Params) : Obj := ⟨(.type "tuple"), .none, (.seq #[(.str (Str.ofString "word") 2426), (.str (Str.ofString "head") 2427), (.str (Str.ofString "table") 2428), (.str (Str.ofString "low") 2429), (.str (Str.ofString "letter") 2430)] 0), #[]⟩
@[reducible] noncomputable def o227 (P : Params) : Obj := ⟨(.type "tuple"), .none, (.seq #[] 0), #[]⟩
@[reducible] noncomputable def o229 (P : Params) : Obj := ⟨(.type "code"), .none, (.fields #[(.str (Str.ofString "_law_table") 2423), (.str (Str.ofString "_law_table") 2424), (.str (Str.ofString "/claim/cut.py") 2425), (.int 140 0), (.int 2 0), (.int 0 0), (.int 0 0), (.int 3 0), (.ref 224), (.bool true), (.int 181 0), (.ref 225), .none, (.ref 226), (.ref 227), (.ref 228), (.int 2431 0), (.int 140 0), (.str (Str.ofString "/claim/cut.py") 2432)]), #[]⟩
@[reducible] noncomputable def o230 (P : Params) : Obj := ⟨(.type "function"), .none, (.func { name := (Str.ofString "_law_table"), qualname := (Str.ofString "_law_table"), params := par_s20, body := .stmts (body_s20), scope := scope_s20, globals := mainGlobals, closure := [], defaults := .none, kwdefaults := .none, doc := .none, pyModule := (.str (Str.ofString "law_un0040_01") 2403), annotations := .none, code := (.ref 229), closureTuple := .none, builtins := builtinsNs }), #[]⟩
@[reducible] noncomputable def o231 (P : Params) : Obj := ⟨(.type "tuple"), .none, (.seq #[] 0), #[]⟩
@[reducible] noncomputable def o233 (P : Params) : Obj := ⟨(.type "tuple"), .none, (.seq #[(.str (Str.ofString "word") 2437), (.str (Str.ofString "size") 2438), (.str (Str.ofString "low") 2439), (.str (Str.ofString "unit") 2440), (.str (Str.ofString "start") 2441), (.str (Str.ofString "pile") 2442), (.str (Str.ofString "letter") 2443), (.str (Str.ofString "numbers") 2444), (.str (Str.ofString "piece") 2445), (.str (Str.ofString "many") 2446), (.str (Str.ofString "rest") 2447)] 0), #[]⟩
@[reducible] noncomputable def o234 (P : Params) : Obj := ⟨(.type "tuple"), .none, (.seq #[] 0), #[]⟩
@[reducible] noncomputable def o236 (P : Params) : Obj := ⟨(.type "code"), .none, (.fields #[(.str (Str.ofString "_law_laid") 2434), (.str (Str.ofString "_law_laid") 2435), (.str (Str.ofString "/claim/cut.py") 2436), (.int 147 0), (.int 5 0), (.int 0 0), (.int 0 0), (.int 3 0), (.ref 231), (.bool true), (.int 181 0), (.ref 232), .none, (.ref 233), (.ref 234), (.ref 235), (.int 2448 0), (.int 147 0), (.str (Str.ofString "/claim/cut.py") 2449)]), #[]⟩
@[reducible] noncomputable def o237 (P : Params) : Obj := ⟨(.type "function"), .none, (.func { name := (Str.ofString "_law_laid"), qualname := (Str.ofString "_law_laid"), params := par_s21, body := .stmts (body_s21), scope := scope_s21, globals := mainGlobals, closure := [], defaults := .none, kwdefaults := .none, doc := .none, pyModule := (.str (Str.ofString "law_un0040_01") 2403), annotations := .none, code := (.ref 236), closureTuple := .none, builtins := builtinsNs }), #[]⟩
@[reducible] noncomputable def o238 (P : Params) : Obj := ⟨(.type "tuple"), .none, (.seq #[] 0), #[]⟩
@[reducible] noncomputable def o240 (P : Params) : Obj := ⟨(.type "tuple"), .none, (.seq #[(.str (Str.ofString "number") 2454), (.str (Str.ofString "whole") 2455), (.str (Str.ofString "begin") 2456), (.str (Str.ofString "wide") 2457)] 0), #[]⟩
@[reducible] noncomputable def o241 (P : Params) : Obj := ⟨(.type "tuple"), .none, (.seq #[] 0), #[]⟩
@[reducible] noncomputable def o243 (P : Params) : Obj := ⟨(.type "code"), .none, (.fields #[(.str (Str.ofString "_law_ahead") 2451), (.str (Str.ofString "_law_ahead") 2452), (.str (Str.ofString "/claim/cut.py") 2453), (.int 158 0), (.int 4 0), (.int 0 0), (.int 0 0), (.int 3 0), (.ref 238), (.bool true), (.int 181 0), (.ref 239), .none, (.ref 240), (.ref 241), (.ref 242), (.int 2458 0), (.int 158 0), (.str (Str.ofString "/claim/cut.py") 2459)]), #[]⟩
@[reducible] noncomputable def o244 (P : Params) : Obj := ⟨(.type "function"), .none, (.func { name := (Str.ofString "_law_ahead"), qualname := (Str.ofString "_law_ahead"), params := par_s22, body := .stmts (body_s22), scope := scope_s22, globals := mainGlobals, closure := [], defaults := .none, kwdefaults := .none, doc := .none, pyModule := (.str (Str.ofString "law_un0040_01") 2403), annotations := .none, code := (.ref 243), closureTuple := .none, builtins := builtinsNs }), #[]⟩
@[reducible] noncomputable def o245 (P : Params) : Obj := ⟨(.type "tuple"), .none, (.seq #[] 0), #[]⟩
@[reducible] noncomputable def o248 (P : Params) : Obj := ⟨(.type "code"), .none, (.fields #[(.str (Str.ofString "law") 2461), (.str (Str.ofString "law") 2462), (.str (Str.ofString "/claim/cut.py") 2463), (.int 160 0), (.int 1 0), (.int 0 0), (.int 0 0), (.int 3 0), (.ref 245), (.bool true), (.int 181 0), (.ref 246), .none, .none, .none, (.ref 247), (.int 2464 0), (.int 160 0), (.str (Str.ofString "/claim/cut.py") 2465)]), #[]⟩
@[reducible] noncomputable def o249 (P : Params) : Obj := ⟨(.type "function"), .none, (.func { name := (Str.ofString "law"), qualname := (Str.ofString "law"), params := par_s23, body := .stmts (body_s23), scope := scope_s23, globals := mainGlobals, closure := [], defaults := .none, kwdefaults := .none, doc := .none, pyModule := (.str (Str.ofString "law_un0040_01") 2403), annotations := .none, code := (.ref 248), closureTuple := .none, builtins := builtinsNs }), #[]⟩
noncomputable def K (P : Params) : Frag := (nat_lit 2, o2 P) :: (nat_lit 3, o3 P) :: (nat_lit 15, o15 P) :: (nat_lit 17, o17 P) :: (nat_lit 18, o18 P) :: (nat_lit 20, o20 P) :: (nat_lit 21, o21 P) :: (nat_lit 22, o22 P) :: (nat_lit 24, o24 P) :: (nat_lit 25, o25 P) :: (nat_lit 27, o27 P) :: (nat_lit 28, o28 P) :: (nat_lit 29, o29 P) :: (nat_lit 31, o31 P) :: (nat_lit 32, o32 P) :: (nat_lit 34, o34 P) :: (nat_lit 35, o35 P) :: (nat_lit 36, o36 P) :: (nat_lit 38, o38 P) :: (nat_lit 39, o39 P) :: (nat_lit 41, o41 P) :: (nat_lit 42, o42 P) :: (nat_lit 43, o43 P) :: (nat_lit 45, o45 P) :: (nat_lit 46, o46 P) :: (nat_lit 48, o48 P) :: (nat_lit 49, o49 P) :: (nat_lit 50, o50 P) :: (nat_lit 52, o52 P) :: (nat_lit 53, o53 P) :: (nat_lit 55, o55 P) :: (nat_lit 56, o56 P) :: (nat_lit 57, o57 P) :: (nat_lit 59, o59 P) :: (nat_lit 60, o60 P) :: (nat_lit 62, o62 P) :: (nat_lit 63, o63 P) :: (nat_lit 64, o64 P) :: (nat_lit 67, o67 P) :: (nat_lit 72, o72 P) :: (nat_lit 73, o73 P) :: (nat_lit 74, o74 P) :: (nat_lit 76, o76 P) :: (nat_lit 77, o77 P) :: (nat_lit 79, o79 P) :: (nat_lit 80, o80 P) :: (nat_lit 81, o81 P) :: (nat_lit 83, o83 P) :: (nat_lit 84, o84 P) :: (nat_lit 86, o86 P) :: (nat_lit 87, o87 P) :: (nat_lit 88, o88 P) :: (nat_lit 89, o89 P) :: (nat_lit 91, o91 P) :: (nat_lit 92, o92 P) :: (nat_lit 94, o94 P) :: (nat_lit 95, o95 P) :: (nat_lit 96, o96 P) :: (nat_lit 97, o97 P) :: (nat_lit 99, o99 P) :: (nat_lit 100, o100 P) :: (nat_lit 102, o102 P) :: (nat_lit 103, o103 P) :: (nat_lit 104, o104 P) :: (nat_lit 106, o106 P) :: (nat_lit 107, o107 P) :: (nat_lit 109, o109 P) :: (nat_lit 110, o110 P) :: (nat_lit 111, o111 P) :: (nat_lit 113, o113 P) :: (nat_lit 114, o114 P) :: (nat_lit 116, o116 P) :: (nat_lit 117, o117 P) :: (nat_lit 118, o118 P) :: (nat_lit 119, o119 P) :: (nat_lit 121, o121 P) :: (nat_lit 122, o122 P) :: (nat_lit 124, o124 P) :: (nat_lit 125, o125 P) :: (nat_lit 126, o126 P) :: (nat_lit 128, o128 P) :: (nat_lit 129, o129 P) :: (nat_lit 131, o131 P) :: (nat_lit 132, o132 P) :: (nat_lit 133, o133 P) :: (nat_lit 134, o134 P) :: (nat_lit 136, o136 P) :: (nat_lit 137, o137 P) :: (nat_lit 139, o139 P) :: (nat_lit 140, o140 P) :: (nat_lit 141, o141 P) :: (nat_lit 142, o142 P) :: (nat_lit 143, o143 P) :: (nat_lit 144, o144 P) :: (nat_lit 145, o145 P) :: (nat_lit 155, o155 P) :: (nat_lit 159, o159 P) :: (nat_lit 161, o161 P) :: (nat_lit 162, o162 P) :: (nat_lit 164, o164 P) :: (nat_lit 165, o165 P) :: (nat_lit 205, o205 P) :: (nat_lit 207, o207 P) :: (nat_lit 208, o208 P) :: (nat_lit 210, o210 P) :: (nat_lit 211, o211 P) :: (nat_lit 212, o212 P) :: (nat_lit 215, o215 P) :: (nat_lit 216, o216 P) :: (nat_lit 217, o217 P) :: (nat_lit 219, o219 P) :: (nat_lit 220, o220 P) :: (nat_lit 222, o222 P) :: (nat_lit 223, o223 P) :: (nat_lit 224, o224 P) :: (nat_lit 226, o226 P) :: (nat_lit 227, o227 P) :: (nat_lit 229, o229 P) :: (nat_lit 230, o230 P) :: (nat_lit 231, o231 P) :: (nat_lit 233, o233 P) :: (nat_lit 234, o234 P) :: (nat_lit 236, o236 P) :: (nat_lit 237, o237 P) :: (nat_lit 238, o238 P) :: (nat_lit 240, o240 P) :: (nat_lit 241, o241 P) :: (nat_lit 243, o243 P) :: (nat_lit 244, o244 P) :: (nat_lit 245, o245 P) :: (nat_lit 248, o248 P) :: (nat_lit 249, o249 P) :: []
end Mine
end
section
open PySem PySem.W PySem.Calls PyProof.Rows PySem.Spec
set_option maxRecDepth 100000
set_option linter.unusedVariables false
namespace Mine
local macro_rules | `(tactic| omega) => `(tactic| first | (with_reducible assumption) | ((rename (_ ∨ _) => hq); clear hq; lia) | lia)
section
open PySem PySem.W PySem.Calls PyProof.Rows
set_option maxRecDepth 100000
/-- a run of one thread that leaves alone what was there ahead of the top -/
noncomputable def Far (p : Program) (w : World) (n₀ : Nat) (ann : Option Value) (s : Shared) (t : Thread) (s' : Shared) (t' : Thread) : Prop :=
  (∃ m, schedN (denote table) p w m (.single s t) = .running (.single s' t')) ∧ s'.heap.life = s.heap.life ∧ s'.os = s.os ∧
    ∀ b o, b < n₀ → b ≠ mainNs → b ≠ cStatics → ann ≠ some (.ref b) → s.heap.get? b = some o → s'.heap.get? b = some o
section
variable {p : Program} {w : World} {n₀ : Nat} {ann : Option Value}
theorem sched_app {den : Code → Sem Fin} : ∀ (m n : Nat) (c c₁ c₂ : Config), schedN den p w m c = .running c₁ → schedN den p w n c₁ = .running c₂ → schedN den p w (m + n) c = .running c₂
  | 0, n, c, c₁, c₂, h, k => by
    simp only [schedN, SRun.running.injEq] at h
    subst h
    rw [Nat.zero_add]; exact k
  | m + 1, n, c, c₁, c₂, h, k => by
    rw [show m + 1 + n = m + n + 1 by omega]
    simp only [schedN] at h ⊢
    cases hs : sstep den p w c with
    | go c' => rw [hs] at h; simp only at h ⊢; exact sched_app m n c' c₁ c₂ h k
    | halt o s' => rw [hs] at h; simp at h
theorem Far.refl (s : Shared) (t : Thread) : Far p w n₀ ann s t s t := ⟨⟨0, rfl⟩, rfl, rfl, fun _ _ _ _ _ _ e => e⟩
theorem Far.trans {s s₁ s₂ : Shared} {t t₁ t₂ : Thread} (a : Far p w n₀ ann s t s₁ t₁) (b : Far p w n₀ ann s₁ t₁ s₂ t₂) : Far p w n₀ ann s t s₂ t₂ := by
  obtain ⟨⟨m, hm⟩, l, o, k⟩ := a
  obtain ⟨⟨n, hn⟩, l', o', k'⟩ := b
  exact ⟨⟨m + n, sched_app _ _ _ _ _ hm hn⟩, l'.trans l, o'.trans o, fun b ob h1 h2 h3 h4 e => k' b ob h1 h2 h3 h4 (k b ob h1 h2 h3 h4 e)⟩
theorem far_step {s s' : Shared} {t t' : Thread} (hr : s.asleep) (hk : stepOk n₀ ann t = true) (hs : step (denote table) p w s t = .go s' t') : Far p w n₀ ann s t s' t' := by
  obtain ⟨hc, hk⟩ := Bool.and_eq_true_iff.mp hk
  have e : sstep (denote table) p w (.single s t) = .go (.single s' t') := by
    rcases sstep_single (denote table) p w s t hc hr with e | e
    · rw [e, hs]; rfl
    · rw [hs] at e; cases e
  refine ⟨⟨1, by simp only [schedN, e]⟩, step_life (denote table) p w s s' t t' hs, step_os_same hs (by revert hk; cases t.cur <;> simp), fun b o h1 h2 h3 h4 h5 => ?_⟩
  rw [step_heap (denote table) p w s s' t t' hs]
  revert hk
  cases t.cur with
  | update a _ f _ =>
    intro hk
    have hb : b ≠ a := by
      intro q
      subst q
      simp only [Bool.or_eq_true, Nat.ble_eq, beq_iff_eq] at hk
      rcases hk with ((q | q) | q) | q
      · omega
      · exact h2 q
      · exact h3 q
      · exact h4 q
    exact (Heap.get?_update_ne _ _ _ _ hb).trans h5
  | alloc x _ => intro _; exact Heap.get?_push_of_some x h5
  | _ => intro _; exact h5
theorem asleep_far {s s' : Shared} {t t' : Thread} (hr : s.asleep) (h : Far p w n₀ ann s t s' t') : s'.asleep := Shared.asleep_of_life h.2.1 hr
theorem seg_far {α : Type} {B : List Frame} {K' : α → Sem Fin} {H' : Value → Sem Fin} {gd : Bool → Bool} {lv : List Value → List Value} {res : α → Flow} (hB : splitAtGen B = none) :
    ∀ (n : Nat) (s : Shared) (t t' : Thread) (f : Flow) (s' : Shared) (c' : Code) (p' : Pos), s.asleep → Rel2 (fun a => .pure (.done (res a))) K' deadEnd H' gd lv B t t' →
    segRun table p w n₀ ann B.length n s t = some (f, s', c', p') → ∃ a, res a = f ∧ Far p w n₀ ann s t' s' ⟨K' a, c', p', B⟩ := by
  intro n
  induction n with
  | zero => intro s t t' f s' c' p' _ _ h; simp [segRun] at h
  | succ n ih =>
    intro s ⟨cur, code, pos, st⟩ ⟨cur', code', pos', st'⟩ f s' c' p' hr R h
    obtain ⟨e1, e2, R⟩ := R
    dsimp only at e1 e2 R
    subst e1 e2
    unfold segRun at h
    cases he : endAt B.length ⟨cur, code, pos, st⟩ with
    | some g =>
      rw [he] at h
      obtain ⟨rfl, rfl, rfl, rfl⟩ : g = f ∧ s = s' ∧ code = c' ∧ pos = p' := by simpa using h
      rcases R with ⟨rfl, rfl, x, rfl, rfl⟩ | ⟨rfl, F⟩
      · cases x with
        | pure a =>
          simp only [endAt, Sem.wrap, beq_self_eq_true, Option.some.injEq] at he
          exact ⟨a, he, Far.refl _ _⟩
        | _ => simp [endAt, Sem.wrap] at he
      · have : ((st.length == B.length) = false) := beq_eq_false_iff_ne.mpr (Nat.ne_of_gt F.longer.1)
        simp only [endAt, this] at he
        cases he
    | none =>
      rw [he] at h
      cases hk : stepOk n₀ ann ⟨cur, code, pos, st⟩ with
      | false => rw [hk] at h; cases h
      | true =>
        rw [hk] at h
        cases hs : step (denote table) p w s ⟨cur, code, pos, st⟩ with
        | halt o s₂ => rw [hs] at h; cases h
        | go s₂ t₂ =>
          rw [hs] at h
          have key : stepOk n₀ ann ⟨cur', code, pos, st'⟩ = true ∧ ∃ t₂', step (denote table) p w s ⟨cur', code, pos, st'⟩ = .go s₂ t₂' ∧ Rel2 (fun a => .pure (.done (res a))) K' deadEnd H' gd lv B t₂ t₂' := by
            rcases R with ⟨rfl, rfl, x, rfl, rfl⟩ | ⟨rfl, F⟩
            · have hp : ∀ a, x ≠ .pure a := by
                intro a q
                subst q
                simp [endAt, Sem.wrap] at he
              have hx : ∀ e, x ≠ .raise e := by
                intro e q
                subst q
                obtain ⟨heap, gens, drawn, toks, os⟩ := s
                simp [Sem.wrap, step] at hs
              exact ⟨(okOuter (K' := K') (H' := H') hp hx hk).1, step_outer hB hp hs⟩
            · exact ⟨(okInner hB F hk).1, step_inner hB F hs⟩
          obtain ⟨k1, t₂', k3, R'⟩ := key
          have far := far_step hr k1 k3
          obtain ⟨a, ha, hN⟩ := ih s₂ t₂ t₂' f s' c' p' (asleep_far hr far) R' h
          exact ⟨a, ha, far.trans hN⟩
theorem runNI_next {den : Code → Sem Fin} : ∀ {k : Nat} {s s₂ s₃ : Shared} {t t₂ t₃ : Thread}, runNI den p w k s t = .running s₂ t₂ → runNI den p w (k + 1) s t = .running s₃ t₃ → stepI den p w s₂ t₂ = .go s₃ t₃ := by
  intro k
  induction k with
  | zero =>
    intro s s₂ s₃ t t₂ t₃ h h'
    obtain ⟨rfl, rfl⟩ : s = s₂ ∧ t = t₂ := by simpa [runNI] using h
    simp only [runNI] at h'
    cases hs : stepI den p w s t with
    | go s₄ t₄ => rw [hs] at h'; simp only [Run.running.injEq] at h'; rw [h'.1, h'.2]
    | halt o s₄ => rw [hs] at h'; simp at h'
  | succ k ih =>
    intro s s₂ s₃ t t₂ t₃ h h'
    rw [runNI] at h h'
    cases hs : stepI den p w s t with
    | go s₄ t₄ => rw [hs] at h h'; exact ih h h'
    | halt o s₄ => rw [hs] at h; simp at h
theorem calm_of_go {den : Code → Sem Fin} {s s' : Shared} {t t' : Thread} (h : stepI den p w s t = .go s' t') : t.calm = true := by
  rw [Thread.calm_eq]
  cases hl : t.loud with
  | true => rw [stepI_loud den p w hl] at h; cases h
  | false =>
    cases hr : t.refused with
    | false => rfl
    | true =>
      rw [stepI_quiet den p w hl] at h
      obtain ⟨what, e⟩ := stepK_refused den p w (s := s) hr
      rw [e] at h; cases h
theorem runN_next {den : Code → Sem Fin} : ∀ {k : Nat} {s s₂ s₃ : Shared} {t t₂ t₃ : Thread}, runN den p w k s t = .running s₂ t₂ → runN den p w (k + 1) s t = .running s₃ t₃ → step den p w s₂ t₂ = .go s₃ t₃ := by
  intro k
  induction k with
  | zero =>
    intro s s₂ s₃ t t₂ t₃ h h'
    obtain ⟨rfl, rfl⟩ : s = s₂ ∧ t = t₂ := by simpa [runN] using h
    simp only [runN] at h'
    cases hs : step den p w s t with
    | go s₄ t₄ => rw [hs] at h'; simp only [Run.running.injEq] at h'; rw [h'.1, h'.2]
    | halt o s₄ => rw [hs] at h'; simp at h'
  | succ k ih =>
    intro s s₂ s₃ t t₂ t₃ h h'
    rw [runN] at h h'
    cases hs : step den p w s t with
    | go s₄ t₄ => rw [hs] at h h'; exact ih h h'
    | halt o s₄ => rw [hs] at h; simp at h
theorem runN_life_go {den : Code → Sem Fin} : ∀ {n : Nat} {s s' : Shared} {t t' : Thread}, runN den p w n s t = .running s' t' → s'.heap.life = s.heap.life := by
  intro n
  induction n with
  | zero => intro s s' t t' h; obtain ⟨rfl, rfl⟩ : s = s' ∧ t = t' := by simpa [runN] using h
            rfl
  | succ n ih =>
    intro s s' t t' h
    rw [runN] at h
    cases hs : step den p w s t with
    | go s₄ t₄ => rw [hs] at h; exact (ih h).trans (step_life den p w s s₄ t t₄ hs)
    | halt o s₄ => rw [hs] at h; simp at h
/-- the runs that the logic shows are real runs -/
theorem runN_of {n : Nat} {s s' : Shared} {t t' : Thread} (hr : s.asleep) (h : runNI (denote table) p w n s t = .running s' t') :
    ∃ σ tau, schedN (denote table) p w n (.single s t) = .running (.single σ tau) ∧ runN (denote table) p w n s t = .running σ tau ∧ σ.forget = s'.forget ∧ tau.forget = t'.forget := by
  obtain ⟨σ, tau, h1, h2, h3⟩ := runNI_running_real h
  refine ⟨σ, tau, ?_, h1, h2, h3⟩
  rw [schedN_prefix (denote table) p w n s t hr fun k s₁ t₁ hk hrun => ?_, h1]
  · rfl
  · obtain ⟨s₂, t₂, e2⟩ := runNI_prefix (Nat.le_of_lt hk) h
    obtain ⟨s₃, t₃, e3⟩ := runNI_prefix (Nat.succ_le_of_lt hk) h
    obtain ⟨σ₂, tau₂, r2, f2, g2⟩ := runNI_running_real e2
    obtain ⟨σ₃, tau₃, r3, _, _⟩ := runNI_running_real e3
    rw [r2] at hrun
    obtain ⟨rfl, rfl⟩ : σ₂ = s₁ ∧ tau₂ = t₁ := by simpa using hrun
    constructor
    · rw [← Thread.calm_forget tau₂, g2, Thread.calm_forget]
      exact calm_of_go (runNI_next e2 e3)
    · rw [runN_next r2 r3]; nofun
/-- a value that the logic shows, on the real machine -/
theorem wp_far {A : Around} {m : Sem Value} {f : Value → Sem Fin} {c : Code} {pos q : Pos} {s : Shared} {Q : Value → Shared → Prop} (hr : s.asleep) (hA : (Ctx.of c [topFrame q]).In A) (h : wpAny (model p w) A m Q (fun _ _ => False) s)
    (hQ : ∀ v s', Q v s' → s'.gens = #[] ∧ s'.os = s.os ∧ ∀ b o, b < n₀ → b ≠ mainNs → b ≠ cStatics → ann ≠ some (.ref b) → s.heap.get? b = some o → s'.heap.get? b = some o) :
    ∃ v s' p' κ, Q v s' ∧ Far p w n₀ ann s ⟨m.bind f, c, pos, [topFrame q]⟩ s' ⟨f v, c, p', [.ret topAfter none false [] (.builtin "claim.caller" {}) q κ]⟩ := by
  obtain ⟨s', p', t', ⟨n, hn⟩, ht⟩ := wp_comes_bind (Ctx.fits_of c [topFrame q]) f m _ _ pos s (h _ pos hA)
  rcases ht with ⟨v, rfl, hv⟩ | ⟨e, _, he⟩
  · obtain ⟨hg, hos, hk⟩ := hQ v s' hv
    obtain ⟨σ, tau, h1, h2, h3, h4⟩ := runN_of hr hn
    obtain rfl : σ = s' := Shared.eq_of_forget_eq h3 hg
    have hl := runN_life_go h2
    obtain ⟨cur, code, pos', stack⟩ := tau
    simp only [Thread.forget, Thread.mk.injEq] at h4
    obtain ⟨e1, e2, e3, e4⟩ := h4
    subst e1 e2 e3
    have hst : ∃ κ, stack = [.ret topAfter none false [] (.builtin "claim.caller" {}) q κ] := by
      cases stack with
      | nil => simp at e4
      | cons F st =>
        simp only [forgetAll_cons, forgetAll_nil, List.cons.injEq] at e4
        obtain ⟨e4, e5⟩ := e4
        cases st with
        | cons G st => simp at e5
        | nil =>
          cases F with
          | gen => simp [Frame.forget] at e4
          | ret k h g l c₀ q' kp =>
            simp only [Frame.forget, Frame.ret.injEq, and_true] at e4
            obtain ⟨rfl, rfl, rfl, rfl, rfl, rfl⟩ := e4
            exact ⟨kp, rfl⟩
    obtain ⟨κ, rfl⟩ := hst
    exact ⟨v, σ, _, κ, hv, ⟨⟨n, h1⟩, hl, hos, hk⟩⟩
  · exact he.elim
end
end
section
open PySem PySem.W PySem.Calls PyProof.Rows
set_option maxRecDepth 100000
/-- what the top comes to, in a world: a run from the boot's end, and the looks at its end -/
noncomputable def Tops (p q : Program) (loose : List Str) (Xt : Shared → Bool) (YP : World → Heap → Prop) (H₀ : Params → Heap) (d₀ : Drawn) (k₀ n₀ : Nat) (ann : Option Value) : Prop :=
  ∀ (w : World) (os : OsState), (Shared.mk (H₀ w.params) #[] d₀ k₀ os).asleep → ∃ s₁ t₁, Far p w n₀ ann ⟨H₀ w.params, #[], d₀, k₀, os⟩ (topStub p) s₁ t₁ ∧ through t₁ = true ∧
    (staticsOk (importedModules p.main.body) (H₀ w.params) s₁.heap && namesBound p s₁.heap && gensDone s₁ && laidKept (H₀ w.params) s₁.heap) = true ∧
    openSeen q loose (importedModules p.main.body) Xt true s₁ = openGood q loose ∧ YP w s₁.heap
section
variable {p q : Program} {loose : List Str} {Xt : Shared → Bool} {XP : (Str → Option Value) → Heap → Prop} {YP : World → Heap → Prop} {H₀ : Params → Heap} {d₀ : Drawn} {k₀ n₀ N : Nat} {ann : Option Value}
theorem tops_behind (boot : ∀ w : World, (fencedOpening treeTable p w N).map (fun s => (s.heap, s.gens, s.drawn, s.toks)) = some (H₀ w.params, #[], d₀, k₀))
    (size : ∀ w : World, (H₀ w.params).isNs mainGlobals = true ∧ (H₀ w.params).objs.size = n₀ ∧ (H₀ w.params).nsMap mainGlobals "__annotations__" = ann)
    (top : Tops p q loose Xt YP H₀ d₀ k₀ n₀ ann) (hX : ∀ s, Xt s = true → XP (s.heap.nsMap mainGlobals) s.heap) (hch : chainsOk q = true) (w : World) :
    (∃ s, AfterRun (opening p) w s) ∧ ∀ s, AfterRun (opening p) w s → ∃ s₀, fenceModules? p s = some s₀ ∧ s₀.gens = #[] ∧ ∃ s₁, TopRan p w s₀ s₁ ∧ s₁.asleep ∧ s₁.gens = #[] ∧ s₁.heap.isNs mainGlobals = true ∧
      Ground q loose [] XP w s₁ (s₁.heap.nsMap mainGlobals) (s₁.heap.nsMap builtinsNs) s₁.heap ∧ YP w s₁.heap := by
  have b := boot w
  rw [← table_eq_tree] at b
  obtain ⟨s₀, h2, e⟩ := Option.map_eq_some_iff.mp b
  obtain ⟨s, h4, h5⟩ := Option.bind_eq_some_iff.mp h2
  have A := AfterImport.of_importEnds h4
  refine ⟨⟨s, A⟩, fun s' hs' => ?_⟩
  obtain rfl : s' = s := AfterImport.unique hs' A
  have z : s₀.asleep := Shared.asleep_of_life (fence_lifeW h5) A.life
  obtain ⟨hp, gs, dr, tk, os⟩ := s₀
  obtain ⟨rfl, rfl, rfl, rfl⟩ : hp = H₀ w.params ∧ gs = #[] ∧ dr = d₀ ∧ tk = k₀ := by simpa using e
  obtain ⟨s₁, t₁, ⟨⟨m, hm⟩, l, o, fr⟩, th, hs, seen, y⟩ := top w os z
  obtain ⟨hg, hn, ha⟩ := size w
  obtain ⟨hs, hlk⟩ := Bool.and_eq_true_iff.mp hs
  obtain ⟨hs, hgd⟩ := Bool.and_eq_true_iff.mp hs
  obtain ⟨hs, hnb⟩ := Bool.and_eq_true_iff.mp hs
  obtain ⟨G, g0, g1, g2, g3, g4, g5⟩ := ground_of_open (w := w) hX hch seen
  refine ⟨_, h5, rfl, s₁, ⟨⟨m, t₁, hm, th⟩, l, Shared.rest_eq o, fun b ob hb own => ?_, g2, statics_of_ok hs, g3, g4, g5, gens_of_done hgd, names_of_bound hnb, laid_of_kept hlk⟩, Shared.asleep_of_life l z,
    Array.eq_empty_of_size_eq_zero (beq_iff_eq.mp (by simpa using g0)), g1, G, y⟩
  exact fr b ob (hn ▸ Heap.lt_size hb) (fun q => own (.inl q)) (fun q => own (.inr (.inl q))) (fun q => own (.inr (.inr ((Pin.globalOf_eq hg _).trans (ha.trans q))))) hb
/-- a law's row holds, its top by hand, its body by the walk -/
theorem holds_tops {r : OpenRow} {d : DefRec} {kwd : List (Str × Expr)} (boot : ∀ w : World, (fencedOpening treeTable r.prog w N).map (fun s => (s.heap, s.gens, s.drawn, s.toks)) = some (H₀ w.params, #[], d₀, k₀))
    (size : ∀ w : World, (H₀ w.params).isNs mainGlobals = true ∧ (H₀ w.params).objs.size = n₀ ∧ (H₀ w.params).nsMap mainGlobals "__annotations__" = ann)
    (top : Tops r.prog q loose Xt YP H₀ d₀ k₀ n₀ ann) (hYk : ∀ w h h', YP w h → (∀ b o, h.get? b = some o → h'.get? b = some o) → YP w h')
    (hX : ∀ s, Xt s = true → XP (s.heap.nsMap mainGlobals) s.heap) (hXk : ∀ mg h h', XP mg h → (∀ b o, h.get? b = some o → h'.get? b = some o) → XP mg h')
    (hdef : defOf q r.name = some (d, kwd)) (hp : r.prog.theDef r.name = some (d.params, d.body, d.scope)) (hk : kwWritten? d.params.kwonlyargs d.params.kw_defaults = some kwd) (hrec : r.records = [])
    (k1 : r.wellSaid = true) (ok : (chainsOk q && opensWell r.prog && (frees r.toRowW && r.within.isEmpty)) = true) (hb : r.prog.bare) (hw : r.toRowW.promised)
    (call : WalkO q loose XP YP r.toRowW d kwd fun f vs => PySem.call f vs) : r.Holds := by
  obtain ⟨ok, k5⟩ := Bool.and_eq_true_iff.mp ok
  obtain ⟨hch, o1⟩ := Bool.and_eq_true_iff.mp ok
  obtain ⟨k5, k6⟩ := Bool.and_eq_true_iff.mp k5
  obtain ⟨hsame, hu, ha, hap, hm⟩ := frees_parts k5
  have hwi : r.claim.within = [] := List.isEmpty_iff.mp k6
  have hi := ident_freeW (r := r.toRowW) hu ha hap
  refine ⟨k1, hw, ⟨hb, o1, by show r.makers.map _ = []; rw [hm]; rfl⟩, hw.witness, fun w => ?_⟩
  obtain ⟨ex, beh⟩ := tops_behind boot size top hX hch w
  refine ⟨ex, fun s' hs' => ?_⟩
  obtain ⟨s₀, hf, hg0, s, hT, hz, hgens, hg, G0, y⟩ := beh s' hs'
  have RF : RecFacts r.toRowW.records s.heap := recFacts_nil hrec
  have G : Ground q loose r.toRowW.records XP w s _ _ s.heap := RF.ground G0
  refine ⟨s₀, hf, hg0, s, hT, fun n hn => ?_, RF.1, RF.2.1, ClaimW.callFrom_of_specG (c := r.claim) hz hgens fun args hpre hlay ord hord => ?_⟩
  · obtain rfl : n = r.name := by split at hn <;> simp_all
    exact pinned_of_view hg G0 hdef hp hk
  · obtain ⟨⟨vs, s₁⟩, hlaid⟩ := Option.isSome_iff_exists.mp (layAllW_isSome (P := w.params) (ord := ord) G.has args r.args s (pre_splitW hpre).1)
    have keeps := layAllW_keeps _ _ _ hlaid
    have hal := layAllW_rest _ _ _ hlaid
    obtain ⟨as, hrd, hin, hold⟩ := reads_layAllW hord _ _ _ hlaid hlay s₁.heap (fun _ _ e => e)
    have L : Laid r.toRowW.records w s s₁ args vs as := ⟨⟨ord, hord, hlaid⟩, hrd, hin, hold, keeps, hal.1.trans hgens, hal.2.2.1⟩
    have G₁ := G.keeps hXk keeps
    obtain ⟨a, o, pm, cd, doc, dV, kV, h1, h2, h3, h4, h5⟩ := G₁.fn hdef
    have wk := call w s s₁ _ _ G₁ (hYk _ _ _ y keeps) a o pm cd doc dV kV h2 h3 h4 h5 (defOf_name hdef ▸ h1) L.gens args vs as hpre hlay L.reads L.well (L.low G.low)
    have fin : ∀ (r' : Result) (s' : Shared), GoodWG r.claim (classAt s.heap) (ExcName.means s.heap) args s₁ r' s' → r.claim.Ends s args vs s₁ r' s' ∧ s'.os = s.os ∧ AllBare s'.gens ∧
        (r.writes = true → namesKept r.prog r.keeps s.heap s'.heap ∧ ∀ x ∈ r.claim.records, ∀ a, classAt s.heap x.1 = some a → recordClass s'.heap a x.1 (x.2.map (·.1)) = true) := fun r' s' g => by
      have z := g.laid (c := r.claim) hsame hwi hi L
      exact ⟨z.1, z.2.1, z.2.2, fun _ => ⟨namesKept_of hT hg r.keeps keeps g.2.1.old, fun x hx => by rw [show r.claim.records = [] from hrec] at hx; cases hx⟩⟩
    refine ⟨vs, s₁, hlaid, ?_⟩
    refine wpAny_bind (wpAny_nsGet G₁.T.g ?_)
    rw [h1]
    refine wpAny_bind (wpAny_mono wk (fun v s' g => wpAny_pure ⟨_, rfl, fin _ _ g⟩) fun e s' g => fin _ _ g)
end
end
section
open PySem PySem.W PySem.Calls PyProof.Rows
set_option maxRecDepth 100000
noncomputable abbrev pr (pos : Pos) (e : Int × Str) : Sem Value × Sem Value := (mkInt e.1, do let x ← mkText e.2; standAt pos; pure x)
noncomputable def txt : Value → Option Str
  | .str x _ => some x
  | _ => none
noncomputable def SameKV (kvs : List (Int × Value)) (es : List (Int × Str)) : Prop := kvs.map (fun x => (x.1, txt x.2)) = es.map fun e => (e.1, some e.2)
theorem SameKV.len {kvs : List (Int × Value)} {es : List (Int × Str)} (h : SameKV kvs es) : kvs.length = es.length := by
  have := congrArg List.length h
  simpa using this
theorem SameKV.keys {kvs : List (Int × Value)} {es : List (Int × Str)} (h : SameKV kvs es) : kvs.map (·.1) = es.map (·.1) := by
  have := congrArg (List.map Prod.fst) h
  rw [List.map_map, List.map_map] at this
  exact this
theorem SameKV.nil : SameKV [] [] := rfl
theorem SameKV.cons {kvs : List (Int × Value)} {es : List (Int × Str)} {k : Int} {x : Str} {t : Tok} (h : SameKV kvs es) : SameKV ((k, .str x t) :: kvs) ((k, x) :: es) := by
  unfold SameKV at h ⊢
  rw [List.map_cons, List.map_cons, h]; rfl
theorem SameKV.app {a b : List (Int × Value)} {x y : List (Int × Str)} (h : SameKV a x) (h' : SameKV b y) : SameKV (a ++ b) (x ++ y) := by
  unfold SameKV at h h' ⊢
  simp only [List.map_append]; rw [h, h']
section
variable {prog : Program} {w : World} {A : Around} {E : Value → Shared → Prop}
theorem wp_mkInt {i : Int} {s : Shared} {Q : Value → Shared → Prop} (h : Q (.int i s.toks) { s with toks := s.toks + 1 }) : wpAny (model prog w) A (mkInt i) Q E s := fun _ _ _ => h
theorem wp_mkText {x : Str} {s : Shared} {Q : Value → Shared → Prop} (h : Q (.str x s.toks) { s with toks := s.toks + 1 }) : wpAny (model prog w) A (mkText x) Q E s := fun _ _ _ => h
theorem wp_second {pos : Pos} {e : Int × Str} {s : Shared} {Q : Value → Shared → Prop} (h : Q (.str e.2 s.toks) { s with toks := s.toks + 1 }) : wpAny (model prog w) A (pr pos e).2 Q E s :=
  wpAny_bind (wp_mkText (wpAny_bind (wpAny_standAt (wpAny_pure h))))
theorem int_is (i : Int) (t : Tok) : (intKind prog w).is i (.int i t) = true := by simp [intKind, Value.isInt]
theorem loop_long {d : Addr} {pos : Pos} : ∀ (es : List (Int × Str)) (acc : List (Int × Value)) (s : Shared) (Q : PUnit → Shared → Prop), s.heap.DictOf (intKind prog w) d acc → acc.length + es.length ≤ sizeLine →
    (∀ kvs h', SameKV kvs es → h'.DictOf (intKind prog w) d (merged acc kvs) → Heap.SameBut d s.heap h' → Q PUnit.unit { s with heap := h', toks := s.toks + 3 * es.length }) →
    wpAny (model prog w) A (forIn (es.map (pr pos)) PUnit.unit fun (x : Sem Value × Sem Value) (_ : PUnit) => (do
      let kv ← x.1
      let vv ← holding [kv] x.2
      holding [kv, vv] (dictSet d kv vv)
      pure (ForInStep.yield PUnit.unit) : Sem (ForInStep PUnit))) Q E s
  | [], acc, s, Q, hm, _, hQ => by
    rw [List.map_nil, List.forIn_nil]
    exact wpAny_pure (by simpa [merged] using hQ [] s.heap rfl (by simpa [merged] using hm) (Heap.SameBut.refl _ _))
  | e :: es, acc, s, Q, hm, hl, hQ => by
    rw [List.map_cons, List.forIn_cons]
    rw [List.length_cons] at hl
    refine wpAny_bind (wpAny_bind (wp_mkInt (wpAny_bind (wpAny_holding (wp_second ?_)))))
    refine wpAny_bind (wpAny_holding (wpAny_dictSet_pairs (knd := intKind prog w) (hsz := by omega) (int_is _ _) hm fun h₁ hm₁ hs₁ => wpAny_pure ?_))
    refine loop_long es _ _ Q hm₁ (by have := stored_length_le acc e.1 (.str e.2 (s.toks + 1)); dsimp only; omega) fun kvs h' hk hm' hs' => ?_
    have := hQ ((e.1, .str e.2 (s.toks + 1)) :: kvs) h' (hk.cons) (by simpa [merged] using hm') (hs₁.trans hs')
    have e3 : s.toks + 1 + 1 + 1 + 3 * es.length = s.toks + 3 * (es.length + 1) := by omega
    simp only [e3]
    simpa using this
theorem eval_pairs {pos : Pos} : ∀ (es : List (Int × Str)) (s : Shared) (Q : List (Value × Value) → Shared → Prop), (∀ vs kvs, SameKV kvs es → Carries (intKind prog w) vs kvs → vs.length = es.length → Q vs { s with toks := s.toks + 2 * es.length }) →
    wpAny (model prog w) A (evalPairs (es.map (pr pos))) Q E s
  | [], s, Q, hQ => evalPairs_nil (by simpa using hQ [] [] rfl trivial rfl)
  | e :: es, s, Q, hQ => by
    rw [List.map_cons]
    refine evalPairs_cons (wp_mkInt (wp_second ?_))
    refine eval_pairs es _ _ fun vs kvs hk hc hv => ?_
    have := hQ ((.int e.1 s.toks, .str e.2 (s.toks + 1)) :: vs) ((e.1, .str e.2 (s.toks + 1)) :: kvs) hk.cons ⟨int_is _ _, rfl, hc⟩ (by simp [hv])
    have e3 : s.toks + 1 + 1 + 2 * es.length = s.toks + 2 * (es.length + 1) := by omega
    simp only [e3]
    simpa using this
/-- a part of a dict display, as a dict of its own -/
theorem sub_dict {pos : Pos} {es : List (Int × Str)} {s : Shared} {Q : Addr → Shared → Prop} (hl : es.length ≤ 17) 
    (hQ : ∀ kvs h', SameKV kvs es → h'.DictOf (intKind prog w) s.heap.objs.size (merged [] kvs) → h'.objs.size = s.heap.objs.size + 1 → (∀ b, b ≠ s.heap.objs.size → h'.get? b = s.heap.get? b) → Q s.heap.objs.size { s with heap := h', toks := s.toks + 3 * es.length }) :
    wpAny (model prog w) A (subDict (es.map (pr pos))) Q E s := by
  unfold subDict
  refine wpAny_bind (wpAny_alloc ?_)
  refine wpAny_bind (wpAny_holding ?_)
  have hz : (0 : Nat) + es.length ≤ sizeLine := by rw [sizeLine_eq]; omega
  have new : (s.heap.push { cls := .type "dict", data := .dict #[] }).DictOf (intKind prog w) s.heap.objs.size [] := Heap.DictOf.new (knd := intKind prog w) s.heap
  have fin : ∀ kvs h', SameKV kvs es → h'.DictOf (intKind prog w) s.heap.objs.size (merged [] kvs) → Heap.SameBut s.heap.objs.size (s.heap.push { cls := .type "dict", data := .dict #[] }) h' → Q s.heap.objs.size { s with heap := h', toks := s.toks + 3 * es.length } := fun kvs h' a b c => by
    refine hQ kvs h' a b ?_ fun x hx => ?_
    · rw [c.1]; simp [Heap.push]
    · rw [c.2 x hx, Heap.get?_push_ne _ _ _ hx]
  split
  · refine wpAny_bind (eval_pairs es _ _ fun vs kvs hk hc hv => ?_)
    refine wpAny_holding ?_
    refine wpAny_bind (wpAny_storeAll (knd := intKind prog w) vs kvs [] _ _ hc new (by rw [sizeLine_eq, List.length_nil, hk.len]; omega) fun h' hm' hs' => wpAny_pure (wpAny_pure ?_))
    have := fin kvs h' hk hm' hs'
    rw [hv]
    have e3 : s.toks + 2 * es.length + es.length = s.toks + 3 * es.length := by omega
    simp only [e3]
    exact this
  · refine wpAny_bind (wpAny_rule ?_)
    refine wpAny_bind (wpAny_mono (loop_long es [] _ (fun _ s' => Q s.heap.objs.size s') new hz fun kvs h' a b c => fin kvs h' a b c) (fun _ s' h => wpAny_pure (wpAny_pure h)) fun _ _ e => e)
theorem put_pairs {d : Addr} {kvs : List (Int × Value)} {k : Int} {key v : Value} {s : Shared} {Q : Unit → Shared → Prop} (hkey : (intKind prog w).is k key = true) (hm : s.heap.DictOf (intKind prog w) d kvs) (hf : k ∉ kvs.map (·.1)) (hsz : kvs.length ≤ sizeLine)
    (hQ : ∀ h', h'.DictOf (intKind prog w) d (kvs ++ [(k, v)]) → Heap.SameBut d s.heap h' → Q () { s with heap := h' }) :
    wpAny (model prog w) A (dictPut d ((intKind prog w).hash k) key v) Q E s := by
  obtain ⟨o, es, ep, ho, hc, hd, hk, hp, hn⟩ := hm
  have hes : es.size ≤ sizeLine := by
    have e1 := hp.length
    have e2 : es.toList.length = es.size := by simp
    omega
  have hidx : (es.findIdx? fun e => (intKind prog w).is k e.key) = none := by
    have h1 : (es.findIdx? fun e => (intKind prog w).is k e.key) = kvs.findIdx? fun kv => decide (kv.1 = k) := by
      rw [← hp.findIdx k]; obtain ⟨l⟩ := es; simp
    rw [h1, List.findIdx?_eq_none_iff]
    intro x hx
    exact decide_eq_false fun q => hf (q ▸ List.mem_map_of_mem hx)
  unfold dictPut
  refine wpAny_bind (wpAny_dictFind_of hkey ho hd hk ?_)
  rw [hidx]
  refine wpAny_updateDictKeys (hz := hes) ho hd (hQ _ ⟨_, _, ep + 1, Heap.get?_update_self _ ho (Obj.isFreed_of_dict (Obj.data_mapDictKeys hd _)), hc.mapDictKeys _, Obj.data_mapDictKeys hd _, hk.push hkey _, ?_, ?_⟩ (Heap.SameBut.update ..))
  · have := hp.append hkey ((intKind prog w).hash k) v
    obtain ⟨l⟩ := es
    simpa using this
  · rw [List.map_append, List.nodup_append]
    refine ⟨hn, by simp, ?_⟩
    intro a ha b hb
    simp only [List.map_cons, List.map_nil, List.mem_singleton] at hb
    subst hb
    exact fun e => hf (e ▸ ha)
theorem merge_parts {d a : Addr} {kvs more : List (Int × Value)} {s : Shared} {Q : Unit → Shared → Prop} (hda : d ≠ a) (haS : (a == sysModules) = false) (hne : kvs ≠ []) (hd : s.heap.DictOf (intKind prog w) d kvs) (ha : s.heap.DictOf (intKind prog w) a more)
    (hn : ((kvs ++ more).map (·.1)).Nodup) (hsz : kvs.length + more.length ≤ sizeLine)
    (hQ : ∀ h', h'.DictOf (intKind prog w) d (kvs ++ more) → Heap.SameBut d s.heap h' → Q () { s with heap := h' }) :
    wpAny (model prog w) A (mergeMapping d (.ref a) false) Q E s := by
  obtain ⟨od, esd, epd, hod, hcd, hdd, hkd, hpd, hnd⟩ := id hd
  obtain ⟨oa, esa, epa, hoa, hca, hda', hka, hpa, hna⟩ := id ha
  unfold mergeMapping
  refine wpAny_bind (wpAny_isInstance ha.typeIs isSubtype_dict_dict ?_)
  simp only [if_true]
  refine wpAny_bind (wpAny_specialOf ha.typeIs F.slot_dict_iter.lookup (wpAny_bind (wpAny_pure ?_)))
  rw [show (some (Value.builtin "dict.__iter__") == some (Value.builtin "dict.__iter__")) = true from by simp]
  simp only [haS, Bool.false_eq_true, if_false]
  refine wpAny_bind (wpAny_dictEntries hod hdd ?_)
  have hemp : esd.isEmpty = false := by
    cases h : esd.isEmpty with
    | false => rfl
    | true =>
      have h0 : esd = #[] := Array.isEmpty_iff.mp h
      have := hpd.length
      rw [h0] at this
      exact absurd (List.length_eq_zero_iff.mp (by simpa using this.symm)) hne
  simp only [hemp, Bool.false_eq_true, if_false]
  refine wpAny_bind (wpAny_dictEntries hoa hda' ?_)
  refine wpAny_bind (wpAny_dictEpoch hoa hda' ?_)
  refine wpAny_bind ?_
  have hlen : more.length = esa.size := by rw [← hpa.length]; simp
  rw [List.range_eq_range']
  refine wpAny_forIn_list _ (fun rest _ s' => ∃ h' i, s' = { s with heap := h' } ∧ rest = List.range' i (esa.size - i) ∧ i ≤ esa.size ∧ h'.DictOf (intKind prog w) d (kvs ++ more.take i) ∧ h'.get? a = some oa ∧ Heap.SameBut d s.heap h')
    _ ?_ ?_ _ _ ⟨s.heap, 0, rfl, by simp, Nat.zero_le _, by simpa using hd, hoa, Heap.SameBut.refl _ _⟩
  · intro i rest b s' hI
    obtain ⟨h', j, rfl, hr, hj, hd', hoa', hs'⟩ := hI
    have hlt : j < esa.size := by
      rcases Nat.lt_or_ge j esa.size with h | h
      · exact h
      · rw [Nat.sub_eq_zero_of_le h] at hr; simp at hr
    have e : esa.size - j = (esa.size - (j + 1)) + 1 := by omega
    rw [e, List.range'_succ] at hr
    injection hr with h1 hrest
    subst h1
    refine wpAny_bind (wpAny_dictEntries hoa' hda' ?_)
    rw [Array.getElem?_eq_getElem hlt]
    obtain ⟨kv, hkv⟩ : ∃ kv, more[i]? = some kv := ⟨more[i]'(by rw [hlen]; exact hlt), List.getElem?_eq_getElem _⟩
    obtain ⟨k, v⟩ := kv
    obtain ⟨hkey, hval⟩ := hpa.get? (e := esa[i]) (by simp [hlt]) hkv
    obtain ⟨k', hkey', hhash⟩ := hka esa[i] (Array.getElem_mem hlt)
    obtain rfl : k' = k := (intKind prog w).inj _ _ _ hkey' hkey
    dsimp only
    rw [hhash, hval]
    have htk : more.take (i + 1) = more.take i ++ [(k', v)] := by rw [List.take_add_one, hkv]; rfl
    have hfresh : k' ∉ (kvs ++ more.take i).map (·.1) := by
      have h2 : ((kvs ++ more.take i) ++ [(k', v)] ++ more.drop (i + 1)) = kvs ++ more := by
        rw [List.append_assoc, List.append_assoc, ← List.append_assoc (more.take i), ← htk, List.take_append_drop]
      rw [← h2, List.map_append, List.map_append] at hn
      have h3 := (List.nodup_append.mp (List.nodup_append.mp hn).1).2.2
      intro q
      exact h3 _ q k' (by simp) rfl
    have hmx : (kvs ++ more.take i).length ≤ sizeLine := by
      rw [List.length_append, List.length_take]; omega
    refine wpAny_bind (wpAny_holding (put_pairs hkey hd' hfresh hmx fun h'' hd'' hs'' => ?_))
    have hoa'' : h''.get? a = some oa := (hs''.2 a (Ne.symm hda)).trans hoa'
    refine wpAny_bind (wpAny_dictEpoch hoa'' hda' ?_)
    rw [if_neg (by simp)]
    refine wpAny_pure ⟨h'', i + 1, rfl, hrest, hlt, ?_, hoa'', hs'.trans hs''⟩
    rw [htk, ← List.append_assoc]; exact hd''
  · intro b s' hI
    obtain ⟨h', j, rfl, hr, hj, hd', hoa', hs'⟩ := hI
    have hin : j = esa.size := by
      rcases Nat.lt_or_ge j esa.size with h | h
      · have e : esa.size - j = (esa.size - (j + 1)) + 1 := by omega
        rw [e, List.range'_succ] at hr; cases hr
      · omega
    rw [hin, ← hlen, List.take_length] at hd'
    exact wpAny_pure (hQ h' hd' hs')
end
end
section
open PySem PySem.W PySem.Calls PyProof.Rows
set_option maxRecDepth 100000
section
variable {prog : Program} {w : World} {A : Around} {E : Value → Shared → Prop}
noncomputable def flushS (run : List (Sem Value × Sem Value)) (main : Option Addr) : Sem (Option Addr) :=
  if run.isEmpty = true then pure main
  else match main with
    | none => do
      let d ← subDict run
      pure (some d)
    | some d => do
      let sub ← holding [Value.ref d] (subDict run)
      (holding [Value.ref d, Value.ref sub] (mergeMapping d (Value.ref sub) false)).onRaise fun x => do
        let _ ← holding [Value.ref d, x] (runValue (Code.builtin "proto.let_go" {}))
        pure ()
      pure (some d)
/-- what stands when so many entries are laid -/
noncomputable def Laid17 (prog : Program) (w : World) (s₀ : Shared) (acc : List (Int × Str)) (main : Option Addr) (n : Nat) (s : Shared) : Prop :=
  ∃ h', s = { s₀ with heap := h', toks := s₀.toks + 3 * acc.length } ∧ h'.objs.size = s₀.heap.objs.size + n ∧ (∀ b, b < s₀.heap.objs.size → h'.get? b = s₀.heap.get? b) ∧
    ((main = none ∧ acc = [] ∧ n = 0) ∨ (main = some s₀.heap.objs.size ∧ 1 ≤ n ∧ acc ≠ [] ∧ ∃ kvs, SameKV kvs acc ∧ h'.DictOf (intKind prog w) s₀.heap.objs.size kvs))
theorem flush_one {pos : Pos} {s₀ s : Shared} {acc es : List (Int × Str)} {main : Option Addr} {n : Nat} {Q : Option Addr → Shared → Prop} (hs : sysModules < s₀.heap.objs.size) (hl : Laid17 prog w s₀ acc main n s) (he : es ≠ []) (h17 : es.length ≤ 17)
    (hn : ((acc ++ es).map (·.1)).Nodup) (hz : (acc ++ es).length ≤ sizeLine) (hQ : ∀ s', Laid17 prog w s₀ (acc ++ es) (some s₀.heap.objs.size) (n + 1) s' → Q (some s₀.heap.objs.size) s') :
    wpAny (model prog w) A (flushS (es.map (pr pos)) main) Q E s := by
  obtain ⟨h', rfl, hsz, hold, hm⟩ := hl
  unfold flushS
  have hne : (es.map (pr pos)).isEmpty = false := by
    cases es with
    | nil => exact absurd rfl he
    | cons => rfl
  rw [hne, if_neg Bool.false_ne_true]
  have mn : ∀ kvs : List (Int × Value), SameKV kvs es → merged [] kvs = kvs := fun kvs hk => merged_nil_of_nodup kvs (by rw [hk.keys]; rw [List.map_append] at hn; exact (List.nodup_append.mp hn).2.1)
  rcases hm with ⟨rfl, rfl, rfl⟩ | ⟨rfl, hn1, ha, kvs, hk, hd⟩
  · refine wpAny_bind (sub_dict h17 fun kvs h₂ hk hd hz₂ ho => wpAny_pure ?_)
    dsimp only at hz₂ ho hd ⊢
    have e0 : h'.objs.size = s₀.heap.objs.size := by omega
    rw [e0] at hz₂ ho hd ⊢
    refine hQ _ ⟨h₂, ?_, by omega, fun b hb => (ho b (Nat.ne_of_lt hb)).trans (hold b hb), .inr ⟨rfl, by omega, he, kvs, hk, by rw [mn kvs hk] at hd; exact hd⟩⟩
    simp
  · refine wpAny_bind (wpAny_holding (sub_dict h17 fun more h₂ hk₂ hd₂ hz₂ ho => ?_))
    dsimp only at hz₂ ho hd₂ ⊢
    rw [mn more hk₂] at hd₂
    have hlt : s₀.heap.objs.size < h'.objs.size := by omega
    have hsy : (h'.objs.size == sysModules) = false := beq_eq_false_iff_ne.mpr (Nat.ne_of_gt (Nat.lt_trans hs hlt))
    have hd' : h₂.DictOf (intKind prog w) s₀.heap.objs.size kvs := by
      obtain ⟨o, x, ep, h1, r⟩ := hd
      exact ⟨o, x, ep, (ho _ (Nat.ne_of_lt hlt)).trans h1, r⟩
    have hnn : ((kvs ++ more).map (·.1)).Nodup := by rw [List.map_append, hk.keys, hk₂.keys, ← List.map_append]; exact hn
    have hne' : kvs ≠ [] := by
      intro q
      have := hk.len
      rw [q] at this
      exact ha (List.length_eq_zero_iff.mp (by simpa using this.symm))
    refine wpAny_bind (wpAny_onRaise (wpAny_holding (merge_parts (Nat.ne_of_lt hlt) hsy hne' hd' hd₂ hnn (by rw [hk.len, hk₂.len, ← List.length_append]; exact hz) fun h₃ hd₃ hs₃ => wpAny_pure ?_)))
    have hs31 : h₃.objs.size = h₂.objs.size := hs₃.1
    refine hQ _ ⟨h₃, ?_, by omega, fun b hb => ?_, .inr ⟨rfl, by omega, by simp [ha], kvs ++ more, hk.app hk₂, hd₃⟩⟩
    · simp only [List.length_append, Nat.mul_add, Nat.add_assoc]
    · exact (hs₃.2 b (Nat.ne_of_lt hb)).trans ((ho b (by omega)).trans (hold b hb))
theorem display_loop {pos : Pos} {s₀ : Shared} (hs : sysModules < s₀.heap.objs.size) (f : (Option (Sem Value) × Sem Value) → (Option Addr × List (Sem Value × Sem Value)) → Sem (ForInStep (Option Addr × List (Sem Value × Sem Value))))
    (hf : ∀ (p : Sem Value × Sem Value) (main : Option Addr) (run : List (Sem Value × Sem Value)), f (some p.1, p.2) (main, run) = if ((run ++ [p]).length == 17) = true then (do let main ← flushS (run ++ [p]) main; pure (ForInStep.yield (main, []))) else pure (ForInStep.yield (main, run ++ [p]))) :
    ∀ (items run acc : List (Int × Str)) (main : Option Addr) (n : Nat) (s : Shared) (Q : Option Addr × List (Sem Value × Sem Value) → Shared → Prop), Laid17 prog w s₀ acc main n s → run.length < 17 →
      ((acc ++ run ++ items).map (·.1)).Nodup → (acc ++ run ++ items).length ≤ sizeLine →
      (∀ acc' run' main' s', acc' ++ run' = acc ++ run ++ items → run'.length = (run.length + items.length) % 17 → Laid17 prog w s₀ acc' main' (n + (run.length + items.length) / 17) s' → Q (main', run'.map (pr pos)) s') →
      wpAny (model prog w) A (forIn ((items.map (pr pos)).map fun p => (some p.1, p.2)) (main, run.map (pr pos)) f) Q E s
  | [], run, acc, main, n, s, Q, hl, hr, hn, hz, hQ => by
    rw [List.map_nil, List.map_nil, List.forIn_nil]
    refine wpAny_pure (hQ acc run main s (by simp) (by simp; omega) ?_)
    rw [List.length_nil, Nat.add_zero, Nat.div_eq_of_lt hr, Nat.add_zero]; exact hl
  | e :: items, run, acc, main, n, s, Q, hl, hr, hn, hz, hQ => by
    rw [List.map_cons, List.map_cons, List.forIn_cons, hf]
    have e1 : run.map (pr pos) ++ [pr pos e] = (run ++ [e]).map (pr pos) := by simp
    rw [e1]
    have e2 : ((run ++ [e]).map (pr pos)).length = run.length + 1 := by simp
    rw [e2]
    have e4 : acc ++ run ++ e :: items = acc ++ (run ++ [e]) ++ items := by simp
    rw [e4] at hn hz
    split
    · rename_i h
      have h16 : run.length + 1 = 17 := beq_iff_eq.mp h
      refine wpAny_bind (wpAny_bind (flush_one hs hl (by simp) (by simp; omega) ?_ ?_ fun s' hl' => wpAny_pure ?_))
      · rw [List.map_append] at hn; exact (List.nodup_append.mp hn).1
      · rw [List.length_append] at hz; omega
      · refine display_loop hs f hf items [] (acc ++ (run ++ [e])) _ (n + 1) s' Q hl' (by simp) (by simpa using hn) (by simpa using hz) fun acc' run' main' s'' h1 h2 h3 => ?_
        refine hQ acc' run' main' s'' ?_ ?_ ?_
        · rw [h1]; simp
        · rw [h2]; simp only [List.length_nil, List.length_cons]; omega
        · rw [show n + (run.length + (e :: items).length) / 17 = n + 1 + (([] : List (Int × Str)).length + items.length) / 17 by simp only [List.length_nil, List.length_cons]; omega]
          exact h3
    · rename_i h
      have h16 : ¬ run.length + 1 = 17 := fun q => h (beq_iff_eq.mpr q)
      refine wpAny_bind (wpAny_pure ?_)
      refine display_loop hs f hf items (run ++ [e]) acc main n s Q hl (by simp; omega) hn hz fun acc' run' main' s'' h1 h2 h3 => ?_
      refine hQ acc' run' main' s'' (by rw [h1, e4]) ?_ ?_
      · rw [h2]; simp only [List.length_append, List.length_cons, List.length_nil]; congr 1; omega
      · rw [show n + (run.length + (e :: items).length) / 17 = n + ((run ++ [e]).length + items.length) / 17 by simp only [List.length_append, List.length_nil, List.length_cons]; congr 2; omega]
        exact h3
/-- a dict display of whole numbers and texts, however long -/
theorem display {pos : Pos} {es : List (Int × Str)} {s : Shared} {Q : Value → Shared → Prop} (hs : sysModules < s.heap.objs.size) (he : es ≠ []) (hn : (es.map (·.1)).Nodup) (hz : es.length ≤ sizeLine)
    (hQ : ∀ s' h' kvs, s' = { s with heap := h', toks := s.toks + 3 * es.length } → h'.objs.size = s.heap.objs.size + (es.length + 16) / 17 → (∀ b, b < s.heap.objs.size → h'.get? b = s.heap.get? b) → SameKV kvs es → h'.DictOf (intKind prog w) s.heap.objs.size kvs → Q (.ref s.heap.objs.size) s') :
    wpAny (model prog w) A (dictDisplay ((es.map (pr pos)).map fun p => (some p.1, p.2))) Q E s := by
  unfold dictDisplay
  dsimp only
  refine wpAny_bind (display_loop hs _ (fun _ _ _ => rfl) es [] [] none 0 s _ ⟨s.heap, by simp, rfl, fun _ _ => rfl, .inl ⟨rfl, rfl, rfl⟩⟩ (by simp) (by simpa using hn) (by simpa using hz) fun acc run main s' h1 h2 h3 => ?_)
  simp only [List.nil_append, List.length_nil, Nat.zero_add] at h1 h2 h3
  have fin : ∀ s'' n, Laid17 prog w s es (some s.heap.objs.size) n s'' → n = (es.length + 16) / 17 → Q (.ref s.heap.objs.size) s'' := fun s'' n hl hnn => by
    obtain ⟨h', e, a, b, c⟩ := hl
    rcases c with ⟨c, _⟩ | ⟨_, _, _, kvs, hk, hd⟩
    · cases c
    · exact hQ s'' h' kvs e (by rw [a, hnn]) b hk hd
  by_cases hr : run = []
  · subst hr
    rw [List.append_nil] at h1
    subst h1
    obtain ⟨h', e, a, b, c⟩ := id h3
    rcases c with ⟨_, c, _⟩ | ⟨c, _⟩
    · exact absurd c he
    · subst c
      refine wpAny_bind ?_
      show wpAny (model prog w) A (pure (some s.heap.objs.size)) _ E s'
      refine wpAny_pure (wpAny_pure (fin _ _ h3 ?_))
      simp only [List.length_nil] at h2
      omega
  · refine wpAny_bind ?_
    have hlr : run.length < 17 := by rw [h2]; exact Nat.mod_lt _ (by omega)
    show wpAny (model prog w) A (flushS (run.map (pr pos)) main) _ E s'
    refine flush_one hs h3 hr (by omega) (by rw [h1]; exact hn) (by rw [h1]; exact hz) fun s'' hl => ?_
    refine wpAny_pure (fin _ _ (h1 ▸ hl) ?_)
    have : run.length ≠ 0 := fun q => hr (List.length_eq_zero_iff.mp q)
    omega
end
end
section
open PySem PySem.W PySem.Calls PyProof.Rows
set_option maxRecDepth 100000
section
variable {p : Program} {w : World} {n₀ : Nat} {ann : Option Value} {env : Env}
theorem go_far : ∀ {n : Nat} {s s' : Shared} {t t' : Thread}, s.asleep → topGo table p w n₀ ann n s t = some (s', t') → Far p w n₀ ann s t s' t' := by
  intro n
  induction n with
  | zero => intro s s' t t' _ h; obtain ⟨rfl, rfl⟩ : s = s' ∧ t = t' := by simpa [topGo] using h
            exact Far.refl _ _
  | succ n ih =>
    intro s s' t t' hr h
    unfold topGo at h
    cases ht : through t with
    | true => rw [ht] at h; cases h
    | false =>
      rw [ht] at h
      cases hk : stepOk n₀ ann t with
      | false => rw [hk] at h; cases h
      | true =>
        rw [hk] at h
        cases hs : step (denote table) p w s t with
        | halt o s₂ => rw [hs] at h; cases h
        | go s₂ t₂ =>
          rw [hs] at h
          have far := far_step hr hk hs
          exact far.trans (ih (asleep_far hr far) h)
noncomputable abbrev frameK (q : Pos) (κ : List Value) : Frame := .ret topAfter none false [] (.builtin "claim.caller" {}) q κ
theorem block_far {n : Nat} {s s' : Shared} {b : List Stmt} {c : Code} {pos p' q : Pos} {κ : List Value} (hr : s.asleep) (h : segRun table p w n₀ ann 1 n s (blockOf b env c pos [frameK q κ]) = some (.next, s', c, p')) :
    Far p w n₀ ann s ⟨denote table (.body b env), c, pos, [frameK q κ]⟩ s' (restOf b env c p' [frameK q κ]) := by
  obtain ⟨a, _, far⟩ := seg_far (res := fun _ : Unit => Flow.next) (K' := fun _ => (execs b env).wrap doneF (leaveH env) id id) (H' := Sem.raise) (B := [frameK q κ]) rfl n s (blockOf b env c pos [frameK q κ])
    ⟨(blockStart b env).wrap (fun _ => (execs b env).wrap doneF (leaveH env) id id) .raise id id, c, pos, [frameK q κ]⟩ _ _ _ _ hr ⟨rfl, rfl, .inl ⟨rfl, rfl, _, rfl, rfl⟩⟩ h
  rw [body_wrap]
  exact far
/-- behind a part of the text -/
noncomputable abbrev andThen (rest : List Stmt) (env : Env) : Flow → Sem Fin := fun f => match f with | .next => (execs rest env).wrap doneF (leaveH env) id id | f => doneF f
theorem part_far {n : Nat} {s s' : Shared} {m : Sem Flow} {rest : List Stmt} {c : Code} {pos p' q : Pos} {κ : List Value} (hr : s.asleep) (h : segRun table p w n₀ ann 1 n s ⟨m.wrap doneF deadEnd id id, c, pos, [frameK q κ]⟩ = some (.next, s', c, p')) :
    Far p w n₀ ann s ⟨m.wrap (andThen rest env) (leaveH env) id id, c, pos, [frameK q κ]⟩ s' (restOf rest env c p' [frameK q κ]) := by
  obtain ⟨a, ha, far⟩ := seg_far (res := id) (K' := andThen rest env) (H' := leaveH env) (B := [frameK q κ]) rfl n s ⟨m.wrap doneF deadEnd id id, c, pos, [frameK q κ]⟩
    ⟨m.wrap (andThen rest env) (leaveH env) id id, c, pos, [frameK q κ]⟩ _ _ _ _ hr ⟨rfl, rfl, .inl ⟨rfl, rfl, _, rfl, rfl⟩⟩ h
  obtain rfl : a = .next := ha
  exact far
theorem pieces_far {n : Nat} {s s' : Shared} {l rest : List Stmt} {c : Code} {pos p' q : Pos} {κ : List Value} (hr : s.asleep) (h : segRun table p w n₀ ann 1 n s (piecesOf l env c pos [frameK q κ]) = some (.next, s', c, p')) :
    Far p w n₀ ann s (restOf (l ++ rest) env c pos [frameK q κ]) s' (restOf rest env c p' [frameK q κ]) := by
  have far := part_far (m := execs l env) (rest := rest) (env := env) hr h
  unfold restOf at far ⊢
  rw [execs_app_wrap]
  exact far
theorem leave_wrap {α : Type} (m : Sem α) (f : α → Sem Fin) : m.wrap f (leaveH env) id id = (m.onRaise (leaving env)).bind f := by
  rw [Sem.bind_eq_wrap, Sem.onRaise_eq_wrap, Sem.wrap_wrap]
  refine Sem.wrap_congr _ _ _ (fun _ => rfl) fun e => ?_
  show ((leaving env e).bind fun _ => (.raise e : Sem Flow)).wrap doneF .raise id id = ((leaving env e).bind fun _ => (.raise e : Sem α)).wrap f .raise id id
  rw [Sem.bind_eq_wrap, Sem.bind_eq_wrap, Sem.wrap_wrap, Sem.wrap_wrap]
  exact Sem.wrap_congr _ _ _ (fun _ => rfl) fun _ => rfl
noncomputable abbrev storeOf (id : Str) (np : Pos) (env : Env) (v : Value) : Sem Flow := assignStores env v none ((assignEach [.Name id np] env).map (·.2))
theorem assign_dict {x : Str} {np dp sp : Pos} {keys : List (Option Expr)} {vals : List Expr} : exec (.Assign [.Name x np] (.Dict keys vals dp) sp) env = (do standAt sp; eval (.Dict keys vals dp) env : Sem Value).bind (storeOf x np env) := rfl
/-- the written entries of a dict display of whole numbers and texts -/
noncomputable def entries : List (Option Expr) → List Expr → Option (List (Int × Str))
  | [], [] => some []
  | some (.Constant (.int i) _ _) :: ks, .Constant (.str x) _ _ :: vs => (entries ks vs).map ((i, x) :: ·)
  | _, _ => none
theorem entries_zip {pos : Pos} : ∀ (ks : List (Option Expr)) (vs : List Expr) (es : List (Int × Str)), entries ks vs = some es →
    (evalEachOpt ks env).zip ((evalEach vs env).map fun v => do let x ← v; standAt pos; pure x) = (es.map (pr pos)).map fun p => (some p.1, p.2) := by
  intro ks vs
  induction ks, vs using entries.induct with
  | case1 => intro es h; simp only [entries, Option.some.injEq] at h; subst h; rfl
  | case2 i k1 k2 ks x v1 v2 vs ih =>
    intro es h
    simp only [entries, Option.map_eq_some_iff] at h
    obtain ⟨es', h1, rfl⟩ := h
    have := ih es' h1
    simp only [List.map_cons] at this ⊢
    rw [← this]
    rfl
  | case3 => intro es h; simp [entries] at h
/-- the statement that lays a long dict -/
theorem dict_far {s : Shared} {x : Str} {np dp sp pos q : Pos} {keys : List (Option Expr)} {vals : List Expr} {rest : List Stmt} {c : Code} {es : List (Int × Str)} (hr : s.asleep) (hg : s.gens = #[]) (hs : sysModules < s.heap.objs.size) (hn₀ : n₀ ≤ s.heap.objs.size)
    (he : entries keys vals = some es) (hne : es ≠ []) (hn : (es.map (·.1)).Nodup) (hz : es.length ≤ sizeLine) :
    ∃ h' p' κ kvs, h'.life = s.heap.life ∧ h'.objs.size = s.heap.objs.size + (es.length + 16) / 17 ∧ (∀ b, b < s.heap.objs.size → h'.get? b = s.heap.get? b) ∧ SameKV kvs es ∧ h'.DictOf (intKind p w) s.heap.objs.size kvs ∧
      Far p w n₀ ann s (restOf (.Assign [.Name x np] (.Dict keys vals dp) sp :: rest) env c pos [topFrame q]) { s with heap := h', toks := s.toks + 3 * es.length }
        ⟨(storeOf x np env (.ref s.heap.objs.size)).wrap (andThen rest env) (leaveH env) id id, c, p', [frameK q κ]⟩ := by
  have wp : wpAny (model p w) ⟨(Ctx.of c [topFrame q]).handled, frameCount (Ctx.of c [topFrame q]).below + c.weight, none, none, (Ctx.of c [topFrame q]).units⟩ ((do standAt sp; eval (.Dict keys vals dp) env : Sem Value).onRaise (leaving env))
      (fun v s' => v = .ref s.heap.objs.size ∧ ∃ h' kvs, s' = { s with heap := h', toks := s.toks + 3 * es.length } ∧ h'.objs.size = s.heap.objs.size + (es.length + 16) / 17 ∧ (∀ b, b < s.heap.objs.size → h'.get? b = s.heap.get? b) ∧ SameKV kvs es ∧ h'.DictOf (intKind p w) s.heap.objs.size kvs)
      (fun _ _ => False) s := by
    refine wpAny_onRaise (wpAny_mono (wpAny_bind (wpAny_standAt ?_)) (fun _ _ h => h) fun _ _ h => False.elim h)
    rw [arm_eval_Dict]
    refine wpAny_bind (wpAny_standAt ?_)
    rw [entries_zip keys vals es he]
    exact display hs hne hn hz fun s' h' kvs e1 e2 e3 e4 e5 => ⟨rfl, h', kvs, e1, e2, e3, e4, e5⟩
  have hA : (Ctx.of c [topFrame q]).In ⟨(Ctx.of c [topFrame q]).handled, frameCount (Ctx.of c [topFrame q]).below + c.weight, none, none, (Ctx.of c [topFrame q]).units⟩ :=
    ⟨rfl, Nat.le_refl _, (by intro l h; cases h), (by intro g h; cases h), Nat.le_refl _⟩
  obtain ⟨v, s', p', κ, ⟨rfl, h', kvs, rfl, a, b, k, dd⟩, far⟩ := wp_far (n₀ := n₀) (ann := ann) (f := fun v => (storeOf x np env v).wrap (andThen rest env) (leaveH env) id id) (pos := pos) hr hA wp
    (fun v s' hv => by
      obtain ⟨_, h', kvs, rfl, a, b, _⟩ := hv
      exact ⟨hg, rfl, fun y o h1 _ _ _ e => (b y (Nat.lt_of_lt_of_le h1 hn₀)).trans e⟩)
  refine ⟨h', p', κ, kvs, far.2.1, a, b, k, dd, ?_⟩
  have e : (execs (.Assign [.Name x np] (.Dict keys vals dp) sp :: rest) env).wrap doneF (leaveH env) id id = ((do standAt sp; eval (.Dict keys vals dp) env : Sem Value).onRaise (leaving env)).bind fun v => (storeOf x np env v).wrap (andThen rest env) (leaveH env) id id := by
    rw [execs_cons_wrap, assign_dict, Sem.bind_eq_wrap, Sem.wrap_wrap, ← leave_wrap]
    exact Sem.wrap_congr _ _ _ (fun _ => rfl) fun _ => rfl
  unfold restOf
  rw [e]
  exact far
end
end
section
open PySem PySem.W PySem.Calls PyProof.Rows
set_option maxRecDepth 100000
/-- a tree with so many objects more behind -/
noncomputable def insAll (T : BT) (n : Nat) (x : Nat → Obj) : Nat → BT
  | 0 => T
  | k + 1 => (insAll T n x k).ins (n + k) (x k)
noncomputable def insOk (T : BT) (n : Nat) (x : Nat → Obj) : Nat → Bool
  | 0 => true
  | k + 1 => insOk T n x k && (((insAll T n x k).ins (n + k) (x k)).get (n + k)).isSome
noncomputable def allAlive (T : BT) : Nat → Bool
  | 0 => true
  | n + 1 => (match T.get n with | some o => (alive o).isSome | none => false) && allAlive T n
theorem insAll_get (T : BT) (n : Nat) (x : Nat → Obj) : ∀ k, insOk T n x k = true → ∀ i, (insAll T n x k).get i = if n ≤ i ∧ i < n + k then some (x (i - n)) else T.get i
  | 0, _, i => by rw [if_neg (by omega)]; rfl
  | k + 1, h, i => by
    obtain ⟨h1, h2⟩ := Bool.and_eq_true_iff.mp h
    show ((insAll T n x k).ins (n + k) (x k)).get i = _
    rw [BT.get_ins _ _ _ h2, insAll_get T n x k h1 i]
    by_cases e : i = n + k
    · subst e; rw [if_pos rfl, if_pos (by omega)]; congr 2; omega
    · rw [if_neg e]
      by_cases h : n ≤ i ∧ i < n + k
      · rw [if_pos h, if_pos (by omega)]
      · rw [if_neg h, if_neg (by omega)]
theorem allAlive_get {T : BT} : ∀ {n : Nat}, allAlive T n = true → ∀ b, b < n → ∃ o, T.get b = some o ∧ alive o = some o
  | 0, _, b, h => absurd h (Nat.not_lt_zero b)
  | n + 1, h, b, hb => by
    obtain ⟨h1, h2⟩ := Bool.and_eq_true_iff.mp h
    rcases Nat.lt_or_ge b n with q | q
    · exact allAlive_get h2 b q
    · obtain rfl : b = n := by omega
      cases e : T.get b with
      | none => rw [e] at h1; cases h1
      | some o =>
        rw [e] at h1
        refine ⟨o, rfl, ?_⟩
        obtain ⟨c, d, dt, sl⟩ := o
        cases dt <;> first | rfl | (simp [alive] at h1)
theorem heap_grown {T : BT} {n k : Nat} {life : Life} {h' : Heap} (hl : h'.life = life) (hs : h'.objs.size = n + k) (hk : ∀ b, b < n → h'.get? b = (absHeap T n life).get? b) (al : allAlive T n = true) (ok : ∀ x, insOk T n x k = true) :
    ∃ x : Nat → Obj, h' = absHeap (insAll T n x k) (n + k) life := by
  refine ⟨fun j => (h'.objs[n + j]?).getD default, ?_⟩
  obtain ⟨objs, lf⟩ := h'
  dsimp only at hl hs hk ⊢
  subst hl
  have : objs = (absHeap (insAll T n (fun j => (objs[n + j]?).getD default) k) (n + k) lf).objs := by
    apply Array.ext_getElem?
    intro i
    rw [absHeap_at, insAll_get _ _ _ _ (ok _)]
    by_cases h : i < n
    · obtain ⟨o, e1, e2⟩ := allAlive_get al i h
      have e3 := hk i h
      rw [abs_get h e1, e2] at e3
      rw [if_pos (by omega), if_neg (by omega), e1]
      unfold Heap.get? at e3
      dsimp only at e3
      cases q : objs[i]? with
      | none => rw [q] at e3; cases e3
      | some y =>
        rw [q] at e3
        obtain ⟨c, d, dt, sl⟩ := y
        cases dt <;> first | (simp at e3; done) | (simp only [Option.some.injEq] at e3; rw [e3]; rfl)
    · by_cases h2 : i < n + k
      · rw [if_pos h2, if_pos (by omega), show n + (i - n) = i by omega]
        have : i < objs.size := by omega
        simp [this]
      · rw [if_neg h2, Array.getElem?_eq_none (by omega)]
  exact congrArg (Heap.mk · lf) this
end
section
open PySem PySem.W PySem.Calls PyProof.Rows
set_option maxRecDepth 100000
set_option linter.unusedVariables false
noncomputable def h0_a (P : Params) : Obj := ⟨(.type "dict"), .none, (.dict (List.toArray [⟨PyData.keyHash P (Str.ofString "__name__"), (.str (Str.ofString "__name__") 1), (.str (Str.ofString "builtins") 160)⟩, ⟨PyData.keyHash P (Str.ofString "__doc__"), (.str (Str.ofString "__doc__") 2), (.builtin "builtins.__doc__:str#opaque")⟩, ⟨PyData.keyHash P (Str.ofString "__package__"), (.str (Str.ofString "__package__") 3), (.builtin "builtins.__package__:str#opaque")⟩, ⟨PyData.keyHash P (Str.ofString "__loader__"), (.str (Str.ofString "__loader__") 4), (.builtin "builtins.__loader__:shared#opaque")⟩, ⟨PyData.keyHash P (Str.ofString "__spec__"), (.str (Str.ofString "__spec__") 5), (.builtin "builtins.__spec__#opaque")⟩, ⟨PyData.keyHash P (Str.ofString "__build_class__"), (.str (Str.ofString "__build_class__") 6), (.builtin "__build_class__")⟩, ⟨PyData.keyHash P (Str.ofString "__import__"), (.str (Str.ofString "__import__") 7), (.builtin "__import__")⟩, ⟨PyData.keyHash P (Str.ofString "abs"), (.str (Str.ofString "abs") 8), (.builtin "abs")⟩, ⟨PyData.keyHash P (Str.ofString "all"), (.str (Str.ofString "all") 9), (.builtin "all")⟩, ⟨PyData.keyHash P (Str.ofString "any"), (.str (Str.ofString "any") 10), (.builtin "any")⟩, ⟨PyData.keyHash P (Str.ofString "ascii"), (.str (Str.ofString "ascii") 11), (.builtin "ascii")⟩, ⟨PyData.keyHash P (Str.ofString "bin"), (.str (Str.ofString "bin") 12), (.builtin "bin")⟩, ⟨PyData.keyHash P (Str.ofString "breakpoint"), (.str (Str.ofString "breakpoint") 13), (.builtin "breakpoint")⟩, ⟨PyData.keyHash P (Str.ofString "callable"), (.str (Str.ofString "callable") 14), (.builtin "callable")⟩, ⟨PyData.keyHash P (Str.ofString "chr"), (.str (Str.ofString "chr") 15), (.builtin "chr")⟩, ⟨PyData.keyHash P (Str.ofString "compile"), (.str (Str.ofString "compile") 16), (.builtin "compile")⟩, ⟨PyData.keyHash P (Str.ofString "delattr"), (.str (Str.ofString "delattr") 17), (.builtin "delattr")⟩, ⟨PyData.keyHash P (Str.ofString "dir"), (.str (Str.ofString "dir") 18), (.builtin "dir")⟩, ⟨PyData.keyHash P (Str.ofString "divmod"), (.str (Str.ofString "divmod") 19), (.builtin "divmod")⟩, ⟨PyData.keyHash P (Str.ofString "eval"), (.str (Str.ofString "eval") 20), (.builtin "eval")⟩, ⟨PyData.keyHash P (Str.ofString "exec"), (.str (Str.ofString "exec") 21), (.builtin "exec")⟩, ⟨PyData.keyHash P (Str.ofString "format"), (.str (Str.ofString "format") 22), (.builtin "format")⟩, ⟨PyData.keyHash P (Str.ofString "getattr"), (.str (Str.ofString "getattr") 23), (.builtin "getattr")⟩, ⟨PyData.keyHash P (Str.ofString "globals"), (.str (Str.ofString "globals") 24), (.builtin "globals")⟩, ⟨PyData.keyHash P (Str.ofString "hasattr"), (.str (Str.ofString "hasattr") 25), (.builtin "hasattr")⟩, ⟨PyData.keyHash P (Str.ofString "hash"), (.str (Str.ofString "hash") 26), (.builtin "hash")⟩, ⟨PyData.keyHash P (Str.ofString "hex"), (.str (Str.ofString "hex") 27), (.builtin "hex")⟩, ⟨PyData.keyHash P (Str.ofString "id"), (.str (Str.ofString "id") 28), (.builtin "id")⟩, ⟨PyData.keyHash P (Str.ofString "input"), (.str (Str.ofString "input") 29), (.builtin "input")⟩, ⟨PyData.keyHash P (Str.ofString "isinstance"), (.str (Str.ofString "isinstance") 30), (.builtin "isinstance")⟩, ⟨PyData.keyHash P (Str.ofString "issubclass"), (.str (Str.ofString "issubclass") 31), (.builtin "issubclass")⟩, ⟨PyData.keyHash P (Str.ofString "iter"), (.str (Str.ofString "iter") 32), (.builtin "iter")⟩, ⟨PyData.keyHash P (Str.ofString "aiter"), (.str (Str.ofString "aiter") 33), (.builtin "aiter")⟩, ⟨PyData.keyHash P (Str.ofString "len"), (.str (Str.ofString "len") 34), (.builtin "len")⟩, ⟨PyData.keyHash P (Str.ofString "locals"), (.str (Str.ofString "locals") 35), (.builtin "locals")⟩, ⟨PyData.keyHash P (Str.ofString "max"), (.str (Str.ofString "max") 36), (.builtin "max")⟩, ⟨PyData.keyHash P (Str.ofString "min"), (.str (Str.ofString "min") 37), (.builtin "min")⟩, ⟨PyData.keyHash P (Str.ofString "next"), (.str (Str.ofString "next") 38), (.builtin "next")⟩, ⟨PyData.keyHash P (Str.ofString "anext"), (.str (Str.ofString "anext") 39), (.builtin "anext")⟩, ⟨PyData.keyHash P (Str.ofString "oct"), (.str (Str.ofString "oct") 40), (.builtin "oct")⟩, ⟨PyData.keyHash P (Str.ofString "ord"), (.str (Str.ofString "ord") 41), (.builtin "ord")⟩, ⟨PyData.keyHash P (Str.ofString "pow"), (.str (Str.ofString "pow") 42), (.builtin "pow")⟩, ⟨PyData.keyHash P (Str.ofString "print"), (.str (Str.ofString "print") 43), (.builtin "print")⟩, ⟨PyData.keyHash P (Str.ofString "repr"), (.str (Str.ofString "repr") 44), (.builtin "repr")⟩, ⟨PyData.keyHash P (Str.ofString "round"), (.str (Str.ofString "round") 45), (.builtin "round")⟩, ⟨PyData.keyHash P (Str.ofString "setattr"), (.str (Str.ofString "setattr") 46), (.builtin "setattr")⟩, ⟨PyData.keyHash P (Str.ofString "sorted"), (.str (Str.ofString "sorted") 47), (.builtin "sorted")⟩, ⟨PyData.keyHash P (Str.ofString "sum"), (.str (Str.ofString "sum") 48), (.builtin "sum")⟩, ⟨PyData.keyHash P (Str.ofString "vars"), (.str (Str.ofString "vars") 49), (.builtin "vars")⟩, ⟨PyData.keyHash P (Str.ofString "None"), (.str (Str.ofString "None") 50), .none⟩, ⟨PyData.keyHash P (Str.ofString "Ellipsis"), (.str (Str.ofString "Ellipsis") 51), .ellipsis⟩, ⟨PyData.keyHash P (Str.ofString "NotImplemented"), (.str (Str.ofString "NotImplemented") 52), .notImplemented⟩, ⟨PyData.keyHash P (Str.ofString "False"), (.str (Str.ofString "False") 53), (.bool false)⟩, ⟨PyData.keyHash P (Str.ofString "True"), (.str (Str.ofString "True") 54), (.bool true)⟩, ⟨PyData.keyHash P (Str.ofString "bool"), (.str (Str.ofString "bool") 55), (.type "bool")⟩, ⟨PyData.keyHash P (Str.ofString "memoryview"), (.str (Str.ofString "memoryview") 56), (.type "memoryview")⟩, ⟨PyData.keyHash P (Str.ofString "bytearray"), (.str (Str.ofString "bytearray") 57), (.type "bytearray")⟩, ⟨PyData.keyHash P (Str.ofString "bytes"), (.str (Str.ofString "bytes") 58), (.type "bytes")⟩, ⟨PyData.keyHash P (Str.ofString "classmethod"), (.str (Str.ofString "classmethod") 59), (.type "classmethod")⟩, ⟨PyData.keyHash P (Str.ofString "complex"), (.str (Str.ofString "complex") 60), (.type "complex")⟩, ⟨PyData.keyHash P (Str.ofString "dict"), (.str (Str.ofString "dict") 61), (.type "dict")⟩, ⟨PyData.keyHash P (Str.ofString "enumerate"), (.str (Str.ofString "enumerate") 62), (.type "enumerate")⟩, ⟨PyData.keyHash P (Str.ofString "filter"), (.str (Str.ofString "filter") 63), (.type "filter")⟩, ⟨PyData.keyHash P (Str.ofString "float"), (.str (Str.ofString "float") 64), (.type "float")⟩, ⟨PyData.keyHash P (Str.ofString "frozenset"), (.str (Str.ofString "frozenset") 65), (.type "frozenset")⟩, ⟨PyData.keyHash P (Str.ofString "property"), (.str (Str.ofString "property") 66), (.type "property")⟩, ⟨PyData.keyHash P (Str.ofString "int"), (.str (Str.ofString "int") 67), (.type "int")⟩, ⟨PyData.keyHash P (Str.ofString "list"), (.str (Str.ofString "list") 68), (.type "list")⟩, ⟨PyData.keyHash P (Str.ofString "map"), (.str (Str.ofString "map") 69), (.type "map")⟩, ⟨PyData.keyHash P (Str.ofString "object"), (.str (Str.ofString "object") 70), (.type "object")⟩, ⟨PyData.keyHash P (Str.ofString "range"), (.str (Str.ofString "range") 71), (.type "range")⟩, ⟨PyData.keyHash P (Str.ofString "reversed"), (.str (Str.ofString "reversed") 72), (.type "reversed")⟩, ⟨PyData.keyHash P (Str.ofString "set"), (.str (Str.ofString "set") 73), (.type "set")⟩, ⟨PyData.keyHash P (Str.ofString "slice"), (.str (Str.ofString "slice") 74), (.type "slice")⟩, ⟨PyData.keyHash P (Str.ofString "staticmethod"), (.str (Str.ofString "staticmethod") 75), (.type "staticmethod")⟩, ⟨PyData.keyHash P (Str.ofString "str"), (.str (Str.ofString "str") 76), (.type "str")⟩, ⟨PyData.keyHash P (Str.ofString "super"), (.str (Str.ofString "super") 77), (.type "super")⟩, ⟨PyData.keyHash P (Str.ofString "tuple"), (.str (Str.ofString "tuple") 78), (.type "tuple")⟩, ⟨PyData.keyHash P (Str.ofString "type"), (.str (Str.ofString "type") 79), (.type "type")⟩, ⟨PyData.keyHash P (Str.ofString "zip"), (.str (Str.ofString "zip") 80), (.type "zip")⟩, ⟨PyData.keyHash P (Str.ofString "__debug__"), (.str (Str.ofString "__debug__") 81), (.bool true)⟩, ⟨PyData.keyHash P (Str.ofString "BaseException"), (.str (Str.ofString "BaseException") 82), (.type "BaseException")⟩, ⟨PyData.keyHash P (Str.ofString "BaseExceptionGroup"), (.str (Str.ofString "BaseExceptionGroup") 83), (.type "BaseExceptionGroup")⟩, ⟨PyData.keyHash P (Str.ofString "Exception"), (.str (Str.ofString "Exception") 84), (.type "Exception")⟩, ⟨PyData.keyHash P (Str.ofString "GeneratorExit"), (.str (Str.ofString "GeneratorExit") 85), (.type "GeneratorExit")⟩, ⟨PyData.keyHash P (Str.ofString "KeyboardInterrupt"), (.str (Str.ofString "KeyboardInterrupt") 86), (.type "KeyboardInterrupt")⟩, ⟨PyData.keyHash P (Str.ofString "SystemExit"), (.str (Str.ofString "SystemExit") 87), (.type "SystemExit")⟩, ⟨PyData.keyHash P (Str.ofString "ArithmeticError"), (.str (Str.ofString "ArithmeticError") 88), (.type "ArithmeticError")⟩, ⟨PyData.keyHash P (Str.ofString "AssertionError"), (.str (Str.ofString "AssertionError") 89), (.type "AssertionError")⟩, ⟨PyData.keyHash P (Str.ofString "AttributeError"), (.str (Str.ofString "AttributeError") 90), (.type "AttributeError")⟩, ⟨PyData.keyHash P (Str.ofString "BufferError"), (.str (Str.ofString "BufferError") 91), (.type "BufferError")⟩, ⟨PyData.keyHash P (Str.ofString "EOFError"), (.str (Str.ofString "EOFError") 92), (.type "EOFError")⟩, ⟨PyData.keyHash P (Str.ofString "ImportError"), (.str (Str.ofString "ImportError") 93), (.type "ImportError")⟩, ⟨PyData.keyHash P (Str.ofString "LookupError"), (.str (Str.ofString "LookupError") 94), (.type "LookupError")⟩, ⟨PyData.keyHash P (Str.ofString "MemoryError"), (.str (Str.ofString "MemoryError") 95), (.type "MemoryError")⟩, ⟨PyData.keyHash P (Str.ofString "NameError"), (.str (Str.ofString "NameError") 96), (.type "NameError")⟩, ⟨PyData.keyHash P (Str.ofString "OSError"), (.str (Str.ofString "OSError") 97), (.type "OSError")⟩, ⟨PyData.keyHash P (Str.ofString "ReferenceError"), (.str (Str.ofString "ReferenceError") 98), (.type "ReferenceError")⟩, ⟨PyData.keyHash P (Str.ofString "RuntimeError"), (.str (Str.ofString "RuntimeError") 99), (.type "RuntimeError")⟩, ⟨PyData.keyHash P (Str.ofString "StopAsyncIteration"), (.str (Str.ofString "StopAsyncIteration") 100), (.type "StopAsyncIteration")⟩, ⟨PyData.keyHash P (Str.ofString "StopIteration"), (.str (Str.ofString "StopIteration") 101), (.type "StopIteration")⟩, ⟨PyData.keyHash P (Str.ofString "SyntaxError"), (.str (Str.ofString "SyntaxError") 102), (.type "SyntaxError")⟩, ⟨PyData.keyHash P (Str.ofString "SystemError"), (.str (Str.ofString "SystemError") 103), (.type "SystemError")⟩, ⟨PyData.keyHash P (Str.ofString "TypeError"), (.str (Str.ofString "TypeError") 104), (.type "TypeError")⟩, ⟨PyData.keyHash P (Str.ofString "ValueError"), (.str (Str.ofString "ValueError") 105), (.type "ValueError")⟩, ⟨PyData.keyHash P (Str.ofString "Warning"), (.str (Str.ofString "Warning") 106), (.type "Warning")⟩, ⟨PyData.keyHash P (Str.ofString "FloatingPointError"), (.str (Str.ofString "FloatingPointError") 107), (.type "FloatingPointError")⟩, ⟨PyData.keyHash P (Str.ofString "OverflowError"), (.str (Str.ofString "OverflowError") 108), (.type "OverflowError")⟩, ⟨PyData.keyHash P (Str.ofString "ZeroDivisionError"), (.str (Str.ofString "ZeroDivisionError") 109), (.type "ZeroDivisionError")⟩, ⟨PyData.keyHash P (Str.ofString "BytesWarning"), (.str (Str.ofString "BytesWarning") 110), (.type "BytesWarning")⟩, ⟨PyData.keyHash P (Str.ofString "DeprecationWarning"), (.str (Str.ofString "DeprecationWarning") 111), (.type "DeprecationWarning")⟩, ⟨PyData.keyHash P (Str.ofString "EncodingWarning"), (.str (Str.ofString "EncodingWarning") 112), (.type "EncodingWarning")⟩, ⟨PyData.keyHash P (Str.ofString "FutureWarning"), (.str (Str.ofString "FutureWarning") 113), (.type "FutureWarning")⟩, ⟨PyData.keyHash P (Str.ofString "ImportWarning"), (.str (Str.ofString "ImportWarning") 114), (.type "ImportWarning")⟩, ⟨PyData.keyHash P (Str.ofString "PendingDeprecationWarning"), (.str (Str.ofString "PendingDeprecationWarning") 115), (.type "PendingDeprecationWarning")⟩, ⟨PyData.keyHash P (Str.ofString "ResourceWarning"), (.str (Str.ofString "ResourceWarning") 116), (.type "ResourceWarning")⟩, ⟨PyData.keyHash P (Str.ofString "RuntimeWarning"), (.str (Str.ofString "RuntimeWarning") 117), (.type "RuntimeWarning")⟩, ⟨PyData.keyHash P (Str.ofString "SyntaxWarning"), (.str (Str.ofString "SyntaxWarning") 118), (.type "SyntaxWarning")⟩, ⟨PyData.keyHash P (Str.ofString "UnicodeWarning"), (.str (Str.ofString "UnicodeWarning") 119), (.type "UnicodeWarning")⟩, ⟨PyData.keyHash P (Str.ofString "UserWarning"), (.str (Str.ofString "UserWarning") 120), (.type "UserWarning")⟩, ⟨PyData.keyHash P (Str.ofString "BlockingIOError"), (.str (Str.ofString "BlockingIOError") 121), (.type "BlockingIOError")⟩, ⟨PyData.keyHash P (Str.ofString "ChildProcessError"), (.str (Str.ofString "ChildProcessError") 122), (.type "ChildProcessError")⟩, ⟨PyData.keyHash P (Str.ofString "ConnectionError"), (.str (Str.ofString "ConnectionError") 123), (.type "ConnectionError")⟩, ⟨PyData.keyHash P (Str.ofString "FileExistsError"), (.str (Str.ofString "FileExistsError") 124), (.type "FileExistsError")⟩, ⟨PyData.keyHash P (Str.ofString "FileNotFoundError"), (.str (Str.ofString "FileNotFoundError") 125), (.type "FileNotFoundError")⟩, ⟨PyData.keyHash P (Str.ofString "InterruptedError"), (.str (Str.ofString "InterruptedError") 126), (.type "InterruptedError")⟩, ⟨PyData.keyHash P (Str.ofString "IsADirectoryError"), (.str (Str.ofString "IsADirectoryError") 127), (.type "IsADirectoryError")⟩, ⟨PyData.keyHash P (Str.ofString "NotADirectoryError"), (.str (Str.ofString "NotADirectoryError") 128), (.type "NotADirectoryError")⟩, ⟨PyData.keyHash P (Str.ofString "PermissionError"), (.str (Str.ofString "PermissionError") 129), (.type "PermissionError")⟩, ⟨PyData.keyHash P (Str.ofString "ProcessLookupError"), (.str (Str.ofString "ProcessLookupError") 130), (.type "ProcessLookupError")⟩, ⟨PyData.keyHash P (Str.ofString "TimeoutError"), (.str (Str.ofString "TimeoutError") 131), (.type "TimeoutError")⟩, ⟨PyData.keyHash P (Str.ofString "IndentationError"), (.str (Str.ofString "IndentationError") 132), (.type "IndentationError")⟩, ⟨PyData.keyHash P (Str.ofString "_IncompleteInputError"), (.str (Str.ofString "_IncompleteInputError") 133), (.type "_IncompleteInputError")⟩, ⟨PyData.keyHash P (Str.ofString "IndexError"), (.str (Str.ofString "IndexError") 134), (.type "IndexError")⟩, ⟨PyData.keyHash P (Str.ofString "KeyError"), (.str (Str.ofString "KeyError") 135), (.type "KeyError")⟩, ⟨PyData.keyHash P (Str.ofString "ModuleNotFoundError"), (.str (Str.ofString "ModuleNotFoundError") 136), (.type "ModuleNotFoundError")⟩, ⟨PyData.keyHash P (Str.ofString "NotImplementedError"), (.str (Str.ofString "NotImplementedError") 137), (.type "NotImplementedError")⟩, ⟨PyData.keyHash P (Str.ofString "PythonFinalizationError"), (.str (Str.ofString "PythonFinalizationError") 138), (.type "PythonFinalizationError")⟩, ⟨PyData.keyHash P (Str.ofString "RecursionError"), (.str (Str.ofString "RecursionError") 139), (.type "RecursionError")⟩, ⟨PyData.keyHash P (Str.ofString "UnboundLocalError"), (.str (Str.ofString "UnboundLocalError") 140), (.type "UnboundLocalError")⟩, ⟨PyData.keyHash P (Str.ofString "UnicodeError"), (.str (Str.ofString "UnicodeError") 141), (.type "UnicodeError")⟩, ⟨PyData.keyHash P (Str.ofString "BrokenPipeError"), (.str (Str.ofString "BrokenPipeError") 142), (.type "BrokenPipeError")⟩, ⟨PyData.keyHash P (Str.ofString "ConnectionAbortedError"), (.str (Str.ofString "ConnectionAbortedError") 143), (.type "ConnectionAbortedError")⟩, ⟨PyData.keyHash P (Str.ofString "ConnectionRefusedError"), (.str (Str.ofString "ConnectionRefusedError") 144), (.type "ConnectionRefusedError")⟩, ⟨PyData.keyHash P (Str.ofString "ConnectionResetError"), (.str (Str.ofString "ConnectionResetError") 145), (.type "ConnectionResetError")⟩, ⟨PyData.keyHash P (Str.ofString "TabError"), (.str (Str.ofString "TabError") 146), (.type "TabError")⟩, ⟨PyData.keyHash P (Str.ofString "UnicodeDecodeError"), (.str (Str.ofString "UnicodeDecodeError") 147), (.type "UnicodeDecodeError")⟩, ⟨PyData.keyHash P (Str.ofString "UnicodeEncodeError"), (.str (Str.ofString "UnicodeEncodeError") 148), (.type "UnicodeEncodeError")⟩, ⟨PyData.keyHash P (Str.ofString "UnicodeTranslateError"), (.str (Str.ofString "UnicodeTranslateError") 149), (.type "UnicodeTranslateError")⟩, ⟨PyData.keyHash P (Str.ofString "ExceptionGroup"), (.str (Str.ofString "ExceptionGroup") 150), (.type "ExceptionGroup")⟩, ⟨PyData.keyHash P (Str.ofString "EnvironmentError"), (.str (Str.ofString "EnvironmentError") 151), (.type "OSError")⟩, ⟨PyData.keyHash P (Str.ofString "IOError"), (.str (Str.ofString "IOError") 152), (.type "OSError")⟩, ⟨PyData.keyHash P (Str.ofString "open"), (.str (Str.ofString "open") 153), (.builtin "open")⟩, ⟨PyData.keyHash P (Str.ofString "quit"), (.str (Str.ofString "quit") 154), (.builtin "builtins.quit#opaque")⟩, ⟨PyData.keyHash P (Str.ofString "exit"), (.str (Str.ofString "exit") 155), (.builtin "builtins.exit#opaque")⟩, ⟨PyData.keyHash P (Str.ofString "copyright"), (.str (Str.ofString "copyright") 156), (.builtin "builtins.copyright#opaque")⟩, ⟨PyData.keyHash P (Str.ofString "credits"), (.str (Str.ofString "credits") 157), (.builtin "builtins.credits#opaque")⟩, ⟨PyData.keyHash P (Str.ofString "license"), (.str (Str.ofString "license") 158), (.builtin "builtins.license#opaque")⟩, ⟨PyData.keyHash P (Str.ofString "help"), (.str (Str.ofString "help") 159), (.builtin "builtins.help#opaque")⟩]) 159), #[]⟩
noncomputable def h1_a (P : Params) : Obj := ⟨(.type "dict"), .none, (.dict (List.toArray [⟨PyData.keyHash P (Str.ofString "builtins"), (.str (Str.ofString "builtins") 162), (.ref 4)⟩, ⟨PyData.keyHash P (Str.ofString "__main__"), (.str (Str.ofString "__main__") 163), (.ref 5)⟩]) 2), #[]⟩
noncomputable def h2_a (P : Params) : Obj := ⟨.none, .none, (.dict (List.toArray []) 0), #[]⟩
noncomputable def h3_a (P : Params) : Obj := ⟨(.type "dict"), .none, (.dict (List.toArray [⟨PyData.keyHash P (Str.ofString "__name__"), (.str (Str.ofString "__name__") 165), (.str (Str.ofString "__main__") 164)⟩, ⟨PyData.keyHash P (Str.ofString "__doc__"), (.str (Str.ofString "__doc__") 166), .none⟩, ⟨PyData.keyHash P (Str.ofString "__package__"), (.str (Str.ofString "__package__") 167), .none⟩, ⟨PyData.keyHash P (Str.ofString "__loader__"), (.str (Str.ofString "__loader__") 168), (.builtin "__main__.__loader__#opaque")⟩, ⟨PyData.keyHash P (Str.ofString "__spec__"), (.str (Str.ofString "__spec__") 169), .none⟩, ⟨PyData.keyHash P (Str.ofString "__annotations__"), (.str (Str.ofString "__annotations__") 170), (.ref 6)⟩, ⟨PyData.keyHash P (Str.ofString "__builtins__"), (.str (Str.ofString "__builtins__") 171), (.ref 4)⟩, ⟨PyData.keyHash P (Str.ofString "__file__"), (.str (Str.ofString "__file__") 173), (.str (Str.ofString "/claim/cut.py") 172)⟩, ⟨PyData.keyHash P (Str.ofString "__cached__"), (.str (Str.ofString "__cached__") 174), .none⟩]) 9), #[]⟩
noncomputable def h4_a (P : Params) : Obj := ⟨(.type "module"), (.some 0), .plain, #[]⟩
noncomputable def h5_a (P : Params) : Obj := ⟨(.type "module"), (.some 3), .plain, #[]⟩
noncomputable def h6_a (P : Params) : Obj := ⟨(.type "dict"), .none, (.dict (List.toArray []) 0), #[]⟩
noncomputable def h7_a (P : Params) : Obj := ⟨(.type "tuple"), .none, (.seq #[] 0), #[]⟩
noncomputable def h8_a (P : Params) : Obj := ⟨.none, .none, (.fields #[]), #[]⟩
noncomputable def h9_a (P : Params) : Obj := ⟨(.type "code"), .none, (.fields #[(.str (Str.ofString "<module>") 176), (.str (Str.ofString "<module>") 177), (.str (Str.ofString "/claim/cut.py") 178), (.int 1 0), (.int 0 0), (.int 0 0), (.int 0 0), (.int 0 0), (.ref 7), (.bool false), (.int 175 0), (.ref 8), .none, .none, .none, .none, (.int 179 0), (.int 1 0), (.str (Str.ofString "/claim/cut.py") 180)]), #[]⟩
noncomputable def h10_a (P : Params) : Obj := ⟨(.type "frame"), .none, .plain, #[(.some (.ref 9)), (.some (.ref 3)), (.some (.ref 3)), .none, (.some (.str (Str.ofString "__main__") 164)), .none, (.some (.ref 0))]⟩
noncomputable def h11_a (P : Params) : Obj := ⟨(.type "tuple"), .none, (.seq #[] 0), #[]⟩
noncomputable def h12_a (P : Params) : Obj := ⟨.none, .none, (.fields #[]), #[]⟩
noncomputable def h13_a (P : Params) : Obj := ⟨(.type "code"), .none, (.fields #[(.str (Str.ofString "<module>") 182), (.str (Str.ofString "<module>") 183), (.str (Str.ofString "/claim/cut.py") 184), (.int 1 0), (.int 0 0), (.int 0 0), (.int 0 0), (.int 0 0), (.ref 11), (.bool false), (.int 181 0), (.ref 12), .none, .none, .none, .none, (.int 185 0), (.int 1 0), (.str (Str.ofString "/claim/cut.py") 186)]), #[]⟩
noncomputable def h14_a (P : Params) : Obj := ⟨(.type "frame"), .none, .plain, #[(.some (.ref 13)), (.some (.ref 3)), (.some (.ref 3)), .none, (.some (.str (Str.ofString "__main__") 164)), .none, (.some (.ref 0))]⟩
noncomputable def h3_10 (P : Params) : Obj := ⟨(.type "dict"), .none, (.dict (List.toArray [⟨PyData.keyHash P (Str.ofString "__name__"), (.str (Str.ofString "__name__") 165), (.str (Str.ofString "cpy313.email.header") 276)⟩, ⟨PyData.keyHash P (Str.ofString "__doc__"), (.str (Str.ofString "__doc__") 166), .none⟩, ⟨PyData.keyHash P (Str.ofString "__package__"), (.str (Str.ofString "__package__") 167), .none⟩, ⟨PyData.keyHash P (Str.ofString "__loader__"), (.str (Str.ofString "__loader__") 168), (.builtin "__main__.__loader__#opaque")⟩, ⟨PyData.keyHash P (Str.ofString "__spec__"), (.str (Str.ofString "__spec__") 169), .none⟩, ⟨PyData.keyHash P (Str.ofString "__annotations__"), (.str (Str.ofString "__annotations__") 170), (.ref 6)⟩, ⟨PyData.keyHash P (Str.ofString "__builtins__"), (.str (Str.ofString "__builtins__") 171), (.ref 4)⟩, ⟨PyData.keyHash P (Str.ofString "__file__"), (.str (Str.ofString "__file__") 173), (.str (Str.ofString "/claim/cut.py") 172)⟩, ⟨PyData.keyHash P (Str.ofString "__cached__"), (.str (Str.ofString "__cached__") 174), .none⟩, ⟨PyData.keyHash P (Str.ofString "_wall"), (.str (Str.ofString "_wall") 193), (.ref 21)⟩, ⟨PyData.keyHash P (Str.ofString "_DIV_LIMIT"), (.str (Str.ofString "_DIV_LIMIT") 197), (.int 4000 196)⟩, ⟨PyData.keyHash P (Str.ofString "_div2n1n"), (.str (Str.ofString "_div2n1n") 214), (.ref 28)⟩, ⟨PyData.keyHash P (Str.ofString "_div3n2n"), (.str (Str.ofString "_div3n2n") 228), (.ref 35)⟩, ⟨PyData.keyHash P (Str.ofString "_int2digits"), (.str (Str.ofString "_int2digits") 239), (.ref 42)⟩, ⟨PyData.keyHash P (Str.ofString "_digits2int"), (.str (Str.ofString "_digits2int") 250), (.ref 49)⟩, ⟨PyData.keyHash P (Str.ofString "_divmod_pos"), (.str (Str.ofString "_divmod_pos") 265), (.ref 56)⟩, ⟨PyData.keyHash P (Str.ofString "int_divmod"), (.str (Str.ofString "int_divmod") 275), (.ref 63)⟩, ⟨PyData.keyHash P (Str.ofString "EMPTYSTRING"), (.str (Str.ofString "EMPTYSTRING") 279), (.str (Str.ofString "") 278)⟩]) 18), #[]⟩
noncomputable def h12_10 (P : Params) : Obj := ⟨.none, .none, (.fields #[(.int 1 0), (.int 0 0), (.ref 20), (.int 6 0), (.int 0 0), (.ref 27), (.int 22 0), (.int 0 0), (.ref 34), (.int 32 0), (.int 0 0), (.ref 41), (.int 48 0), (.int 0 0), (.ref 48), (.int 57 0), (.int 0 0), (.ref 55), (.int 68 0), (.int 0 0), (.ref 62)]), #[]⟩
noncomputable def h15_10 (P : Params) : Obj := ⟨(.type "tuple"), .none, (.seq #[] 0), #[]⟩
noncomputable def h16_10 (P : Params) : Obj := ⟨.none, .none, (.fields #[]), #[]⟩
noncomputable def h17_10 (P : Params) : Obj := ⟨(.type "tuple"), .none, (.seq #[(.str (Str.ofString "k") 190)] 0), #[]⟩
noncomputable def h18_10 (P : Params) : Obj := ⟨(.type "tuple"), .none, (.seq #[] 0), #[]⟩
noncomputable def h19_10 (P : Params) : Obj := ⟨.none, .none, (.func { name := (Str.ofString "_wall"), qualname := (Str.ofString "_wall"), params := fPar (stm 0), body := .stmts (fBody (stm 0)), scope := fScope (stm 0), globals := 0, closure := [], defaults := .none, kwdefaults := .none, doc := .none, pyModule := .none, annotations := .none, code := .none, closureTuple := .none, builtins := 0 }), #[]⟩
noncomputable def h20_10 (P : Params) : Obj := ⟨(.type "code"), .none, (.fields #[(.str (Str.ofString "_wall") 187), (.str (Str.ofString "_wall") 188), (.str (Str.ofString "/claim/cut.py") 189), (.int 1 0), (.int 1 0), (.int 0 0), (.int 0 0), (.int 3 0), (.ref 15), (.bool true), (.int 181 0), (.ref 16), .none, (.ref 17), (.ref 18), (.ref 19), (.int 191 0), (.int 1 0), (.str (Str.ofString "/claim/cut.py") 192)]), #[]⟩
noncomputable def h21_10 (P : Params) : Obj := ⟨(.type "function"), .none, (.func { name := (Str.ofString "_wall"), qualname := (Str.ofString "_wall"), params := fPar (stm 0), body := .stmts (fBody (stm 0)), scope := fScope (stm 0), globals := 3, closure := [], defaults := .none, kwdefaults := .none, doc := .none, pyModule := (.str (Str.ofString "__main__") 164), annotations := .none, code := (.ref 20), closureTuple := .none, builtins := 0 }), #[]⟩
noncomputable def h22_10 (P : Params) : Obj := ⟨(.type "tuple"), .none, (.seq #[] 0), #[]⟩
noncomputable def h23_10 (P : Params) : Obj := ⟨.none, .none, (.fields #[]), #[]⟩
noncomputable def h24_10 (P : Params) : Obj := ⟨(.type "tuple"), .none, (.seq #[(.str (Str.ofString "a") 201), (.str (Str.ofString "b") 202), (.str (Str.ofString "n") 203), (.str (Str.ofString "pad") 204), (.str (Str.ofString "half_n") 205), (.str (Str.ofString "mask") 206), (.str (Str.ofString "b1") 207), (.str (Str.ofString "b2") 208), (.str (Str.ofString "q1") 209), (.str (Str.ofString "r") 210), (.str (Str.ofString "q2") 211)] 0), #[]⟩
noncomputable def h25_10 (P : Params) : Obj := ⟨(.type "tuple"), .none, (.seq #[] 0), #[]⟩
noncomputable def h26_10 (P : Params) : Obj := ⟨.none, .none, (.func { name := (Str.ofString "_div2n1n"), qualname := (Str.ofString "_div2n1n"), params := fPar (stm 3), body := .stmts (fBody (stm 3)), scope := fScope (stm 3), globals := 0, closure := [], defaults := .none, kwdefaults := .none, doc := .none, pyModule := .none, annotations := .none, code := .none, closureTuple := .none, builtins := 0 }), #[]⟩
noncomputable def h27_10 (P : Params) : Obj := ⟨(.type "code"), .none, (.fields #[(.str (Str.ofString "_div2n1n") 198), (.str (Str.ofString "_div2n1n") 199), (.str (Str.ofString "/claim/cut.py") 200), (.int 6 0), (.int 3 0), (.int 0 0), (.int 0 0), (.int 3 0), (.ref 22), (.bool true), (.int 181 0), (.ref 23), .none, (.ref 24), (.ref 25), (.ref 26), (.int 212 0), (.int 6 0), (.str (Str.ofString "/claim/cut.py") 213)]), #[]⟩
noncomputable def h28_10 (P : Params) : Obj := ⟨(.type "function"), .none, (.func { name := (Str.ofString "_div2n1n"), qualname := (Str.ofString "_div2n1n"), params := fPar (stm 3), body := .stmts (fBody (stm 3)), scope := fScope (stm 3), globals := 3, closure := [], defaults := .none, kwdefaults := .none, doc := .none, pyModule := (.str (Str.ofString "cpy313._pylong") 194), annotations := .none, code := (.ref 27), closureTuple := .none, builtins := 0 }), #[]⟩
noncomputable def h29_10 (P : Params) : Obj := ⟨(.type "tuple"), .none, (.seq #[] 0), #[]⟩
noncomputable def h30_10 (P : Params) : Obj := ⟨.none, .none, (.fields #[]), #[]⟩
noncomputable def h31_10 (P : Params) : Obj := ⟨(.type "tuple"), .none, (.seq #[(.str (Str.ofString "a12") 218), (.str (Str.ofString "a3") 219), (.str (Str.ofString "b") 220), (.str (Str.ofString "b1") 221), (.str (Str.ofString "b2") 222), (.str (Str.ofString "n") 223), (.str (Str.ofString "q") 224), (.str (Str.ofString "r") 225)] 0), #[]⟩
noncomputable def h32_10 (P : Params) : Obj := ⟨(.type "tuple"), .none, (.seq #[] 0), #[]⟩
noncomputable def h33_10 (P : Params) : Obj := ⟨.none, .none, (.func { name := (Str.ofString "_div3n2n"), qualname := (Str.ofString "_div3n2n"), params := fPar (stm 4), body := .stmts (fBody (stm 4)), scope := fScope (stm 4), globals := 0, closure := [], defaults := .none, kwdefaults := .none, doc := .none, pyModule := .none, annotations := .none, code := .none, closureTuple := .none, builtins := 0 }), #[]⟩
noncomputable def h34_10 (P : Params) : Obj := ⟨(.type "code"), .none, (.fields #[(.str (Str.ofString "_div3n2n") 215), (.str (Str.ofString "_div3n2n") 216), (.str (Str.ofString "/claim/cut.py") 217), (.int 22 0), (.int 6 0), (.int 0 0), (.int 0 0), (.int 3 0), (.ref 29), (.bool true), (.int 181 0), (.ref 30), .none, (.ref 31), (.ref 32), (.ref 33), (.int 226 0), (.int 22 0), (.str (Str.ofString "/claim/cut.py") 227)]), #[]⟩
noncomputable def h35_10 (P : Params) : Obj := ⟨(.type "function"), .none, (.func { name := (Str.ofString "_div3n2n"), qualname := (Str.ofString "_div3n2n"), params := fPar (stm 4), body := .stmts (fBody (stm 4)), scope := fScope (stm 4), globals := 3, closure := [], defaults := .none, kwdefaults := .none, doc := .none, pyModule := (.str (Str.ofString "cpy313._pylong") 194), annotations := .none, code := (.ref 34), closureTuple := .none, builtins := 0 }), #[]⟩
noncomputable def h36_10 (P : Params) : Obj := ⟨(.type "tuple"), .none, (.seq #[] 0), #[]⟩
noncomputable def h37_10 (P : Params) : Obj := ⟨.none, .none, (.fields #[]), #[]⟩
noncomputable def h38_10 (P : Params) : Obj := ⟨(.type "tuple"), .none, (.seq #[(.str (Str.ofString "a") 232), (.str (Str.ofString "n") 233)] 0), #[]⟩
noncomputable def h39_10 (P : Params) : Obj := ⟨(.type "tuple"), .none, (.seq #[(.str (Str.ofString "n") 234), (.str (Str.ofString "a_digits") 235), (.str (Str.ofString "inner") 236)] 0), #[]⟩
noncomputable def h40_10 (P : Params) : Obj := ⟨.none, .none, (.func { name := (Str.ofString "_int2digits"), qualname := (Str.ofString "_int2digits"), params := fPar (stm 5), body := .stmts (fBody (stm 5)), scope := fScope (stm 5), globals := 0, closure := [], defaults := .none, kwdefaults := .none, doc := .none, pyModule := .none, annotations := .none, code := .none, closureTuple := .none, builtins := 0 }), #[]⟩
noncomputable def h41_10 (P : Params) : Obj := ⟨(.type "code"), .none, (.fields #[(.str (Str.ofString "_int2digits") 229), (.str (Str.ofString "_int2digits") 230), (.str (Str.ofString "/claim/cut.py") 231), (.int 32 0), (.int 2 0), (.int 0 0), (.int 0 0), (.int 3 0), (.ref 36), (.bool true), (.int 181 0), (.ref 37), .none, (.ref 38), (.ref 39), (.ref 40), (.int 237 0), (.int 32 0), (.str (Str.ofString "/claim/cut.py") 238)]), #[]⟩
noncomputable def h42_10 (P : Params) : Obj := ⟨(.type "function"), .none, (.func { name := (Str.ofString "_int2digits"), qualname := (Str.ofString "_int2digits"), params := fPar (stm 5), body := .stmts (fBody (stm 5)), scope := fScope (stm 5), globals := 3, closure := [], defaults := .none, kwdefaults := .none, doc := .none, pyModule := (.str (Str.ofString "cpy313._pylong") 194), annotations := .none, code := (.ref 41), closureTuple := .none, builtins := 0 }), #[]⟩
noncomputable def h43_10 (P : Params) : Obj := ⟨(.type "tuple"), .none, (.seq #[] 0), #[]⟩
noncomputable def h44_10 (P : Params) : Obj := ⟨.none, .none, (.fields #[]), #[]⟩
noncomputable def h45_10 (P : Params) : Obj := ⟨(.type "tuple"), .none, (.seq #[(.str (Str.ofString "digits") 243), (.str (Str.ofString "n") 244)] 0), #[]⟩
noncomputable def h46_10 (P : Params) : Obj := ⟨(.type "tuple"), .none, (.seq #[(.str (Str.ofString "digits") 245), (.str (Str.ofString "n") 246), (.str (Str.ofString "inner") 247)] 0), #[]⟩
noncomputable def h47_10 (P : Params) : Obj := ⟨.none, .none, (.func { name := (Str.ofString "_digits2int"), qualname := (Str.ofString "_digits2int"), params := fPar (stm 6), body := .stmts (fBody (stm 6)), scope := fScope (stm 6), globals := 0, closure := [], defaults := .none, kwdefaults := .none, doc := .none, pyModule := .none, annotations := .none, code := .none, closureTuple := .none, builtins := 0 }), #[]⟩
noncomputable def h48_10 (P : Params) : Obj := ⟨(.type "code"), .none, (.fields #[(.str (Str.ofString "_digits2int") 240), (.str (Str.ofString "_digits2int") 241), (.str (Str.ofString "/claim/cut.py") 242), (.int 48 0), (.int 2 0), (.int 0 0), (.int 0 0), (.int 3 0), (.ref 43), (.bool true), (.int 181 0), (.ref 44), .none, (.ref 45), (.ref 46), (.ref 47), (.int 248 0), (.int 48 0), (.str (Str.ofString "/claim/cut.py") 249)]), #[]⟩
noncomputable def h49_10 (P : Params) : Obj := ⟨(.type "function"), .none, (.func { name := (Str.ofString "_digits2int"), qualname := (Str.ofString "_digits2int"), params := fPar (stm 6), body := .stmts (fBody (stm 6)), scope := fScope (stm 6), globals := 3, closure := [], defaults := .none, kwdefaults := .none, doc := .none, pyModule := (.str (Str.ofString "cpy313._pylong") 194), annotations := .none, code := (.ref 48), closureTuple := .none, builtins := 0 }), #[]⟩
noncomputable def h50_10 (P : Params) : Obj := ⟨(.type "tuple"), .none, (.seq #[] 0), #[]⟩
noncomputable def h51_10 (P : Params) : Obj := ⟨.none, .none, (.fields #[]), #[]⟩
noncomputable def h52_10 (P : Params) : Obj := ⟨(.type "tuple"), .none, (.seq #[(.str (Str.ofString "a") 254), (.str (Str.ofString "b") 255), (.str (Str.ofString "n") 256), (.str (Str.ofString "a_digits") 257), (.str (Str.ofString "r") 258), (.str (Str.ofString "q_digits") 259), (.str (Str.ofString "a_digit") 260), (.str (Str.ofString "q_digit") 261), (.str (Str.ofString "q") 262)] 0), #[]⟩
noncomputable def h53_10 (P : Params) : Obj := ⟨(.type "tuple"), .none, (.seq #[] 0), #[]⟩
noncomputable def h54_10 (P : Params) : Obj := ⟨.none, .none, (.func { name := (Str.ofString "_divmod_pos"), qualname := (Str.ofString "_divmod_pos"), params := fPar (stm 7), body := .stmts (fBody (stm 7)), scope := fScope (stm 7), globals := 0, closure := [], defaults := .none, kwdefaults := .none, doc := .none, pyModule := .none, annotations := .none, code := .none, closureTuple := .none, builtins := 0 }), #[]⟩
noncomputable def h55_10 (P : Params) : Obj := ⟨(.type "code"), .none, (.fields #[(.str (Str.ofString "_divmod_pos") 251), (.str (Str.ofString "_divmod_pos") 252), (.str (Str.ofString "/claim/cut.py") 253), (.int 57 0), (.int 2 0), (.int 0 0), (.int 0 0), (.int 3 0), (.ref 50), (.bool true), (.int 181 0), (.ref 51), .none, (.ref 52), (.ref 53), (.ref 54), (.int 263 0), (.int 57 0), (.str (Str.ofString "/claim/cut.py") 264)]), #[]⟩
noncomputable def h56_10 (P : Params) : Obj := ⟨(.type "function"), .none, (.func { name := (Str.ofString "_divmod_pos"), qualname := (Str.ofString "_divmod_pos"), params := fPar (stm 7), body := .stmts (fBody (stm 7)), scope := fScope (stm 7), globals := 3, closure := [], defaults := .none, kwdefaults := .none, doc := .none, pyModule := (.str (Str.ofString "cpy313._pylong") 194), annotations := .none, code := (.ref 55), closureTuple := .none, builtins := 0 }), #[]⟩
noncomputable def h57_10 (P : Params) : Obj := ⟨(.type "tuple"), .none, (.seq #[] 0), #[]⟩
noncomputable def h58_10 (P : Params) : Obj := ⟨.none, .none, (.fields #[]), #[]⟩
noncomputable def h59_10 (P : Params) : Obj := ⟨(.type "tuple"), .none, (.seq #[(.str (Str.ofString "a") 269), (.str (Str.ofString "b") 270), (.str (Str.ofString "q") 271), (.str (Str.ofString "r") 272)] 0), #[]⟩
noncomputable def h60_10 (P : Params) : Obj := ⟨(.type "tuple"), .none, (.seq #[] 0), #[]⟩
noncomputable def h61_10 (P : Params) : Obj := ⟨.none, .none, (.func { name := (Str.ofString "int_divmod"), qualname := (Str.ofString "int_divmod"), params := fPar (stm 8), body := .stmts (fBody (stm 8)), scope := fScope (stm 8), globals := 0, closure := [], defaults := .none, kwdefaults := .none, doc := .none, pyModule := .none, annotations := .none, code := .none, closureTuple := .none, builtins := 0 }), #[]⟩
noncomputable def h62_10 (P : Params) : Obj := ⟨(.type "code"), .none, (.fields #[(.str (Str.ofString "int_divmod") 266), (.str (Str.ofString "int_divmod") 267), (.str (Str.ofString "/claim/cut.py") 268), (.int 68 0), (.int 2 0), (.int 0 0), (.int 0 0), (.int 3 0), (.ref 57), (.bool true), (.int 181 0), (.ref 58), .none, (.ref 59), (.ref 60), (.ref 61), (.int 273 0), (.int 68 0), (.str (Str.ofString "/claim/cut.py") 274)]), #[]⟩
noncomputable def h63_10 (P : Params) : Obj := ⟨(.type "function"), .none, (.func { name := (Str.ofString "int_divmod"), qualname := (Str.ofString "int_divmod"), params := fPar (stm 8), body := .stmts (fBody (stm 8)), scope := fScope (stm 8), globals := 3, closure := [], defaults := .none, kwdefaults := .none, doc := .none, pyModule := (.str (Str.ofString "cpy313._pylong") 194), annotations := .none, code := (.ref 62), closureTuple := .none, builtins := 0 }), #[]⟩
noncomputable def h3_11 (P : Params) : Obj := ⟨(.type "dict"), .none, (.dict (List.toArray [⟨PyData.keyHash P (Str.ofString "__name__"), (.str (Str.ofString "__name__") 165), (.str (Str.ofString "cpy313.email.header") 276)⟩, ⟨PyData.keyHash P (Str.ofString "__doc__"), (.str (Str.ofString "__doc__") 166), .none⟩, ⟨PyData.keyHash P (Str.ofString "__package__"), (.str (Str.ofString "__package__") 167), .none⟩, ⟨PyData.keyHash P (Str.ofString "__loader__"), (.str (Str.ofString "__loader__") 168), (.builtin "__main__.__loader__#opaque")⟩, ⟨PyData.keyHash P (Str.ofString "__spec__"), (.str (Str.ofString "__spec__") 169), .none⟩, ⟨PyData.keyHash P (Str.ofString "__annotations__"), (.str (Str.ofString "__annotations__") 170), (.ref 6)⟩, ⟨PyData.keyHash P (Str.ofString "__builtins__"), (.str (Str.ofString "__builtins__") 171), (.ref 4)⟩, ⟨PyData.keyHash P (Str.ofString "__file__"), (.str (Str.ofString "__file__") 173), (.str (Str.ofString "/claim/cut.py") 172)⟩, ⟨PyData.keyHash P (Str.ofString "__cached__"), (.str (Str.ofString "__cached__") 174), .none⟩, ⟨PyData.keyHash P (Str.ofString "_wall"), (.str (Str.ofString "_wall") 193), (.ref 21)⟩, ⟨PyData.keyHash P (Str.ofString "_DIV_LIMIT"), (.str (Str.ofString "_DIV_LIMIT") 197), (.int 4000 196)⟩, ⟨PyData.keyHash P (Str.ofString "_div2n1n"), (.str (Str.ofString "_div2n1n") 214), (.ref 28)⟩, ⟨PyData.keyHash P (Str.ofString "_div3n2n"), (.str (Str.ofString "_div3n2n") 228), (.ref 35)⟩, ⟨PyData.keyHash P (Str.ofString "_int2digits"), (.str (Str.ofString "_int2digits") 239), (.ref 42)⟩, ⟨PyData.keyHash P (Str.ofString "_digits2int"), (.str (Str.ofString "_digits2int") 250), (.ref 49)⟩, ⟨PyData.keyHash P (Str.ofString "_divmod_pos"), (.str (Str.ofString "_divmod_pos") 265), (.ref 56)⟩, ⟨PyData.keyHash P (Str.ofString "int_divmod"), (.str (Str.ofString "int_divmod") 275), (.ref 63)⟩, ⟨PyData.keyHash P (Str.ofString "EMPTYSTRING"), (.str (Str.ofString "EMPTYSTRING") 279), (.str (Str.ofString "") 278)⟩, ⟨PyData.keyHash P (Str.ofString "_Accumulator"), (.str (Str.ofString "_Accumulator") 374), (.ref 143)⟩]) 19), #[]⟩
noncomputable def h12_11 (P : Params) : Obj := ⟨.none, .none, (.fields #[(.int 1 0), (.int 0 0), (.ref 20), (.int 6 0), (.int 0 0), (.ref 27), (.int 22 0), (.int 0 0), (.ref 34), (.int 32 0), (.int 0 0), (.ref 41), (.int 48 0), (.int 0 0), (.ref 48), (.int 57 0), (.int 0 0), (.ref 55), (.int 68 0), (.int 0 0), (.ref 62), (.int 81 0), (.int 0 0), (.ref 70)]), #[]⟩
noncomputable def h64_11 (P : Params) : Obj := ⟨(.type "tuple"), .none, (.seq #[(.type "list")] 0), #[]⟩
noncomputable def h65_11 (P : Params) : Obj := ⟨(.type "builtin_function_or_method"), .none, (.fields #[(.builtin "type.__prepare__"), (.type "type")]), #[]⟩
noncomputable def h66_11 (P : Params) : Obj := ⟨(.type "dict"), .none, (.dict (List.toArray [⟨PyData.keyHash P (Str.ofString "__module__"), (.str (Str.ofString "__module__") 287), (.str (Str.ofString "cpy313.email.header") 276)⟩, ⟨PyData.keyHash P (Str.ofString "__qualname__"), (.str (Str.ofString "__qualname__") 289), (.str (Str.ofString "_Accumulator") 288)⟩, ⟨PyData.keyHash P (Str.ofString "__firstlineno__"), (.str (Str.ofString "__firstlineno__") 291), (.int 81 290)⟩, ⟨PyData.keyHash P (Str.ofString "__init__"), (.str (Str.ofString "__init__") 301), (.ref 80)⟩, ⟨PyData.keyHash P (Str.ofString "push"), (.str (Str.ofString "push") 310), (.ref 87)⟩, ⟨PyData.keyHash P (Str.ofString "pop_from"), (.str (Str.ofString "pop_from") 319), (.ref 95)⟩, ⟨PyData.keyHash P (Str.ofString "pop"), (.str (Str.ofString "pop") 327), (.ref 103)⟩, ⟨PyData.keyHash P (Str.ofString "__len__"), (.str (Str.ofString "__len__") 334), (.ref 110)⟩, ⟨PyData.keyHash P (Str.ofString "__str__"), (.str (Str.ofString "__str__") 341), (.ref 117)⟩, ⟨PyData.keyHash P (Str.ofString "reset"), (.str (Str.ofString "reset") 349), (.ref 125)⟩, ⟨PyData.keyHash P (Str.ofString "is_onlyws"), (.str (Str.ofString "is_onlyws") 356), (.ref 132)⟩, ⟨PyData.keyHash P (Str.ofString "part_count"), (.str (Str.ofString "part_count") 364), (.ref 140)⟩, ⟨PyData.keyHash P (Str.ofString "__static_attributes__"), (.str (Str.ofString "__static_attributes__") 366), (.ref 141)⟩, ⟨PyData.keyHash P (Str.ofString "__classcell__"), (.str (Str.ofString "__classcell__") 367), (.ref 67)⟩]) 14), #[]⟩
noncomputable def h67_11 (P : Params) : Obj := ⟨(.type "cell"), .none, (.cell (.some (.ref 143))), #[]⟩
noncomputable def h68_11 (P : Params) : Obj := ⟨(.type "tuple"), .none, (.seq #[] 0), #[]⟩
noncomputable def h69_11 (P : Params) : Obj := ⟨.none, .none, (.fields #[(.int 83 0), (.int 4 0), (.ref 79), (.int 87 0), (.int 4 0), (.ref 86), (.int 90 0), (.int 4 0), (.ref 94), (.int 93 0), (.int 4 0), (.ref 102), (.int 98 0), (.int 4 0), (.ref 109), (.int 101 0), (.int 4 0), (.ref 116), (.int 104 0), (.int 4 0), (.ref 124), (.int 107 0), (.int 4 0), (.ref 131), (.int 110 0), (.int 4 0), (.ref 139)]), #[]⟩
noncomputable def h70_11 (P : Params) : Obj := ⟨(.type "code"), .none, (.fields #[(.str (Str.ofString "_Accumulator") 282), (.str (Str.ofString "_Accumulator") 283), (.str (Str.ofString "/claim/cut.py") 284), (.int 81 0), (.int 0 0), (.int 0 0), (.int 0 0), (.int 0 0), (.ref 68), (.bool false), (.int 181 0), (.ref 69), .none, .none, .none, .none, (.int 285 0), (.int 81 0), (.str (Str.ofString "/claim/cut.py") 286)]), #[]⟩
noncomputable def h71_11 (P : Params) : Obj := ⟨(.type "frame"), .none, .plain, #[(.some (.ref 70)), (.some (.ref 3)), (.some (.ref 66)), .none, (.some (.str (Str.ofString "cpy313.email.header") 276)), .none, (.some (.ref 0))]⟩
noncomputable def h72_11 (P : Params) : Obj := ⟨(.type "tuple"), .none, (.seq #[(.int 0 292)] 0), #[]⟩
noncomputable def h73_11 (P : Params) : Obj := ⟨(.type "tuple"), .none, (.seq #[(.ref 67)] 0), #[]⟩
noncomputable def h74_11 (P : Params) : Obj := ⟨(.type "tuple"), .none, (.seq #[(.str (Str.ofString "__class__") 296)] 0), #[]⟩
noncomputable def h75_11 (P : Params) : Obj := ⟨.none, .none, (.fields #[]), #[]⟩
noncomputable def h76_11 (P : Params) : Obj := ⟨(.type "tuple"), .none, (.seq #[(.str (Str.ofString "self") 297), (.str (Str.ofString "initial_size") 298)] 0), #[]⟩
noncomputable def h77_11 (P : Params) : Obj := ⟨(.type "tuple"), .none, (.seq #[] 0), #[]⟩
noncomputable def h78_11 (P : Params) : Obj := ⟨.none, .none, (.func { name := (Str.ofString "__init__"), qualname := (Str.ofString "_Accumulator.__init__"), params := fPar (mth 11 0), body := .stmts (fBody (mth 11 0)), scope := fScope (mth 11 0), globals := 0, closure := [], defaults := .none, kwdefaults := .none, doc := .none, pyModule := .none, annotations := .none, code := .none, closureTuple := .none, builtins := 0 }), #[]⟩
noncomputable def h79_11 (P : Params) : Obj := ⟨(.type "code"), .none, (.fields #[(.str (Str.ofString "__init__") 293), (.str (Str.ofString "_Accumulator.__init__") 294), (.str (Str.ofString "/claim/cut.py") 295), (.int 83 0), (.int 2 0), (.int 0 0), (.int 0 0), (.int 3 0), (.ref 74), (.bool true), (.int 181 0), (.ref 75), .none, (.ref 76), (.ref 77), (.ref 78), (.int 299 0), (.int 83 0), (.str (Str.ofString "/claim/cut.py") 300)]), #[]⟩
noncomputable def h80_11 (P : Params) : Obj := ⟨(.type "function"), .none, (.func { name := (Str.ofString "__init__"), qualname := (Str.ofString "_Accumulator.__init__"), params := fPar (mth 11 0), body := .stmts (fBody (mth 11 0)), scope := fScope (mth 11 0), globals := 3, closure := [((Str.ofString "__class__"), 67)], defaults := (.ref 72), kwdefaults := .none, doc := .none, pyModule := (.str (Str.ofString "cpy313.email.header") 276), annotations := .none, code := (.ref 79), closureTuple := (.ref 73), builtins := 0 }), #[]⟩
noncomputable def h81_11 (P : Params) : Obj := ⟨(.type "tuple"), .none, (.seq #[] 0), #[]⟩
noncomputable def h82_11 (P : Params) : Obj := ⟨.none, .none, (.fields #[]), #[]⟩
noncomputable def h83_11 (P : Params) : Obj := ⟨(.type "tuple"), .none, (.seq #[(.str (Str.ofString "self") 305), (.str (Str.ofString "fws") 306), (.str (Str.ofString "string") 307)] 0), #[]⟩
noncomputable def h84_11 (P : Params) : Obj := ⟨(.type "tuple"), .none, (.seq #[] 0), #[]⟩
noncomputable def h85_11 (P : Params) : Obj := ⟨.none, .none, (.func { name := (Str.ofString "push"), qualname := (Str.ofString "_Accumulator.push"), params := fPar (mth 11 1), body := .stmts (fBody (mth 11 1)), scope := fScope (mth 11 1), globals := 0, closure := [], defaults := .none, kwdefaults := .none, doc := .none, pyModule := .none, annotations := .none, code := .none, closureTuple := .none, builtins := 0 }), #[]⟩
noncomputable def h86_11 (P : Params) : Obj := ⟨(.type "code"), .none, (.fields #[(.str (Str.ofString "push") 302), (.str (Str.ofString "_Accumulator.push") 303), (.str (Str.ofString "/claim/cut.py") 304), (.int 87 0), (.int 3 0), (.int 0 0), (.int 0 0), (.int 3 0), (.ref 81), (.bool true), (.int 181 0), (.ref 82), .none, (.ref 83), (.ref 84), (.ref 85), (.int 308 0), (.int 87 0), (.str (Str.ofString "/claim/cut.py") 309)]), #[]⟩
noncomputable def h87_11 (P : Params) : Obj := ⟨(.type "function"), .none, (.func { name := (Str.ofString "push"), qualname := (Str.ofString "_Accumulator.push"), params := fPar (mth 11 1), body := .stmts (fBody (mth 11 1)), scope := fScope (mth 11 1), globals := 3, closure := [], defaults := .none, kwdefaults := .none, doc := .none, pyModule := (.str (Str.ofString "cpy313.email.header") 276), annotations := .none, code := (.ref 86), closureTuple := .none, builtins := 0 }), #[]⟩
noncomputable def h88_11 (P : Params) : Obj := ⟨(.type "tuple"), .none, (.seq #[(.int 0 311)] 0), #[]⟩
noncomputable def h89_11 (P : Params) : Obj := ⟨(.type "tuple"), .none, (.seq #[] 0), #[]⟩
noncomputable def h90_11 (P : Params) : Obj := ⟨.none, .none, (.fields #[]), #[]⟩
noncomputable def h91_11 (P : Params) : Obj := ⟨(.type "tuple"), .none, (.seq #[(.str (Str.ofString "self") 315), (.str (Str.ofString "i") 316)] 0), #[]⟩
noncomputable def h92_11 (P : Params) : Obj := ⟨(.type "tuple"), .none, (.seq #[] 0), #[]⟩
noncomputable def h93_11 (P : Params) : Obj := ⟨.none, .none, (.func { name := (Str.ofString "pop_from"), qualname := (Str.ofString "_Accumulator.pop_from"), params := fPar (mth 11 2), body := .stmts (fBody (mth 11 2)), scope := fScope (mth 11 2), globals := 0, closure := [], defaults := .none, kwdefaults := .none, doc := .none, pyModule := .none, annotations := .none, code := .none, closureTuple := .none, builtins := 0 }), #[]⟩
noncomputable def h94_11 (P : Params) : Obj := ⟨(.type "code"), .none, (.fields #[(.str (Str.ofString "pop_from") 312), (.str (Str.ofString "_Accumulator.pop_from") 313), (.str (Str.ofString "/claim/cut.py") 314), (.int 90 0), (.int 2 0), (.int 0 0), (.int 0 0), (.int 3 0), (.ref 89), (.bool true), (.int 181 0), (.ref 90), .none, (.ref 91), (.ref 92), (.ref 93), (.int 317 0), (.int 90 0), (.str (Str.ofString "/claim/cut.py") 318)]), #[]⟩
noncomputable def h95_11 (P : Params) : Obj := ⟨(.type "function"), .none, (.func { name := (Str.ofString "pop_from"), qualname := (Str.ofString "_Accumulator.pop_from"), params := fPar (mth 11 2), body := .stmts (fBody (mth 11 2)), scope := fScope (mth 11 2), globals := 3, closure := [], defaults := (.ref 88), kwdefaults := .none, doc := .none, pyModule := (.str (Str.ofString "cpy313.email.header") 276), annotations := .none, code := (.ref 94), closureTuple := .none, builtins := 0 }), #[]⟩
noncomputable def h96_11 (P : Params) : Obj := ⟨(.type "tuple"), .none, (.seq #[(.ref 67)] 0), #[]⟩
noncomputable def h97_11 (P : Params) : Obj := ⟨(.type "tuple"), .none, (.seq #[(.str (Str.ofString "__class__") 323)] 0), #[]⟩
noncomputable def h98_11 (P : Params) : Obj := ⟨.none, .none, (.fields #[]), #[]⟩
noncomputable def h99_11 (P : Params) : Obj := ⟨(.type "tuple"), .none, (.seq #[(.str (Str.ofString "self") 324)] 0), #[]⟩
noncomputable def h100_11 (P : Params) : Obj := ⟨(.type "tuple"), .none, (.seq #[] 0), #[]⟩
noncomputable def h101_11 (P : Params) : Obj := ⟨.none, .none, (.func { name := (Str.ofString "pop"), qualname := (Str.ofString "_Accumulator.pop"), params := fPar (mth 11 3), body := .stmts (fBody (mth 11 3)), scope := fScope (mth 11 3), globals := 0, closure := [], defaults := .none, kwdefaults := .none, doc := .none, pyModule := .none, annotations := .none, code := .none, closureTuple := .none, builtins := 0 }), #[]⟩
noncomputable def h102_11 (P : Params) : Obj := ⟨(.type "code"), .none, (.fields #[(.str (Str.ofString "pop") 320), (.str (Str.ofString "_Accumulator.pop") 321), (.str (Str.ofString "/claim/cut.py") 322), (.int 93 0), (.int 1 0), (.int 0 0), (.int 0 0), (.int 3 0), (.ref 97), (.bool true), (.int 181 0), (.ref 98), .none, (.ref 99), (.ref 100), (.ref 101), (.int 325 0), (.int 93 0), (.str (Str.ofString "/claim/cut.py") 326)]), #[]⟩
noncomputable def h103_11 (P : Params) : Obj := ⟨(.type "function"), .none, (.func { name := (Str.ofString "pop"), qualname := (Str.ofString "_Accumulator.pop"), params := fPar (mth 11 3), body := .stmts (fBody (mth 11 3)), scope := fScope (mth 11 3), globals := 3, closure := [((Str.ofString "__class__"), 67)], defaults := .none, kwdefaults := .none, doc := .none, pyModule := (.str (Str.ofString "cpy313.email.header") 276), annotations := .none, code := (.ref 102), closureTuple := (.ref 96), builtins := 0 }), #[]⟩
noncomputable def h104_11 (P : Params) : Obj := ⟨(.type "tuple"), .none, (.seq #[] 0), #[]⟩
noncomputable def h105_11 (P : Params) : Obj := ⟨.none, .none, (.fields #[]), #[]⟩
noncomputable def h106_11 (P : Params) : Obj := ⟨(.type "tuple"), .none, (.seq #[(.str (Str.ofString "self") 331)] 0), #[]⟩
noncomputable def h107_11 (P : Params) : Obj := ⟨(.type "tuple"), .none, (.seq #[] 0), #[]⟩
noncomputable def h108_11 (P : Params) : Obj := ⟨.none, .none, (.func { name := (Str.ofString "__len__"), qualname := (Str.ofString "_Accumulator.__len__"), params := fPar (mth 11 4), body := .stmts (fBody (mth 11 4)), scope := fScope (mth 11 4), globals := 0, closure := [], defaults := .none, kwdefaults := .none, doc := .none, pyModule := .none, annotations := .none, code := .none, closureTuple := .none, builtins := 0 }), #[]⟩
noncomputable def h109_11 (P : Params) : Obj := ⟨(.type "code"), .none, (.fields #[(.str (Str.ofString "__len__") 328), (.str (Str.ofString "_Accumulator.__len__") 329), (.str (Str.ofString "/claim/cut.py") 330), (.int 98 0), (.int 1 0), (.int 0 0), (.int 0 0), (.int 3 0), (.ref 104), (.bool true), (.int 181 0), (.ref 105), .none, (.ref 106), (.ref 107), (.ref 108), (.int 332 0), (.int 98 0), (.str (Str.ofString "/claim/cut.py") 333)]), #[]⟩
noncomputable def h110_11 (P : Params) : Obj := ⟨(.type "function"), .none, (.func { name := (Str.ofString "__len__"), qualname := (Str.ofString "_Accumulator.__len__"), params := fPar (mth 11 4), body := .stmts (fBody (mth 11 4)), scope := fScope (mth 11 4), globals := 3, closure := [], defaults := .none, kwdefaults := .none, doc := .none, pyModule := (.str (Str.ofString "cpy313.email.header") 276), annotations := .none, code := (.ref 109), closureTuple := .none, builtins := 0 }), #[]⟩
noncomputable def h111_11 (P : Params) : Obj := ⟨(.type "tuple"), .none, (.seq #[] 0), #[]⟩
noncomputable def h112_11 (P : Params) : Obj := ⟨.none, .none, (.fields #[]), #[]⟩
noncomputable def h113_11 (P : Params) : Obj := ⟨(.type "tuple"), .none, (.seq #[(.str (Str.ofString "self") 338)] 0), #[]⟩
noncomputable def h114_11 (P : Params) : Obj := ⟨(.type "tuple"), .none, (.seq #[] 0), #[]⟩
noncomputable def h115_11 (P : Params) : Obj := ⟨.none, .none, (.func { name := (Str.ofString "__str__"), qualname := (Str.ofString "_Accumulator.__str__"), params := fPar (mth 11 5), body := .stmts (fBody (mth 11 5)), scope := fScope (mth 11 5), globals := 0, closure := [], defaults := .none, kwdefaults := .none, doc := .none, pyModule := .none, annotations := .none, code := .none, closureTuple := .none, builtins := 0 }), #[]⟩
noncomputable def h116_11 (P : Params) : Obj := ⟨(.type "code"), .none, (.fields #[(.str (Str.ofString "__str__") 335), (.str (Str.ofString "_Accumulator.__str__") 336), (.str (Str.ofString "/claim/cut.py") 337), (.int 101 0), (.int 1 0), (.int 0 0), (.int 0 0), (.int 3 0), (.ref 111), (.bool true), (.int 181 0), (.ref 112), .none, (.ref 113), (.ref 114), (.ref 115), (.int 339 0), (.int 101 0), (.str (Str.ofString "/claim/cut.py") 340)]), #[]⟩
noncomputable def h117_11 (P : Params) : Obj := ⟨(.type "function"), .none, (.func { name := (Str.ofString "__str__"), qualname := (Str.ofString "_Accumulator.__str__"), params := fPar (mth 11 5), body := .stmts (fBody (mth 11 5)), scope := fScope (mth 11 5), globals := 3, closure := [], defaults := .none, kwdefaults := .none, doc := .none, pyModule := (.str (Str.ofString "cpy313.email.header") 276), annotations := .none, code := (.ref 116), closureTuple := .none, builtins := 0 }), #[]⟩
noncomputable def h118_11 (P : Params) : Obj := ⟨(.type "tuple"), .none, (.seq #[.none] 0), #[]⟩
noncomputable def h119_11 (P : Params) : Obj := ⟨(.type "tuple"), .none, (.seq #[] 0), #[]⟩
noncomputable def h120_11 (P : Params) : Obj := ⟨.none, .none, (.fields #[]), #[]⟩
noncomputable def h121_11 (P : Params) : Obj := ⟨(.type "tuple"), .none, (.seq #[(.str (Str.ofString "self") 345), (.str (Str.ofString "startval") 346)] 0), #[]⟩
noncomputable def h122_11 (P : Params) : Obj := ⟨(.type "tuple"), .none, (.seq #[] 0), #[]⟩
noncomputable def h123_11 (P : Params) : Obj := ⟨.none, .none, (.func { name := (Str.ofString "reset"), qualname := (Str.ofString "_Accumulator.reset"), params := fPar (mth 11 6), body := .stmts (fBody (mth 11 6)), scope := fScope (mth 11 6), globals := 0, closure := [], defaults := .none, kwdefaults := .none, doc := .none, pyModule := .none, annotations := .none, code := .none, closureTuple := .none, builtins := 0 }), #[]⟩
noncomputable def h124_11 (P : Params) : Obj := ⟨(.type "code"), .none, (.fields #[(.str (Str.ofString "reset") 342), (.str (Str.ofString "_Accumulator.reset") 343), (.str (Str.ofString "/claim/cut.py") 344), (.int 104 0), (.int 2 0), (.int 0 0), (.int 0 0), (.int 3 0), (.ref 119), (.bool true), (.int 181 0), (.ref 120), .none, (.ref 121), (.ref 122), (.ref 123), (.int 347 0), (.int 104 0), (.str (Str.ofString "/claim/cut.py") 348)]), #[]⟩
noncomputable def h125_11 (P : Params) : Obj := ⟨(.type "function"), .none, (.func { name := (Str.ofString "reset"), qualname := (Str.ofString "_Accumulator.reset"), params := fPar (mth 11 6), body := .stmts (fBody (mth 11 6)), scope := fScope (mth 11 6), globals := 3, closure := [], defaults := (.ref 118), kwdefaults := .none, doc := .none, pyModule := (.str (Str.ofString "cpy313.email.header") 276), annotations := .none, code := (.ref 124), closureTuple := .none, builtins := 0 }), #[]⟩
noncomputable def h126_11 (P : Params) : Obj := ⟨(.type "tuple"), .none, (.seq #[] 0), #[]⟩
noncomputable def h127_11 (P : Params) : Obj := ⟨.none, .none, (.fields #[]), #[]⟩
noncomputable def h128_11 (P : Params) : Obj := ⟨(.type "tuple"), .none, (.seq #[(.str (Str.ofString "self") 353)] 0), #[]⟩
noncomputable def h129_11 (P : Params) : Obj := ⟨(.type "tuple"), .none, (.seq #[] 0), #[]⟩
noncomputable def h130_11 (P : Params) : Obj := ⟨.none, .none, (.func { name := (Str.ofString "is_onlyws"), qualname := (Str.ofString "_Accumulator.is_onlyws"), params := fPar (mth 11 7), body := .stmts (fBody (mth 11 7)), scope := fScope (mth 11 7), globals := 0, closure := [], defaults := .none, kwdefaults := .none, doc := .none, pyModule := .none, annotations := .none, code := .none, closureTuple := .none, builtins := 0 }), #[]⟩
noncomputable def h131_11 (P : Params) : Obj := ⟨(.type "code"), .none, (.fields #[(.str (Str.ofString "is_onlyws") 350), (.str (Str.ofString "_Accumulator.is_onlyws") 351), (.str (Str.ofString "/claim/cut.py") 352), (.int 107 0), (.int 1 0), (.int 0 0), (.int 0 0), (.int 3 0), (.ref 126), (.bool true), (.int 181 0), (.ref 127), .none, (.ref 128), (.ref 129), (.ref 130), (.int 354 0), (.int 107 0), (.str (Str.ofString "/claim/cut.py") 355)]), #[]⟩
noncomputable def h132_11 (P : Params) : Obj := ⟨(.type "function"), .none, (.func { name := (Str.ofString "is_onlyws"), qualname := (Str.ofString "_Accumulator.is_onlyws"), params := fPar (mth 11 7), body := .stmts (fBody (mth 11 7)), scope := fScope (mth 11 7), globals := 3, closure := [], defaults := .none, kwdefaults := .none, doc := .none, pyModule := (.str (Str.ofString "cpy313.email.header") 276), annotations := .none, code := (.ref 131), closureTuple := .none, builtins := 0 }), #[]⟩
noncomputable def h133_11 (P : Params) : Obj := ⟨(.type "tuple"), .none, (.seq #[(.ref 67)] 0), #[]⟩
noncomputable def h134_11 (P : Params) : Obj := ⟨(.type "tuple"), .none, (.seq #[(.str (Str.ofString "__class__") 360)] 0), #[]⟩
noncomputable def h135_11 (P : Params) : Obj := ⟨.none, .none, (.fields #[]), #[]⟩
noncomputable def h136_11 (P : Params) : Obj := ⟨(.type "tuple"), .none, (.seq #[(.str (Str.ofString "self") 361)] 0), #[]⟩
noncomputable def h137_11 (P : Params) : Obj := ⟨(.type "tuple"), .none, (.seq #[] 0), #[]⟩
noncomputable def h138_11 (P : Params) : Obj := ⟨.none, .none, (.func { name := (Str.ofString "part_count"), qualname := (Str.ofString "_Accumulator.part_count"), params := fPar (mth 11 8), body := .stmts (fBody (mth 11 8)), scope := fScope (mth 11 8), globals := 0, closure := [], defaults := .none, kwdefaults := .none, doc := .none, pyModule := .none, annotations := .none, code := .none, closureTuple := .none, builtins := 0 }), #[]⟩
noncomputable def h139_11 (P : Params) : Obj := ⟨(.type "code"), .none, (.fields #[(.str (Str.ofString "part_count") 357), (.str (Str.ofString "_Accumulator.part_count") 358), (.str (Str.ofString "/claim/cut.py") 359), (.int 110 0), (.int 1 0), (.int 0 0), (.int 0 0), (.int 3 0), (.ref 134), (.bool true), (.int 181 0), (.ref 135), .none, (.ref 136), (.ref 137), (.ref 138), (.int 362 0), (.int 110 0), (.str (Str.ofString "/claim/cut.py") 363)]), #[]⟩
noncomputable def h140_11 (P : Params) : Obj := ⟨(.type "function"), .none, (.func { name := (Str.ofString "part_count"), qualname := (Str.ofString "_Accumulator.part_count"), params := fPar (mth 11 8), body := .stmts (fBody (mth 11 8)), scope := fScope (mth 11 8), globals := 3, closure := [((Str.ofString "__class__"), 67)], defaults := .none, kwdefaults := .none, doc := .none, pyModule := (.str (Str.ofString "cpy313.email.header") 276), annotations := .none, code := (.ref 139), closureTuple := (.ref 133), builtins := 0 }), #[]⟩
noncomputable def h141_11 (P : Params) : Obj := ⟨(.type "tuple"), .none, (.seq #[(.str (Str.ofString "_initial_size") 365)] 0), #[]⟩
noncomputable def h142_11 (P : Params) : Obj := ⟨(.type "dict"), .none, (.dict (List.toArray [⟨PyData.keyHash P (Str.ofString "__module__"), (.str (Str.ofString "__module__") 287), (.str (Str.ofString "cpy313.email.header") 276)⟩, ⟨PyData.keyHash P (Str.ofString "__firstlineno__"), (.str (Str.ofString "__firstlineno__") 291), (.int 81 290)⟩, ⟨PyData.keyHash P (Str.ofString "__init__"), (.str (Str.ofString "__init__") 301), (.ref 80)⟩, ⟨PyData.keyHash P (Str.ofString "push"), (.str (Str.ofString "push") 310), (.ref 87)⟩, ⟨PyData.keyHash P (Str.ofString "pop_from"), (.str (Str.ofString "pop_from") 319), (.ref 95)⟩, ⟨PyData.keyHash P (Str.ofString "pop"), (.str (Str.ofString "pop") 327), (.ref 103)⟩, ⟨PyData.keyHash P (Str.ofString "__len__"), (.str (Str.ofString "__len__") 334), (.ref 110)⟩, ⟨PyData.keyHash P (Str.ofString "__str__"), (.str (Str.ofString "__str__") 341), (.ref 117)⟩, ⟨PyData.keyHash P (Str.ofString "reset"), (.str (Str.ofString "reset") 349), (.ref 125)⟩, ⟨PyData.keyHash P (Str.ofString "is_onlyws"), (.str (Str.ofString "is_onlyws") 356), (.ref 132)⟩, ⟨PyData.keyHash P (Str.ofString "part_count"), (.str (Str.ofString "part_count") 364), (.ref 140)⟩, ⟨PyData.keyHash P (Str.ofString "__static_attributes__"), (.str (Str.ofString "__static_attributes__") 366), (.ref 141)⟩, ⟨PyData.keyHash P (Str.ofString "__dict__"), (.str (Str.ofString "__dict__") 369), (.ref 144)⟩, ⟨PyData.keyHash P (Str.ofString "__weakref__"), (.str (Str.ofString "__weakref__") 371), (.ref 145)⟩, ⟨PyData.keyHash P (Str.ofString "__doc__"), (.str (Str.ofString "__doc__") 372), .none⟩]) 5), #[]⟩
noncomputable def h143_11 (P : Params) : Obj := ⟨(.type "type"), .none, (.cls { name := (Str.ofString "_Accumulator"), bases := [(.type "list")], mro := [(.ref 143), (.type "list"), (.type "object")], ns := 142, qualname := (Str.ofString "_Accumulator"), hasDict := true, slotNames := [], subclasses := [], abstract := false, collection := .none, hasDel := false }), #[(.some (.ref 64)), .none, (.some (.str (Str.ofString "_Accumulator") 280)), (.some (.str (Str.ofString "_Accumulator") 288)), (.some (.builtin "list.__new__")), (.some (.bool true))]⟩
noncomputable def h144_11 (P : Params) : Obj := ⟨(.type "getset_descriptor"), .none, (.fields #[(.str (Str.ofString "__dict__") 368), (.ref 143), (.builtin "function.__dict__"), (.builtin "function.__dict__#set")]), #[]⟩
noncomputable def h145_11 (P : Params) : Obj := ⟨(.type "getset_descriptor"), .none, (.fields #[(.str (Str.ofString "__weakref__") 370), (.ref 143), (.builtin "ExceptionGroup.__weakref__"), .none]), #[]⟩
noncomputable def h146_11 (P : Params) : Obj := ⟨(.type "super"), .none, (.fields #[(.ref 143), (.ref 143), (.ref 143)]), #[]⟩
noncomputable def h147_11 (P : Params) : Obj := ⟨(.type "builtin_function_or_method"), .none, (.fields #[(.builtin "object.__init_subclass__"), (.ref 143)]), #[]⟩
noncomputable def h3_12 (P : Params) : Obj := ⟨(.type "dict"), .none, (.dict (List.toArray [⟨PyData.keyHash P (Str.ofString "__name__"), (.str (Str.ofString "__name__") 165), (.str (Str.ofString "cpy313.stringprep") 375)⟩, ⟨PyData.keyHash P (Str.ofString "__doc__"), (.str (Str.ofString "__doc__") 166), .none⟩, ⟨PyData.keyHash P (Str.ofString "__package__"), (.str (Str.ofString "__package__") 167), .none⟩, ⟨PyData.keyHash P (Str.ofString "__loader__"), (.str (Str.ofString "__loader__") 168), (.builtin "__main__.__loader__#opaque")⟩, ⟨PyData.keyHash P (Str.ofString "__spec__"), (.str (Str.ofString "__spec__") 169), .none⟩, ⟨PyData.keyHash P (Str.ofString "__annotations__"), (.str (Str.ofString "__annotations__") 170), (.ref 6)⟩, ⟨PyData.keyHash P (Str.ofString "__builtins__"), (.str (Str.ofString "__builtins__") 171), (.ref 4)⟩, ⟨PyData.keyHash P (Str.ofString "__file__"), (.str (Str.ofString "__file__") 173), (.str (Str.ofString "/claim/cut.py") 172)⟩, ⟨PyData.keyHash P (Str.ofString "__cached__"), (.str (Str.ofString "__cached__") 174), .none⟩, ⟨PyData.keyHash P (Str.ofString "_wall"), (.str (Str.ofString "_wall") 193), (.ref 21)⟩, ⟨PyData.keyHash P (Str.ofString "_DIV_LIMIT"), (.str (Str.ofString "_DIV_LIMIT") 197), (.int 4000 196)⟩, ⟨PyData.keyHash P (Str.ofString "_div2n1n"), (.str (Str.ofString "_div2n1n") 214), (.ref 28)⟩, ⟨PyData.keyHash P (Str.ofString "_div3n2n"), (.str (Str.ofString "_div3n2n") 228), (.ref 35)⟩, ⟨PyData.keyHash P (Str.ofString "_int2digits"), (.str (Str.ofString "_int2digits") 239), (.ref 42)⟩, ⟨PyData.keyHash P (Str.ofString "_digits2int"), (.str (Str.ofString "_digits2int") 250), (.ref 49)⟩, ⟨PyData.keyHash P (Str.ofString "_divmod_pos"), (.str (Str.ofString "_divmod_pos") 265), (.ref 56)⟩, ⟨PyData.keyHash P (Str.ofString "int_divmod"), (.str (Str.ofString "int_divmod") 275), (.ref 63)⟩, ⟨PyData.keyHash P (Str.ofString "EMPTYSTRING"), (.str (Str.ofString "EMPTYSTRING") 279), (.str (Str.ofString "") 278)⟩, ⟨PyData.keyHash P (Str.ofString "_Accumulator"), (.str (Str.ofString "_Accumulator") 374), (.ref 143)⟩]) 19), #[]⟩
noncomputable def h3_14 (P : Params) : Obj := ⟨(.type "dict"), .none, (.dict (List.toArray [⟨PyData.keyHash P (Str.ofString "__name__"), (.str (Str.ofString "__name__") 165), (.str (Str.ofString "cpy313.stringprep") 375)⟩, ⟨PyData.keyHash P (Str.ofString "__doc__"), (.str (Str.ofString "__doc__") 166), .none⟩, ⟨PyData.keyHash P (Str.ofString "__package__"), (.str (Str.ofString "__package__") 167), .none⟩, ⟨PyData.keyHash P (Str.ofString "__loader__"), (.str (Str.ofString "__loader__") 168), (.builtin "__main__.__loader__#opaque")⟩, ⟨PyData.keyHash P (Str.ofString "__spec__"), (.str (Str.ofString "__spec__") 169), .none⟩, ⟨PyData.keyHash P (Str.ofString "__annotations__"), (.str (Str.ofString "__annotations__") 170), (.ref 6)⟩, ⟨PyData.keyHash P (Str.ofString "__builtins__"), (.str (Str.ofString "__builtins__") 171), (.ref 4)⟩, ⟨PyData.keyHash P (Str.ofString "__file__"), (.str (Str.ofString "__file__") 173), (.str (Str.ofString "/claim/cut.py") 172)⟩, ⟨PyData.keyHash P (Str.ofString "__cached__"), (.str (Str.ofString "__cached__") 174), .none⟩, ⟨PyData.keyHash P (Str.ofString "_wall"), (.str (Str.ofString "_wall") 193), (.ref 21)⟩, ⟨PyData.keyHash P (Str.ofString "_DIV_LIMIT"), (.str (Str.ofString "_DIV_LIMIT") 197), (.int 4000 196)⟩, ⟨PyData.keyHash P (Str.ofString "_div2n1n"), (.str (Str.ofString "_div2n1n") 214), (.ref 28)⟩, ⟨PyData.keyHash P (Str.ofString "_div3n2n"), (.str (Str.ofString "_div3n2n") 228), (.ref 35)⟩, ⟨PyData.keyHash P (Str.ofString "_int2digits"), (.str (Str.ofString "_int2digits") 239), (.ref 42)⟩, ⟨PyData.keyHash P (Str.ofString "_digits2int"), (.str (Str.ofString "_digits2int") 250), (.ref 49)⟩, ⟨PyData.keyHash P (Str.ofString "_divmod_pos"), (.str (Str.ofString "_divmod_pos") 265), (.ref 56)⟩, ⟨PyData.keyHash P (Str.ofString "int_divmod"), (.str (Str.ofString "int_divmod") 275), (.ref 63)⟩, ⟨PyData.keyHash P (Str.ofString "EMPTYSTRING"), (.str (Str.ofString "EMPTYSTRING") 279), (.str (Str.ofString "") 278)⟩, ⟨PyData.keyHash P (Str.ofString "_Accumulator"), (.str (Str.ofString "_Accumulator") 374), (.ref 143)⟩, ⟨PyData.keyHash P (Str.ofString "b1_set"), (.str (Str.ofString "b1_set") 436), (.ref 155)⟩, ⟨PyData.keyHash P (Str.ofString "in_table_b1"), (.str (Str.ofString "in_table_b1") 443), (.ref 165)⟩]) 21), #[]⟩
noncomputable def h12_14 (P : Params) : Obj := ⟨.none, .none, (.fields #[(.int 1 0), (.int 0 0), (.ref 20), (.int 6 0), (.int 0 0), (.ref 27), (.int 22 0), (.int 0 0), (.ref 34), (.int 32 0), (.int 0 0), (.ref 41), (.int 48 0), (.int 0 0), (.ref 48), (.int 57 0), (.int 0 0), (.ref 55), (.int 68 0), (.int 0 0), (.ref 62), (.int 81 0), (.int 0 0), (.ref 70), (.int 114 0), (.int 0 0), (.ref 164)]), #[]⟩
noncomputable def h148_14 (P : Params) : Obj := ⟨(.type "list"), .none, (.seq #[(.int 173 377), (.int 847 378), (.int 6150 379), (.int 6155 380), (.int 6156 381), (.int 6157 382), (.int 8203 383), (.int 8204 384), (.int 8205 385), (.int 8288 386), (.int 65279 387)] 0), #[]⟩
noncomputable def h149_14 (P : Params) : Obj := ⟨(.type "range"), .none, (.fields #[(.int 65024 388), (.int 65040 389), (.int 1 390)]), #[]⟩
noncomputable def h150_14 (P : Params) : Obj := ⟨(.type "list"), .none, (.seq #[(.int 65024 393), (.int 65025 394), (.int 65026 395), (.int 65027 396), (.int 65028 397), (.int 65029 398), (.int 65030 399), (.int 65031 400), (.int 65032 401), (.int 65033 402), (.int 65034 403), (.int 65035 404), (.int 65036 405), (.int 65037 406), (.int 65038 407), (.int 65039 408)] 18), #[]⟩
noncomputable def h151_14 (P : Params) : Obj := ⟨(.type "range_iterator"), .none, (.fields #[(.int 65040 0), (.int 0 0), (.int 1 0)]), #[]⟩
noncomputable def h152_14 (P : Params) : Obj := ⟨(.type "tuple"), .none, (.seq #[] 0), #[]⟩
noncomputable def h153_14 (P : Params) : Obj := ⟨(.type "StopIteration"), .none, (.fields #[(.ref 152), .none, .none, .none, (.bool false), .none]), #[]⟩
noncomputable def h154_14 (P : Params) : Obj := ⟨(.type "list"), .none, (.seq #[(.int 173 377), (.int 847 378), (.int 6150 379), (.int 6155 380), (.int 6156 381), (.int 6157 382), (.int 8203 383), (.int 8204 384), (.int 8205 385), (.int 8288 386), (.int 65279 387), (.int 65024 393), (.int 65025 394), (.int 65026 395), (.int 65027 396), (.int 65028 397), (.int 65029 398), (.int 65030 399), (.int 65031 400), (.int 65032 401), (.int 65033 402), (.int 65034 403), (.int 65035 404), (.int 65036 405), (.int 65037 406), (.int 65038 407), (.int 65039 408)] 0), #[]⟩
noncomputable def h155_14 (P : Params) : Obj := ⟨(.type "set"), .none, (.set #[(65024, (.int 65024 393)), (65025, (.int 65025 394)), (65026, (.int 65026 395)), (65027, (.int 65027 396)), (65028, (.int 65028 397)), (65029, (.int 65029 398)), (6150, (.int 6150 379)), (65030, (.int 65030 399)), (65031, (.int 65031 400)), (65032, (.int 65032 401)), (65033, (.int 65033 402)), (6155, (.int 6155 380)), (6156, (.int 6156 381)), (6157, (.int 6157 382)), (8203, (.int 8203 383)), (8204, (.int 8204 384)), (8205, (.int 8205 385)), (65034, (.int 65034 403)), (65035, (.int 65035 404)), (65036, (.int 65036 405)), (65037, (.int 65037 406)), (65038, (.int 65038 407)), (65039, (.int 65039 408)), (173, (.int 173 377)), (847, (.int 847 378)), (8288, (.int 8288 386)), (65279, (.int 65279 387))] 29 ⟨127, #[0, 1, 2, 3, 4, 5, 6, 7, 8, 9, 10, 11, 12, 13, 14, 15, 16, 17, 18, 19, 20, 21, 22, 45, 79, 96, 127], #[], 0, !P.followText "set-order", 2, true⟩), #[]⟩
noncomputable def h156_14 (P : Params) : Obj := ⟨(.type "list_iterator"), .none, (.fields #[.none, (.int 27 0)]), #[]⟩
noncomputable def h157_14 (P : Params) : Obj := ⟨(.type "tuple"), .none, (.seq #[] 0), #[]⟩
noncomputable def h158_14 (P : Params) : Obj := ⟨(.type "StopIteration"), .none, (.fields #[(.ref 157), .none, .none, .none, (.bool false), .none]), #[]⟩
noncomputable def h159_14 (P : Params) : Obj := ⟨(.type "tuple"), .none, (.seq #[] 0), #[]⟩
noncomputable def h160_14 (P : Params) : Obj := ⟨.none, .none, (.fields #[]), #[]⟩
noncomputable def h161_14 (P : Params) : Obj := ⟨(.type "tuple"), .none, (.seq #[(.str (Str.ofString "code") 440)] 0), #[]⟩
noncomputable def h162_14 (P : Params) : Obj := ⟨(.type "tuple"), .none, (.seq #[] 0), #[]⟩
noncomputable def h163_14 (P : Params) : Obj := ⟨.none, .none, (.func { name := (Str.ofString "in_table_b1"), qualname := (Str.ofString "in_table_b1"), params := fPar (stm 14), body := .stmts (fBody (stm 14)), scope := fScope (stm 14), globals := 0, closure := [], defaults := .none, kwdefaults := .none, doc := .none, pyModule := .none, annotations := .none, code := .none, closureTuple := .none, builtins := 0 }), #[]⟩
noncomputable def h164_14 (P : Params) : Obj := ⟨(.type "code"), .none, (.fields #[(.str (Str.ofString "in_table_b1") 437), (.str (Str.ofString "in_table_b1") 438), (.str (Str.ofString "/claim/cut.py") 439), (.int 114 0), (.int 1 0), (.int 0 0), (.int 0 0), (.int 3 0), (.ref 159), (.bool true), (.int 181 0), (.ref 160), .none, (.ref 161), (.ref 162), (.ref 163), (.int 441 0), (.int 114 0), (.str (Str.ofString "/claim/cut.py") 442)]), #[]⟩
noncomputable def h165_14 (P : Params) : Obj := ⟨(.type "function"), .none, (.func { name := (Str.ofString "in_table_b1"), qualname := (Str.ofString "in_table_b1"), params := fPar (stm 14), body := .stmts (fBody (stm 14)), scope := fScope (stm 14), globals := 3, closure := [], defaults := .none, kwdefaults := .none, doc := .none, pyModule := (.str (Str.ofString "cpy313.stringprep") 375), annotations := .none, code := (.ref 164), closureTuple := .none, builtins := 0 }), #[]⟩
noncomputable def h3_15 (P : Params) : Obj := ⟨(.type "dict"), .none, (.dict (List.toArray [⟨PyData.keyHash P (Str.ofString "__name__"), (.str (Str.ofString "__name__") 165), (.str (Str.ofString "cpy313.stringprep") 375)⟩, ⟨PyData.keyHash P (Str.ofString "__doc__"), (.str (Str.ofString "__doc__") 166), .none⟩, ⟨PyData.keyHash P (Str.ofString "__package__"), (.str (Str.ofString "__package__") 167), .none⟩, ⟨PyData.keyHash P (Str.ofString "__loader__"), (.str (Str.ofString "__loader__") 168), (.builtin "__main__.__loader__#opaque")⟩, ⟨PyData.keyHash P (Str.ofString "__spec__"), (.str (Str.ofString "__spec__") 169), .none⟩, ⟨PyData.keyHash P (Str.ofString "__annotations__"), (.str (Str.ofString "__annotations__") 170), (.ref 6)⟩, ⟨PyData.keyHash P (Str.ofString "__builtins__"), (.str (Str.ofString "__builtins__") 171), (.ref 4)⟩, ⟨PyData.keyHash P (Str.ofString "__file__"), (.str (Str.ofString "__file__") 173), (.str (Str.ofString "/claim/cut.py") 172)⟩, ⟨PyData.keyHash P (Str.ofString "__cached__"), (.str (Str.ofString "__cached__") 174), .none⟩, ⟨PyData.keyHash P (Str.ofString "_wall"), (.str (Str.ofString "_wall") 193), (.ref 21)⟩, ⟨PyData.keyHash P (Str.ofString "_DIV_LIMIT"), (.str (Str.ofString "_DIV_LIMIT") 197), (.int 4000 196)⟩, ⟨PyData.keyHash P (Str.ofString "_div2n1n"), (.str (Str.ofString "_div2n1n") 214), (.ref 28)⟩, ⟨PyData.keyHash P (Str.ofString "_div3n2n"), (.str (Str.ofString "_div3n2n") 228), (.ref 35)⟩, ⟨PyData.keyHash P (Str.ofString "_int2digits"), (.str (Str.ofString "_int2digits") 239), (.ref 42)⟩, ⟨PyData.keyHash P (Str.ofString "_digits2int"), (.str (Str.ofString "_digits2int") 250), (.ref 49)⟩, ⟨PyData.keyHash P (Str.ofString "_divmod_pos"), (.str (Str.ofString "_divmod_pos") 265), (.ref 56)⟩, ⟨PyData.keyHash P (Str.ofString "int_divmod"), (.str (Str.ofString "int_divmod") 275), (.ref 63)⟩, ⟨PyData.keyHash P (Str.ofString "EMPTYSTRING"), (.str (Str.ofString "EMPTYSTRING") 279), (.str (Str.ofString "") 278)⟩, ⟨PyData.keyHash P (Str.ofString "_Accumulator"), (.str (Str.ofString "_Accumulator") 374), (.ref 143)⟩, ⟨PyData.keyHash P (Str.ofString "b1_set"), (.str (Str.ofString "b1_set") 436), (.ref 155)⟩, ⟨PyData.keyHash P (Str.ofString "in_table_b1"), (.str (Str.ofString "in_table_b1") 443), (.ref 165)⟩, ⟨PyData.keyHash P (Str.ofString "b3_exceptions"), (.str (Str.ofString "b3_exceptions") 2394), (.ref 166)⟩]) 22), #[]⟩
noncomputable def h3_23 (P : Params) : Obj := ⟨(.type "dict"), .none, (.dict (List.toArray [⟨PyData.keyHash P (Str.ofString "__name__"), (.str (Str.ofString "__name__") 165), (.str (Str.ofString "law_un0040_01") 2403)⟩, ⟨PyData.keyHash P (Str.ofString "__doc__"), (.str (Str.ofString "__doc__") 166), .none⟩, ⟨PyData.keyHash P (Str.ofString "__package__"), (.str (Str.ofString "__package__") 167), .none⟩, ⟨PyData.keyHash P (Str.ofString "__loader__"), (.str (Str.ofString "__loader__") 168), (.builtin "__main__.__loader__#opaque")⟩, ⟨PyData.keyHash P (Str.ofString "__spec__"), (.str (Str.ofString "__spec__") 169), .none⟩, ⟨PyData.keyHash P (Str.ofString "__annotations__"), (.str (Str.ofString "__annotations__") 170), (.ref 6)⟩, ⟨PyData.keyHash P (Str.ofString "__builtins__"), (.str (Str.ofString "__builtins__") 171), (.ref 4)⟩, ⟨PyData.keyHash P (Str.ofString "__file__"), (.str (Str.ofString "__file__") 173), (.str (Str.ofString "/claim/cut.py") 172)⟩, ⟨PyData.keyHash P (Str.ofString "__cached__"), (.str (Str.ofString "__cached__") 174), .none⟩, ⟨PyData.keyHash P (Str.ofString "_wall"), (.str (Str.ofString "_wall") 193), (.ref 21)⟩, ⟨PyData.keyHash P (Str.ofString "_DIV_LIMIT"), (.str (Str.ofString "_DIV_LIMIT") 197), (.int 4000 196)⟩, ⟨PyData.keyHash P (Str.ofString "_div2n1n"), (.str (Str.ofString "_div2n1n") 214), (.ref 28)⟩, ⟨PyData.keyHash P (Str.ofString "_div3n2n"), (.str (Str.ofString "_div3n2n") 228), (.ref 35)⟩, ⟨PyData.keyHash P (Str.ofString "_int2digits"), (.str (Str.ofString "_int2digits") 239), (.ref 42)⟩, ⟨PyData.keyHash P (Str.ofString "_digits2int"), (.str (Str.ofString "_digits2int") 250), (.ref 49)⟩, ⟨PyData.keyHash P (Str.ofString "_divmod_pos"), (.str (Str.ofString "_divmod_pos") 265), (.ref 56)⟩, ⟨PyData.keyHash P (Str.ofString "int_divmod"), (.str (Str.ofString "int_divmod") 275), (.ref 63)⟩, ⟨PyData.keyHash P (Str.ofString "EMPTYSTRING"), (.str (Str.ofString "EMPTYSTRING") 279), (.str (Str.ofString "") 278)⟩, ⟨PyData.keyHash P (Str.ofString "_Accumulator"), (.str (Str.ofString "_Accumulator") 374), (.ref 143)⟩, ⟨PyData.keyHash P (Str.ofString "b1_set"), (.str (Str.ofString "b1_set") 436), (.ref 155)⟩, ⟨PyData.keyHash P (Str.ofString "in_table_b1"), (.str (Str.ofString "in_table_b1") 443), (.ref 165)⟩, ⟨PyData.keyHash P (Str.ofString "b3_exceptions"), (.str (Str.ofString "b3_exceptions") 2394), (.ref 166)⟩, ⟨PyData.keyHash P (Str.ofString "map_table_b3"), (.str (Str.ofString "map_table_b3") 2402), (.ref 211)⟩, ⟨PyData.keyHash P (Str.ofString "_law_drawn"), (.str (Str.ofString "_law_drawn") 2410), (.ref 216)⟩, ⟨PyData.keyHash P (Str.ofString "_law_sign"), (.str (Str.ofString "_law_sign") 2422), (.ref 223)⟩, ⟨PyData.keyHash P (Str.ofString "_law_table"), (.str (Str.ofString "_law_table") 2433), (.ref 230)⟩, ⟨PyData.keyHash P (Str.ofString "_law_laid"), (.str (Str.ofString "_law_laid") 2450), (.ref 237)⟩, ⟨PyData.keyHash P (Str.ofString "_law_ahead"), (.str (Str.ofString "_law_ahead") 2460), (.ref 244)⟩, ⟨PyData.keyHash P (Str.ofString "law"), (.str (Str.ofString "law") 2466), (.ref 249)⟩]) 29), #[]⟩
noncomputable def h12_23 (P : Params) : Obj := ⟨.none, .none, (.fields #[(.int 1 0), (.int 0 0), (.ref 20), (.int 6 0), (.int 0 0), (.ref 27), (.int 22 0), (.int 0 0), (.ref 34), (.int 32 0), (.int 0 0), (.ref 41), (.int 48 0), (.int 0 0), (.ref 48), (.int 57 0), (.int 0 0), (.ref 55), (.int 68 0), (.int 0 0), (.ref 62), (.int 81 0), (.int 0 0), (.ref 70), (.int 114 0), (.int 0 0), (.ref 164), (.int 117 0), (.int 0 0), (.ref 210), (.int 123 0), (.int 0 0), (.ref 215), (.int 126 0), (.int 0 0), (.ref 222), (.int 140 0), (.int 0 0), (.ref 229), (.int 147 0), (.int 0 0), (.ref 236), (.int 158 0), (.int 0 0), (.ref 243), (.int 160 0), (.int 0 0), (.ref 248)]), #[]⟩
noncomputable def h205_23 (P : Params) : Obj := ⟨(.type "tuple"), .none, (.seq #[] 0), #[]⟩
noncomputable def h206_23 (P : Params) : Obj := ⟨.none, .none, (.fields #[]), #[]⟩
noncomputable def h207_23 (P : Params) : Obj := ⟨(.type "tuple"), .none, (.seq #[(.str (Str.ofString "code") 2398), (.str (Str.ofString "r") 2399)] 0), #[]⟩
noncomputable def h208_23 (P : Params) : Obj := ⟨(.type "tuple"), .none, (.seq #[] 0), #[]⟩
noncomputable def h209_23 (P : Params) : Obj := ⟨.none, .none, (.func { name := (Str.ofString "map_table_b3"), qualname := (Str.ofString "map_table_b3"), params := fPar (stm 16), body := .stmts (fBody (stm 16)), scope := fScope (stm 16), globals := 0, closure := [], defaults := .none, kwdefaults := .none, doc := .none, pyModule := .none, annotations := .none, code := .none, closureTuple := .none, builtins := 0 }), #[]⟩
noncomputable def h210_23 (P : Params) : Obj := ⟨(.type "code"), .none, (.fields #[(.str (Str.ofString "map_table_b3") 2395), (.str (Str.ofString "map_table_b3") 2396), (.str (Str.ofString "/claim/cut.py") 2397), (.int 117 0), (.int 1 0), (.int 0 0), (.int 0 0), (.int 3 0), (.ref 205), (.bool true), (.int 181 0), (.ref 206), .none, (.ref 207), (.ref 208), (.ref 209), (.int 2400 0), (.int 117 0), (.str (Str.ofString "/claim/cut.py") 2401)]), #[]⟩
noncomputable def h211_23 (P : Params) : Obj := ⟨(.type "function"), .none, (.func { name := (Str.ofString "map_table_b3"), qualname := (Str.ofString "map_table_b3"), params := fPar (stm 16), body := .stmts (fBody (stm 16)), scope := fScope (stm 16), globals := 3, closure := [], defaults := .none, kwdefaults := .none, doc := .none, pyModule := (.str (Str.ofString "cpy313.stringprep") 375), annotations := .none, code := (.ref 210), closureTuple := .none, builtins := 0 }), #[]⟩
noncomputable def h212_23 (P : Params) : Obj := ⟨(.type "tuple"), .none, (.seq #[] 0), #[]⟩
noncomputable def h213_23 (P : Params) : Obj := ⟨.none, .none, (.fields #[]), #[]⟩
noncomputable def h214_23 (P : Params) : Obj := ⟨.none, .none, (.func { name := (Str.ofString "_law_drawn"), qualname := (Str.ofString "_law_drawn"), params := fPar (stm 18), body := .stmts (fBody (stm 18)), scope := fScope (stm 18), globals := 0, closure := [], defaults := .none, kwdefaults := .none, doc := .none, pyModule := .none, annotations := .none, code := .none, closureTuple := .none, builtins := 0 }), #[]⟩
noncomputable def h215_23 (P : Params) : Obj := ⟨(.type "code"), .none, (.fields #[(.str (Str.ofString "_law_drawn") 2405), (.str (Str.ofString "_law_drawn") 2406), (.str (Str.ofString "/claim/cut.py") 2407), (.int 123 0), (.int 1 0), (.int 0 0), (.int 0 0), (.int 3 0), (.ref 212), (.bool true), (.int 181 0), (.ref 213), .none, .none, .none, (.ref 214), (.int 2408 0), (.int 123 0), (.str (Str.ofString "/claim/cut.py") 2409)]), #[]⟩
noncomputable def h216_23 (P : Params) : Obj := ⟨(.type "function"), .none, (.func { name := (Str.ofString "_law_drawn"), qualname := (Str.ofString "_law_drawn"), params := fPar (stm 18), body := .stmts (fBody (stm 18)), scope := fScope (stm 18), globals := 3, closure := [], defaults := .none, kwdefaults := .none, doc := .none, pyModule := (.str (Str.ofString "law_un0040_01") 2403), annotations := .none, code := (.ref 215), closureTuple := .none, builtins := 0 }), #[]⟩
noncomputable def h217_23 (P : Params) : Obj := ⟨(.type "tuple"), .none, (.seq #[] 0), #[]⟩
noncomputable def h218_23 (P : Params) : Obj := ⟨.none, .none, (.fields #[]), #[]⟩
noncomputable def h219_23 (P : Params) : Obj := ⟨(.type "tuple"), .none, (.seq #[(.str (Str.ofString "x") 2414), (.str (Str.ofString "kind") 2415), (.str (Str.ofString "which") 2416), (.str (Str.ofString "letter") 2417), (.str (Str.ofString "capitals") 2418), (.str (Str.ofString "nothing") 2419)] 0), #[]⟩
noncomputable def h220_23 (P : Params) : Obj := ⟨(.type "tuple"), .none, (.seq #[] 0), #[]⟩
noncomputable def h221_23 (P : Params) : Obj := ⟨.none, .none, (.func { name := (Str.ofString "_law_sign"), qualname := (Str.ofString "_law_sign"), params := fPar (stm 19), body := .stmts (fBody (stm 19)), scope := fScope (stm 19), globals := 0, closure := [], defaults := .none, kwdefaults := .none, doc := .none, pyModule := .none, annotations := .none, code := .none, closureTuple := .none, builtins := 0 }), #[]⟩
noncomputable def h222_23 (P : Params) : Obj := ⟨(.type "code"), .none, (.fields #[(.str (Str.ofString "_law_sign") 2411), (.str (Str.ofString "_law_sign") 2412), (.str (Str.ofString "/claim/cut.py") 2413), (.int 126 0), (.int 1 0), (.int 0 0), (.int 0 0), (.int 3 0), (.ref 217), (.bool true), (.int 181 0), (.ref 218), .none, (.ref 219), (.ref 220), (.ref 221), (.int 2420 0), (.int 126 0), (.str (Str.ofString "/claim/cut.py") 2421)]), #[]⟩
noncomputable def h223_23 (P : Params) : Obj := ⟨(.type "function"), .none, (.func { name := (Str.ofString "_law_sign"), qualname := (Str.ofString "_law_sign"), params := fPar (stm 19), body := .stmts (fBody (stm 19)), scope := fScope (stm 19), globals := 3, closure := [], defaults := .none, kwdefaults := .none, doc := .none, pyModule := (.str (Str.ofString "law_un0040_01") 2403), annotations := .none, code := (.ref 222), closureTuple := .none, builtins := 0 }), #[]⟩
noncomputable def h224_23 (P : Params) : Obj := ⟨(.type "tuple"), .none, (.seq #[] 0), #[]⟩
noncomputable def h225_23 (P : Params) : Obj := ⟨.none, .none, (.fields #[]), #[]⟩
noncomputable def h226_23 (P : Params) : Obj := ⟨(.type "tuple"), .none, (.seq #[(.str (Str.ofString "word") 2426), (.str (Str.ofString "head") 2427), (.str (Str.ofString "table") 2428), (.str (Str.ofString "low") 2429), (.str (Str.ofString "letter") 2430)] 0), #[]⟩
noncomputable def h227_23 (P : Params) : Obj := ⟨(.type "tuple"), .none, (.seq #[] 0), #[]⟩
noncomputable def h228_23 (P : Params) : Obj := ⟨.none, .none, (.func { name := (Str.ofString "_law_table"), qualname := (Str.ofString "_law_table"), params := fPar (stm 20), body := .stmts (fBody (stm 20)), scope := fScope (stm 20), globals := 0, closure := [], defaults := .none, kwdefaults := .none, doc := .none, pyModule := .none, annotations := .none, code := .none, closureTuple := .none, builtins := 0 }), #[]⟩
noncomputable def h229_23 (P : Params) : Obj := ⟨(.type "code"), .none, (.fields #[(.str (Str.ofString "_law_table") 2423), (.str (Str.ofString "_law_table") 2424), (.str (Str.ofString "/claim/cut.py") 2425), (.int 140 0), (.int 2 0), (.int 0 0), (.int 0 0), (.int 3 0), (.ref 224), (.bool true), (.int 181 0), (.ref 225), .none, (.ref 226), (.ref 227), (.ref 228), (.int 2431 0), (.int 140 0), (.str (Str.ofString "/claim/cut.py") 2432)]), #[]⟩
noncomputable def h230_23 (P : Params) : Obj := ⟨(.type "function"), .none, (.func { name := (Str.ofString "_law_table"), qualname := (Str.ofString "_law_table"), params := fPar (stm 20), body := .stmts (fBody (stm 20)), scope := fScope (stm 20), globals := 3, closure := [], defaults := .none, kwdefaults := .none, doc := .none, pyModule := (.str (Str.ofString "law_un0040_01") 2403), annotations := .none, code := (.ref 229), closureTuple := .none, builtins := 0 }), #[]⟩
noncomputable def h231_23 (P : Params) : Obj := ⟨(.type "tuple"), .none, (.seq #[] 0), #[]⟩
noncomputable def h232_23 (P : Params) : Obj := ⟨.none, .none, (.fields #[]), #[]⟩
noncomputable def h233_23 (P : Params) : Obj := ⟨(.type "tuple"), .none, (.seq #[(.str (Str.ofString "word") 2437), (.str (Str.ofString "size") 2438), (.str (Str.ofString "low") 2439), (.str (Str.ofString "unit") 2440), (.str (Str.ofString "start") 2441), (.str (Str.ofString "pile") 2442), (.str (Str.ofString "letter") 2443), (.str (Str.ofString "numbers") 2444), (.str (Str.ofString "piece") 2445), (.str (Str.ofString "many") 2446), (.str (Str.ofString "rest") 2447)] 0), #[]⟩
noncomputable def h234_23 (P : Params) : Obj := ⟨(.type "tuple"), .none, (.seq #[] 0), #[]⟩
noncomputable def h235_23 (P : Params) : Obj := ⟨.none, .none, (.func { name := (Str.ofString "_law_laid"), qualname := (Str.ofString "_law_laid"), params := fPar (stm 21), body := .stmts (fBody (stm 21)), scope := fScope (stm 21), globals := 0, closure := [], defaults := .none, kwdefaults := .none, doc := .none, pyModule := .none, annotations := .none, code := .none, closureTuple := .none, builtins := 0 }), #[]⟩
noncomputable def h236_23 (P : Params) : Obj := ⟨(.type "code"), .none, (.fields #[(.str (Str.ofString "_law_laid") 2434), (.str (Str.ofString "_law_laid") 2435), (.str (Str.ofString "/claim/cut.py") 2436), (.int 147 0), (.int 5 0), (.int 0 0), (.int 0 0), (.int 3 0), (.ref 231), (.bool true), (.int 181 0), (.ref 232), .none, (.ref 233), (.ref 234), (.ref 235), (.int 2448 0), (.int 147 0), (.str (Str.ofString "/claim/cut.py") 2449)]), #[]⟩
noncomputable def h237_23 (P : Params) : Obj := ⟨(.type "function"), .none, (.func { name := (Str.ofString "_law_laid"), qualname := (Str.ofString "_law_laid"), params := fPar (stm 21), body := .stmts (fBody (stm 21)), scope := fScope (stm 21), globals := 3, closure := [], defaults := .none, kwdefaults := .none, doc := .none, pyModule := (.str (Str.ofString "law_un0040_01") 2403), annotations := .none, code := (.ref 236), closureTuple := .none, builtins := 0 }), #[]⟩
noncomputable def h238_23 (P : Params) : Obj := ⟨(.type "tuple"), .none, (.seq #[] 0), #[]⟩
noncomputable def h239_23 (P : Params) : Obj := ⟨.none, .none, (.fields #[]), #[]⟩
noncomputable def h240_23 (P : Params) : Obj := ⟨(.type "tuple"), .none, (.seq #[(.str (Str.ofString "number") 2454), (.str (Str.ofString "whole") 2455), (.str (Str.ofString "begin") 2456), (.str (Str.ofString "wide") 2457)] 0), #[]⟩
noncomputable def h241_23 (P : Params) : Obj := ⟨(.type "tuple"), .none, (.seq #[] 0), #[]⟩
noncomputable def h242_23 (P : Params) : Obj := ⟨.none, .none, (.func { name := (Str.ofString "_law_ahead"), qualname := (Str.ofString "_law_ahead"), params := fPar (stm 22), body := .stmts (fBody (stm 22)), scope := fScope (stm 22), globals := 0, closure := [], defaults := .none, kwdefaults := .none, doc := .none, pyModule := .none, annotations := .none, code := .none, closureTuple := .none, builtins := 0 }), #[]⟩
noncomputable def h243_23 (P : Params) : Obj := ⟨(.type "code"), .none, (.fields #[(.str (Str.ofString "_law_ahead") 2451), (.str (Str.ofString "_law_ahead") 2452), (.str (Str.ofString "/claim/cut.py") 2453), (.int 158 0), (.int 4 0), (.int 0 0), (.int 0 0), (.int 3 0), (.ref 238), (.bool true), (.int 181 0), (.ref 239), .none, (.ref 240), (.ref 241), (.ref 242), (.int 2458 0), (.int 158 0), (.str (Str.ofString "/claim/cut.py") 2459)]), #[]⟩
noncomputable def h244_23 (P : Params) : Obj := ⟨(.type "function"), .none, (.func { name := (Str.ofString "_law_ahead"), qualname := (Str.ofString "_law_ahead"), params := fPar (stm 22), body := .stmts (fBody (stm 22)), scope := fScope (stm 22), globals := 3, closure := [], defaults := .none, kwdefaults := .none, doc := .none, pyModule := (.str (Str.ofString "law_un0040_01") 2403), annotations := .none, code := (.ref 243), closureTuple := .none, builtins := 0 }), #[]⟩
noncomputable def h245_23 (P : Params) : Obj := ⟨(.type "tuple"), .none, (.seq #[] 0), #[]⟩
noncomputable def h246_23 (P : Params) : Obj := ⟨.none, .none, (.fields #[]), #[]⟩
noncomputable def h247_23 (P : Params) : Obj := ⟨.none, .none, (.func { name := (Str.ofString "law"), qualname := (Str.ofString "law"), params := fPar (stm 23), body := .stmts (fBody (stm 23)), scope := fScope (stm 23), globals := 0, closure := [], defaults := .none, kwdefaults := .none, doc := .none, pyModule := .none, annotations := .none, code := .none, closureTuple := .none, builtins := 0 }), #[]⟩
noncomputable def h248_23 (P : Params) : Obj := ⟨(.type "code"), .none, (.fields #[(.str (Str.ofString "law") 2461), (.str (Str.ofString "law") 2462), (.str (Str.ofString "/claim/cut.py") 2463), (.int 160 0), (.int 1 0), (.int 0 0), (.int 0 0), (.int 3 0), (.ref 245), (.bool true), (.int 181 0), (.ref 246), .none, .none, .none, (.ref 247), (.int 2464 0), (.int 160 0), (.str (Str.ofString "/claim/cut.py") 2465)]), #[]⟩
noncomputable def h249_23 (P : Params) : Obj := ⟨(.type "function"), .none, (.func { name := (Str.ofString "law"), qualname := (Str.ofString "law"), params := fPar (stm 23), body := .stmts (fBody (stm 23)), scope := fScope (stm 23), globals := 3, closure := [], defaults := .none, kwdefaults := .none, doc := .none, pyModule := (.str (Str.ofString "law_un0040_01") 2403), annotations := .none, code := (.ref 248), closureTuple := .none, builtins := 0 }), #[]⟩
noncomputable def T_a (P : Params) : BT := (.node (h0_a P) (.node (h1_a P) (.node (h3_a P) (.node (h7_a P) .nil .nil) (.node (h11_a P) .nil .nil)) (.node (h5_a P) (.node (h9_a P) .nil .nil) (.node (h13_a P) .nil .nil))) (.node (h2_a P) (.node (h4_a P) (.node (h8_a P) .nil .nil) (.node (h12_a P) .nil .nil)) (.node (h6_a P) (.node (h10_a P) .nil .nil) (.node (h14_a P) .nil .nil))))
noncomputable def T_10 (P : Params) : BT := (.node (h0_a P) (.node (h1_a P) (.node (h3_10 P) (.node (h7_a P) (.node (h15_10 P) (.node (h31_10 P) (.node (h63_10 P) .nil .nil) .nil) (.node (h47_10 P) .nil .nil)) (.node (h23_10 P) (.node (h39_10 P) .nil .nil) (.node (h55_10 P) .nil .nil))) (.node (h11_a P) (.node (h19_10 P) (.node (h35_10 P) .nil .nil) (.node (h51_10 P) .nil .nil)) (.node (h27_10 P) (.node (h43_10 P) .nil .nil) (.node (h59_10 P) .nil .nil)))) (.node (h5_a P) (.node (h9_a P) (.node (h17_10 P) (.node (h33_10 P) .nil .nil) (.node (h49_10 P) .nil .nil)) (.node (h25_10 P) (.node (h41_10 P) .nil .nil) (.node (h57_10 P) .nil .nil))) (.node (h13_a P) (.node (h21_10 P) (.node (h37_10 P) .nil .nil) (.node (h53_10 P) .nil .nil)) (.node (h29_10 P) (.node (h45_10 P) .nil .nil) (.node (h61_10 P) .nil .nil))))) (.node (h2_a P) (.node (h4_a P) (.node (h8_a P) (.node (h16_10 P) (.node (h32_10 P) .nil .nil) (.node (h48_10 P) .nil .nil)) (.node (h24_10 P) (.node (h40_10 P) .nil .nil) (.node (h56_10 P) .nil .nil))) (.node (h12_10 P) (.node (h20_10 P) (.node (h36_10 P) .nil .nil) (.node (h52_10 P) .nil .nil)) (.node (h28_10 P) (.node (h44_10 P) .nil .nil) (.node (h60_10 P) .nil .nil)))) (.node (h6_a P) (.node (h10_a P) (.node (h18_10 P) (.node (h34_10 P) .nil .nil) (.node (h50_10 P) .nil .nil)) (.node (h26_10 P) (.node (h42_10 P) .nil .nil) (.node (h58_10 P) .nil .nil))) (.node (h14_a P) (.node (h22_10 P) (.node (h38_10 P) .nil .nil) (.node (h54_10 P) .nil .nil)) (.node (h30_10 P) (.node (h46_10 P) .nil .nil) (.node (h62_10 P) .nil .nil))))))
noncomputable def T_11 (P : Params) : BT := (.node (h0_a P) (.node (h1_a P) (.node (h3_11 P) (.node (h7_a P) (.node (h15_10 P) (.node (h31_10 P) (.node (h63_10 P) (.node (h127_11 P) .nil .nil) .nil) (.node (h95_11 P) .nil .nil)) (.node (h47_10 P) (.node (h79_11 P) (.node (h143_11 P) .nil .nil) .nil) (.node (h111_11 P) .nil .nil))) (.node (h23_10 P) (.node (h39_10 P) (.node (h71_11 P) (.node (h135_11 P) .nil .nil) .nil) (.node (h103_11 P) .nil .nil)) (.node (h55_10 P) (.node (h87_11 P) .nil .nil) (.node (h119_11 P) .nil .nil)))) (.node (h11_a P) (.node (h19_10 P) (.node (h35_10 P) (.node (h67_11 P) (.node (h131_11 P) .nil .nil) .nil) (.node (h99_11 P) .nil .nil)) (.node (h51_10 P) (.node (h83_11 P) (.node (h147_11 P) .nil .nil) .nil) (.node (h115_11 P) .nil .nil))) (.node (h27_10 P) (.node (h43_10 P) (.node (h75_11 P) (.node (h139_11 P) .nil .nil) .nil) (.node (h107_11 P) .nil .nil)) (.node (h59_10 P) (.node (h91_11 P) .nil .nil) (.node (h123_11 P) .nil .nil))))) (.node (h5_a P) (.node (h9_a P) (.node (h17_10 P) (.node (h33_10 P) (.node (h65_11 P) (.node (h129_11 P) .nil .nil) .nil) (.node (h97_11 P) .nil .nil)) (.node (h49_10 P) (.node (h81_11 P) (.node (h145_11 P) .nil .nil) .nil) (.node (h113_11 P) .nil .nil))) (.node (h25_10 P) (.node (h41_10 P) (.node (h73_11 P) (.node (h137_11 P) .nil .nil) .nil) (.node (h105_11 P) .nil .nil)) (.node (h57_10 P) (.node (h89_11 P) .nil .nil) (.node (h121_11 P) .nil .nil)))) (.node (h13_a P) (.node (h21_10 P) (.node (h37_10 P) (.node (h69_11 P) (.node (h133_11 P) .nil .nil) .nil) (.node (h101_11 P) .nil .nil)) (.node (h53_10 P) (.node (h85_11 P) .nil .nil) (.node (h117_11 P) .nil .nil))) (.node (h29_10 P) (.node (h45_10 P) (.node (h77_11 P) (.node (h141_11 P) .nil .nil) .nil) (.node (h109_11 P) .nil .nil)) (.node (h61_10 P) (.node (h93_11 P) .nil .nil) (.node (h125_11 P) .nil .nil)))))) (.node (h2_a P) (.node (h4_a P) (.node (h8_a P) (.node (h16_10 P) (.node (h32_10 P) (.node (h64_11 P) (.node (h128_11 P) .nil .nil) .nil) (.node (h96_11 P) .nil .nil)) (.node (h48_10 P) (.node (h80_11 P) (.node (h144_11 P) .nil .nil) .nil) (.node (h112_11 P) .nil .nil))) (.node (h24_10 P) (.node (h40_10 P) (.node (h72_11 P) (.node (h136_11 P) .nil .nil) .nil) (.node (h104_11 P) .nil .nil)) (.node (h56_10 P) (.node (h88_11 P) .nil .nil) (.node (h120_11 P) .nil .nil)))) (.node (h12_11 P) (.node (h20_10 P) (.node (h36_10 P) (.node (h68_11 P) (.node (h132_11 P) .nil .nil) .nil) (.node (h100_11 P) .nil .nil)) (.node (h52_10 P) (.node (h84_11 P) .nil .nil) (.node (h116_11 P) .nil .nil))) (.node (h28_10 P) (.node (h44_10 P) (.node (h76_11 P) (.node (h140_11 P) .nil .nil) .nil) (.node (h108_11 P) .nil .nil)) (.node (h60_10 P) (.node (h92_11 P) .nil .nil) (.node (h124_11 P) .nil .nil))))) (.node (h6_a P) (.node (h10_a P) (.node (h18_10 P) (.node (h34_10 P) (.node (h66_11 P) (.node (h130_11 P) .nil .nil) .nil) (.node (h98_11 P) .nil .nil)) (.node (h50_10 P) (.node (h82_11 P) (.node (h146_11 P) .nil .nil) .nil) (.node (h114_11 P) .nil .nil))) (.node (h26_10 P) (.node (h42_10 P) (.node (h74_11 P) (.node (h138_11 P) .nil .nil) .nil) (.node (h106_11 P) .nil .nil)) (.node (h58_10 P) (.node (h90_11 P) .nil .nil) (.node (h122_11 P) .nil .nil)))) (.node (h14_a P) (.node (h22_10 P) (.node (h38_10 P) (.node (h70_11 P) (.node (h134_11 P) .nil .nil) .nil) (.node (h102_11 P) .nil .nil)) (.node (h54_10 P) (.node (h86_11 P) .nil .nil) (.node (h118_11 P) .nil .nil))) (.node (h30_10 P) (.node (h46_10 P) (.node (h78_11 P) (.node (h142_11 P) .nil .nil) .nil) (.node (h110_11 P) .nil .nil)) (.node (h62_10 P) (.node (h94_11 P) .nil .nil) (.node (h126_11 P) .nil .nil)))))))
noncomputable def T_12 (P : Params) : BT := (.node (h0_a P) (.node (h1_a P) (.node (h3_12 P) (.node (h7_a P) (.node (h15_10 P) (.node (h31_10 P) (.node (h63_10 P) (.node (h127_11 P) .nil .nil) .nil) (.node (h95_11 P) .nil .nil)) (.node (h47_10 P) (.node (h79_11 P) (.node (h143_11 P) .nil .nil) .nil) (.node (h111_11 P) .nil .nil))) (.node (h23_10 P) (.node (h39_10 P) (.node (h71_11 P) (.node (h135_11 P) .nil .nil) .nil) (.node (h103_11 P) .nil .nil)) (.node (h55_10 P) (.node (h87_11 P) .nil .nil) (.node (h119_11 P) .nil .nil)))) (.node (h11_a P) (.node (h19_10 P) (.node (h35_10 P) (.node (h67_11 P) (.node (h131_11 P) .nil .nil) .nil) (.node (h99_11 P) .nil .nil)) (.node (h51_10 P) (.node (h83_11 P) (.node (h147_11 P) .nil .nil) .nil) (.node (h115_11 P) .nil .nil))) (.node (h27_10 P) (.node (h43_10 P) (.node (h75_11 P) (.node (h139_11 P) .nil .nil) .nil) (.node (h107_11 P) .nil .nil)) (.node (h59_10 P) (.node (h91_11 P) .nil .nil) (.node (h123_11 P) .nil .nil))))) (.node (h5_a P) (.node (h9_a P) (.node (h17_10 P) (.node (h33_10 P) (.node (h65_11 P) (.node (h129_11 P) .nil .nil) .nil) (.node (h97_11 P) .nil .nil)) (.node (h49_10 P) (.node (h81_11 P) (.node (h145_11 P) .nil .nil) .nil) (.node (h113_11 P) .nil .nil))) (.node (h25_10 P) (.node (h41_10 P) (.node (h73_11 P) (.node (h137_11 P) .nil .nil) .nil) (.node (h105_11 P) .nil .nil)) (.node (h57_10 P) (.node (h89_11 P) .nil .nil) (.node (h121_11 P) .nil .nil)))) (.node (h13_a P) (.node (h21_10 P) (.node (h37_10 P) (.node (h69_11 P) (.node (h133_11 P) .nil .nil) .nil) (.node (h101_11 P) .nil .nil)) (.node (h53_10 P) (.node (h85_11 P) .nil .nil) (.node (h117_11 P) .nil .nil))) (.node (h29_10 P) (.node (h45_10 P) (.node (h77_11 P) (.node (h141_11 P) .nil .nil) .nil) (.node (h109_11 P) .nil .nil)) (.node (h61_10 P) (.node (h93_11 P) .nil .nil) (.node (h125_11 P) .nil .nil)))))) (.node (h2_a P) (.node (h4_a P) (.node (h8_a P) (.node (h16_10 P) (.node (h32_10 P) (.node (h64_11 P) (.node (h128_11 P) .nil .nil) .nil) (.node (h96_11 P) .nil .nil)) (.node (h48_10 P) (.node (h80_11 P) (.node (h144_11 P) .nil .nil) .nil) (.node (h112_11 P) .nil .nil))) (.node (h24_10 P) (.node (h40_10 P) (.node (h72_11 P) (.node (h136_11 P) .nil .nil) .nil) (.node (h104_11 P) .nil .nil)) (.node (h56_10 P) (.node (h88_11 P) .nil .nil) (.node (h120_11 P) .nil .nil)))) (.node (h12_11 P) (.node (h20_10 P) (.node (h36_10 P) (.node (h68_11 P) (.node (h132_11 P) .nil .nil) .nil) (.node (h100_11 P) .nil .nil)) (.node (h52_10 P) (.node (h84_11 P) .nil .nil) (.node (h116_11 P) .nil .nil))) (.node (h28_10 P) (.node (h44_10 P) (.node (h76_11 P) (.node (h140_11 P) .nil .nil) .nil) (.node (h108_11 P) .nil .nil)) (.node (h60_10 P) (.node (h92_11 P) .nil .nil) (.node (h124_11 P) .nil .nil))))) (.node (h6_a P) (.node (h10_a P) (.node (h18_10 P) (.node (h34_10 P) (.node (h66_11 P) (.node (h130_11 P) .nil .nil) .nil) (.node (h98_11 P) .nil .nil)) (.node (h50_10 P) (.node (h82_11 P) (.node (h146_11 P) .nil .nil) .nil) (.node (h114_11 P) .nil .nil))) (.node (h26_10 P) (.node (h42_10 P) (.node (h74_11 P) (.node (h138_11 P) .nil .nil) .nil) (.node (h106_11 P) .nil .nil)) (.node (h58_10 P) (.node (h90_11 P) .nil .nil) (.node (h122_11 P) .nil .nil)))) (.node (h14_a P) (.node (h22_10 P) (.node (h38_10 P) (.node (h70_11 P) (.node (h134_11 P) .nil .nil) .nil) (.node (h102_11 P) .nil .nil)) (.node (h54_10 P) (.node (h86_11 P) .nil .nil) (.node (h118_11 P) .nil .nil))) (.node (h30_10 P) (.node (h46_10 P) (.node (h78_11 P) (.node (h142_11 P) .nil .nil) .nil) (.node (h110_11 P) .nil .nil)) (.node (h62_10 P) (.node (h94_11 P) .nil .nil) (.node (h126_11 P) .nil .nil)))))))
noncomputable def T_14 (P : Params) : BT := (.node (h0_a P) (.node (h1_a P) (.node (h3_14 P) (.node (h7_a P) (.node (h15_10 P) (.node (h31_10 P) (.node (h63_10 P) (.node (h127_11 P) .nil .nil) .nil) (.node (h95_11 P) (.node (h159_14 P) .nil .nil) .nil)) (.node (h47_10 P) (.node (h79_11 P) (.node (h143_11 P) .nil .nil) .nil) (.node (h111_11 P) .nil .nil))) (.node (h23_10 P) (.node (h39_10 P) (.node (h71_11 P) (.node (h135_11 P) .nil .nil) .nil) (.node (h103_11 P) .nil .nil)) (.node (h55_10 P) (.node (h87_11 P) (.node (h151_14 P) .nil .nil) .nil) (.node (h119_11 P) .nil .nil)))) (.node (h11_a P) (.node (h19_10 P) (.node (h35_10 P) (.node (h67_11 P) (.node (h131_11 P) .nil .nil) .nil) (.node (h99_11 P) (.node (h163_14 P) .nil .nil) .nil)) (.node (h51_10 P) (.node (h83_11 P) (.node (h147_11 P) .nil .nil) .nil) (.node (h115_11 P) .nil .nil))) (.node (h27_10 P) (.node (h43_10 P) (.node (h75_11 P) (.node (h139_11 P) .nil .nil) .nil) (.node (h107_11 P) .nil .nil)) (.node (h59_10 P) (.node (h91_11 P) (.node (h155_14 P) .nil .nil) .nil) (.node (h123_11 P) .nil .nil))))) (.node (h5_a P) (.node (h9_a P) (.node (h17_10 P) (.node (h33_10 P) (.node (h65_11 P) (.node (h129_11 P) .nil .nil) .nil) (.node (h97_11 P) (.node (h161_14 P) .nil .nil) .nil)) (.node (h49_10 P) (.node (h81_11 P) (.node (h145_11 P) .nil .nil) .nil) (.node (h113_11 P) .nil .nil))) (.node (h25_10 P) (.node (h41_10 P) (.node (h73_11 P) (.node (h137_11 P) .nil .nil) .nil) (.node (h105_11 P) .nil .nil)) (.node (h57_10 P) (.node (h89_11 P) (.node (h153_14 P) .nil .nil) .nil) (.node (h121_11 P) .nil .nil)))) (.node (h13_a P) (.node (h21_10 P) (.node (h37_10 P) (.node (h69_11 P) (.node (h133_11 P) .nil .nil) .nil) (.node (h101_11 P) (.node (h165_14 P) .nil .nil) .nil)) (.node (h53_10 P) (.node (h85_11 P) (.node (h149_14 P) .nil .nil) .nil) (.node (h117_11 P) .nil .nil))) (.node (h29_10 P) (.node (h45_10 P) (.node (h77_11 P) (.node (h141_11 P) .nil .nil) .nil) (.node (h109_11 P) .nil .nil)) (.node (h61_10 P) (.node (h93_11 P) (.node (h157_14 P) .nil .nil) .nil) (.node (h125_11 P) .nil .nil)))))) (.node (h2_a P) (.node (h4_a P) (.node (h8_a P) (.node (h16_10 P) (.node (h32_10 P) (.node (h64_11 P) (.node (h128_11 P) .nil .nil) .nil) (.node (h96_11 P) (.node (h160_14 P) .nil .nil) .nil)) (.node (h48_10 P) (.node (h80_11 P) (.node (h144_11 P) .nil .nil) .nil) (.node (h112_11 P) .nil .nil))) (.node (h24_10 P) (.node (h40_10 P) (.node (h72_11 P) (.node (h136_11 P) .nil .nil) .nil) (.node (h104_11 P) .nil .nil)) (.node (h56_10 P) (.node (h88_11 P) (.node (h152_14 P) .nil .nil) .nil) (.node (h120_11 P) .nil .nil)))) (.node (h12_14 P) (.node (h20_10 P) (.node (h36_10 P) (.node (h68_11 P) (.node (h132_11 P) .nil .nil) .nil) (.node (h100_11 P) (.node (h164_14 P) .nil .nil) .nil)) (.node (h52_10 P) (.node (h84_11 P) (.node (h148_14 P) .nil .nil) .nil) (.node (h116_11 P) .nil .nil))) (.node (h28_10 P) (.node (h44_10 P) (.node (h76_11 P) (.node (h140_11 P) .nil .nil) .nil) (.node (h108_11 P) .nil .nil)) (.node (h60_10 P) (.node (h92_11 P) (.node (h156_14 P) .nil .nil) .nil) (.node (h124_11 P) .nil .nil))))) (.node (h6_a P) (.node (h10_a P) (.node (h18_10 P) (.node (h34_10 P) (.node (h66_11 P) (.node (h130_11 P) .nil .nil) .nil) (.node (h98_11 P) (.node (h162_14 P) .nil .nil) .nil)) (.node (h50_10 P) (.node (h82_11 P) (.node (h146_11 P) .nil .nil) .nil) (.node (h114_11 P) .nil .nil))) (.node (h26_10 P) (.node (h42_10 P) (.node (h74_11 P) (.node (h138_11 P) .nil .nil) .nil) (.node (h106_11 P) .nil .nil)) (.node (h58_10 P) (.node (h90_11 P) (.node (h154_14 P) .nil .nil) .nil) (.node (h122_11 P) .nil .nil)))) (.node (h14_a P) (.node (h22_10 P) (.node (h38_10 P) (.node (h70_11 P) (.node (h134_11 P) .nil .nil) .nil) (.node (h102_11 P) .nil .nil)) (.node (h54_10 P) (.node (h86_11 P) (.node (h150_14 P) .nil .nil) .nil) (.node (h118_11 P) .nil .nil))) (.node (h30_10 P) (.node (h46_10 P) (.node (h78_11 P) (.node (h142_11 P) .nil .nil) .nil) (.node (h110_11 P) .nil .nil)) (.node (h62_10 P) (.node (h94_11 P) (.node (h158_14 P) .nil .nil) .nil) (.node (h126_11 P) .nil .nil)))))))
noncomputable def T_x (x : Nat → Obj) (P : Params) : BT := (.node (h0_a P) (.node (h1_a P) (.node (h3_14 P) (.node (h7_a P) (.node (h15_10 P) (.node (h31_10 P) (.node (h63_10 P) (.node (h127_11 P) .nil .nil) (.node (x 25) .nil .nil)) (.node (h95_11 P) (.node (h159_14 P) .nil .nil) .nil)) (.node (h47_10 P) (.node (h79_11 P) (.node (h143_11 P) .nil .nil) .nil) (.node (h111_11 P) (.node (x 9) .nil .nil) .nil))) (.node (h23_10 P) (.node (h39_10 P) (.node (h71_11 P) (.node (h135_11 P) .nil .nil) (.node (x 33) .nil .nil)) (.node (h103_11 P) (.node (x 1) .nil .nil) .nil)) (.node (h55_10 P) (.node (h87_11 P) (.node (h151_14 P) .nil .nil) .nil) (.node (h119_11 P) (.node (x 17) .nil .nil) .nil)))) (.node (h11_a P) (.node (h19_10 P) (.node (h35_10 P) (.node (h67_11 P) (.node (h131_11 P) .nil .nil) (.node (x 29) .nil .nil)) (.node (h99_11 P) (.node (h163_14 P) .nil .nil) .nil)) (.node (h51_10 P) (.node (h83_11 P) (.node (h147_11 P) .nil .nil) .nil) (.node (h115_11 P) (.node (x 13) .nil .nil) .nil))) (.node (h27_10 P) (.node (h43_10 P) (.node (h75_11 P) (.node (h139_11 P) .nil .nil) (.node (x 37) .nil .nil)) (.node (h107_11 P) (.node (x 5) .nil .nil) .nil)) (.node (h59_10 P) (.node (h91_11 P) (.node (h155_14 P) .nil .nil) .nil) (.node (h123_11 P) (.node (x 21) .nil .nil) .nil))))) (.node (h5_a P) (.node (h9_a P) (.node (h17_10 P) (.node (h33_10 P) (.node (h65_11 P) (.node (h129_11 P) .nil .nil) (.node (x 27) .nil .nil)) (.node (h97_11 P) (.node (h161_14 P) .nil .nil) .nil)) (.node (h49_10 P) (.node (h81_11 P) (.node (h145_11 P) .nil .nil) .nil) (.node (h113_11 P) (.node (x 11) .nil .nil) .nil))) (.node (h25_10 P) (.node (h41_10 P) (.node (h73_11 P) (.node (h137_11 P) .nil .nil) (.node (x 35) .nil .nil)) (.node (h105_11 P) (.node (x 3) .nil .nil) .nil)) (.node (h57_10 P) (.node (h89_11 P) (.node (h153_14 P) .nil .nil) .nil) (.node (h121_11 P) (.node (x 19) .nil .nil) .nil)))) (.node (h13_a P) (.node (h21_10 P) (.node (h37_10 P) (.node (h69_11 P) (.node (h133_11 P) .nil .nil) (.node (x 31) .nil .nil)) (.node (h101_11 P) (.node (h165_14 P) .nil .nil) .nil)) (.node (h53_10 P) (.node (h85_11 P) (.node (h149_14 P) .nil .nil) .nil) (.node (h117_11 P) (.node (x 15) .nil .nil) .nil))) (.node (h29_10 P) (.node (h45_10 P) (.node (h77_11 P) (.node (h141_11 P) .nil .nil) .nil) (.node (h109_11 P) (.node (x 7) .nil .nil) .nil)) (.node (h61_10 P) (.node (h93_11 P) (.node (h157_14 P) .nil .nil) .nil) (.node (h125_11 P) (.node (x 23) .nil .nil) .nil)))))) (.node (h2_a P) (.node (h4_a P) (.node (h8_a P) (.node (h16_10 P) (.node (h32_10 P) (.node (h64_11 P) (.node (h128_11 P) .nil .nil) (.node (x 26) .nil .nil)) (.node (h96_11 P) (.node (h160_14 P) .nil .nil) .nil)) (.node (h48_10 P) (.node (h80_11 P) (.node (h144_11 P) .nil .nil) .nil) (.node (h112_11 P) (.node (x 10) .nil .nil) .nil))) (.node (h24_10 P) (.node (h40_10 P) (.node (h72_11 P) (.node (h136_11 P) .nil .nil) (.node (x 34) .nil .nil)) (.node (h104_11 P) (.node (x 2) .nil .nil) .nil)) (.node (h56_10 P) (.node (h88_11 P) (.node (h152_14 P) .nil .nil) .nil) (.node (h120_11 P) (.node (x 18) .nil .nil) .nil)))) (.node (h12_14 P) (.node (h20_10 P) (.node (h36_10 P) (.node (h68_11 P) (.node (h132_11 P) .nil .nil) (.node (x 30) .nil .nil)) (.node (h100_11 P) (.node (h164_14 P) .nil .nil) .nil)) (.node (h52_10 P) (.node (h84_11 P) (.node (h148_14 P) .nil .nil) .nil) (.node (h116_11 P) (.node (x 14) .nil .nil) .nil))) (.node (h28_10 P) (.node (h44_10 P) (.node (h76_11 P) (.node (h140_11 P) .nil .nil) (.node (x 38) .nil .nil)) (.node (h108_11 P) (.node (x 6) .nil .nil) .nil)) (.node (h60_10 P) (.node (h92_11 P) (.node (h156_14 P) .nil .nil) .nil) (.node (h124_11 P) (.node (x 22) .nil .nil) .nil))))) (.node (h6_a P) (.node (h10_a P) (.node (h18_10 P) (.node (h34_10 P) (.node (h66_11 P) (.node (h130_11 P) .nil .nil) (.node (x 28) .nil .nil)) (.node (h98_11 P) (.node (h162_14 P) .nil .nil) .nil)) (.node (h50_10 P) (.node (h82_11 P) (.node (h146_11 P) .nil .nil) .nil) (.node (h114_11 P) (.node (x 12) .nil .nil) .nil))) (.node (h26_10 P) (.node (h42_10 P) (.node (h74_11 P) (.node (h138_11 P) .nil .nil) (.node (x 36) .nil .nil)) (.node (h106_11 P) (.node (x 4) .nil .nil) .nil)) (.node (h58_10 P) (.node (h90_11 P) (.node (h154_14 P) .nil .nil) .nil) (.node (h122_11 P) (.node (x 20) .nil .nil) .nil)))) (.node (h14_a P) (.node (h22_10 P) (.node (h38_10 P) (.node (h70_11 P) (.node (h134_11 P) .nil .nil) (.node (x 32) .nil .nil)) (.node (h102_11 P) (.node (x 0) .nil .nil) .nil)) (.node (h54_10 P) (.node (h86_11 P) (.node (h150_14 P) .nil .nil) .nil) (.node (h118_11 P) (.node (x 16) .nil .nil) .nil))) (.node (h30_10 P) (.node (h46_10 P) (.node (h78_11 P) (.node (h142_11 P) .nil .nil) .nil) (.node (h110_11 P) (.node (x 8) .nil .nil) .nil)) (.node (h62_10 P) (.node (h94_11 P) (.node (h158_14 P) .nil .nil) .nil) (.node (h126_11 P) (.node (x 24) .nil .nil) .nil)))))))
noncomputable def T_e (x : Nat → Obj) (P : Params) : BT := (.node (h0_a P) (.node (h1_a P) (.node (h3_23 P) (.node (h7_a P) (.node (h15_10 P) (.node (h31_10 P) (.node (h63_10 P) (.node (h127_11 P) .nil .nil) (.node (x 25) .nil .nil)) (.node (h95_11 P) (.node (h159_14 P) .nil .nil) (.node (h223_23 P) .nil .nil))) (.node (h47_10 P) (.node (h79_11 P) (.node (h143_11 P) .nil .nil) (.node (h207_23 P) .nil .nil)) (.node (h111_11 P) (.node (x 9) .nil .nil) (.node (h239_23 P) .nil .nil)))) (.node (h23_10 P) (.node (h39_10 P) (.node (h71_11 P) (.node (h135_11 P) .nil .nil) (.node (x 33) .nil .nil)) (.node (h103_11 P) (.node (x 1) .nil .nil) (.node (h231_23 P) .nil .nil))) (.node (h55_10 P) (.node (h87_11 P) (.node (h151_14 P) .nil .nil) (.node (h215_23 P) .nil .nil)) (.node (h119_11 P) (.node (x 17) .nil .nil) (.node (h247_23 P) .nil .nil))))) (.node (h11_a P) (.node (h19_10 P) (.node (h35_10 P) (.node (h67_11 P) (.node (h131_11 P) .nil .nil) (.node (x 29) .nil .nil)) (.node (h99_11 P) (.node (h163_14 P) .nil .nil) (.node (h227_23 P) .nil .nil))) (.node (h51_10 P) (.node (h83_11 P) (.node (h147_11 P) .nil .nil) (.node (h211_23 P) .nil .nil)) (.node (h115_11 P) (.node (x 13) .nil .nil) (.node (h243_23 P) .nil .nil)))) (.node (h27_10 P) (.node (h43_10 P) (.node (h75_11 P) (.node (h139_11 P) .nil .nil) (.node (x 37) .nil .nil)) (.node (h107_11 P) (.node (x 5) .nil .nil) (.node (h235_23 P) .nil .nil))) (.node (h59_10 P) (.node (h91_11 P) (.node (h155_14 P) .nil .nil) (.node (h219_23 P) .nil .nil)) (.node (h123_11 P) (.node (x 21) .nil .nil) .nil))))) (.node (h5_a P) (.node (h9_a P) (.node (h17_10 P) (.node (h33_10 P) (.node (h65_11 P) (.node (h129_11 P) .nil .nil) (.node (x 27) .nil .nil)) (.node (h97_11 P) (.node (h161_14 P) .nil .nil) (.node (h225_23 P) .nil .nil))) (.node (h49_10 P) (.node (h81_11 P) (.node (h145_11 P) .nil .nil) (.node (h209_23 P) .nil .nil)) (.node (h113_11 P) (.node (x 11) .nil .nil) (.node (h241_23 P) .nil .nil)))) (.node (h25_10 P) (.node (h41_10 P) (.node (h73_11 P) (.node (h137_11 P) .nil .nil) (.node (x 35) .nil .nil)) (.node (h105_11 P) (.node (x 3) .nil .nil) (.node (h233_23 P) .nil .nil))) (.node (h57_10 P) (.node (h89_11 P) (.node (h153_14 P) .nil .nil) (.node (h217_23 P) .nil .nil)) (.node (h121_11 P) (.node (x 19) .nil .nil) (.node (h249_23 P) .nil .nil))))) (.node (h13_a P) (.node (h21_10 P) (.node (h37_10 P) (.node (h69_11 P) (.node (h133_11 P) .nil .nil) (.node (x 31) .nil .nil)) (.node (h101_11 P) (.node (h165_14 P) .nil .nil) (.node (h229_23 P) .nil .nil))) (.node (h53_10 P) (.node (h85_11 P) (.node (h149_14 P) .nil .nil) (.node (h213_23 P) .nil .nil)) (.node (h117_11 P) (.node (x 15) .nil .nil) (.node (h245_23 P) .nil .nil)))) (.node (h29_10 P) (.node (h45_10 P) (.node (h77_11 P) (.node (h141_11 P) .nil .nil) (.node (h205_23 P) .nil .nil)) (.node (h109_11 P) (.node (x 7) .nil .nil) (.node (h237_23 P) .nil .nil))) (.node (h61_10 P) (.node (h93_11 P) (.node (h157_14 P) .nil .nil) (.node (h221_23 P) .nil .nil)) (.node (h125_11 P) (.node (x 23) .nil .nil) .nil)))))) (.node (h2_a P) (.node (h4_a P) (.node (h8_a P) (.node (h16_10 P) (.node (h32_10 P) (.node (h64_11 P) (.node (h128_11 P) .nil .nil) (.node (x 26) .nil .nil)) (.node (h96_11 P) (.node (h160_14 P) .nil .nil) (.node (h224_23 P) .nil .nil))) (.node (h48_10 P) (.node (h80_11 P) (.node (h144_11 P) .nil .nil) (.node (h208_23 P) .nil .nil)) (.node (h112_11 P) (.node (x 10) .nil .nil) (.node (h240_23 P) .nil .nil)))) (.node (h24_10 P) (.node (h40_10 P) (.node (h72_11 P) (.node (h136_11 P) .nil .nil) (.node (x 34) .nil .nil)) (.node (h104_11 P) (.node (x 2) .nil .nil) (.node (h232_23 P) .nil .nil))) (.node (h56_10 P) (.node (h88_11 P) (.node (h152_14 P) .nil .nil) (.node (h216_23 P) .nil .nil)) (.node (h120_11 P) (.node (x 18) .nil .nil) (.node (h248_23 P) .nil .nil))))) (.node (h12_23 P) (.node (h20_10 P) (.node (h36_10 P) (.node (h68_11 P) (.node (h132_11 P) .nil .nil) (.node (x 30) .nil .nil)) (.node (h100_11 P) (.node (h164_14 P) .nil .nil) (.node (h228_23 P) .nil .nil))) (.node (h52_10 P) (.node (h84_11 P) (.node (h148_14 P) .nil .nil) (.node (h212_23 P) .nil .nil)) (.node (h116_11 P) (.node (x 14) .nil .nil) (.node (h244_23 P) .nil .nil)))) (.node (h28_10 P) (.node (h44_10 P) (.node (h76_11 P) (.node (h140_11 P) .nil .nil) (.node (x 38) .nil .nil)) (.node (h108_11 P) (.node (x 6) .nil .nil) (.node (h236_23 P) .nil .nil))) (.node (h60_10 P) (.node (h92_11 P) (.node (h156_14 P) .nil .nil) (.node (h220_23 P) .nil .nil)) (.node (h124_11 P) (.node (x 22) .nil .nil) .nil))))) (.node (h6_a P) (.node (h10_a P) (.node (h18_10 P) (.node (h34_10 P) (.node (h66_11 P) (.node (h130_11 P) .nil .nil) (.node (x 28) .nil .nil)) (.node (h98_11 P) (.node (h162_14 P) .nil .nil) (.node (h226_23 P) .nil .nil))) (.node (h50_10 P) (.node (h82_11 P) (.node (h146_11 P) .nil .nil) (.node (h210_23 P) .nil .nil)) (.node (h114_11 P) (.node (x 12) .nil .nil) (.node (h242_23 P) .nil .nil)))) (.node (h26_10 P) (.node (h42_10 P) (.node (h74_11 P) (.node (h138_11 P) .nil .nil) (.node (x 36) .nil .nil)) (.node (h106_11 P) (.node (x 4) .nil .nil) (.node (h234_23 P) .nil .nil))) (.node (h58_10 P) (.node (h90_11 P) (.node (h154_14 P) .nil .nil) (.node (h218_23 P) .nil .nil)) (.node (h122_11 P) (.node (x 20) .nil .nil) .nil)))) (.node (h14_a P) (.node (h22_10 P) (.node (h38_10 P) (.node (h70_11 P) (.node (h134_11 P) .nil .nil) (.node (x 32) .nil .nil)) (.node (h102_11 P) (.node (x 0) .nil .nil) (.node (h230_23 P) .nil .nil))) (.node (h54_10 P) (.node (h86_11 P) (.node (h150_14 P) .nil .nil) (.node (h214_23 P) .nil .nil)) (.node (h118_11 P) (.node (x 16) .nil .nil) (.node (h246_23 P) .nil .nil)))) (.node (h30_10 P) (.node (h46_10 P) (.node (h78_11 P) (.node (h142_11 P) .nil .nil) (.node (h206_23 P) .nil .nil)) (.node (h110_11 P) (.node (x 8) .nil .nil) (.node (h238_23 P) .nil .nil))) (.node (h62_10 P) (.node (h94_11 P) (.node (h158_14 P) .nil .nil) (.node (h222_23 P) .nil .nil)) (.node (h126_11 P) (.node (x 24) .nil .nil) .nil)))))))
noncomputable abbrev bodyOf : List Stmt := behindTheImports pg
noncomputable def env : Env := { scope := pg.main.scope, locals := mainNs, globals := mainNs, cells := [], code := .ref 13, frame := some 14 }
noncomputable def cE : Code := .body bodyOf env
noncomputable abbrev topQ : Pos := ⟨0, 0, 0, 0⟩
noncomputable abbrev annV : Option Value := some (.ref 6)
noncomputable abbrev shT (T : BT) (n k : Nat) (os : OsState) : SharedT := ⟨T, n, {}, #[], {}, k, os⟩
theorem L_pre (w : World) (os : OsState) : topGo treeTable pg w 11 annV 12 ⟨boot_heap w.params, #[], boot_drawn, boot_toks, os⟩ (topStub pg) = some ((shT (T_a w.params) 15 187 os).abs, ⟨denote treeTable cE, cE, topQ, [frameK topQ []]⟩) := by kernel_rfl
theorem L_block (w : World) (os : OsState) : segRun treeTable pg w 11 annV 1 1 (shT (T_a w.params) 15 187 os).abs (blockOf bodyOf env cE topQ [frameK topQ []]) = some (.next, (shT (T_a w.params) 15 187 os).abs, cE, topQ) := by kernel_rfl
noncomputable def part_10 : List Stmt := (bodyOf.drop 0).take 11
theorem L_10 (w : World) (os : OsState) : segRunT treeTable pg w 11 annV 1 276 (shT (T_a w.params) 15 187 os) (piecesOf part_10 env cE topQ [frameK topQ []]) = some (.next, shT (T_10 w.params) 64 280 os, cE, ⟨80, 0, 80, 11⟩) := by kernel_rfl
noncomputable def part_11 : List Stmt := (bodyOf.drop 11).take 1
theorem L_11 (w : World) (os : OsState) : segRunT treeTable pg w 11 annV 1 504 (shT (T_10 w.params) 64 280 os) (piecesOf part_11 env cE ⟨80, 0, 80, 11⟩ [frameK topQ []]) = some (.next, shT (T_11 w.params) 148 375 os, cE, ⟨81, 0, 111, 32⟩) := by kernel_rfl
noncomputable def part_12 : List Stmt := (bodyOf.drop 12).take 1
theorem L_12 (w : World) (os : OsState) : segRunT treeTable pg w 11 annV 1 10 (shT (T_11 w.params) 148 375 os) (piecesOf part_12 env cE ⟨81, 0, 111, 32⟩ [frameK topQ []]) = some (.next, shT (T_12 w.params) 148 377 os, cE, ⟨112, 0, 112, 8⟩) := by kernel_rfl
noncomputable def part_14 : List Stmt := (bodyOf.drop 13).take 2
theorem L_14_w (w : World) : (∀ os, segRunT treeTable pg w 11 annV 1 1028 (shT (T_12 w.params) 148 377 os) (piecesOf part_14 env cE ⟨112, 0, 112, 8⟩ [frameK topQ []]) = some (.next, shT (T_14 w.params) 166 444 os, cE, ⟨114, 0, 115, 30⟩)) := by
  revert w
  refine byRow2 "set-order" (fun w => byRow2 "special-get-raises" (P := fun w' => ∀ os, segRunT treeTable pg (w'.withFollow "set-order" false) 11 annV 1 1028 (shT (T_12 (w'.withFollow "set-order" false).params) 148 377 os) (piecesOf part_14 env cE ⟨112, 0, 112, 8⟩ [frameK topQ []]) = some (.next, shT (T_14 (w'.withFollow "set-order" false).params) 166 444 os, cE, ⟨114, 0, 115, 30⟩)) (fun w os => ?_) (fun w os => ?_) w) (fun w => byRow2 "special-get-raises" (P := fun w' => ∀ os, segRunT treeTable pg (w'.withFollow "set-order" true) 11 annV 1 1028 (shT (T_12 (w'.withFollow "set-order" true).params) 148 377 os) (piecesOf part_14 env cE ⟨112, 0, 112, 8⟩ [frameK topQ []]) = some (.next, shT (T_14 (w'.withFollow "set-order" true).params) 166 444 os, cE, ⟨114, 0, 115, 30⟩)) (fun w os => ?_) (fun w os => ?_) w)
  all_goals (rw [PySem.W.Fast.te10110043849684766642, PySem.W.Fast.te14364793385576792824]; kernel_rfl)
noncomputable def T_s (x : Nat → Obj) (P : Params) : BT := (.node (h0_a P) (.node (h1_a P) (.node (h3_15 P) (.node (h7_a P) (.node (h15_10 P) (.node (h31_10 P) (.node (h63_10 P) (.node (h127_11 P) .nil .nil) (.node (x 25) .nil .nil)) (.node (h95_11 P) (.node (h159_14 P) .nil .nil) .nil)) (.node (h47_10 P) (.node (h79_11 P) (.node (h143_11 P) .nil .nil) .nil) (.node (h111_11 P) (.node (x 9) .nil .nil) .nil))) (.node (h23_10 P) (.node (h39_10 P) (.node (h71_11 P) (.node (h135_11 P) .nil .nil) (.node (x 33) .nil .nil)) (.node (h103_11 P) (.node (x 1) .nil .nil) .nil)) (.node (h55_10 P) (.node (h87_11 P) (.node (h151_14 P) .nil .nil) .nil) (.node (h119_11 P) (.node (x 17) .nil .nil) .nil)))) (.node (h11_a P) (.node (h19_10 P) (.node (h35_10 P) (.node (h67_11 P) (.node (h131_11 P) .nil .nil) (.node (x 29) .nil .nil)) (.node (h99_11 P) (.node (h163_14 P) .nil .nil) .nil)) (.node (h51_10 P) (.node (h83_11 P) (.node (h147_11 P) .nil .nil) .nil) (.node (h115_11 P) (.node (x 13) .nil .nil) .nil))) (.node (h27_10 P) (.node (h43_10 P) (.node (h75_11 P) (.node (h139_11 P) .nil .nil) (.node (x 37) .nil .nil)) (.node (h107_11 P) (.node (x 5) .nil .nil) .nil)) (.node (h59_10 P) (.node (h91_11 P) (.node (h155_14 P) .nil .nil) .nil) (.node (h123_11 P) (.node (x 21) .nil .nil) .nil))))) (.node (h5_a P) (.node (h9_a P) (.node (h17_10 P) (.node (h33_10 P) (.node (h65_11 P) (.node (h129_11 P) .nil .nil) (.node (x 27) .nil .nil)) (.node (h97_11 P) (.node (h161_14 P) .nil .nil) .nil)) (.node (h49_10 P) (.node (h81_11 P) (.node (h145_11 P) .nil .nil) .nil) (.node (h113_11 P) (.node (x 11) .nil .nil) .nil))) (.node (h25_10 P) (.node (h41_10 P) (.node (h73_11 P) (.node (h137_11 P) .nil .nil) (.node (x 35) .nil .nil)) (.node (h105_11 P) (.node (x 3) .nil .nil) .nil)) (.node (h57_10 P) (.node (h89_11 P) (.node (h153_14 P) .nil .nil) .nil) (.node (h121_11 P) (.node (x 19) .nil .nil) .nil)))) (.node (h13_a P) (.node (h21_10 P) (.node (h37_10 P) (.node (h69_11 P) (.node (h133_11 P) .nil .nil) (.node (x 31) .nil .nil)) (.node (h101_11 P) (.node (h165_14 P) .nil .nil) .nil)) (.node (h53_10 P) (.node (h85_11 P) (.node (h149_14 P) .nil .nil) .nil) (.node (h117_11 P) (.node (x 15) .nil .nil) .nil))) (.node (h29_10 P) (.node (h45_10 P) (.node (h77_11 P) (.node (h141_11 P) .nil .nil) .nil) (.node (h109_11 P) (.node (x 7) .nil .nil) .nil)) (.node (h61_10 P) (.node (h93_11 P) (.node (h157_14 P) .nil .nil) .nil) (.node (h125_11 P) (.node (x 23) .nil .nil) .nil)))))) (.node (h2_a P) (.node (h4_a P) (.node (h8_a P) (.node (h16_10 P) (.node (h32_10 P) (.node (h64_11 P) (.node (h128_11 P) .nil .nil) (.node (x 26) .nil .nil)) (.node (h96_11 P) (.node (h160_14 P) .nil .nil) .nil)) (.node (h48_10 P) (.node (h80_11 P) (.node (h144_11 P) .nil .nil) .nil) (.node (h112_11 P) (.node (x 10) .nil .nil) .nil))) (.node (h24_10 P) (.node (h40_10 P) (.node (h72_11 P) (.node (h136_11 P) .nil .nil) (.node (x 34) .nil .nil)) (.node (h104_11 P) (.node (x 2) .nil .nil) .nil)) (.node (h56_10 P) (.node (h88_11 P) (.node (h152_14 P) .nil .nil) .nil) (.node (h120_11 P) (.node (x 18) .nil .nil) .nil)))) (.node (h12_14 P) (.node (h20_10 P) (.node (h36_10 P) (.node (h68_11 P) (.node (h132_11 P) .nil .nil) (.node (x 30) .nil .nil)) (.node (h100_11 P) (.node (h164_14 P) .nil .nil) .nil)) (.node (h52_10 P) (.node (h84_11 P) (.node (h148_14 P) .nil .nil) .nil) (.node (h116_11 P) (.node (x 14) .nil .nil) .nil))) (.node (h28_10 P) (.node (h44_10 P) (.node (h76_11 P) (.node (h140_11 P) .nil .nil) (.node (x 38) .nil .nil)) (.node (h108_11 P) (.node (x 6) .nil .nil) .nil)) (.node (h60_10 P) (.node (h92_11 P) (.node (h156_14 P) .nil .nil) .nil) (.node (h124_11 P) (.node (x 22) .nil .nil) .nil))))) (.node (h6_a P) (.node (h10_a P) (.node (h18_10 P) (.node (h34_10 P) (.node (h66_11 P) (.node (h130_11 P) .nil .nil) (.node (x 28) .nil .nil)) (.node (h98_11 P) (.node (h162_14 P) .nil .nil) .nil)) (.node (h50_10 P) (.node (h82_11 P) (.node (h146_11 P) .nil .nil) .nil) (.node (h114_11 P) (.node (x 12) .nil .nil) .nil))) (.node (h26_10 P) (.node (h42_10 P) (.node (h74_11 P) (.node (h138_11 P) .nil .nil) (.node (x 36) .nil .nil)) (.node (h106_11 P) (.node (x 4) .nil .nil) .nil)) (.node (h58_10 P) (.node (h90_11 P) (.node (h154_14 P) .nil .nil) .nil) (.node (h122_11 P) (.node (x 20) .nil .nil) .nil)))) (.node (h14_a P) (.node (h22_10 P) (.node (h38_10 P) (.node (h70_11 P) (.node (h134_11 P) .nil .nil) (.node (x 32) .nil .nil)) (.node (h102_11 P) (.node (x 0) .nil .nil) .nil)) (.node (h54_10 P) (.node (h86_11 P) (.node (h150_14 P) .nil .nil) .nil) (.node (h118_11 P) (.node (x 16) .nil .nil) .nil))) (.node (h30_10 P) (.node (h46_10 P) (.node (h78_11 P) (.node (h142_11 P) .nil .nil) .nil) (.node (h110_11 P) (.node (x 8) .nil .nil) .nil)) (.node (h62_10 P) (.node (h94_11 P) (.node (h158_14 P) .nil .nil) .nil) (.node (h126_11 P) (.node (x 24) .nil .nil) .nil)))))))
noncomputable def dSt : Stmt := stm 15
noncomputable def dK : List (Option Expr) := match dSt with | .Assign _ (.Dict ks _ _) _ => ks | _ => []
noncomputable def dV : List Expr := match dSt with | .Assign _ (.Dict _ vs _) _ => vs | _ => []
noncomputable def dP : Pos := match dSt with | .Assign _ (.Dict _ _ p) _ => p | _ => ⟨0, 0, 0, 0⟩
noncomputable def dS : Pos := match dSt with | .Assign _ _ p => p | _ => ⟨0, 0, 0, 0⟩
noncomputable def dX : Str := match dSt with | .Assign [.Name x _] _ _ => x | _ => Str.empty
noncomputable def dN : Pos := match dSt with | .Assign [.Name _ p] _ _ => p | _ => ⟨0, 0, 0, 0⟩
noncomputable def b3 : List (Int × Str) := (entries dK dV).getD []
noncomputable def part_e : List Stmt := bodyOf.drop 16
theorem d_same : dSt = .Assign [.Name dX dN] (.Dict dK dV dP) dS := by kernel_rfl
theorem d_some : (entries dK dV).isSome = true := by kernel_rfl
theorem d_entries : entries dK dV = some b3 := by
  obtain ⟨e, h⟩ := Option.isSome_iff_exists.mp d_some
  rw [b3, h]; rfl
theorem b3_len : b3.length = 650 := by kernel_rfl
noncomputable def rising : List (Int × Str) → Bool
  | a :: b :: r => decide (a.1 < b.1) && rising (b :: r)
  | _ => true
theorem b3_rising : rising b3 = true := by kernel_rfl
theorem rising_all : ∀ (a : Int × Str) (l : List (Int × Str)), rising (a :: l) = true → ∀ b ∈ l, a.1 < b.1
  | _, [], _, _, h => nomatch h
  | a, b :: r, h, c, hc => by
    simp only [rising, Bool.and_eq_true, decide_eq_true_eq] at h
    rcases List.mem_cons.mp hc with rfl | hc
    · exact h.1
    · exact Int.lt_trans h.1 (rising_all b r h.2 c hc)
theorem rising_nodup : ∀ l : List (Int × Str), rising l = true → (l.map (·.1)).Nodup
  | [], _ => by simp
  | [a], _ => by simp
  | a :: b :: r, h => by
    have h2 := rising_all a (b :: r) h
    rw [List.map_cons, List.nodup_cons]
    refine ⟨fun q => ?_, rising_nodup (b :: r) (by simp only [rising, Bool.and_eq_true] at h; exact h.2)⟩
    obtain ⟨c, hc, e⟩ := List.mem_map.mp q
    have := h2 c hc
    omega
theorem ins_same (x : Nat → Obj) (P : Params) : insAll (T_14 P) 166 x 39 = T_x x P := by kernel_rfl
theorem ins_ok (x : Nat → Obj) (P : Params) : insOk (T_14 P) 166 x 39 = true := by kernel_rfl
theorem all_alive (P : Params) : allAlive (T_14 P) 166 = true := by kernel_rfl
theorem L_store (w : World) (os : OsState) (x : Nat → Obj) (p' : Pos) (κ : List Value) : segRunT treeTable pg w 11 annV 1 40 (shT (T_x x w.params) 205 2394 os) ⟨(storeOf dX dN env (.ref 166)).wrap doneF deadEnd id id, cE, p', [frameK topQ κ]⟩ = some (.next, shT (T_s x w.params) 205 2395 os, cE, dN) := by kernel_rfl
theorem L_end (w : World) (os : OsState) (x : Nat → Obj) (κ : List Value) : segRunT treeTable pg w 11 annV 1 230 (shT (T_s x w.params) 205 2395 os) (piecesOf part_e env cE dN [frameK topQ κ]) = some (.next, shT (T_e x w.params) 250 2467 os, cE, ⟨160, 0, 195, 68⟩) := by kernel_rfl
theorem L_fin (w : World) (os : OsState) (x : Nat → Obj) (κ : List Value) : topGo treeTable pg w 11 annV 1 (shT (T_e x w.params) 250 2467 os).abs ⟨doneF .next, cE, ⟨160, 0, 195, 68⟩, [frameK topQ κ]⟩ = some ((shT (T_e x w.params) 250 2467 os).abs, ⟨topAfter (.ok .next), .builtin "claim.caller" {}, topQ, []⟩) := by kernel_rfl

noncomputable def qv : Program := view pg [23]
noncomputable def looseN : List Str := [Str.ofString "_wall", Str.ofString "_DIV_LIMIT", Str.ofString "_div2n1n", Str.ofString "_div3n2n", Str.ofString "_int2digits", Str.ofString "_digits2int", Str.ofString "_divmod_pos", Str.ofString "int_divmod", Str.ofString "EMPTYSTRING", Str.ofString "_Accumulator", Str.ofString "b1_set", Str.ofString "in_table_b1", Str.ofString "b3_exceptions", Str.ofString "map_table_b3", Str.ofString "_law_drawn", Str.ofString "_law_sign", Str.ofString "_law_table", Str.ofString "_law_laid", Str.ofString "_law_ahead"]
noncomputable def XtN : Shared → Bool := fun s => xlAt qv [] s
noncomputable abbrev endH (x : Nat → Obj) (P : Params) : Heap := absHeap (T_e x P) 250 {}
noncomputable abbrev endS (x : Nat → Obj) (w : World) (os : OsState) : Shared := ⟨endH x w.params, #[], {}, 2467, os⟩
theorem look_1 (w : World) (os : OsState) (x : Nat → Obj) : (staticsOk (importedModules pg.main.body) (boot_heap w.params) (endH x w.params) && namesBound pg (endH x w.params) && gensDone (endS x w os) && laidKept (boot_heap w.params) (endH x w.params)) = true := by kernel_rfl
theorem look_2 (w : World) (os : OsState) (x : Nat → Obj) : openSeen qv looseN (importedModules pg.main.body) XtN true (endS x w os) = openGood qv looseN := by kernel_rfl
noncomputable def addrsK : List Nat := [2, 3, 15, 17, 18, 20, 21, 22, 24, 25, 27, 28, 29, 31, 32, 34, 35, 36, 38, 39, 41, 42, 43, 45, 46, 48, 49, 50, 52, 53, 55, 56, 57, 59, 60, 62, 63, 64, 67, 72, 73, 74, 76, 77, 79, 80, 81, 83, 84, 86, 87, 88, 89, 91, 92, 94, 95, 96, 97, 99, 100, 102, 103, 104, 106, 107, 109, 110, 111, 113, 114, 116, 117, 118, 119, 121, 122, 124, 125, 126, 128, 129, 131, 132, 133, 134, 136, 137, 139, 140, 141, 142, 143, 144, 145, 155, 159, 161, 162, 164, 165, 205, 207, 208, 210, 211, 212, 215, 216, 217, 219, 220, 222, 223, 224, 226, 227, 229, 230, 231, 233, 234, 236, 237, 238, 240, 241, 243, 244, 245, 248, 249]
theorem look_3 (w : World) (x : Nat → Obj) : addrsK.map (endH x w.params).get? = (K w.params).map fun p => some p.2 := by kernel_rfl
theorem look_4 (P : Params) : addrsK = (K P).map (·.1) := by kernel_rfl
theorem size_0 (w : World) : (boot_heap w.params).isNs mainGlobals = true ∧ (boot_heap w.params).objs.size = 11 ∧ (boot_heap w.params).nsMap mainGlobals "__annotations__" = annV := ⟨by kernel_rfl, by kernel_rfl, by kernel_rfl⟩
theorem boot_0 : ∀ w : World, (fencedOpening treeTable pg w 600).map (fun s => (s.heap, s.gens, s.drawn, s.toks)) = some (boot_heap w.params, #[], boot_drawn, boot_toks) := boot_open (by rfl) (by rfl) (fun _ => rfl)

noncomputable def tabsP : List Addr := [37, 44, 105, 112]
theorem look_5 (w : World) (x : Nat → Obj) : tabsP.map (endH x w.params).get? = tabsP.map fun _ => some ({ cls := .none, data := .fields #[] } : Obj) := by kernel_rfl
theorem tabs_in {h : Heap} (e : tabsP.map h.get? = tabsP.map fun _ => some ({ cls := .none, data := .fields #[] } : Obj)) : ∀ P ∈ tabsP, h.get? P = some ({ cls := .none, data := .fields #[] } : Obj) := by
  intro P hP
  have := List.map_inj_left.mp e P hP
  exact this
noncomputable abbrev YPN : World → Heap → Prop := fun w h => (K w.params).In h ∧ (∀ P ∈ tabsP, h.get? P = some ({ cls := .none, data := .fields #[] } : Obj)) ∧ ∃ kvs, SameKV kvs b3 ∧ h.DictOf (intKind pg w) 166 kvs
theorem ypn_keeps (w : World) (h h' : Heap) (y : YPN w h) (k : ∀ b o, h.get? b = some o → h'.get? b = some o) : YPN w h' := by
  obtain ⟨y1, y2, kvs, hk, o, es, ep, ho, r⟩ := y
  exact ⟨y1.keeps k, fun P hP => k _ _ (y2 P hP), kvs, hk, o, es, ep, k _ _ ho, r⟩
theorem body_split : bodyOf = part_10 ++ (part_11 ++ (part_12 ++ (part_14 ++ (dSt :: part_e)))) := by kernel_rfl
theorem tops_all : Tops pg qv looseN XtN YPN boot_heap boot_drawn boot_toks 11 annV := by
  intro w os hr
  have f0 := go_far (p := pg) (w := w) (n₀ := 11) (ann := annV) hr (by rw [table_eq_tree]; exact L_pre w os)
  have r0 := asleep_far hr f0
  have f1 := block_far (p := pg) (w := w) (n₀ := 11) (ann := annV) (env := env) (b := bodyOf) (κ := []) (q := topQ) r0 (by rw [table_eq_tree]; exact L_block w os)
  rw [table_eq_tree] at f1
  have g1 := Far.trans f0 f1
  have r1 := asleep_far hr g1
  rw [body_split] at g1
  have f2 := pieces_far (p := pg) (w := w) (n₀ := 11) (ann := annV) (env := env) (κ := []) (q := topQ) (l := part_10) (rest := part_11 ++ (part_12 ++ (part_14 ++ (dSt :: part_e)))) r1 (by rw [table_eq_tree]; exact segRun_of (L_10 w os))
  have g2 := Far.trans g1 f2
  have r2 := asleep_far hr g2
  have f3 := pieces_far (p := pg) (w := w) (n₀ := 11) (ann := annV) (env := env) (κ := []) (q := topQ) (l := part_11) (rest := part_12 ++ (part_14 ++ (dSt :: part_e))) r2 (by rw [table_eq_tree]; exact segRun_of (L_11 w os))
  have g3 := Far.trans g2 f3
  have r3 := asleep_far hr g3
  have f4 := pieces_far (p := pg) (w := w) (n₀ := 11) (ann := annV) (env := env) (κ := []) (q := topQ) (l := part_12) (rest := part_14 ++ (dSt :: part_e)) r3 (by rw [table_eq_tree]; exact segRun_of (L_12 w os))
  have g4 := Far.trans g3 f4
  have r4 := asleep_far hr g4
  have f5 := pieces_far (p := pg) (w := w) (n₀ := 11) (ann := annV) (env := env) (κ := []) (q := topQ) (l := part_14) (rest := dSt :: part_e) r4 (by rw [table_eq_tree]; exact segRun_of (L_14_w w os))
  have g5 := Far.trans g4 f5
  have r5 := asleep_far hr g5
  rw [d_same] at g5
  obtain ⟨h', p', κ, kvs, hl, hsz, hold, hk, hd, fd⟩ := dict_far (p := pg) (w := w) (n₀ := 11) (ann := annV) (env := env) (c := cE) (pos := ⟨114, 0, 115, 30⟩) (q := topQ) (s := (shT (T_14 w.params) 166 444 os).abs) (x := dX) (np := dN) (dp := dP) (sp := dS) (rest := part_e) r5 rfl
    (by show sysModules < (absHeap (T_14 w.params) 166 {}).objs.size; rw [absHeap_size]; decide) (by show 11 ≤ (absHeap (T_14 w.params) 166 {}).objs.size; rw [absHeap_size]; decide)
    d_entries (by intro q; have := b3_len; rw [q] at this; cases this) (rising_nodup _ b3_rising) (by rw [b3_len, sizeLine_eq]; decide)
  have e0 : (shT (T_14 w.params) 166 444 os).abs.heap.objs.size = 166 := absHeap_size _ _ _
  rw [e0, b3_len] at hsz
  rw [e0] at hold hd fd
  rw [b3_len] at fd
  obtain ⟨x, rfl⟩ := heap_grown (T := T_14 w.params) (n := 166) (k := 39) (life := {}) hl hsz hold (all_alive _) (fun x => ins_ok x _)
  rw [ins_same] at hd fd
  have ga := Far.trans g5 fd
  have ra := asleep_far hr ga
  have fs := part_far (p := pg) (w := w) (n₀ := 11) (ann := annV) (env := env) (m := storeOf dX dN env (.ref 166)) (rest := part_e) (κ := κ) (q := topQ) ra (by rw [table_eq_tree]; exact segRun_of (L_store w os x p' κ))
  have gb := Far.trans ga fs
  have rb := asleep_far hr gb
  have fe := pieces_far (p := pg) (w := w) (n₀ := 11) (ann := annV) (env := env) (κ := κ) (q := topQ) (l := part_e) (rest := []) rb (by rw [table_eq_tree]; exact segRun_of (L_end w os x κ))
  rw [List.append_nil] at fe
  have gc := Far.trans gb fe
  have rc := asleep_far hr gc
  have ff := go_far (p := pg) (w := w) (n₀ := 11) (ann := annV) rc (by rw [table_eq_tree]; exact L_fin w os x κ)
  have gd := Far.trans gc ff
  refine ⟨endS x w os, _, gd, rfl, look_1 w os x, look_2 w os x, Frag.in_of (look_4 _) (look_3 w x), tabs_in (look_5 w x), kvs, hk, ?_⟩
  obtain ⟨o, es, ep, ho, r⟩ := hd
  refine ⟨o, es, ep, ?_, r⟩
  have e1 : (T_x x w.params).get 166 = some (x 0) := by kernel_rfl
  have e2 : (T_e x w.params).get 166 = some (x 0) := by kernel_rfl
  exact (abs_get (by decide) e2).trans ((abs_get (by decide) e1).symm.trans ho)
end
section
open PySem PySem.W PySem.Calls PyProof.Rows PySem.Spec
set_option maxRecDepth 100000
noncomputable abbrev bits (x : Int) : Nat := Builtin.Int.intBits x
theorem bits_lt {x : Int} : x.natAbs < 2 ^ bits x := by
  unfold bits Builtin.Int.intBits
  by_cases h : x = 0
  · subst h; decide
  · have h' : (x == 0) = false := by simpa using h
    rw [h']
    simp only [Bool.false_eq_true, if_false]
    exact Nat.lt_log2_self
theorem bits_le_iff {x : Int} {k : Nat} : bits x ≤ k ↔ x.natAbs < 2 ^ k := by
  constructor
  · intro h
    exact Nat.lt_of_lt_of_le bits_lt (Nat.pow_le_pow_right (by decide) h)
  · intro h
    unfold bits Builtin.Int.intBits
    by_cases h0 : x = 0
    · subst h0; simp
    · have h' : (x == 0) = false := by simpa using h0
      rw [h']
      simp only [Bool.false_eq_true, if_false]
      exact (Nat.log2_lt (by omega)).mpr h
theorem bits_le_of {x : Int} {k : Nat} (h0 : 0 ≤ x) (h : x < 2 ^ k) : bits x ≤ k := by
  rw [bits_le_iff]
  have : ((x.natAbs : Nat) : Int) < ((2 ^ k : Nat) : Int) := by rw [Int.natAbs_of_nonneg h0]; simpa using h
  exact_mod_cast this
theorem lt_of_bits {x : Int} {k : Nat} (h : bits x ≤ k) : x < 2 ^ k := by
  have := bits_le_iff.mp h
  have h2 : ((x.natAbs : Nat) : Int) < ((2 ^ k : Nat) : Int) := by exact_mod_cast this
  have h3 : x ≤ x.natAbs := Int.le_natAbs
  have : ((2 ^ k : Nat) : Int) = 2 ^ k := by simp
  omega
theorem pylong_ok {x y : Int} (h : bits y ≤ 9000) : Builtin.divisionGoesByPylong x y = false := by
  refine PyProof.noPylong_of_log2 ?_
  unfold bits Builtin.Int.intBits at h
  by_cases h0 : y = 0
  · subst h0; decide
  · have h' : (y == 0) = false := by simpa using h0
    rw [h'] at h
    simp only [Bool.false_eq_true, if_false] at h
    omega
theorem bit_or_sum (x y : Int) : Builtin.bitOr x y = x + y - Builtin.bitAnd x y := by
  have h := bitXor_and x y
  unfold Builtin.bitXor at h
  omega
theorem bit_and_high (k : Nat) : ∀ (x y : Int), 0 ≤ y → y < 2 ^ k → Builtin.bitAnd (x * 2 ^ k) y = 0 := by
  induction k with
  | zero =>
    intro x y h0 h1
    have : y = 0 := by simp at h1; omega
    subst this
    have := kbt_mask (x * 2 ^ 0) 0
    simp at this ⊢
    simpa [Int.emod_one] using this
  | succ k ih =>
    intro x y h0 h1
    have e : x * 2 ^ (k + 1) = 2 * (x * 2 ^ k) := by rw [Int.pow_succ]; grind
    rw [kbt_halves, e]
    have h2 : (2 * (x * 2 ^ k)) % 2 = 0 := Int.mul_emod_right 2 _
    have h3 : (2 * (x * 2 ^ k)) / 2 = x * 2 ^ k := Int.mul_ediv_cancel_left _ (by decide)
    rw [h2, h3, ih x (y / 2) (by omega) (by rw [Int.pow_succ] at h1; omega)]
    simp
theorem bit_or_high {x y : Int} {k : Nat} (h0 : 0 ≤ y) (h1 : y < 2 ^ k) : Builtin.bitOr (x * 2 ^ k) y = x * 2 ^ k + y := by
  rw [bit_or_sum, bit_and_high k x y h0 h1]
  omega
theorem fdiv_is {x b q r : Int} (hb : 0 < b) (h : x = q * b + r) (h0 : 0 ≤ r) (h1 : r < b) : x.fdiv b = q ∧ x.fmod b = r := by
  rw [Int.fdiv_eq_ediv_of_nonneg _ (by omega), Int.fmod_eq_emod_of_nonneg _ (by omega)]
  exact (Int.ediv_emod_unique hb).mpr ⟨by rw [h]; grind, h0, h1⟩
theorem mul_ok {a b : Int} (h : bits a + bits b ≤ 134217728) : IntMulOk a b := by
  unfold IntMulOk Builtin.Int.intTooBig bitsLine
  have h' : Builtin.Int.intBits a + Builtin.Int.intBits b ≤ 134217728 := h
  simp
  intro _ _
  omega
end
section
open PySem PySem.W PySem.Calls PyProof.Rows PySem.Spec
set_option maxRecDepth 100000
noncomputable def Calls (prog : Program) (w : World) (p : Program) (loose : List Str) (mean : ExcName → Option Value) (mg mb : Str → Option Value) (f : Addr) (args : List Value) (D U : Nat) (Post : Value → List (Addr × Obj) → Prop) : Prop :=
  ∀ (dp un : Nat) (gd : Option (List Code)) (cn : Str) (cs : Scope) (a : Addr) (ccd : Value) (cl : List (Str × Addr)) (outer : List Env) (A₀ : Around) (base h₀ : Heap) (L : Addr) (m : Str → Option Value) (news : List (Addr × Obj)) (s : Shared)
    (Q E : Value → Shared → Prop), Below A₀ base outer h₀ → Fr h₀ L s.heap m → (K w.params).In h₀ → News h₀ L s.heap news → Top p loose mean mg mb h₀ → cs.kind = .function → dp + D < recursionLimit → un + U < cLine →
    (∀ r tl h' tk', Fr h₀ L h' m → News h₀ L h' (tl ++ news) → (∀ p ∈ tl, ∀ q ∈ news, q.1 < p.1) → Post r tl → Q r { s with heap := h', toks := tk' }) →
    wpAny (model prog w) (ktrTop dp un gd cn cs L a ccd cl outer) (call (.ref f) args) Q E s
noncomputable abbrev pairObj (q m : Int) (u v : Tok) : Obj := { cls := .type "tuple", data := .seq #[.int q u, .int m v] }
noncomputable def IsPair (q m : Int) (r : Value) (tl : List (Addr × Obj)) : Prop := ∃ t u v, r = .ref t ∧ tl = [(t, pairObj q m u v)]
section
variable {prog : Program} {w : World} {p : Program} {loose : List Str} {mean : ExcName → Option Value} {mg mb : Str → Option Value} {f : Addr} {args : List Value} {D U : Nat} {Post : Value → List (Addr × Obj) → Prop}
theorem calls_use {dp un : Nat} {gd : Option (List Code)} {cn : Str} {cs : Scope} {a : Addr} {ccd : Value} {cl : List (Str × Addr)} {outer : List Env} {A₀ : Around} {base h₀ : Heap} {L : Addr} {m : Str → Option Value} {news : List (Addr × Obj)} {s : Shared}
    {Q E : Value → Shared → Prop} (B : Below A₀ base outer h₀) (F : Fr h₀ L s.heap m) (X : (K w.params).In h₀) (N : News h₀ L s.heap news) (T : Top p loose mean mg mb h₀) (hk : cs.kind = .function)
    (C : Calls prog w p loose mean mg mb f args D U Post) (hd : dp + D < recursionLimit) (hu : un + U < cLine)
    (ret : ∀ r tl h' tk', Fr h₀ L h' m → News h₀ L h' (tl ++ news) → (∀ p ∈ tl, ∀ q ∈ news, q.1 < p.1) → Post r tl → Q r { s with heap := h', toks := tk' }) :
    wpAny (model prog w) (ktrTop dp un gd cn cs L a ccd cl outer) (call (.ref f) args) Q E s := C _ _ _ _ _ _ _ _ _ _ _ _ _ _ _ _ _ _ B F X N T hk hd hu ret
theorem pair_use {q n : Int} {dp un : Nat} {gd : Option (List Code)} {cn : Str} {cs : Scope} {a : Addr} {ccd : Value} {cl : List (Str × Addr)} {outer : List Env} {A₀ : Around} {base h₀ : Heap} {L : Addr} {m : Str → Option Value} {news : List (Addr × Obj)} {s : Shared}
    {Q E : Value → Shared → Prop} (B : Below A₀ base outer h₀) (F : Fr h₀ L s.heap m) (X : (K w.params).In h₀) (N : News h₀ L s.heap news) (T : Top p loose mean mg mb h₀) (hk : cs.kind = .function)
    (C : Calls prog w p loose mean mg mb f args D U (IsPair q n)) (hd : dp + D < recursionLimit) (hu : un + U < cLine)
    (ret : ∀ t u v h' tk', Fr h₀ L h' m → News h₀ L h' ((t, pairObj q n u v) :: news) → (∀ q ∈ news, q.1 < t) → Q (.ref t) { s with heap := h', toks := tk' }) :
    wpAny (model prog w) (ktrTop dp un gd cn cs L a ccd cl outer) (call (.ref f) args) Q E s :=
  calls_use B F X N T hk C hd hu fun r tl h' tk' F' N' hl hp => by
    obtain ⟨t, u, v, rfl, rfl⟩ := hp
    exact ret t u v h' tk' F' N' (hl _ (.head _))
theorem pair_end {q n q' n' : Int} {t : Addr} {u v : Tok} {h₀ h' : Heap} {L : Addr} {m : Str → Option Value} {news mid : List (Addr × Obj)} {s : Shared} {Q : Value → Shared → Prop} {tk : Nat}
    (ret : ∀ r tl h' tk', Fr h₀ L h' m → News h₀ L h' (tl ++ news) → (∀ p ∈ tl, ∀ q ∈ news, q.1 < p.1) → IsPair q n r tl → Q r { s with heap := h', toks := tk' })
    (F : Fr h₀ L h' m) (N : News h₀ L h' ((t, pairObj q' n' u v) :: (mid ++ news))) (hl : ∀ q ∈ news, q.1 < t) (eq : q' = q) (en : n' = n) : Q (.ref t) { s with heap := h', toks := tk } := by
  subst eq en
  refine ret _ [(t, pairObj q' n' u v)] _ _ F (fun p hp => N p ?_) (fun p hp => ?_) ⟨t, u, v, rfl, rfl⟩
  · rcases List.mem_cons.mp hp with rfl | hp
    · exact .head _
    · exact .tail _ (List.mem_append_right _ hp)
  · rcases List.mem_cons.mp hp with rfl | hp
    · exact hl
    · cases hp
theorem pair_endD {x b q' n' : Int} {t : Addr} {u v : Tok} {h₀ h' : Heap} {L : Addr} {m : Str → Option Value} {news mid : List (Addr × Obj)} {s : Shared} {Q : Value → Shared → Prop} {tk : Nat}
    (ret : ∀ r tl h' tk', Fr h₀ L h' m → News h₀ L h' (tl ++ news) → (∀ p ∈ tl, ∀ q ∈ news, q.1 < p.1) → IsPair (x.fdiv b) (x.fmod b) r tl → Q r { s with heap := h', toks := tk' })
    (F : Fr h₀ L h' m) (N : News h₀ L h' ((t, pairObj q' n' u v) :: (mid ++ news))) (hl : ∀ q ∈ news, q.1 < t) (hb : 0 < b) (e : x = q' * b + n') (h0 : 0 ≤ n') (h1 : n' < b) : Q (.ref t) { s with heap := h', toks := tk } :=
  pair_end ret F N hl (fdiv_is hb e h0 h1).1.symm (fdiv_is hb e h0 h1).2.symm
theorem all_ne {d X : Nat} {l : List (Addr × Obj)} (h : ∀ p ∈ l, p.1 < d) (hd : d ≤ X) : ∀ p ∈ l, p.1 ≠ X := fun p hp q => by have := h p hp; rw [q] at this; exact absurd hd (Nat.not_le_of_lt this)
noncomputable def Stop (p : Prop) : Prop := p
theorem stop_intro {p : Prop} (h : Stop p) : p := h
theorem whlIf_dec {p : Prop} [Decidable p] {T F : Prop} (h1 : p → T) (h2 : ¬ p → F) : WhlIf (decide p) T F := by
  by_cases h : p
  · exact WhlIf.yes (decide_eq_true h) (h1 h)
  · exact WhlIf.no (decide_eq_false h) (h2 h)
theorem all_of {d : Addr} : ∀ {l : List (Addr × Obj)}, AllLt d l → ∀ p ∈ l, p.1 < d
  | [], _, _, h => nomatch h
  | _ :: _, h, _, hp => by
    rcases List.mem_cons.mp hp with rfl | hp
    · exact h.1
    · exact all_of h.2 _ hp
end
end
section
open PySem PySem.W PySem.Calls PyProof.Rows PySem.Spec
set_option maxRecDepth 100000
set_option linter.unusedVariables false
section
variable {M : Model} {A : Around} {E : Value → Shared → Prop} {s : Shared} {h₀ : Heap} {L a : Addr} {m : Str → Option Value} {cn : Str} {cs : Scope} {ccd : Value} {cl : List (Str × Addr)}
  {x : Str} {v : Value} {Q : Unit → Shared → Prop} {news : List (Addr × Obj)}
/-- a name is stored: the count of tokens is forgotten -/
theorem store_tok (F : Fr h₀ L s.heap m) (N : News h₀ L s.heap news)
    (h : ∀ h' t, let m' := (fun y => if y = x then some v else m y); Fr h₀ L h' m' → News h₀ L h' news → Q () ⟨h', s.gens, s.drawn, t, s.os⟩)
    (hk : cs.kind = .function := by rfl) (hx : (envX cn cs L a ccd cl).kindOf x = some .local := by rfl) : wpAny M A (storeName (envX cn cs L a ccd cl) x v) Q E s :=
  storeX_L F N (fun h' a b => h h' _ a b) hk hx
/-- an int is stored: its token is forgotten, too -/
theorem store_int {n : Int} {k : Tok} (F : Fr h₀ L s.heap m) (N : News h₀ L s.heap news)
    (h : ∀ h' t k, let m' := (fun y => if y = x then some (.int n k) else m y); Fr h₀ L h' m' → News h₀ L h' news → Q () ⟨h', s.gens, s.drawn, t, s.os⟩)
    (hk : cs.kind = .function := by rfl) (hx : (envX cn cs L a ccd cl).kindOf x = some .local := by rfl) : wpAny M A (storeName (envX cn cs L a ccd cl) x (.int n k)) Q E s :=
  storeX_L F N (fun h' a b => h h' _ _ a b) hk hx
end
section
variable {cn : Str} {cs : Scope} {L a : Addr} {ccd : Value} {cl : List (Str × Addr)} {m : Str → Option Value}
/-- e is worth the int n, whatever the state, where the names are worth what m says; the count of tokens is forgotten -/
structure PE (cn : Str) (cs : Scope) (L a : Addr) (ccd : Value) (cl : List (Str × Addr)) (m : Str → Option Value) (e : Expr) (n : Int) : Prop where
  ok : ∀ {prog : Program} {w : World} {A : Around} {E : Value → Shared → Prop} {s : Shared} {h₀ : Heap} {Q : Value → Shared → Prop}, Fr h₀ L s.heap m →
    (∀ k t, Q (.int n k) ⟨s.heap, s.gens, s.drawn, t, s.os⟩) → wpAny (model prog w) A (eval e (envX cn cs L a ccd cl)) Q E s
structure BinI (op : Operator) (x y n : Int) : Prop where
  ok : ∀ {prog : Program} {w : World} {A : Around} {E : Value → Shared → Prop} {s : Shared} {t u : Tok} {Q : Value → Shared → Prop},
    (∀ k t', Q (.int n k) ⟨s.heap, s.gens, s.drawn, t', s.os⟩) → wpAny (model prog w) A (binaryOp op (.int x t) (.int y u)) Q E s
structure CmpI (op : CmpOp) (x y : Int) (b : Bool) : Prop where
  ok : ∀ {prog : Program} {w : World} {A : Around} {E : Value → Shared → Prop} {s : Shared} {t u : Tok} {Q : Value → Shared → Prop},
    Q (.bool b) s → wpAny (model prog w) A (compareOp op (.int x t) (.int y u)) Q E s
theorem fr_cast {h₀ h : Heap} {L : Addr} {m m₁ : Str → Option Value} (e : m = m₁) (F : Fr h₀ L h m) : Fr h₀ L h m₁ := e ▸ F
theorem let_A {M : Model} {A : Around} {α : Type} {c : Sem α} {Q : α → Shared → Prop} {E : Value → Shared → Prop} {s : Shared} (h : let A' := A; wpAny M A' c Q E s) : wpAny M A c Q E s := h
structure InpI (op : Operator) (x y n : Int) : Prop where
  ok : ∀ {prog : Program} {w : World} {A : Around} {E : Value → Shared → Prop} {s : Shared} {t u : Tok} {Q : Value → Shared → Prop},
    (∀ k t', Q (.int n k) ⟨s.heap, s.gens, s.drawn, t', s.os⟩) → wpAny (model prog w) A (inplaceOp op (.int x t) (.int y u)) Q E s
theorem PE.name {x : Str} {pos : Pos} {n : Int} {k : Tok} (hv : m x = some (.int n k)) (hk : cs.kind = .function) (hx : (envX cn cs L a ccd cl).kindOf x = some .local)
    (hd : (x == ("__debug__" : Str)) = false) : PE cn cs L a ccd cl m (.Name x pos) n := ⟨fun F h => nameX_L F hv (h _ _) hk hx hd⟩
theorem PE.const {i : Int} {k : Nat} {pos : Pos} : PE cn cs L a ccd cl m (.Constant (.int i) k pos) i := ⟨fun _ h => wpAny_Constant_int (h _ _)⟩
theorem PE.bin {l r : Expr} {op : Operator} {pos : Pos} {x y n : Int} (dl : PE cn cs L a ccd cl m l x) (dr : PE cn cs L a ccd cl m r y) (o : BinI op x y n) : PE cn cs L a ccd cl m (.BinOp l op r pos) n :=
  ⟨fun F h => wpAny_BinOp (dl.ok F fun _ _ => dr.ok F fun _ _ => o.ok fun _ _ => h _ _)⟩
theorem PE.neg {e : Expr} {pos : Pos} {x : Int} (d : PE cn cs L a ccd cl m e x) : PE cn cs L a ccd cl m (.UnaryOp .USub e pos) (-x) :=
  ⟨fun F h => wpAny_UnaryOp (d.ok F fun _ _ => neg_int (h _ _))⟩
theorem BinI.add {x y : Int} : BinI .Add x y (x + y) := ⟨fun h => add_int (h _ _)⟩
theorem BinI.sub {x y : Int} : BinI .Sub x y (x - y) := ⟨fun h => sub_int (h _ _)⟩
section
variable {prog : Program} {w : World} {A : Around} {E : Value → Shared → Prop} {s : Shared} {h₀ : Heap} {news : List (Addr × Obj)}
theorem PE.use {e : Expr} {n : Int} {Q : Value → Shared → Prop} (F : Fr h₀ L s.heap m) (d : PE cn cs L a ccd cl m e n) (h : ∀ k t, Q (.int n k) ⟨s.heap, s.gens, s.drawn, t, s.os⟩) :
    wpAny (model prog w) A (eval e (envX cn cs L a ccd cl)) Q E s := d.ok F h
theorem PE.asg {x : Str} {px pos : Pos} {e : Expr} {n : Int} {rest : List Stmt} {Q : Flow → Shared → Prop} (F : Fr h₀ L s.heap m) (N : News h₀ L s.heap news) (d : PE cn cs L a ccd cl m e n)
    (h : ∀ h' t k, let m' := (fun y => if y = x then some (.int n k) else m y); Fr h₀ L h' m' → News h₀ L h' news → wpAny (model prog w) A (execs rest (envX cn cs L a ccd cl)) Q E ⟨h', s.gens, s.drawn, t, s.os⟩)
    (hk : cs.kind = .function) (hx : (envX cn cs L a ccd cl).kindOf x = some .local) (hs : swapsWith e (some (.Name x px)) pos.line (envX cn cs L a ccd cl) = pure false) :
    wpAny (model prog w) A (execs (.Assign [.Name x px] e pos :: rest) (envX cn cs L a ccd cl)) Q E s :=
  wpAny_execs_cons (wpAny_Assign_Name (d.ok F fun k t => store_int (s := ⟨s.heap, s.gens, s.drawn, t, s.os⟩) F N (fun h' t' k' F' N' => h h' t' k' F' N') hk hx) hs)
theorem PE.aug {x : Str} {px pos : Pos} {op : Operator} {e : Expr} {n y z : Int} {k₀ : Tok} {rest : List Stmt} {Q : Flow → Shared → Prop} (F : Fr h₀ L s.heap m) (N : News h₀ L s.heap news) (hv : m x = some (.int y k₀))
    (d : PE cn cs L a ccd cl m e z) (o : InpI op y z n)
    (h : ∀ h' t k, let m' := (fun y => if y = x then some (.int n k) else m y); Fr h₀ L h' m' → News h₀ L h' news → wpAny (model prog w) A (execs rest (envX cn cs L a ccd cl)) Q E ⟨h', s.gens, s.drawn, t, s.os⟩)
    (hk : cs.kind = .function) (hx : (envX cn cs L a ccd cl).kindOf x = some .local) :
    wpAny (model prog w) A (execs (.AugAssign (.Name x px) op e pos :: rest) (envX cn cs L a ccd cl)) Q E s :=
  wpAny_execs_cons (wpAny_AugAssign_Name (wpAny_loadName_local hk hx F.ns hv (d.ok F fun _ t => o.ok fun _ t' => store_int (s := ⟨s.heap, s.gens, s.drawn, t', s.os⟩) F N (fun h' t' k' F' N' => h h' t' k' F' N') hk hx)))
theorem PE.isTrue {l r : Expr} {whole : Sem Value} {op : CmpOp} {pos : Pos} {x y : Int} {b : Bool} {Q : Bool → Shared → Prop} (F : Fr h₀ L s.heap m) (dl : PE cn cs L a ccd cl m l x) (dr : PE cn cs L a ccd cl m r y) (o : CmpI op x y b)
    (h : ∀ t, Q b ⟨s.heap, s.gens, s.drawn, t, s.os⟩) (hm : behindInMarks op r = false) : wpAny (model prog w) A (PySem.isTrue (.Compare l [op] [r] pos) (envX cn cs L a ccd cl) whole) Q E s :=
  wpAny_isTrue_Compare1 (dl.ok F fun _ _ => dr.ok F fun _ _ => o.ok (wpAny_truthy_bool (h _))) hm
end
end
theorem above_of {w : World} {h₀ h : Heap} {L : Addr} {m : Str → Option Value} (X : (K w.params).In h₀) (F : Fr h₀ L h m) : 249 < L :=
  Nat.lt_of_lt_of_le (Heap.lt_size (X 249 (o249 w.params) (by kernel_rfl))) F.above
end
section
open PySem PySem.W
theorem d32_math {a12 a3 b b1 b2 B q1 r1 : Int} (hB : 0 < B) (hb : b = b1 * B + b2) (h20 : 0 ≤ b2) (h21 : b2 < B) (h1 : B ≤ 2 * b1) (h30 : 0 ≤ a3) (h31 : a3 < B) (h120 : 0 ≤ a12) (h121 : a12 < b)
    (hq : (a12.fdiv B = b1 ∧ q1 = B - 1 ∧ r1 = a12 - b1 * B + b1) ∨ (a12.fdiv B ≠ b1 ∧ q1 = a12.fdiv b1 ∧ r1 = a12.fmod b1)) :
    -(2 * b) ≤ r1 * B + a3 - q1 * b2 ∧ r1 * B + a3 - q1 * b2 < b ∧ a12 * B + a3 = q1 * b + (r1 * B + a3 - q1 * b2) ∧ 0 ≤ q1 ∧ q1 < B ∧ 0 ≤ r1 ∧ r1 < 2 * B + b1 := by
  have hb1 : 0 < b1 := by omega
  have k1 : B * B ≤ 2 * b1 * B := Int.mul_le_mul_of_nonneg_right h1 (by omega)
  have k2 : 0 ≤ b1 * B := Int.mul_nonneg (by omega) (by omega)
  rcases hq with ⟨c, rfl, rfl⟩ | ⟨c, rfl, rfl⟩
  · rw [Int.fdiv_eq_ediv_of_nonneg _ (by omega)] at c
    have e := Int.mul_ediv_add_emod a12 B
    have s0 := Int.emod_nonneg a12 (by omega : B ≠ 0)
    have s1 := Int.emod_lt_of_pos a12 hB
    rw [c] at e
    generalize a12 % B = s at e s0 s1
    have e' : a12 = b1 * B + s := by rw [← e]; grind
    have hs : s < b2 := by omega
    have m1 : (B - 1) * b2 ≤ (B - 1) * (B - 1) := Int.mul_le_mul_of_nonneg_left (by omega) (by omega)
    have m2 : (s + 1) * B ≤ b2 * B := Int.mul_le_mul_of_nonneg_right (by omega) (by omega)
    have m3 : 0 ≤ s * B := Int.mul_nonneg s0 (by omega)
    have m4 : 0 ≤ (B - 1) * b2 := Int.mul_nonneg (by omega) (by omega)
    have x1 : (a12 - b1 * B + b1) * B = s * B + b1 * B := by rw [e']; grind
    have x2 : (B - 1) * (B - 1) = B * B - 2 * B + 1 := by grind
    have x3 : (s + 1) * B = s * B + B := by grind
    have x4 : (B - 1) * b2 = b2 * B - b2 := by grind
    have x5 : 2 * b1 * B = 2 * (b1 * B) := by grind
    refine ⟨by omega, by omega, ?_, by omega, by omega, by omega, by omega⟩
    rw [e', hb]; grind
  · rw [Int.fdiv_eq_ediv_of_nonneg _ (by omega)] at c
    rw [Int.fdiv_eq_ediv_of_nonneg _ (by omega), Int.fmod_eq_emod_of_nonneg _ (by omega)]
    have e := Int.mul_ediv_add_emod a12 b1
    have s0 := Int.emod_nonneg a12 (by omega : b1 ≠ 0)
    have s1 := Int.emod_lt_of_pos a12 hb1
    have q0 : 0 ≤ a12 / b1 := Int.ediv_nonneg h120 (by omega)
    have c1 : a12 / B < b1 := by
      have : a12 / B ≤ b1 := by
        apply Int.le_of_lt_add_one
        apply Int.ediv_lt_of_lt_mul hB
        have : (b1 + 1) * B = b1 * B + B := by grind
        omega
      omega
    have c2 : a12 < b1 * B := by
      have := Int.lt_mul_of_ediv_lt hB c1
      exact this
    have c3 : a12 / b1 < B := Int.ediv_lt_of_lt_mul hb1 (by rw [Int.mul_comm]; exact c2)
    generalize a12 / b1 = q at e q0 c3
    generalize a12 % b1 = r at e s0 s1
    have m1 : q * b2 ≤ (B - 1) * b2 := Int.mul_le_mul_of_nonneg_right (by omega) h20
    have m2 : (B - 1) * b2 ≤ (B - 1) * (B - 1) := Int.mul_le_mul_of_nonneg_left (by omega) (by omega)
    have m3 : 0 ≤ q * b2 := Int.mul_nonneg q0 h20
    have m4 : (r + 1) * B ≤ b1 * B := Int.mul_le_mul_of_nonneg_right (by omega) (by omega)
    have m5 : 0 ≤ r * B := Int.mul_nonneg s0 (by omega)
    have x2 : (B - 1) * (B - 1) = B * B - 2 * B + 1 := by grind
    have x3 : (r + 1) * B = r * B + B := by grind
    have x5 : 2 * b1 * B = 2 * (b1 * B) := by grind
    refine ⟨by omega, by omega, ?_, q0, by omega, by omega, by omega⟩
    rw [← e, hb]; grind
end
section
open PySem PySem.W PyProof.Rows
theorem pad_even (k : Int) : Builtin.bitAnd (2 * k) 1 = 0 := by rw [bitAnd_m1]; omega
theorem pad_odd (k : Int) : Builtin.bitAnd (2 * k - 1) 1 = 1 := by rw [bitAnd_m1]; omega
theorem shr1 (x : Int) : x.fdiv (2 ^ (1 : Int).toNat) = x / 2 := by
  rw [Int.fdiv_eq_ediv_of_nonneg _ (by decide)]; rfl
theorem shl1 (x : Int) : x * 2 ^ (1 : Int).toNat = 2 * x := by
  show x * 2 ^ 1 = 2 * x
  omega
theorem add_back (k : Int) : 2 * k - 1 + 1 = 2 * k := by omega
theorem odd_end {a b q r : Int} (h : 2 * a = q * (2 * b) + r) (h0 : 0 ≤ r) (h1 : r < 2 * b) : a = q * b + r / 2 ∧ 0 ≤ r / 2 ∧ r / 2 < b := by
  have g : r = 2 * (a - q * b) := by grind
  refine ⟨?_, by omega, by omega⟩
  rw [g]
  omega
theorem two_half (k : Int) : 2 * k / 2 = k := by omega
theorem and_mask (x k : Int) : Builtin.bitAnd x (1 * 2 ^ k.toNat - 1) = x.fmod (2 ^ k.toNat) := by rw [Int.one_mul, kbt_maskF]
theorem pow2k {k : Int} (h : 0 ≤ k) : (2 : Int) ^ (2 * k).toNat = 2 ^ k.toNat * 2 ^ k.toNat := by
  rw [← Int.pow_add]
  congr 1
  omega
theorem d21_math {a b B : Int} (hB : 0 < B) (hb0 : B * B ≤ 2 * b) (hb1 : b < B * B) (hev : B % 2 = 0) (ha0 : 0 ≤ a) (ha : a < b * (B * B)) :
    (b = b.fdiv B * B + b.fmod B ∧ 0 ≤ b.fmod B ∧ b.fmod B < B ∧ B ≤ 2 * b.fdiv B ∧ b.fdiv B < B) ∧
    (0 ≤ (a.fdiv B).fmod B ∧ (a.fdiv B).fmod B < B ∧ 0 ≤ a.fdiv (B * B) ∧ a.fdiv (B * B) < b) ∧
    (0 ≤ a.fmod B ∧ a.fmod B < B ∧ 0 ≤ (a.fdiv (B * B) * B + (a.fdiv B).fmod B).fmod b ∧ (a.fdiv (B * B) * B + (a.fdiv B).fmod B).fmod b < b) ∧
    (a = ((a.fdiv (B * B) * B + (a.fdiv B).fmod B).fdiv b * B + ((a.fdiv (B * B) * B + (a.fdiv B).fmod B).fmod b * B + a.fmod B).fdiv b) * b + ((a.fdiv (B * B) * B + (a.fdiv B).fmod B).fmod b * B + a.fmod B).fmod b ∧
     0 ≤ ((a.fdiv (B * B) * B + (a.fdiv B).fmod B).fmod b * B + a.fmod B).fmod b ∧ ((a.fdiv (B * B) * B + (a.fdiv B).fmod B).fmod b * B + a.fmod B).fmod b < b ∧
     0 ≤ ((a.fdiv (B * B) * B + (a.fdiv B).fmod B).fmod b * B + a.fmod B).fdiv b ∧ ((a.fdiv (B * B) * B + (a.fdiv B).fmod B).fmod b * B + a.fmod B).fdiv b < B) := by
  have hBB : 0 < B * B := Int.mul_pos hB hB
  have hb : 0 < b := by omega
  have F : ∀ x : Int, x.fdiv B = x / B := fun x => Int.fdiv_eq_ediv_of_nonneg _ (by omega)
  have M : ∀ x : Int, x.fmod B = x % B := fun x => Int.fmod_eq_emod_of_nonneg _ (by omega)
  have F2 : ∀ x : Int, x.fdiv (B * B) = x / (B * B) := fun x => Int.fdiv_eq_ediv_of_nonneg _ (by omega)
  have Fb : ∀ x : Int, x.fdiv b = x / b := fun x => Int.fdiv_eq_ediv_of_nonneg _ (by omega)
  have Mb : ∀ x : Int, x.fmod b = x % b := fun x => Int.fmod_eq_emod_of_nonneg _ (by omega)
  simp only [F, M, F2, Fb, Mb]
  have e1 := Int.mul_ediv_add_emod b B
  have s0 := Int.emod_nonneg b (by omega : B ≠ 0)
  have s1 := Int.emod_lt_of_pos b hB
  have b1lt : b / B < B := Int.ediv_lt_of_lt_mul hB hb1
  have b1ge : B ≤ 2 * (b / B) := by
    have h1 : B * B < 2 * (b / B + 1) * B := by
      have : 2 * (b / B + 1) * B = 2 * (B * (b / B)) + 2 * B := by grind
      omega
    have h2 : B < 2 * (b / B + 1) := Int.lt_of_mul_lt_mul_right h1 (by omega)
    omega
  have e2 := Int.mul_ediv_add_emod a B
  have t0 := Int.emod_nonneg a (by omega : B ≠ 0)
  have t1 := Int.emod_lt_of_pos a hB
  have e3 := Int.mul_ediv_add_emod (a / B) B
  have u0 := Int.emod_nonneg (a / B) (by omega : B ≠ 0)
  have u1 := Int.emod_lt_of_pos (a / B) hB
  have dd : a / B / B = a / (B * B) := Int.ediv_ediv_of_nonneg (by omega)
  have v0 : 0 ≤ a / (B * B) := Int.ediv_nonneg ha0 (by omega)
  have v1 : a / (B * B) < b := Int.ediv_lt_of_lt_mul hBB ha
  have x1 : a / (B * B) * B + a / B % B = a / B := by rw [← dd]; grind
  rw [x1]
  have e4 := Int.mul_ediv_add_emod (a / B) b
  have r0 := Int.emod_nonneg (a / B) (by omega : b ≠ 0)
  have r1 := Int.emod_lt_of_pos (a / B) hb
  generalize a / B % b = r at *
  have e5 := Int.mul_ediv_add_emod (r * B + a % B) b
  have w0 := Int.emod_nonneg (r * B + a % B) (by omega : b ≠ 0)
  have w1 := Int.emod_lt_of_pos (r * B + a % B) hb
  have w2 : 0 ≤ (r * B + a % B) / b := Int.ediv_nonneg (by have := Int.mul_nonneg r0 (by omega : (0:Int) ≤ B); omega) (by omega)
  have w3 : (r * B + a % B) / b < B := Int.ediv_lt_of_lt_mul hb (by
    have : (r + 1) * B ≤ b * B := Int.mul_le_mul_of_nonneg_right (by omega) (by omega)
    have e : (r + 1) * B = r * B + B := by grind
    have e' : B * b = b * B := Int.mul_comm _ _
    omega)
  refine ⟨⟨by grind, s0, s1, b1ge, b1lt⟩, ⟨u0, u1, v0, v1⟩, ⟨t0, t1, r0, r1⟩, ?_, w0, w1, w2, w3⟩
  generalize (r * B + a % B) / b = q2 at *
  generalize (r * B + a % B) % b = r2 at *
  grind
end
section
open PySem PySem.W PySem.Calls PyProof.Rows PySem.Spec
set_option maxRecDepth 100000
set_option linter.unusedVariables false
noncomputable def b1L : List (Int × Tok) := [(65024, 393), (65025, 394), (65026, 395), (65027, 396), (65028, 397), (65029, 398), (6150, 379), (65030, 399), (65031, 400), (65032, 401), (65033, 402), (6155, 380), (6156, 381), (6157, 382), (8203, 383), (8204, 384), (8205, 385), (65034, 403), (65035, 404), (65036, 405), (65037, 406), (65038, 407), (65039, 408), (173, 377), (847, 378), (8288, 386), (65279, 387)]
noncomputable def b1has (k : Int) : Bool := b1L.any fun p => decide (p.1 = k)
theorem b1_set_of {prog : Program} {w : World} {h : Heap} (X : (K w.params).In h) : h.SetOf (intKind prog w) 155 b1has 27 := by
  have e : h.get? 155 = some (o155 w.params) := X 155 _ (by kernel_rfl)
  refine ⟨_, (b1L.map fun p => (p.1, Value.int p.1 p.2)).toArray, _, _, e, ⟨rfl, rfl, rfl⟩, rfl, ?_, ?_, by decide, rfl, rfl⟩
  · intro x hx
    rw [List.toList_toArray] at hx
    obtain ⟨p, hp, rfl⟩ := List.mem_map.mp hx
    have hh : ∀ p ∈ b1L, p.1 = hashInt p.1 := by decide +kernel
    exact ⟨⟨p.1, intKind_is _ _ _ _, hh p hp⟩, rfl⟩
  · intro k
    rw [List.toList_toArray]
    unfold b1has
    rw [List.any_eq_true]
    constructor
    · rintro ⟨p, hp, hk⟩
      exact ⟨_, List.mem_map.mpr ⟨p, hp, rfl⟩, by rw [decide_eq_true_eq] at hk; subst hk; exact intKind_is _ _ _ _⟩
    · rintro ⟨x, hx, hk⟩
      obtain ⟨p, hp, rfl⟩ := List.mem_map.mp hx
      exact ⟨p, hp, by have hk' : Value.isInt k (.int p.1 p.2) = true := hk; simpa [Value.isInt] using hk'⟩
set_option maxHeartbeats 4000000 in
theorem in_b1 {w : World} {p : Program} {loose : List Str} {mean : ExcName → Option Value} {mg mb : Str → Option Value} {c : Nat} {t1 : Tok}
  (dp un : Nat) (gd : Option (List Code)) (cn : Str) (cs : Scope) (a₀ : Addr) (ccd : Value) (cl : List (Str × Addr)) (outer : List Env) (A₀ : Around) (base h₀ : Heap) (L : Addr) (m : Str → Option Value) (rest : List (Addr × Obj)) (s : Shared)
    (Q E : Value → Shared → Prop) (B : Below A₀ base outer h₀) (F : Fr h₀ L s.heap m) (X : (K w.params).In h₀) (N : News h₀ L s.heap rest) (T : Top p loose mean mg mb h₀) (hk : cs.kind = .function) (hd : dp + 20 < recursionLimit) (hu : un + 200 < cLine)
    (hret : ∀ h' tk', Fr h₀ L h' m → News h₀ L h' rest → Q (.bool (b1has c)) { s with heap := h', toks := tk' }) :
    wpAny (model rw.prog w) (ktrTop dp un gd cn cs L a₀ ccd cl outer) (call (.ref 165) [.str ⟨#[c]⟩ t1]) Q E s := by
  revert X
  k_fill
  intro X
  refine wpAny_call ?_
  k_dflt ktr_enter
  dsimp only [body_s14, scope_s14, par_s14, lit]
  (repeat' (first | ((with_reducible show wpAny _ _ (compareOp CmpOp.In (Value.int _ _) (Value.ref _)) _ _ _); k_here; k_dflt (refine wpAny_inSet_of (intKind_is _ _ _ _) rfl (b1_set_of (Frag.In.keeps (by k_asm) (Fr.keep (by k_asm)))) ?_; k_whole)) | (k_unfold; (try dsimp only)) | (k_end; kc_close) | walk1 | (dsimp only; walk1) | (leave1; walk_say "STEP leave1"; (try dsimp only))))
  exact hret _ _ (by assumption) (by assumption)
end
section
open PySem PySem.W PySem.Calls PyProof.Rows PySem.Spec
set_option maxRecDepth 100000
set_option linter.unusedVariables false
noncomputable abbrev tabD (es : List (Int × Str)) : List (PyData × PyData) := es.map fun e => (PyData.int e.1, PyData.str e.2)
noncomputable def mapB3 (es : List (Int × Str)) (c : Nat) : Str := match es.lookup (c : Int) with
  | some x => x
  | none => Txt.lower ⟨#[c]⟩
theorem tabD_lookup : ∀ (es : List (Int × Str)) (i : Int), lookup (.int i) (tabD es) = (es.lookup i).map PyData.str
  | [], _ => rfl
  | (k, x) :: es, i => by
    have ih := tabD_lookup es i
    unfold tabD at ih ⊢
    rw [List.map_cons, List.lookup_cons]
    unfold Spec.lookup
    rw [PyProof.V.same_int]
    by_cases h : k = i
    · subst h; simp
    · have h2 : (i == k) = false := by simpa using fun e => h e.symm
      rw [h2, decide_eq_false h]
      exact ih
set_option maxHeartbeats 4000000 in
theorem map_b3 {w : World} {p : Program} {loose : List Str} {mean : ExcName → Option Value} {mg mb : Str → Option Value} {c : Nat} {es : List (Int × Str)} {t1 : Tok}
  (dp un : Nat) (gd : Option (List Code)) (cn : Str) (cs : Scope) (a₀ : Addr) (ccd : Value) (cl : List (Str × Addr)) (outer : List Env) (A₀ : Around) (base h₀ : Heap) (L : Addr) (m : Str → Option Value) (rest : List (Addr × Obj)) (s : Shared)
    (Q E : Value → Shared → Prop) (B : Below A₀ base outer h₀) (F : Fr h₀ L s.heap m) (X : (K w.params).In h₀) (N : News h₀ L s.heap rest) (T : Top p loose mean mg mb h₀) (hk : cs.kind = .function) (hd : dp + 20 < recursionLimit) (hu : un + 200 < cLine)
    (D3 : IntTab rw.prog w h₀ 166 (tabD es)) (hc : c < 0x110000)
    (hret : ∀ t h' tk', Fr h₀ L h' m → News h₀ L h' rest → Q (.str (mapB3 es c) t) { s with heap := h', toks := tk' }) :
    wpAny (model rw.prog w) (ktrTop dp un gd cn cs L a₀ ccd cl outer) (call (.ref 211) [.str ⟨#[c]⟩ t1]) Q E s := by
  revert X
  k_fill
  intro X
  refine wpAny_call ?_
  k_dflt ktr_enter
  dsimp only [body_s16, scope_s16, par_s16, lit]
  k_steps
  rename Fr _ _ _ _ => F9
  rename IntTab _ _ _ _ _ => D9
  rename Fr h₀ _ _ _ => FG9
  refine call_get1_intTab (TabAt.keep D9 fun b o e => F9.keep b o (FG9.keep b o e)) fun v hv => ?_
  rw [tabD_lookup] at hv
  unfold mapB3 at hret
  cases hl : es.lookup (c : Int) with
  | some x =>
    rw [hl] at hv hret
    obtain ⟨t, rfl⟩ := PyProof.V.Flat.str_inv hv
    k_steps
    exact hret _ _ _ (by assumption) (by assumption)
  | none =>
    rw [hl] at hv hret
    obtain rfl := PyProof.V.Flat.none_inv hv
    k_steps
    refine SCL.lower (show (1 : Nat) ≤ 5592405 by decide) fun _ => ?_
    k_steps
    exact hret _ _ _ (by assumption) (by assumption)
end
section
open PySem PySem.W PySem.Calls PyProof.Rows PySem.Spec
local macro_rules | `(tactic| walk_at "cc") => `(tactic| (all_goals (try ((with_reducible show Fr _ _ _ _); k_asm)); all_goals (try ((with_reducible show News _ _ _ _); k_asm)); all_goals (try ((first | (with_reducible show Below _ _ _ _) | (with_reducible show Top _ _ _ _ _ _)); k_asm)); all_goals (try ((show (_ : Prop)); first | k_asm | exact rfl | ktr_room | ktr_units | exact above_of (by k_asm) (by k_asm) | omega))))
local macro_rules | `(tactic| walk_at "lt") => `(tactic| (intro l1; (try k_lt l1)))
local macro_rules | `(tactic| k_mem) => `(tactic| focus ((repeat (first | (with_reducible assumption) | (with_reducible exact List.mem_cons_self) | (refine List.mem_cons_of_mem _ ?_))); done))
local macro_rules | `(tactic| k_all) => `(tactic| first | with_reducible assumption | exact all_ne (by assumption) (by first | omega | (dsimp only; omega)))
local macro_rules | `(tactic| walk_at "lt") => `(tactic| (intro l1; (try k_lt l1)))
local macro_rules | `(tactic| walk_at "storeName") => `(tactic| (k_here; k_dflt (first | (refine' store_int ?F ?N ?_ ?a ?b; (case F => k_asm); (case N => k_asm); (case a => rfl); (case b => rfl); k_whole; intro h' _ _ m' F' N'; (try k_sweep); (try dsimp only)) | (refine' store_tok ?F ?N ?_ ?a ?b; (case F => k_asm); (case N => k_asm); (case a => rfl); (case b => rfl); k_whole; intro h' _ m' F' N'; (try k_sweep); (try dsimp only)))))
local macro_rules | `(tactic| walk_at "pe") => `(tactic| first | exact PE.const | exact PE.name rfl rfl rfl rfl | (refine' PE.bin ?l ?r ?o; (case l => walk_at "pe"); (case r => walk_at "pe"); (case o => walk_at "peb")) | (refine' PE.neg ?d; (case d => walk_at "pe")))
local macro_rules | `(tactic| walk_at "peb") => `(tactic| first | exact BinI.add | exact BinI.sub | (apply BinI.mk; intro _ _ _ _ _ _ _ _ h9; walk1; exact h9 _ _))
local macro_rules | `(tactic| walk_at "eval BinOp") => `(tactic| (k_here; k_dflt (refine' PE.use ?F ?d ?_; (case F => k_asm); (case d => walk_at "pe"); k_whole; intro _ _; (try dsimp only))))
local macro_rules | `(tactic| walk_at "execs cons") => `(tactic| (k_here; k_dflt ((first | ((with_reducible show wpAny _ _ (execs (Stmt.Assign [Expr.Name _ _] _ _ :: _) _) _ _ _); refine' PE.asg ?F ?N ?d ?_ ?a ?b ?c; (case c => rfl)) | ((with_reducible show wpAny _ _ (execs (Stmt.AugAssign (Expr.Name _ _) _ _ _ :: _) _) _ _ _); refine' PE.aug ?F ?N ?v ?d ?o ?_ ?a ?b)); (case F => k_asm); (case N => k_asm); (case a => rfl); (case b => rfl); (try (case v => rfl)); (case d => walk_at "pe"); (try (case o => (apply InpI.mk; intro _ _ _ _ _ _ _ _ h9; walk1; exact h9 _ _))); k_whole; intro h' _ _ m' F' N'; (try k_sweep); (try dsimp only))))
local macro_rules | `(tactic| walk_at "isTrue Compare") => `(tactic| (k_here; k_dflt (refine' PE.isTrue ?F ?l ?r ?o ?_ ?b; (case F => k_asm); (case b => with_unfolding_all rfl); (case l => walk_at "pe"); (case r => walk_at "pe"); (case o => (apply CmpI.mk; intro _ _ _ _ _ _ _ _ h9; walk1; exact h9)); k_whole; intro _; (try dsimp only))))
local macro_rules | `(tactic| walk_at "newTuple") => `(tactic| (k_here; k_dflt (refine kup_newTuple (by k_asm) (by k_asm) ?_ (Nat.le_of_ble_eq_true rfl)); intro D' h' F' N' l1; (try k_lt l1); (try k_sweep)))
section
open PySem PySem.W PySem.Calls PyProof.Rows PySem.Spec
local macro_rules | `(tactic| bits_by_make) => `(tactic| with_reducible assumption)
local macro_rules | `(tactic| walk_at "binaryOp LShift int int") => `(tactic| (k_here; (with_reducible refine lshift_int ?kbn ?kbs ?_); (case kbn => omega); (case kbs => (refine kbm_shl (by bits_by_make) (by omega) (by decide)))))
section
open PySem PySem.W PySem.Calls PyProof.Rows PySem.Spec
local macro_rules | `(tactic| walk_at "binaryOp BitOr int int") => `(tactic| (k_here; (with_reducible refine or_int ?_); rw [bit_or_high (by assumption) (by assumption)]))
section
open PySem PySem.W PySem.Calls PyProof.Rows PySem.Spec
set_option maxRecDepth 100000
set_option maxHeartbeats 4000000 in
theorem d21_base {w : World} {p : Program} {loose : List Str} {mean : ExcName → Option Value} {mg mb : Str → Option Value} {a b n : Int} {t1 t2 t3 : Tok} (hb : b ≠ 0) (hbb : bits b ≤ 9000) (ha : (bits a : Int) - n ≤ 4000) :
    Calls rw.prog w p loose mean mg mb 28 [.int a t1, .int b t2, .int n t3] 3 20 (IsPair (a.fdiv b) (a.fmod b)) := by
  unfold Calls
  k_fill
  intro dp un gd cn cs a₀ ccd cl outer A₀ base h₀ L m news s Q E B F X N T hk hd hu hret
  refine wpAny_call ?_
  k_dflt ktr_enter
  dsimp only [body_s3, scope_s3, par_s3, lit]
  refine let_A ?_
  intro A1
  (repeat' (first | ((with_reducible show wpAny _ _ (call (Value.builtin _) [Value.int _ _, Value.int _ _]) _ _ _); k_here; (rename News _ _ _ _ => N9); (have l9 := fun q hq => Heap.lt_size (N9 q hq).1); refine divmod_N (by assumption) N9 (by first | assumption | omega) ?_ (Or.inl (pylong_ok (by first | assumption | omega))); intro _ _ _) | (k_unfold; (try dsimp only)) | (k_end; kc_close) | walk1 | (dsimp only; walk1) | (leave1; walk_say "STEP leave1"; (try dsimp only))))
  exact pair_end (mid := []) hret (by assumption) (by assumption) (by (first | exact all_of (by assumption) | assumption | ((repeat (rename (_ ∧ _) => hh; obtain ⟨_, _⟩ := hh)); exact all_of (by assumption)))) rfl rfl
/-- the facts that the correction needs of a first quotient and rest -/
noncomputable abbrev QRok (a12 a3 b b2 B q r : Int) : Prop := -(2 * b) ≤ r * B + a3 - q * b2 ∧ r * B + a3 - q * b2 < b ∧ a12 * B + a3 = q * b + (r * B + a3 - q * b2) ∧ 0 ≤ q ∧ q < B ∧ 0 ≤ r ∧ r < 2 * B + B
inductive QR (s : Shared) (g : Heap) (L : Addr) (m : Str → Option Value) (news : List (Addr × Obj)) (a12 a3 b b2 B : Int) : Shared → Prop
  | mk (h : Heap) (t : Nat) (q r : Int) (kq kr : Tok) (T : Addr) (o : Obj) (F : Fr g L h (fun y => if y = Str.ofString "r" then some (.int r kr) else if y = Str.ofString "q" then some (.int q kq) else m y)) (N : News g L h ((T, o) :: news))
      (hl : ∀ p ∈ news, p.1 < T) (ok : QRok a12 a3 b b2 B q r) : QR s g L m news a12 a3 b b2 B ⟨h, s.gens, s.drawn, t, s.os⟩
theorem fr_swap {h₀ h : Heap} {L : Addr} {m : Str → Option Value} {x y : Str} {a b : Option Value} (hxy : x ≠ y) (F : Fr h₀ L h (fun z => if z = x then a else if z = y then b else m z)) : Fr h₀ L h (fun z => if z = y then b else if z = x then a else m z) :=
  fr_cast (funext fun z => by
    by_cases h1 : z = x
    · rw [if_pos h1, if_neg (fun h2 => hxy (h1.symm.trans h2)), if_pos h1]
    · rw [if_neg h1, if_neg h1]) F
theorem exec_qr {M : Model} {A : Around} {st : Stmt} {rest : List Stmt} {env : Env} {Q : Flow → Shared → Prop} {E : Value → Shared → Prop} {s : Shared} {g : Heap} {L : Addr} {m : Str → Option Value} {news : List (Addr × Obj)} (a12 a3 b b2 B : Int)
    (F : Fr g L s.heap m) (N : News g L s.heap news) (h1 : wpAny M A (exec st env) (fun f s' => f = .next ∧ QR s g L m news a12 a3 b b2 B s') E s)
    (h2 : ∀ s', QR s g L m news a12 a3 b b2 B s' → wpAny M A (execs rest env) Q E s') : wpAny M A (execs (st :: rest) env) Q E s :=
  wpAny_execs_cons (wpAny_mono h1 (fun f s' hf => by obtain ⟨rfl, hp⟩ := hf; exact h2 _ hp) fun _ _ x => x)
set_option maxHeartbeats 4000000 in
theorem d32 {w : World} {p : Program} {loose : List Str} {mean : ExcName → Option Value} {mg mb : Str → Option Value} {a12 a3 b b1 b2 n : Int} {t1 t2 t3 t4 t5 t6 : Tok} (hn : 1 ≤ n) (hn2 : n ≤ 4000)
    (hb : b = b1 * 2 ^ n.toNat + b2) (h20 : 0 ≤ b2) (h21 : b2 < 2 ^ n.toNat) (h1 : 2 ^ n.toNat ≤ 2 * b1) (h1' : b1 < 2 ^ n.toNat) (h30 : 0 ≤ a3) (h31 : a3 < 2 ^ n.toNat) (h120 : 0 ≤ a12) (h121 : a12 < b) :
    Calls rw.prog w p loose mean mg mb 35 [.int a12 t1, .int a3 t2, .int b t3, .int b1 t4, .int b2 t5, .int n t6] 6 40 (IsPair ((a12 * 2 ^ n.toNat + a3).fdiv b) ((a12 * 2 ^ n.toNat + a3).fmod b)) := by
  have hB : (0 : Int) < 2 ^ n.toNat := kbt_pos _
  have hbp : 0 < b := by omega
  have zb1 : Builtin.Int.intBits b1 ≤ 4000 := Nat.le_trans (bits_le_of (by omega) h1') (by omega)
  have zb2 : Builtin.Int.intBits b2 ≤ 4000 := Nat.le_trans (bits_le_of h20 h21) (by omega)
  have z12a : Builtin.Int.intBits a12 ≤ n.toNat + n.toNat := bits_le_of h120 (by
    rw [Int.pow_add]
    have : (b1 + 1) * 2 ^ n.toNat ≤ 2 ^ n.toNat * 2 ^ n.toNat := Int.mul_le_mul_of_nonneg_right (by omega) (by omega)
    have e : (b1 + 1) * 2 ^ n.toNat = b1 * 2 ^ n.toNat + 2 ^ n.toNat := by grind
    omega)
  have z12 : Builtin.Int.intBits a12 ≤ 8000 := by omega
  have z12' : (Builtin.Int.intBits a12 : Int) - n ≤ 4000 := by omega
  have zb1' : Builtin.Int.intBits b1 ≤ 9000 := by omega
  unfold Calls
  k_fill
  intro dp un gd cn cs a₀ ccd cl outer A₀ base h₀ L m news s Q E B F X N T hk hd hu hret
  refine wpAny_call ?_
  k_dflt ktr_enter
  dsimp only [body_s4, scope_s4, par_s4, lit]
  refine let_A ?_
  intro A1
  k_dflt (refine' exec_qr a12 a3 b b2 (2 ^ n.toNat) ?zF ?zN ?z1 ?z2; (case zF => k_asm); (case zN => k_asm))
  case z1 =>
    (repeat' (first | ((with_reducible show wpAny _ _ (call (Value.ref _) _ _) _ _ _); k_here; k_dflt (refine' pair_use ?_ ?_ ?_ ?_ ?_ ?_ (d21_base ?_ ?_ ?_) ?_ ?_ ?_; walk_at "cc"); intro _ _ _ _ _ _ _; walk_at "lt") | (k_unfold; (try dsimp only)) | (k_end; kc_close) | walk1 | (dsimp only; walk1) | (leave1; walk_say "STEP leave1"; (try dsimp only))))
    · have M := d32_math hB hb h20 h21 h1 h30 h31 h120 h121 (Or.inl ⟨by assumption, (by rw [Int.one_mul] : 1 * (2 : Int) ^ n.toNat - 1 = _), rfl⟩)
      exact QR.mk _ _ _ _ _ _ _ _ (fr_swap (by decide) (by assumption)) (by assumption) (by (first | exact all_of (by assumption) | assumption | ((repeat (rename (_ ∧ _) => hh; obtain ⟨_, _⟩ := hh)); exact all_of (by assumption)))) ⟨M.1, M.2.1, M.2.2.1, M.2.2.2.1, M.2.2.2.2.1, M.2.2.2.2.2.1, Int.lt_trans M.2.2.2.2.2.2 (Int.add_lt_add_left h1' _)⟩
    · have M := d32_math hB hb h20 h21 h1 h30 h31 h120 h121 (Or.inr ⟨by assumption, rfl, rfl⟩)
      exact QR.mk _ _ _ _ _ _ _ _ (by assumption) (by assumption) (by (first | exact all_of (by assumption) | assumption | ((repeat (rename (_ ∧ _) => hh; obtain ⟨_, _⟩ := hh)); exact all_of (by assumption)))) ⟨M.1, M.2.1, M.2.2.1, M.2.2.2.1, M.2.2.2.2.1, M.2.2.2.2.2.1, Int.lt_trans M.2.2.2.2.2.2 (Int.add_lt_add_left h1' _)⟩
  case z2 =>
    rintro s' ⟨h', t, q, r, kq, kr, T', o, F', N', hl, M⟩
    have zq : Builtin.Int.intBits q ≤ 4000 := Nat.le_trans (bits_le_of M.2.2.2.1 M.2.2.2.2.1) (by omega)
    have zr : Builtin.Int.intBits r ≤ 4002 := Nat.le_trans (bits_le_of (k := n.toNat + 2) M.2.2.2.2.2.1 (by rw [Int.pow_add]; have := M.2.2.2.2.2.2; omega)) (by omega)
    have M0 := M.1
    have M1 := M.2.1
    have M2 := M.2.2.1
    clear M
    (repeat' (first | ((with_reducible show wpAny _ _ (exec (Stmt.While ..) _) _ _ _); k_here; k_dflt (refine whl_start 3 ?_)) | ((with_reducible show WhlIf ..); with_reducible refine whlIf_dec ?_ ?_ <;> intro hWh <;> (try (exfalso; omega))) | (k_unfold; (try dsimp only)) | (k_end; kc_close) | walk1 | (dsimp only; walk1) | (leave1; walk_say "STEP leave1"; (try dsimp only))))
    all_goals exact pair_endD (mid := [_]) hret (by assumption) (by assumption) (by (first | exact all_of (by assumption) | assumption | ((repeat (rename (_ ∧ _) => hh; obtain ⟨_, _⟩ := hh)); exact all_of (by assumption)))) hbp (by first | exact M2 | (rw [M2]; grind)) (by omega) (by omega)
end
section
open PySem PySem.W PySem.Calls PyProof.Rows PySem.Spec
set_option maxRecDepth 100000
local macro_rules | `(tactic| walk_at "binaryOp RShift int int") => `(tactic| (k_here; (with_reducible refine rshift_int ?kb1 ?_); (case kb1 => omega); (try rw [shr1]); (try rw [two_half]); (try rw [pow2k (by omega)])))
local macro_rules | `(tactic| walk_at "binaryOp BitAnd int int") => `(tactic| (k_here; (with_reducible refine and_int ?_); try rw [and_mask]))

/-- one state behind the `if pad` of _div2n1n: `a`, `b`, `n` made even -/
inductive PR (s : Shared) (g : Heap) (L : Addr) (m : Str → Option Value) (news : List (Addr × Obj)) (A D k : Int) : Shared → Prop
  | mk (h : Heap) (t : Nat) (x y z : Int) (kx ky kz : Tok) (F : Fr g L h (fun v => if v = Str.ofString "n" then some (.int z kz) else if v = Str.ofString "b" then some (.int y ky) else if v = Str.ofString "a" then some (.int x kx) else m v)) (N : News g L h news)
      (hx : x = A) (hy : y = D) (hz : z = 2 * k) : PR s g L m news A D k ⟨h, s.gens, s.drawn, t, s.os⟩
theorem exec_pr {M : Model} {A : Around} {st : Stmt} {rest : List Stmt} {env : Env} {Q : Flow → Shared → Prop} {E : Value → Shared → Prop} {s : Shared} {g : Heap} {L : Addr} {m : Str → Option Value} {news : List (Addr × Obj)} (a b k : Int)
    (F : Fr g L s.heap m) (N : News g L s.heap news) (h1 : wpAny M A (exec st env) (fun f s' => f = .next ∧ PR s g L m news a b k s') E s)
    (h2 : ∀ s', PR s g L m news a b k s' → wpAny M A (execs rest env) Q E s') : wpAny M A (execs (st :: rest) env) Q E s :=
  wpAny_execs_cons (wpAny_mono h1 (fun f s' hf => by obtain ⟨rfl, hp⟩ := hf; exact h2 _ hp) fun _ _ x => x)
theorem fr_same {h₀ h : Heap} {L : Addr} {m : Str → Option Value} {x : Str} {v : Value} (e : m x = some v) (F : Fr h₀ L h m) : Fr h₀ L h (fun z => if z = x then some v else m z) :=
  fr_cast (funext fun z => by
    by_cases h1 : z = x
    · rw [if_pos h1, h1, e]
    · rw [if_neg h1]) F
set_option maxHeartbeats 4000000 in
theorem d21_u {w : World} {p : Program} {loose : List Str} {mean : ExcName → Option Value} {mg mb : Str → Option Value} {a b n k A D : Int} {t1 t2 t3 : Tok} (hk : 1 ≤ k) (hk2 : k ≤ 4000)
    (hp : (Builtin.bitAnd n 1 = 0 ∧ A = a ∧ D = b ∧ n = 2 * k) ∨ (Builtin.bitAnd n 1 = 1 ∧ A = 2 * a ∧ D = 2 * b ∧ n + 1 = 2 * k))
    (hb0 : 2 ^ k.toNat * 2 ^ k.toNat ≤ 2 * D) (hb1 : D < 2 ^ k.toNat * 2 ^ k.toNat) (ha0 : 0 ≤ A) (ha : A < D * (2 ^ k.toNat * 2 ^ k.toNat)) :
    Calls rw.prog w p loose mean mg mb 28 [.int a t1, .int b t2, .int n t3] 12 80 (IsPair (a.fdiv b) (a.fmod b)) := by
  have hB : (0 : Int) < 2 ^ k.toNat := kbt_pos _
  have hev : (2 : Int) ^ k.toNat % 2 = 0 := by
    obtain ⟨j, hj⟩ : ∃ j, k.toNat = j + 1 := ⟨k.toNat - 1, by omega⟩
    rw [hj, Int.pow_succ]; omega
  obtain ⟨⟨f1, f2, f3, f4, f5⟩, ⟨f6, f7, f8, f9⟩, ⟨f10, f11, f12, f13⟩, f14, f15, f16, f17, f18⟩ := d21_math hB hb0 hb1 hev ha0 ha
  have hBB := Int.mul_pos hB hB
  have hD : 0 < D := by omega
  have ⟨hle, hbp, hle2, hle3, hle4⟩ : a ≤ A ∧ 0 < b ∧ b ≤ D ∧ 0 ≤ a ∧ b ≠ 0 := by
    rcases hp with ⟨_, h1, h2, _⟩ | ⟨_, h1, h2, _⟩ <;> omega
  have zb : Builtin.Int.intBits b ≤ 9000 := Nat.le_trans (bits_le_of (k := k.toNat + k.toNat) (by omega) (by rw [Int.pow_add]; omega)) (by omega)
  have za : Builtin.Int.intBits a ≤ 20000 := Nat.le_trans (bits_le_of (k := k.toNat + k.toNat + (k.toNat + k.toNat)) (by omega) (by
    rw [Int.pow_add, Int.pow_add]
    have h1 : D * (2 ^ k.toNat * 2 ^ k.toNat) ≤ (2 ^ k.toNat * 2 ^ k.toNat) * (2 ^ k.toNat * 2 ^ k.toNat) := Int.mul_le_mul_of_nonneg_right (by omega) (by omega)
    omega)) (by omega)
  have zB : Builtin.Int.intBits ((2 : Int) ^ k.toNat) ≤ 4001 := Nat.le_trans (bits_le_of (by omega) (k := k.toNat + 1) (by rw [Int.pow_succ]; omega)) (by omega)
  have zx : (A.fdiv (2 ^ k.toNat * 2 ^ k.toNat) * 2 ^ k.toNat + (A.fdiv (2 ^ k.toNat)).fmod (2 ^ k.toNat)) < D * 2 ^ k.toNat := by
    have h1 : (A.fdiv (2 ^ k.toNat * 2 ^ k.toNat) + 1) * 2 ^ k.toNat ≤ D * 2 ^ k.toNat := Int.mul_le_mul_of_nonneg_right (by omega) (by omega)
    have e : (A.fdiv (2 ^ k.toNat * 2 ^ k.toNat) + 1) * 2 ^ k.toNat = A.fdiv (2 ^ k.toNat * 2 ^ k.toNat) * 2 ^ k.toNat + 2 ^ k.toNat := by grind
    omega
  have zx0 : 0 ≤ (A.fdiv (2 ^ k.toNat * 2 ^ k.toNat) * 2 ^ k.toNat + (A.fdiv (2 ^ k.toNat)).fmod (2 ^ k.toNat)) := by
    have := Int.mul_nonneg f8 (by omega : (0 : Int) ≤ 2 ^ k.toNat)
    omega
  have zq : Builtin.Int.intBits ((A.fdiv (2 ^ k.toNat * 2 ^ k.toNat) * 2 ^ k.toNat + (A.fdiv (2 ^ k.toNat)).fmod (2 ^ k.toNat)).fdiv D) ≤ 4000 := by
    refine Nat.le_trans (bits_le_of (k := k.toNat) ?_ ?_) (by omega)
    · rw [Int.fdiv_eq_ediv_of_nonneg _ (by omega)]; exact Int.ediv_nonneg zx0 (by omega)
    · rw [Int.fdiv_eq_ediv_of_nonneg _ (by omega)]; exact Int.ediv_lt_of_lt_mul (by omega) (by rw [Int.mul_comm (2 ^ k.toNat) D]; exact zx)
  unfold Calls
  k_fill
  intro dp un gd cn cs a₀ ccd cl outer A₀ base h₀ L m news s Q E B F X N T hk' hd hu hret
  refine wpAny_call ?_
  k_dflt ktr_enter
  dsimp only [body_s3, scope_s3, par_s3, lit]
  refine let_A ?_
  intro A1
  (repeat' (first | ((with_reducible show wpAny _ _ (execs (Stmt.If (Expr.Name ..) _ _ _ :: _) _) _ _ _); (k_dflt (refine' exec_pr A D k ?zF ?zN ?z1 ?z2; (case zF => k_asm); (case zN => k_asm)))) | ((with_reducible show wpAny _ _ (inplaceOp Operator.LShift (Value.int _ _) (Value.int _ _)) _ _ _); k_here; (with_reducible refine ilshift_int ?kbn ?kbs ?_); (case kbn => omega); (case kbs => (refine kbm_shl (by bits_by_make) (by omega) (by decide))); (try rw [shl1])) | ((with_reducible show wpAny _ _ (call (Value.builtin _) [Value.int _ _, Value.int _ _]) _ _ _); k_here; (rename News _ _ _ _ => N9); (have l9 := fun q hq => Heap.lt_size (N9 q hq).1); refine divmod_N (by assumption) N9 (by first | assumption | omega) ?_ (Or.inl (pylong_ok (by first | assumption | omega))); intro _ _ _) | (k_unfold; (try dsimp only)) | (k_end; kc_close) | walk1 | (dsimp only; walk1) | (leave1; walk_say "STEP leave1"; (try dsimp only))))
  · exact pair_end (mid := []) hret (by assumption) (by assumption) (by (first | exact all_of (by assumption) | assumption | ((repeat (rename (_ ∧ _) => hh; obtain ⟨_, _⟩ := hh)); exact all_of (by assumption)))) rfl rfl
  · rcases hp with ⟨h1, _⟩ | ⟨_, h1, h2, h3⟩
    · exact absurd h1 (by assumption)
    · exact PR.mk _ _ _ _ _ _ _ _ (by assumption) (by assumption) h1.symm h2.symm h3
  · rcases hp with ⟨_, h1, h2, h3⟩ | ⟨h1, _⟩
    · exact PR.mk _ _ _ _ _ _ _ _ (fr_same rfl (fr_same rfl (fr_same rfl (by assumption)))) (by assumption) h1.symm h2.symm h3
    · have h2 : Builtin.bitAnd n 1 = 0 := by assumption
      rw [h1] at h2
      cases h2
  · rename PR _ _ _ _ _ _ _ _ _ => hP
    obtain ⟨h', t, x, y, z, kx, ky, kz, F', N', rfl, rfl, rfl⟩ := hP
    (repeat' (first | ((with_reducible show wpAny _ _ (call (Value.ref _) _ _) _ _ _); k_here; k_dflt (refine' pair_use ?_ ?_ ?_ ?_ ?_ ?_ (d32 ?_ ?_ ?_ ?_ ?_ ?_ ?_ ?_ ?_ ?_ ?_) ?_ ?_ ?_; walk_at "cc"); intro _ _ _ _ _ _ _; walk_at "lt") | (k_unfold; (try dsimp only)) | (k_end; kc_close) | walk1 | (dsimp only; walk1) | (leave1; walk_say "STEP leave1"; (try dsimp only))))
    · rcases hp with ⟨h1, _⟩ | ⟨_, h1, h2, _⟩
      · exact absurd h1 (by assumption)
      · subst h1 h2
        have g := odd_end f14 f15 f16
        (try rw [← shr1] at g)
        first | exact pair_endD (mid := [_, _]) hret (by assumption) (by assumption) (by (first | exact all_of (by assumption) | assumption | ((repeat (rename (_ ∧ _) => hh; obtain ⟨_, _⟩ := hh)); exact all_of (by assumption)))) hbp g.1 g.2.1 g.2.2 | exact pair_endD (mid := [_, _, _]) hret (by assumption) (by assumption) (by (first | exact all_of (by assumption) | assumption | ((repeat (rename (_ ∧ _) => hh; obtain ⟨_, _⟩ := hh)); exact all_of (by assumption)))) hbp g.1 g.2.1 g.2.2
    · rcases hp with ⟨_, h1, h2, _⟩ | ⟨h1, _⟩
      · subst h1 h2
        first | exact pair_endD (mid := [_, _]) hret (by assumption) (by assumption) (by (first | exact all_of (by assumption) | assumption | ((repeat (rename (_ ∧ _) => hh; obtain ⟨_, _⟩ := hh)); exact all_of (by assumption)))) hbp f14 f15 f16 | exact pair_endD (mid := [_, _, _]) hret (by assumption) (by assumption) (by (first | exact all_of (by assumption) | assumption | ((repeat (rename (_ ∧ _) => hh; obtain ⟨_, _⟩ := hh)); exact all_of (by assumption)))) hbp f14 f15 f16
      · have h2 : Builtin.bitAnd n 1 = 0 := by assumption
        rw [h1] at h2
        cases h2
theorem bits_low {b : Int} (h : 0 < b) : (2 : Int) ^ (bits b) ≤ 2 * b ∧ b < 2 ^ (bits b) ∧ 1 ≤ bits b := by
  have h2 : b < 2 ^ bits b := lt_of_bits (Nat.le_refl _)
  have h1 : ¬ bits b ≤ bits b - 1 ∨ bits b = 0 := by omega
  have h0 : bits b ≠ 0 := by
    intro e
    rw [e] at h2
    simp at h2
    omega
  refine ⟨?_, h2, by omega⟩
  rcases h1 with h1 | h1
  · have : ¬ b < 2 ^ (bits b - 1) := fun q => h1 (bits_le_of (by omega) q)
    obtain ⟨j, hj⟩ : ∃ j, bits b = j + 1 := ⟨bits b - 1, by omega⟩
    rw [hj] at this ⊢
    simp only [Nat.add_sub_cancel] at this
    rw [Int.pow_succ]
    omega
  · exact absurd h1 h0
theorem d21 {w : World} {p : Program} {loose : List Str} {mean : ExcName → Option Value} {mg mb : Str → Option Value} {a b n : Int} {t1 t2 t3 : Tok} (hb : 0 < b) (hn : n = bits b) (hn2 : bits b ≤ 7999) (ha0 : 0 ≤ a) (ha : a < b * 2 ^ bits b) :
    Calls rw.prog w p loose mean mg mb 28 [.int a t1, .int b t2, .int n t3] 12 80 (IsPair (a.fdiv b) (a.fmod b)) := by
  obtain ⟨h1, h2, h3⟩ := bits_low hb
  subst hn
  generalize bits b = j at *
  rcases Nat.mod_two_eq_zero_or_one j with e | e
  · obtain ⟨i, rfl⟩ : ∃ i, j = i + i := ⟨j / 2, by omega⟩
    have q : (((i + i : Nat) : Nat) : Int) = 2 * (i : Int) := by omega
    rw [q]
    rw [Int.pow_add] at h1 h2 ha
    exact d21_u (k := i) (A := a) (D := b) (by omega) (by omega) (.inl ⟨pad_even _, rfl, rfl, rfl⟩) (by simpa using h1) (by simpa using h2) ha0 (by simpa using ha)
  · obtain ⟨i, rfl⟩ : ∃ i, j = i + i + 1 := ⟨j / 2, by omega⟩
    have q : (((i + i + 1 : Nat) : Nat) : Int) = 2 * ((i + 1 : Nat) : Int) - 1 := by omega
    rw [q]
    have z : (2 : Int) ^ (i + 1) * 2 ^ (i + 1) = 2 * 2 ^ (i + i + 1) := by
      rw [← Int.pow_add, show i + 1 + (i + 1) = (i + i + 1) + 1 by omega, Int.pow_succ]; omega
    refine d21_u (k := ((i + 1 : Nat) : Int)) (A := 2 * a) (D := 2 * b) (by omega) (by omega) (.inr ⟨pad_odd _, rfl, rfl, by omega⟩) ?_ ?_ (by omega) ?_
    · simp only [Int.toNat_natCast]; rw [z]; omega
    · simp only [Int.toNat_natCast]; rw [z]; omega
    · simp only [Int.toNat_natCast]; rw [z]
      have : 2 * b * (2 * 2 ^ (i + i + 1)) = 2 * 2 * (b * 2 ^ (i + i + 1)) := by grind
      omega
end
end
section
open PySem PySem.W PySem.Calls PyProof.Rows PySem.Spec
theorem bit_and_self (x : Int) : Builtin.bitAnd x x = x := by
  have h := bitXor_self x
  rw [bitXor_and] at h
  omega
theorem bit_and_top (k : Nat) : ∀ (u l : Int), 0 ≤ l → l < 2 ^ k → Builtin.bitAnd (u * 2 ^ k + l) (u * 2 ^ k) = u * 2 ^ k := by
  induction k with
  | zero =>
    intro u l h0 h1
    have : l = 0 := by simp at h1; omega
    subst this
    simpa using bit_and_self u
  | succ k ih =>
    intro u l h0 h1
    have e : u * 2 ^ (k + 1) = 2 * (u * 2 ^ k) := by rw [Int.pow_succ]; grind
    rw [e]
    rw [kbt_halves]
    have h2 : (2 * (u * 2 ^ k)) % 2 = 0 := Int.mul_emod_right 2 _
    have h3 : (2 * (u * 2 ^ k)) / 2 = u * 2 ^ k := Int.mul_ediv_cancel_left _ (by decide)
    have h4 : (2 * (u * 2 ^ k) + l) / 2 = u * 2 ^ k + l / 2 := by omega
    rw [h2, h3, h4, ih u (l / 2) (by omega) (by rw [Int.pow_succ] at h1; omega)]
    simp
theorem xor_low {u l : Int} {k : Nat} (h0 : 0 ≤ l) (h1 : l < 2 ^ k) : Builtin.bitXor (u * 2 ^ k + l) (u * 2 ^ k) = l := by
  rw [bitXor_and, bit_and_top k u l h0 h1]
  omega
theorem xor_cut (x : Int) (k : Nat) : Builtin.bitXor x (x.fdiv (2 ^ k) * 2 ^ k) = x.fmod (2 ^ k) := by
  have h := kbt_whole x k
  have h2 := kbt_rest x k
  have h3 := xor_low (u := x.fdiv (2 ^ k)) (k := k) h2.1 h2.2
  rw [h] at h3
  exact h3
/-- the lowest figures to a base -/
noncomputable def digs (B : Int) : Nat → Int → List Int
  | 0, _ => []
  | k + 1, x => x % B :: digs B k (x / B)
theorem digs_length (B : Int) : ∀ (k : Nat) (x : Int), (digs B k x).length = k
  | 0, _ => rfl
  | k + 1, x => by rw [digs, List.length_cons, digs_length B k]
theorem digs_add {B : Int} (hB : 0 < B) : ∀ (i j : Nat) (x : Int), digs B (i + j) x = digs B i x ++ digs B j (x / B ^ i)
  | 0, j, x => by simp [digs]
  | i + 1, j, x => by
    rw [show i + 1 + j = (i + j) + 1 by omega, digs, digs, digs_add hB i j, List.cons_append, Int.ediv_ediv_of_nonneg (by omega), Int.pow_succ, Int.mul_comm (B ^ i) B]
theorem digs_mod {B : Int} (hB : 0 < B) : ∀ (i : Nat) (x : Int), digs B i (x % B ^ i) = digs B i x
  | 0, x => rfl
  | i + 1, x => by
    rw [digs, digs]
    have hp : B ^ (i + 1) = B * B ^ i := by rw [Int.pow_succ, Int.mul_comm]
    have h1 : x % B ^ (i + 1) % B = x % B := by
      rw [hp]
      exact Int.emod_emod_of_dvd x ⟨_, rfl⟩
    have h2 : x % B ^ (i + 1) / B = (x / B) % B ^ i := by
      rw [hp]
      have e1 := Int.emod_add_mul_ediv x (B * B ^ i)
      have e2 : x / (B * B ^ i) = x / B / B ^ i := by rw [Int.ediv_ediv_of_nonneg (by omega)]
      have e3 := Int.emod_add_mul_ediv (x / B) (B ^ i)
      have e4 := Int.emod_add_mul_ediv x B
      have hm := Int.emod_nonneg x (Int.ne_of_gt hB)
      have hm2 := Int.emod_lt_of_pos x hB
      have : x % (B * B ^ i) = B * ((x / B) % B ^ i) + x % B := by
        rw [e2] at e1
        have : B * (x / B) = B * ((x / B) % B ^ i) + B * B ^ i * (x / B / B ^ i) := by
          rw [Int.mul_assoc, ← Int.mul_add, e3]
        omega
      rw [this, Int.add_comm, Int.add_mul_ediv_left _ _ (Int.ne_of_gt hB), Int.ediv_eq_zero_of_lt hm hm2, Int.zero_add]
    rw [h1, h2, digs_mod hB i]
theorem digs_one {B x : Int} (h0 : 0 ≤ x) (h1 : x < B) : digs B 1 x = [x] := by
  simp [digs, Int.emod_eq_of_lt h0 h1]
noncomputable def valOf (B : Int) : List Int → Int
  | [] => 0
  | d :: r => d + B * valOf B r
theorem valOf_digs {B : Int} (hB : 0 < B) : ∀ (k : Nat) (x : Int), 0 ≤ x → x < B ^ k → valOf B (digs B k x) = x
  | 0, x, h0, h1 => by simp at h1; simp [digs, valOf]; omega
  | k + 1, x, h0, h1 => by
    rw [digs, valOf, valOf_digs hB k _ (Int.ediv_nonneg h0 (by omega)) (by rw [Int.pow_succ] at h1; exact Int.ediv_lt_of_lt_mul hB h1)]
    have := Int.emod_add_mul_ediv x B
    omega
theorem valOf_append (B : Int) : ∀ (a b : List Int), valOf B (a ++ b) = valOf B a + B ^ a.length * valOf B b
  | [], b => by simp [valOf]
  | d :: a, b => by
    rw [List.cons_append, valOf, valOf, valOf_append B a b, List.length_cons, Int.pow_succ]
    grind
/-- a stretch of a list, laid anew -/
noncomputable def put (ns : List Int) (i : Nat) (ds : List Int) : List Int := ns.take i ++ ds ++ ns.drop (i + ds.length)
theorem put_length {ns : List Int} {i : Nat} {ds : List Int} (h : i + ds.length ≤ ns.length) : (put ns i ds).length = ns.length := by
  simp [put]; omega
theorem put_put {ns : List Int} {i : Nat} {ds es : List Int} (h : i + ds.length + es.length ≤ ns.length) : put (put ns i ds) (i + ds.length) es = put ns i (ds ++ es) := by
  unfold put
  have h1 : (ns.take i).length = i := by simp; omega
  have h2 : (ns.take i ++ ds).length = i + ds.length := by simp; omega
  rw [List.take_append_of_le_length (by omega), List.take_of_length_le (by omega)]
  rw [List.drop_append, h2]
  rw [List.drop_of_length_le (by omega), List.drop_drop]
  simp only [List.append_assoc, List.length_append, List.nil_append]
  congr 3
  congr 1
  omega
theorem set_put {ns : List Int} {i : Nat} {x : Int} (h : i < ns.length) : ns.set i x = put ns i [x] := by
  unfold put
  rw [List.set_eq_take_append_cons_drop, if_pos h]
  simp
theorem put_all {ns ds : List Int} (h : ds.length = ns.length) : put ns 0 ds = ds := by
  unfold put
  simp [h]
theorem mid_is {lo hi : Int} {len : Nat} (hhi : hi = lo + len) : (lo + hi) / 2 = lo + ((len / 2 : Nat) : Int) := by omega
theorem mid_two {lo hi : Int} {len : Nat} (hhi : hi = lo + len) : ∃ i j : Nat, (lo + hi) / 2 - lo = i ∧ hi - (lo + hi) / 2 = j ∧ len = i + j := by
  have e := mid_is hhi
  refine ⟨len / 2, len - len / 2, ?_, ?_, (Nat.add_sub_cancel' (Nat.div_le_self _ _)).symm⟩
  · rw [e, Int.add_comm, Int.add_sub_cancel]
  · rw [e, hhi, Int.natCast_sub (Nat.div_le_self _ _)]; exact Int.add_sub_add_left _ _ _
theorem mid_nat {lo hi : Int} {len i : Nat} (hlo : 0 ≤ lo) (hi1 : (lo + hi) / 2 - lo = i) : ((lo + hi) / 2).toNat = lo.toNat + i := by
  rw [Int.sub_eq_iff_eq_add.mp hi1, Int.add_comm, Int.toNat_add hlo (Int.natCast_nonneg _)]; rfl
theorem mid_facts {lo hi : Int} {len : Nat} (hlo : 0 ≤ lo) (hhi : hi = lo + len) : ∃ i j : Nat, (lo + hi) / 2 - lo = i ∧ hi - (lo + hi) / 2 = j ∧ ((lo + hi) / 2).toNat = lo.toNat + i ∧ len = i + j := by
  obtain ⟨i, j, h1, h2, h3⟩ := mid_two hhi
  exact ⟨i, j, h1, h2, mid_nat (len := len) hlo h1, h3⟩
end
section
local macro_rules | `(tactic| walk_at "pad") => `(tactic| skip)
open PySem PySem.W PySem.Calls PyProof.Rows PySem.Spec
set_option maxRecDepth 100000
noncomputable def nst (i j : Nat) : Stmt := ((fBody (stm i))[j]?).getD (.Pass ⟨0, 0, 0, 0⟩)
@[reducible] noncomputable def par_i5 : Arguments := lit (show fPar (nst 5 1) = _ by conv => lhs; whnf)
@[reducible] noncomputable def body_i5 : List Stmt := lit (show fBody (nst 5 1) = _ by conv => lhs; whnf)
@[reducible] noncomputable def scope_i5 : Scope := lit (show fScope (nst 5 1) = _ by conv => lhs; whnf)
local macro_rules | `(tactic| walk_at "binaryOp RShift int int") => `(tactic| (k_here; (with_reducible refine rshift_int ?kb1 ?_); (case kb1 => omega); (try rw [shr1]); (try rw [two_half]); (try rw [pow2k (by omega)])))
local macro_rules | `(tactic| walk_at "binaryOp BitAnd int int") => `(tactic| (k_here; (with_reducible refine and_int ?_); first | rw [pad_even] | rw [pad_odd] | rw [and_mask]))

noncomputable def Lt5 (x n : Int) (len : Nat) : Prop := x < (2 ^ n.toNat) ^ len
noncomputable def Inner5 (w : World) (p : Program) (loose : List Str) (mean : ExcName → Option Value) (mg mb : Str → Option Value) (f c' cn ca ci D : Addr) (n : Int) (len : Nat) : Prop :=
  ∀ (dp un : Nat) (gd : Option (List Code)) (cnm : Str) (cs : Scope) (a : Addr) (ccd : Value) (cl : List (Str × Addr)) (outer : List Env) (A₀ : Around) (base h₀ : Heap) (L : Addr) (m : Str → Option Value) (rest : List (Addr × Obj)) (s : Shared) (Q E : Value → Shared → Prop)
    (qual : Str) (doc pm ctv : Value) (oc oN oA oI : Obj) (vsC : Array Value) (tC tn : Tok) (vs : List Value) (ns : List Int) (x lo hi : Int) (t1 t2 t3 : Tok) (nn : Nat),
    Below A₀ base outer h₀ → Fr h₀ L s.heap m → (K w.params).In h₀ → News h₀ L s.heap ((D, W.listOf vs.toArray nn) :: rest) → Top p loose mean mg mb h₀ → cs.kind = .function → CodeHd base 41 37 → dp + (len + 2) < recursionLimit → un + (8 * len + 40) < cLine →
    (∀ q ∈ rest, q.1 ≠ D) → (f, fnMade (Str.ofString "inner") qual par_i5 body_i5 scope_i5 [(Str.ofString "n", cn), (Str.ofString "inner", ci), (Str.ofString "a_digits", ca)] doc pm c' ctv) ∈ rest → (c', oc) ∈ rest → oc.data = .fields vsC → vsC[1]? = some (.str qual tC) →
    (cn, oN) ∈ rest → oN.data = .cell (some (.int n tn)) → (ca, oA) ∈ rest → oA.data = .cell (some (.ref D)) → (ci, oI) ∈ rest → oI.data = .cell (some (.ref f)) →
    IntsAre vs ns → 0 ≤ lo → hi = lo + len → 1 ≤ len → hi ≤ ns.length → ns.length ≤ 256 → 1 ≤ n → n * ns.length ≤ 40000 → 0 ≤ x → Lt5 x n len →
    (∀ vs' h' tk', Fr h₀ L h' m → News h₀ L h' ((D, W.listOf vs'.toArray nn) :: rest) → IntsAre vs' (put ns lo.toNat (digs (2 ^ n.toNat) len x)) → Q .none { s with heap := h', toks := tk' }) →
    wpAny (model rw.prog w) (ktrTop dp un gd cnm cs L a ccd cl outer) (call (.ref f) [.int x t1, .int lo t2, .int hi t3]) Q E s
theorem inner5_use {w : World} {p : Program} {loose : List Str} {mean : ExcName → Option Value} {mg mb : Str → Option Value} {f c' cn ca ci D : Addr} {n : Int} {len : Nat} {dp un : Nat} {gd : Option (List Code)} {cnm : Str} {cs : Scope} {a : Addr} {ccd : Value} {cl : List (Str × Addr)} {outer : List Env} {A₀ : Around} {base h₀ : Heap} {L : Addr} {m : Str → Option Value} {rest : List (Addr × Obj)} {s : Shared} {Q E : Value → Shared → Prop}
    {qual : Str} {doc pm ctv : Value} {oc oN oA oI : Obj} {vsC : Array Value} {tC tn : Tok} {vs : List Value} {ns : List Int} {x lo hi : Int} {t1 t2 t3 : Tok} {nn : Nat} (C : ∀ len', len' < len → Inner5 w p loose mean mg mb f c' cn ca ci D n len')
    (B : Below A₀ base outer h₀) (F : Fr h₀ L s.heap m) (X : (K w.params).In h₀) (N : News h₀ L s.heap ((D, W.listOf vs.toArray nn) :: rest)) (T : Top p loose mean mg mb h₀) (hk : cs.kind = .function) (C41 : CodeHd base 41 37) (hlt : (hi - lo).toNat < len) (hd : dp + (len + 1) < recursionLimit) (hu : un + (8 * len + 32) < cLine)
    (hr : ∀ q ∈ rest, q.1 ≠ D) (m1 : (f, fnMade (Str.ofString "inner") qual par_i5 body_i5 scope_i5 [(Str.ofString "n", cn), (Str.ofString "inner", ci), (Str.ofString "a_digits", ca)] doc pm c' ctv) ∈ rest) (m2 : (c', oc) ∈ rest) (e1 : oc.data = .fields vsC) (e2 : vsC[1]? = some (.str qual tC))
    (m3 : (cn, oN) ∈ rest) (e3 : oN.data = .cell (some (.int n tn))) (m4 : (ca, oA) ∈ rest) (e4 : oA.data = .cell (some (.ref D))) (m5 : (ci, oI) ∈ rest) (e5 : oI.data = .cell (some (.ref f)))
    (hi' : IntsAre vs ns) (hlo : 0 ≤ lo) (hlh : lo < hi) (hle : hi ≤ ns.length) (h256 : ns.length ≤ 256) (hn : 1 ≤ n) (hnl : n * ns.length ≤ 40000) (hx0 : 0 ≤ x) (hx1 : Lt5 x n (hi - lo).toNat)
    (ret : ∀ vs' ns' h' tk', Fr h₀ L h' m → News h₀ L h' ((D, W.listOf vs'.toArray nn) :: rest) → IntsAre vs' ns' → ns' = put ns lo.toNat (digs (2 ^ n.toNat) (hi - lo).toNat x) → ns'.length = ns.length → n * ns'.length ≤ 40000 → Q .none { s with heap := h', toks := tk' }) :
    wpAny (model rw.prog w) (ktrTop dp un gd cnm cs L a ccd cl outer) (call (.ref f) [.int x t1, .int lo t2, .int hi t3]) Q E s := by
  refine C _ hlt _ _ _ _ _ _ _ _ _ _ _ _ _ _ _ _ _ _ _ _ _ _ _ _ _ _ _ _ _ _ _ _ _ _ _ _ _ nn B F X N T hk C41 (by omega) (by omega) hr m1 m2 e1 e2 m3 e3 m4 e4 m5 e5 hi' hlo (by omega) (by omega) hle h256 hn hnl hx0 hx1 fun vs' h' tk' F' N' I' => ?_
  have hl : (put ns lo.toNat (digs (2 ^ n.toNat) (hi - lo).toNat x)).length = ns.length := put_length (by rw [digs_length]; omega)
  exact ret vs' _ h' tk' F' N' I' rfl hl (by rw [hl]; exact hnl)
local macro_rules | `(tactic| walk_at "binaryOp BitXor int int") => `(tactic| (k_here; (with_reducible refine xor_int ?_); rw [xor_cut]))
theorem half_facts {n x lo hi : Int} {len : Nat} (hn : 1 ≤ n) (hnl : n * (len : Int) ≤ 40000) (hhi : hi = lo + len) (hx0 : 0 ≤ x) (hx1 : Lt5 x n len) (h1 : lo + 1 ≠ hi) (h2 : 1 ≤ len) :
    (0 ≤ ((lo + hi) / 2 - lo) * n ∧ ((lo + hi) / 2 - lo) * n ≤ 40000) ∧ (bits x ≤ 40000 ∧ bits (x.fdiv (2 ^ (((lo + hi) / 2 - lo) * n).toNat)) ≤ 40000) ∧
    (0 ≤ x.fmod (2 ^ (((lo + hi) / 2 - lo) * n).toNat) ∧ Lt5 (x.fmod (2 ^ (((lo + hi) / 2 - lo) * n).toNat)) n ((lo + hi) / 2 - lo).toNat) ∧
    (0 ≤ x.fdiv (2 ^ (((lo + hi) / 2 - lo) * n).toNat) ∧ Lt5 (x.fdiv (2 ^ (((lo + hi) / 2 - lo) * n).toNat)) n (hi - (lo + hi) / 2).toNat) := by
  unfold Lt5 at hx1 ⊢
  obtain ⟨i, j, hi1, hj1, hl⟩ := mid_two hhi
  obtain ⟨k, hk⟩ := Int.eq_ofNat_of_zero_le (Int.le_trans (by decide) hn)
  rw [hi1, hj1]
  subst hk
  have e1 : ((i : Int) * (k : Int)).toNat = k * i := by rw [show (i : Int) * (k : Int) = ((k * i : Nat) : Int) by rw [Int.natCast_mul, Int.mul_comm], Int.toNat_natCast]
  rw [e1]
  simp only [Int.toNat_natCast] at hx1 ⊢
  rw [← Int.pow_mul] at hx1 ⊢
  have hb : bits x ≤ k * len := bits_le_of hx0 hx1
  have hkl : k * len ≤ 40000 := by have h := hnl; rw [← Int.natCast_mul] at h; omega
  have hP := kbt_pos (k * i)
  have hr := kbt_rest x (k * i)
  have hq0 : 0 ≤ x.fdiv (2 ^ (k * i)) := by rw [Int.fdiv_eq_ediv_of_nonneg _ (by omega)]; exact Int.ediv_nonneg hx0 (by omega)
  have hq1 : x.fdiv (2 ^ (k * i)) < 2 ^ (k * j) := by
    rw [Int.fdiv_eq_ediv_of_nonneg _ (by omega)]
    refine Int.ediv_lt_of_lt_mul hP ?_
    rw [← Int.pow_add, ← Nat.mul_add, Nat.add_comm j i, ← hl]; exact hx1
  have hkj : k * j ≤ k * len := Nat.mul_le_mul_left _ (by omega)
  have hki : k * i ≤ k * len := Nat.mul_le_mul_left _ (by omega)
  refine ⟨⟨?_, ?_⟩, ⟨Nat.le_trans hb hkl, Nat.le_trans (bits_le_of hq0 hq1) (by omega)⟩, ⟨hr.1, hr.2⟩, hq0, ?_⟩
  · exact Int.mul_nonneg (by omega) (by omega)
  · have : (i : Int) * (k : Int) = ((k * i : Nat) : Int) := by rw [Int.natCast_mul, Int.mul_comm]
    rw [this]; omega
  · rw [← Int.pow_mul]; exact hq1
theorem put_two {n x lo hi : Int} {len : Nat} {ns ns1 ns2 : List Int} (hn : 1 ≤ n) (hlo : 0 ≤ lo) (hhi : hi = lo + len) (hle : hi ≤ ns.length) (h1 : lo + 1 ≠ hi) (h2 : 1 ≤ len) (hx0 : 0 ≤ x)
    (e2 : ns2 = put ns1 ((lo + hi) / 2).toNat (digs (2 ^ n.toNat) (hi - (lo + hi) / 2).toNat (x.fdiv (2 ^ (((lo + hi) / 2 - lo) * n).toNat))))
    (e1 : ns1 = put ns lo.toNat (digs (2 ^ n.toNat) ((lo + hi) / 2 - lo).toNat (x.fmod (2 ^ (((lo + hi) / 2 - lo) * n).toNat)))) : ns2 = put ns lo.toNat (digs (2 ^ n.toNat) len x) := by
  obtain ⟨i, j, hi1, hj1, hm, hl⟩ := mid_facts hlo hhi
  obtain ⟨k, hk⟩ := Int.eq_ofNat_of_zero_le (Int.le_trans (by decide) hn)
  rw [hm, hj1] at e2
  rw [hi1] at e1 e2
  subst hk
  have e3 : ((i : Int) * (k : Int)).toNat = k * i := by rw [show (i : Int) * (k : Int) = ((k * i : Nat) : Int) by rw [Int.natCast_mul, Int.mul_comm], Int.toNat_natCast]
  rw [e3] at e1 e2
  simp only [Int.toNat_natCast] at e1 e2 ⊢
  have hB := kbt_pos k
  rw [Int.fmod_eq_emod_of_nonneg _ (by have := kbt_pos (k * i); omega), Int.pow_mul, digs_mod hB] at e1
  rw [Int.fdiv_eq_ediv_of_nonneg _ (by have := kbt_pos (k * i); omega), Int.pow_mul] at e2
  rw [e2, e1, hl, digs_add hB]
  have hld : (digs (2 ^ k) i x).length = i := digs_length _ _ _
  have := put_put (ns := ns) (i := lo.toNat) (ds := digs (2 ^ k) i x) (es := digs (2 ^ k) j (x / (2 ^ k) ^ i)) (by rw [digs_length, digs_length]; omega)
  rw [hld] at this
  exact this
set_option maxHeartbeats 4000000 in
theorem inner5_one {w : World} {p : Program} {loose : List Str} {mean : ExcName → Option Value} {mg mb : Str → Option Value} {f c' cn ca ci D : Addr} {n : Int} : Inner5 w p loose mean mg mb f c' cn ca ci D n 1 := by
  unfold Inner5
  k_fill
  intro dp un gd cnm cs a₀ ccd cl outer A₀ base h₀ L m rest s Q E qual doc pm ctv oc oN oA oI vsC tC tn vs ns x lo hi t1 t2 t3 nn B F X N T hk C41 hd hu hr m1 m2 e1 e2 m3 e3 m4 e4 m5 e5 hi' hlo hhi hlen hle h256 hn hnl hx0 hx1 hret
  have h1 : lo + 1 = hi := by omega
  refine wpAny_call ?_
  k_dflt (refine' code_nest ?k1 ?k2 ?k3 ?k4 ?k5 ?kA ?kF ?kK ?k6 ?k7 ?k8 ?k9 ?kB ?_ ?c2 ?c3 ?c4 ?c5; (case kA => exact rfl); (case kF => exact rfl); (case kK => assumption); (case k1 => k_asm); (case k2 => k_asm); (case k3 => k_asm); (case k4 => k_asm); (case k5 => k_asm); (case k6 => exact List.Mem.tail _ m1); (case k7 => exact codeRec_news N (List.Mem.tail _ m2) e1 e2); (case k8 => ktr_room); (case k9 => exact BindsTo.of_eq rfl); (case c5 => decide); (case kB => exact locs rfl); (case c2 => exact rfl); (case c3 => exact rfl); (case c4 => exact rfl); k_whole; intro g' L' h' FG' F' N' B' X' T'; (try dsimp only); (try k_lift B'); (try k_fold))
  dsimp only [body_i5, scope_i5, par_i5, lit]
  k_steps
  all_goals first | (exfalso; omega) | skip
  refine hret _ _ _ (by assumption) (by assumption) ?_
  have hx2 : x < 2 ^ n.toNat := by unfold Lt5 at hx1; rw [← Int.pow_mul, Nat.mul_one] at hx1; exact hx1
  rw [digs_one hx0 hx2, ← set_put (by omega)]
  assumption
set_option maxHeartbeats 4000000 in
theorem inner5 {w : World} {p : Program} {loose : List Str} {mean : ExcName → Option Value} {mg mb : Str → Option Value} {f c' cn ca ci D : Addr} {n : Int} : ∀ (len : Nat), (∀ len', len' < len → Inner5 w p loose mean mg mb f c' cn ca ci D n len') → Inner5 w p loose mean mg mb f c' cn ca ci D n len := by
  intro len ih
  unfold Inner5
  k_fill
  intro dp un gd cnm cs a₀ ccd cl outer A₀ base h₀ L m rest s Q E qual doc pm ctv oc oN oA oI vsC tC tn vs ns x lo hi t1 t2 t3 nn B F X N T hk C41 hd hu hr m1 m2 e1 e2 m3 e3 m4 e4 m5 e5 hi' hlo hhi hlen hle h256 hn hnl hx0 hx1 hret
  have hnl' : n * (len : Int) ≤ 40000 := Int.le_trans (Int.mul_le_mul_of_nonneg_left (by omega) (by omega)) hnl
  by_cases h1 : lo + 1 = hi
  · obtain rfl : len = 1 := by omega
    exact inner5_one _ _ _ _ _ _ _ _ _ _ _ _ _ _ _ _ _ _ _ _ _ _ _ _ _ _ _ _ _ _ _ _ _ _ _ _ _ _ B F X N T hk C41 hd hu hr m1 m2 e1 e2 m3 e3 m4 e4 m5 e5 hi' hlo hhi hlen hle h256 hn hnl hx0 hx1 hret
  obtain ⟨⟨s1, s2⟩, ⟨b1, b2⟩, ⟨l1, l2⟩, u1, u2⟩ := half_facts hn hnl' hhi hx0 hx1 h1 hlen
  refine wpAny_call ?_
  k_dflt (refine' code_nest ?k1 ?k2 ?k3 ?k4 ?k5 ?kA ?kF ?kK ?k6 ?k7 ?k8 ?k9 ?kB ?_ ?c2 ?c3 ?c4 ?c5; (case kA => exact rfl); (case kF => exact rfl); (case kK => assumption); (case k1 => k_asm); (case k2 => k_asm); (case k3 => k_asm); (case k4 => k_asm); (case k5 => k_asm); (case k6 => exact List.Mem.tail _ m1); (case k7 => exact codeRec_news N (List.Mem.tail _ m2) e1 e2); (case k8 => ktr_room); (case k9 => exact BindsTo.of_eq rfl); (case c5 => decide); (case kB => exact locs rfl); (case c2 => exact rfl); (case c3 => exact rfl); (case c4 => exact rfl); k_whole; intro g' L' h' FG' F' N' B' X' T'; (try dsimp only); (try k_lift B'); (try k_fold))
  dsimp only [body_i5, scope_i5, par_i5, lit]
  (repeat' (first | ((with_reducible show wpAny _ _ (call (Value.ref _) _ _) _ _ _); k_here; k_dflt (apply inner5_use; walk_at "cc"); intro _ _ _ _ _ _ _ _ _ _) | (k_unfold; (try dsimp only)) | (k_end; kc_close) | walk1 | (dsimp only; walk1) | (leave1; walk_say "STEP leave1"; (try dsimp only))))
  · refine hret _ _ _ (by assumption) (by assumption) ?_
    rename IntsAre _ _ => I9
    have key := put_two hn hlo hhi hle h1 hlen hx0 (by assumption) (by assumption)
    rw [← key]
    exact I9
theorem inner5_all {w : World} {p : Program} {loose : List Str} {mean : ExcName → Option Value} {mg mb : Str → Option Value} {f c' cn ca ci D : Addr} {n : Int} : ∀ len, Inner5 w p loose mean mg mb f c' cn ca ci D n len := by
  have all : ∀ k len, len < k → Inner5 w p loose mean mg mb f c' cn ca ci D n len := by
    intro k
    induction k with
    | zero => intro len h; exact absurd h (Nat.not_lt_zero _)
    | succ k ih => intro len h; exact inner5 len fun len' h' => ih len' (by omega)
  exact fun len => all (len + 1) len (Nat.lt_succ_self _)
theorem ints_rep {t : Tok} : ∀ k : Nat, IntsAre (List.replicate k (Value.int 0 t)) (List.replicate k 0)
  | 0 => .nil
  | k + 1 => .cons 0 t (ints_rep k)
end
section
open PySem PySem.W PySem.Calls PyProof.Rows PySem.Spec
local macro_rules | `(tactic| walk_at "binaryOp RShift int int") => `(tactic| (k_here; (with_reducible refine rshift_int ?kb1 ?_); (case kb1 => omega); (try rw [shr1]); (try rw [two_half]); (try rw [pow2k (by omega)])))
local macro_rules | `(tactic| walk_at "binaryOp BitAnd int int") => `(tactic| (k_here; (with_reducible refine and_int ?_); first | rw [pad_even] | rw [pad_odd] | rw [and_mask]))
section
open PySem PySem.W PySem.Calls PyProof.Rows PySem.Spec
local macro_rules | `(tactic| l_ints) => `(tactic| exact ints_rep _)
local macro_rules | `(tactic| l_fit) => `(tactic| (simp only [List.length_replicate]; omega))
section
open PySem PySem.W PySem.Calls PyProof.Rows PySem.Spec
set_option maxRecDepth 100000

theorem digs_zero {B : Int} : ∀ k : Nat, digs B k 0 = List.replicate k 0
  | 0 => rfl
  | k + 1 => by rw [digs, List.replicate_succ, Int.zero_emod, Int.zero_ediv, digs_zero k]
theorem put_rep {B x : Int} {k : Nat} : put (List.replicate k 0) (0 : Int).toNat (digs B ((((List.replicate k (0 : Int)).length : Nat) : Int) - 0).toNat x) = digs B k x := by
  rw [List.length_replicate, Int.sub_zero, Int.toNat_natCast]
  exact put_all (by rw [digs_length, List.length_replicate])
theorem news_third {h₀ h : Heap} {L : Addr} {a b d : Addr × Obj} {l : List (Addr × Obj)} (N : News h₀ L h (a :: b :: d :: l)) : News h₀ L h (d :: a :: b :: l) := fun x hx => N x (by
  simp only [List.mem_cons] at hx ⊢
  rcases hx with h | h | h | h <;> simp [h])
theorem news_sub {h₀ h : Heap} {L : Addr} {l l' : List (Addr × Obj)} (N : News h₀ L h l) (s : ∀ x ∈ l', x ∈ l) : News h₀ L h l' := fun x hx => N x (s x hx)
set_option maxHeartbeats 4000000 in
theorem i2d_fresh {w : World} {p : Program} {loose : List Str} {mean : ExcName → Option Value} {mg mb : Str → Option Value} {a n : Int} {t1 t2 : Tok} {k : Int} (hn : 1 ≤ n) (hkk : ((Builtin.Int.intBits a : Int) + n - 1).fdiv n = k) (hk0 : 0 ≤ k) (hk1 : k ≤ 256) (zk : bits n ≤ 9000) (ha : 0 ≤ a) (hnk : n * k ≤ 40000) (hax : Lt5 a n k.toNat) (hak : a = 0 ∨ 1 ≤ k)
  (dp un : Nat) (gd : Option (List Code)) (cn : Str) (cs : Scope) (a₀ : Addr) (ccd : Value) (cl : List (Str × Addr)) (outer : List Env) (A₀ : Around) (base h₀ : Heap) (L : Addr) (m : Str → Option Value) (rest : List (Addr × Obj)) (s : Shared)
    (Q E : Value → Shared → Prop) (B : Below A₀ base outer h₀) (F : Fr h₀ L s.heap m) (X : (K w.params).In h₀) (N : News h₀ L s.heap ((37, tabObj #[]) :: rest)) (T : Top p loose mean mg mb h₀) (hk : cs.kind = .function) (hd : dp + 270 < recursionLimit) (hu : un + 3000 < cLine)
    (hL : 249 < L) (C41 : CodeHd base 41 37) (hr : ∀ p ∈ rest, p.1 ≠ 37)
    (hret : ∀ vs t h' tk' c' oc vc tc, Fr h₀ L h' m → News h₀ L h' ((t, W.listOf vs.toArray 0) :: (37, tabObj (#[] ++ #[rawInt ((35 : Nat) : Int), rawInt ((4 : Nat) : Int), .ref c'])) :: (c', oc) :: rest) → oc.data = .fields vc → vc[1]? = some (.str (Str.ofString "_int2digits.<locals>.inner") tc) →
      (∀ q ∈ rest, q.1 < t) → t < c' → 37 < t → IntsAre vs (digs (2 ^ n.toNat) k.toNat a) → Q (.ref t) { s with heap := h', toks := tk' }) :
    wpAny (model rw.prog w) (ktrTop dp un gd cn cs L a₀ ccd cl outer) (call (.ref 42) [.int a t1, .int n t2]) Q E s := by
  revert X
  k_fill
  intro X
  refine wpAny_call ?_
  k_dflt (refine' code_defC ?k1 ?k2 ?k3 ?k4 ?k5 ?kA ?kF ?kK ?k6 ?k7 ?k8 ?k9 ?kB ?kD ?_ ?c2 ?c3 ?c4; (case kA => exact rfl); (case kF => exact rfl); (case kK => assumption); (case k1 => k_asm); (case k2 => k_asm); (case k3 => k_asm); (case k4 => k_asm); (case k5 => k_asm); (case k6 => k_is); (case k7 => k_is); (case k8 => ktr_room); (case k9 => exact BindsTo.of_eq rfl); (case kB => exact rfl); (case kD => decide +kernel); (case c2 => exact rfl); (case c3 => exact rfl); (case c4 => exact rfl); k_whole; intro g' L' h' tk' cells' FG' F' N' Y' B' X' T' l1; (try k_lt l1); k_cells Y'; (try simp only [List.cons_append, List.nil_append] at N'); (try dsimp only); (try k_lift B'); (try k_fold))
  obtain ⟨l1a, l1b⟩ := l1
  have l1c := all_of l1b
  dsimp only [body_s5, scope_s5, par_s5, lit]
  (repeat' (first | ((with_reducible show wpAny _ _ (call (Value.ref _) _ _) _ _ _); refine stop_intro ?_) | (k_here; (with_reducible show wpAny _ _ (binaryOp Operator.Mult (Value.ref _) (Value.int _ _)) _ _ _); k_dflt (refine KMa.mul (by k_asm) (by k_asm) (by is_list) (by omega) (by omega) (by (simp only [List.length_cons, List.length_nil]; omega)) List.flatten_replicate_singleton ?_; k_whole); intro _ _ _ _; walk_at "lt"; (try k_sweep)) | ((with_reducible show wpAny _ _ (binaryOp Operator.FloorDiv (Value.int _ _) (Value.int _ _)) _ _ _); k_here; (with_reducible refine floordiv_int ?kbe ?_ (Or.inl ?kbp)); (case kbe => omega); (case kbp => exact pylong_ok (by assumption)); (rename (Int.fdiv _ _ = _) => hfd9; try rw [hfd9])) | (k_unfold; (try dsimp only)) | (k_end; kc_close) | walk1 | (dsimp only; walk1) | (leave1; walk_say "STEP leave1"; (try dsimp only))))
  · unfold Stop
    k_dflt (refine' inner5_use (len := k.toNat + 1) (fun l _ => inner5_all l) ?B ?F ?X ?N ?T ?k ?c41 ?lt ?d ?u ?r ?m1 ?m2 ?e1 ?e2 ?m3 ?e3 ?m4 ?e4 ?m5 ?e5 ?i ?lo ?lh ?le ?l256 ?n1 ?nl ?x0 ?x1 ?_; (case B => k_asm); (case F => k_asm); (case X => k_asm); (case N => exact news_third (by k_asm)); (case T => k_asm); (case k => exact rfl); (case c41 => assumption); (case lt => (simp only [List.length_replicate]; omega)); (case d => ktr_room); (case u => ktr_units); (case r => k_all); (case m1 => exact List.Mem.head _); (case m2 => exact List.Mem.tail _ (List.Mem.head _)); (case e1 => assumption); (case e2 => assumption); (case m3 => k_mem); (case e3 => assumption); (case m4 => k_mem); (case e4 => assumption); (case m5 => k_mem); (case e5 => assumption); (case i => exact ints_rep _); (case lo => omega); (case lh => (simp only [List.length_replicate]; omega)); (case le => omega); (case l256 => (simp only [List.length_replicate]; omega)); (case n1 => assumption); (case nl => (simp only [List.length_replicate]; rw [show ((k.toNat : Nat) : Int) = k by omega]; assumption)); (case x0 => assumption); (case x1 => (rw [List.length_replicate, Int.sub_zero, Int.toNat_natCast]; assumption)))
    intro vs' ns' h' tk' F' N' iv' en' el' nl'
    k_steps
    refine hret _ _ _ _ _ _ _ _ (by assumption) (news_sub (by assumption) (List.forall_mem_cons.mpr ⟨by k_mem, List.forall_mem_cons.mpr ⟨by k_mem, List.forall_mem_cons.mpr ⟨by k_mem, ?sub⟩⟩⟩)) (by assumption) (by assumption) ?f1 ?f2 ?f3 ?iq
    case sub => intro x hx; repeat (first | exact hx | apply List.mem_cons_of_mem)
    case f1 => exact fun q hq => Nat.lt_trans (l1c q hq) (by omega)
    case f2 => exact ltN (by omega)
    case f3 => exact ltN (by omega)
    case iq => rw [en', put_rep] at iv'; exact iv'
  · have ha0 : a = 0 := by assumption
    refine hret _ _ _ _ _ _ _ _ (by assumption) (news_sub (by assumption) (List.forall_mem_cons.mpr ⟨by k_mem, List.forall_mem_cons.mpr ⟨by k_mem, List.forall_mem_cons.mpr ⟨by k_mem, ?sub⟩⟩⟩)) (by assumption) (by assumption) ?f1 ?f2 ?f3 ?iq
    case sub => intro x hx; repeat (first | exact hx | apply List.mem_cons_of_mem)
    case f1 => exact fun q hq => Nat.lt_trans (l1c q hq) (by omega)
    case f2 => exact ltN (by omega)
    case f3 => exact ltN (by omega)
    case iq => rw [ha0, digs_zero]; exact ints_rep _
end
section
open PySem PySem.W PySem.Calls PyProof.Rows PySem.Spec
set_option maxRecDepth 100000

theorem news_second {h₀ h : Heap} {L : Addr} {a d : Addr × Obj} {l : List (Addr × Obj)} (N : News h₀ L h (a :: d :: l)) : News h₀ L h (d :: a :: l) := fun x hx => N x (by
  simp only [List.mem_cons] at hx ⊢
  rcases hx with h | h | h <;> simp [h])
set_option maxHeartbeats 4000000 in
theorem i2d_hit {w : World} {p : Program} {loose : List Str} {mean : ExcName → Option Value} {mg mb : Str → Option Value} {a n : Int} {t1 t2 : Tok} {k : Int} (hn : 1 ≤ n) (hkk : ((Builtin.Int.intBits a : Int) + n - 1).fdiv n = k) (hk0 : 0 ≤ k) (hk1 : k ≤ 256) (zk : bits n ≤ 9000) (ha : 0 ≤ a) (hnk : n * k ≤ 40000) (hax : Lt5 a n k.toNat) (hak : a = 0 ∨ 1 ≤ k)
  (dp un : Nat) (gd : Option (List Code)) (cn : Str) (cs : Scope) (a₀ : Addr) (ccd : Value) (cl : List (Str × Addr)) (outer : List Env) (A₀ : Around) (base h₀ : Heap) (L : Addr) (m : Str → Option Value) (rest : List (Addr × Obj)) (s : Shared)
    (Q E : Value → Shared → Prop) (B : Below A₀ base outer h₀) (F : Fr h₀ L s.heap m) (X : (K w.params).In h₀) (c' : Addr) (oc : Obj) (vc : Array Value) (tc : Tok) (N : News h₀ L s.heap ((37, tabObj (#[] ++ #[rawInt ((35 : Nat) : Int), rawInt ((4 : Nat) : Int), .ref c'])) :: (c', oc) :: rest)) (hoc : oc.data = .fields vc) (hvc : vc[1]? = some (.str (Str.ofString "_int2digits.<locals>.inner") tc)) (T : Top p loose mean mg mb h₀) (hk : cs.kind = .function) (hd : dp + 270 < recursionLimit) (hu : un + 3000 < cLine)
    (hL : 249 < L) (C41 : CodeHd base 41 37) (hr : ∀ p ∈ rest, p.1 ≠ 37)
    (hret : ∀ vs t h' tk', Fr h₀ L h' m → News h₀ L h' ((t, W.listOf vs.toArray 0) :: (37, tabObj (#[] ++ #[rawInt ((35 : Nat) : Int), rawInt ((4 : Nat) : Int), .ref c'])) :: (c', oc) :: rest) →
      (∀ q ∈ rest, q.1 < t) → c' < t → 37 < t → IntsAre vs (digs (2 ^ n.toNat) k.toNat a) → Q (.ref t) { s with heap := h', toks := tk' }) :
    wpAny (model rw.prog w) (ktrTop dp un gd cn cs L a₀ ccd cl outer) (call (.ref 42) [.int a t1, .int n t2]) Q E s := by
  revert X
  k_fill
  intro X
  refine wpAny_call ?_
  k_dflt (refine' code_defC ?k1 ?k2 ?k3 ?k4 ?k5 ?kA ?kF ?kK ?k6 ?k7 ?k8 ?k9 ?kB ?kD ?_ ?c2 ?c3 ?c4; (case kA => exact rfl); (case kF => exact rfl); (case kK => assumption); (case k1 => k_asm); (case k2 => k_asm); (case k3 => k_asm); (case k4 => k_asm); (case k5 => k_asm); (case k6 => k_is); (case k7 => k_is); (case k8 => ktr_room); (case k9 => exact BindsTo.of_eq rfl); (case kB => exact rfl); (case kD => decide +kernel); (case c2 => exact rfl); (case c3 => exact rfl); (case c4 => exact rfl); k_whole; intro g' L' h' tk' cells' FG' F' N' Y' B' X' T' l1; (try k_lt l1); k_cells Y'; (try simp only [List.cons_append, List.nil_append] at N'); (try dsimp only); (try k_lift B'); (try k_fold))
  obtain ⟨l1a, l1d, l1b⟩ := l1
  have l1c := all_of l1b
  dsimp only [body_s5, scope_s5, par_s5, lit]
  (repeat' (first | ((with_reducible show wpAny _ _ (call (Value.ref _) [_, _, _]) _ _ _); refine stop_intro ?_) | (k_here; (with_reducible show wpAny _ _ (binaryOp Operator.Mult (Value.ref _) (Value.int _ _)) _ _ _); k_dflt (refine KMa.mul (by k_asm) (by k_asm) (by is_list) (by omega) (by omega) (by (simp only [List.length_cons, List.length_nil]; omega)) List.flatten_replicate_singleton ?_; k_whole); intro _ _ _ _; walk_at "lt"; (try k_sweep)) | ((with_reducible show wpAny _ _ (binaryOp Operator.FloorDiv (Value.int _ _) (Value.int _ _)) _ _ _); k_here; (with_reducible refine floordiv_int ?kbe ?_ (Or.inl ?kbp)); (case kbe => omega); (case kbp => exact pylong_ok (by assumption)); (rename (Int.fdiv _ _ = _) => hfd9; try rw [hfd9])) | (k_unfold; (try dsimp only)) | (k_end; kc_close) | walk1 | (dsimp only; walk1) | (leave1; walk_say "STEP leave1"; (try dsimp only))))
  · unfold Stop
    k_dflt (refine' inner5_use (len := k.toNat + 1) (fun l _ => inner5_all l) ?B ?F ?X ?N ?T ?k ?c41 ?lt ?d ?u ?r ?m1 ?m2 ?e1 ?e2 ?m3 ?e3 ?m4 ?e4 ?m5 ?e5 ?i ?lo ?lh ?le ?l256 ?n1 ?nl ?x0 ?x1 ?_; (case B => k_asm); (case F => k_asm); (case X => k_asm); (case N => exact news_second (by k_asm)); (case T => k_asm); (case k => exact rfl); (case c41 => assumption); (case lt => (simp only [List.length_replicate]; omega)); (case d => ktr_room); (case u => ktr_units); (case r => k_all); (case m1 => exact List.Mem.head _); (case m2 => k_mem); (case e1 => assumption); (case e2 => assumption); (case m3 => k_mem); (case e3 => assumption); (case m4 => k_mem); (case e4 => assumption); (case m5 => k_mem); (case e5 => assumption); (case i => exact ints_rep _); (case lo => omega); (case lh => (simp only [List.length_replicate]; omega)); (case le => omega); (case l256 => (simp only [List.length_replicate]; omega)); (case n1 => assumption); (case nl => (simp only [List.length_replicate]; rw [show ((k.toNat : Nat) : Int) = k by omega]; assumption)); (case x0 => assumption); (case x1 => (rw [List.length_replicate, Int.sub_zero, Int.toNat_natCast]; assumption)))
    intro vs' ns' h' tk' F' N' iv' en' el' nl'
    k_steps
    refine hret _ _ _ _ (by assumption) (news_sub (by assumption) (List.forall_mem_cons.mpr ⟨by k_mem, List.forall_mem_cons.mpr ⟨by k_mem, List.forall_mem_cons.mpr ⟨by k_mem, ?sub⟩⟩⟩)) ?f1 ?f2 ?f3 ?iq
    case sub => intro x hx; repeat (first | exact hx | apply List.mem_cons_of_mem)
    case f1 => exact fun q hq => Nat.lt_trans (l1c q hq) (by omega)
    case f2 => exact ltN (by omega)
    case f3 => exact ltN (by omega)
    case iq => rw [en', put_rep] at iv'; exact iv'
  · have ha0 : a = 0 := by assumption
    refine hret _ _ _ _ (by assumption) (news_sub (by assumption) (List.forall_mem_cons.mpr ⟨by k_mem, List.forall_mem_cons.mpr ⟨by k_mem, List.forall_mem_cons.mpr ⟨by k_mem, ?sub⟩⟩⟩)) ?f1 ?f2 ?f3 ?iq
    case sub => intro x hx; repeat (first | exact hx | apply List.mem_cons_of_mem)
    case f1 => exact fun q hq => Nat.lt_trans (l1c q hq) (by omega)
    case f2 => exact ltN (by omega)
    case f3 => exact ltN (by omega)
    case iq => rw [ha0, digs_zero]; exact ints_rep _
end
end
section
open PySem PySem.W PySem.Calls PyProof.Rows PySem.Spec
set_option maxRecDepth 100000
/-- the state of _int2digits's code table: empty, or with its inner function's code -/
noncomputable def Tab5 (ts : List (Addr × Obj)) : Prop :=
  ts = [(37, tabObj #[])] ∨ ∃ c' oc vc tc, ts = [(37, tabObj (#[] ++ #[rawInt ((35 : Nat) : Int), rawInt ((4 : Nat) : Int), .ref c'])), (c', oc)] ∧ oc.data = .fields vc ∧ vc[1]? = some (.str (Str.ofString "_int2digits.<locals>.inner") tc)
theorem i2d {w : World} {p : Program} {loose : List Str} {mean : ExcName → Option Value} {mg mb : Str → Option Value} {a n : Int} {t1 t2 : Tok} {k : Int} (hn : 1 ≤ n) (hkk : ((Builtin.Int.intBits a : Int) + n - 1).fdiv n = k) (hk0 : 0 ≤ k) (hk1 : k ≤ 256) (zk : bits n ≤ 9000) (ha : 0 ≤ a) (hnk : n * k ≤ 40000) (hax : Lt5 a n k.toNat) (hak : a = 0 ∨ 1 ≤ k)
  (dp un : Nat) (gd : Option (List Code)) (cn : Str) (cs : Scope) (a₀ : Addr) (ccd : Value) (cl : List (Str × Addr)) (outer : List Env) (A₀ : Around) (base h₀ : Heap) (L : Addr) (m : Str → Option Value) (ts rest : List (Addr × Obj)) (s : Shared)
    (Q E : Value → Shared → Prop) (B : Below A₀ base outer h₀) (F : Fr h₀ L s.heap m) (X : (K w.params).In h₀) (N : News h₀ L s.heap (ts ++ rest)) (T : Top p loose mean mg mb h₀) (hk : cs.kind = .function) (hd : dp + 270 < recursionLimit) (hu : un + 3000 < cLine)
    (hL : 249 < L) (C41 : CodeHd base 41 37) (hts : Tab5 ts) (hr : ∀ p ∈ rest, p.1 ≠ 37)
    (hret : ∀ vs t ts' h' tk', Tab5 ts' → Fr h₀ L h' m → News h₀ L h' ((t, W.listOf vs.toArray 0) :: (ts' ++ rest)) → (∀ q ∈ rest, q.1 < t) → (∀ q ∈ ts', q.1 ≠ t) → IntsAre vs (digs (2 ^ n.toNat) k.toNat a) → Q (.ref t) { s with heap := h', toks := tk' }) :
    wpAny (model rw.prog w) (ktrTop dp un gd cn cs L a₀ ccd cl outer) (call (.ref 42) [.int a t1, .int n t2]) Q E s := by
  rcases hts with rfl | ⟨c', oc, vc, tc, rfl, h1, h2⟩
  · refine i2d_fresh hn hkk hk0 hk1 zk ha hnk hax hak dp un gd cn cs a₀ ccd cl outer A₀ base h₀ L m rest s Q E B F X N T hk hd hu hL C41 hr fun vs t h' tk' c' oc vc tc F' N' e1 e2 f1 f2 f3 I => ?_
    refine hret vs t _ h' tk' (.inr ⟨c', oc, vc, tc, rfl, e1, e2⟩) F' N' f1 (fun q hq => ?_) I
    rcases List.mem_cons.mp hq with rfl | hq
    · exact Nat.ne_of_lt f3
    · obtain rfl := List.mem_singleton.mp hq
      exact Nat.ne_of_gt f2
  · refine i2d_hit hn hkk hk0 hk1 zk ha hnk hax hak dp un gd cn cs a₀ ccd cl outer A₀ base h₀ L m rest s Q E B F X c' oc vc tc N h1 h2 T hk hd hu hL C41 hr fun vs t h' tk' F' N' f1 f2 f3 I => ?_
    refine hret vs t _ h' tk' (.inr ⟨c', oc, vc, tc, rfl, h1, h2⟩) F' N' f1 (fun q hq => ?_) I
    rcases List.mem_cons.mp hq with rfl | hq
    · exact Nat.ne_of_lt f3
    · obtain rfl := List.mem_singleton.mp hq
      exact Nat.ne_of_lt f2
end
section
open PySem PySem.W PySem.Calls PyProof.Rows PySem.Spec
set_option maxRecDepth 100000
@[reducible] noncomputable def par_i6 : Arguments := lit (show fPar (nst 6 0) = _ by conv => lhs; whnf)
@[reducible] noncomputable def body_i6 : List Stmt := lit (show fBody (nst 6 0) = _ by conv => lhs; whnf)
@[reducible] noncomputable def scope_i6 : Scope := lit (show fScope (nst 6 0) = _ by conv => lhs; whnf)

noncomputable def InB (n : Int) (ns : List Int) : Prop := ∀ d ∈ ns, 0 ≤ d ∧ d < 2 ^ n.toNat
noncomputable def valAt (n : Int) (ns : List Int) (lo : Int) (len : Nat) : Int := valOf (2 ^ n.toNat) ((ns.drop lo.toNat).take len)
noncomputable def Inner6 (w : World) (p : Program) (loose : List Str) (mean : ExcName → Option Value) (mg mb : Str → Option Value) (f c' cn ci cd D : Addr) (n : Int) (len : Nat) : Prop :=
  ∀ (dp un : Nat) (gd : Option (List Code)) (cnm : Str) (cs : Scope) (a : Addr) (ccd : Value) (cl : List (Str × Addr)) (outer : List Env) (A₀ : Around) (base h₀ : Heap) (L : Addr) (m : Str → Option Value) (rest : List (Addr × Obj)) (s : Shared) (Q E : Value → Shared → Prop)
    (qual : Str) (doc pm ctv : Value) (oc oN oD oI : Obj) (vsC : Array Value) (tC tn : Tok) (vs : List Value) (ns : List Int) (lo hi : Int) (t2 t3 : Tok) (nn : Nat),
    Below A₀ base outer h₀ → Fr h₀ L s.heap m → (K w.params).In h₀ → News h₀ L s.heap rest → Top p loose mean mg mb h₀ → cs.kind = .function → CodeHd base 48 44 → dp + (len + 2) < recursionLimit → un + (8 * len + 40) < cLine →
    (D, W.listOf vs.toArray nn) ∈ rest → (f, fnMade (Str.ofString "inner") qual par_i6 body_i6 scope_i6 [(Str.ofString "n", cn), (Str.ofString "inner", ci), (Str.ofString "digits", cd)] doc pm c' ctv) ∈ rest → (c', oc) ∈ rest → oc.data = .fields vsC → vsC[1]? = some (.str qual tC) →
    (cn, oN) ∈ rest → oN.data = .cell (some (.int n tn)) → (cd, oD) ∈ rest → oD.data = .cell (some (.ref D)) → (ci, oI) ∈ rest → oI.data = .cell (some (.ref f)) →
    IntsAre vs ns → InB n ns → 0 ≤ lo → hi = lo + len → 1 ≤ len → hi ≤ ns.length → ns.length ≤ 256 → 1 ≤ n → n * ns.length ≤ 40000 →
    (∀ t h' tk', Fr h₀ L h' m → News h₀ L h' rest → Q (.int (valAt n ns lo len) t) { s with heap := h', toks := tk' }) →
    wpAny (model rw.prog w) (ktrTop dp un gd cnm cs L a ccd cl outer) (call (.ref f) [.int lo t2, .int hi t3]) Q E s
theorem valOf_bounds {B : Int} (hB : 0 < B) : ∀ (l : List Int), (∀ d ∈ l, 0 ≤ d ∧ d < B) → 0 ≤ valOf B l ∧ valOf B l < B ^ l.length
  | [], _ => by simp [valOf]
  | d :: r, h => by
    have h1 := h d (.head _)
    have h2 := valOf_bounds hB r fun e he => h e (.tail _ he)
    rw [valOf, List.length_cons, Int.pow_succ, Int.mul_comm (B ^ r.length) B]
    have h3 : 0 ≤ B * valOf B r := Int.mul_nonneg (by omega) h2.1
    have h4 : B * (valOf B r + 1) ≤ B * B ^ r.length := Int.mul_le_mul_of_nonneg_left (by omega) (by omega)
    rw [Int.mul_add, Int.mul_one] at h4
    omega
theorem valAt_bits {n lo : Int} {ns : List Int} {len : Nat} (hn : 1 ≤ n) (hib : InB n ns) (hnl : n * ns.length ≤ 40000) (hle : lo.toNat + len ≤ ns.length) : bits (valAt n ns lo len) ≤ 40000 := by
  have hB := kbt_pos n.toNat
  have hb := valOf_bounds hB ((ns.drop lo.toNat).take len) fun d hd => hib d (List.mem_of_mem_drop (List.mem_of_mem_take hd))
  have hl : ((ns.drop lo.toNat).take len).length = len := by rw [List.length_take, List.length_drop]; omega
  rw [hl, ← Int.pow_mul] at hb
  refine Nat.le_trans (bits_le_of hb.1 hb.2) ?_
  have h1 : n * (len : Int) ≤ n * (ns.length : Int) := Int.mul_le_mul_of_nonneg_left (by omega) (by omega)
  obtain ⟨k, hk⟩ := Int.eq_ofNat_of_zero_le (Int.le_trans (by decide) hn)
  subst hk
  simp only [Int.toNat_natCast]
  have h2 : ((k * len : Nat) : Int) ≤ 40000 := by rw [Int.natCast_mul]; omega
  omega
theorem valAt_one {n lo : Int} {ns : List Int} (h : lo.toNat < ns.length) : valAt n ns lo 1 = ns.getD lo.toNat 0 := by
  unfold valAt
  rw [List.drop_eq_getElem_cons h, List.take_succ_cons, List.take_zero, valOf, valOf, Int.mul_zero, Int.add_zero, List.getD_eq_getElem?_getD, List.getElem?_eq_getElem h]
  rfl
theorem valAt_two {n lo hi : Int} {ns : List Int} {len : Nat} (hn : 1 ≤ n) (hlo : 0 ≤ lo) (hhi : hi = lo + len) (hle : hi ≤ ns.length) (h2 : 1 ≤ len) :
    valAt n ns ((lo + hi) / 2) (hi - (lo + hi) / 2).toNat * 2 ^ (((lo + hi) / 2 - lo) * n).toNat + valAt n ns lo ((lo + hi) / 2 - lo).toNat = valAt n ns lo len := by
  obtain ⟨i, j, hi1, hj1, hm, hl⟩ := mid_facts hlo hhi
  obtain ⟨k, hk⟩ := Int.eq_ofNat_of_zero_le (Int.le_trans (by decide) hn)
  subst hk
  have e3 : ((i : Int) * (k : Int)).toNat = k * i := by rw [show (i : Int) * (k : Int) = ((k * i : Nat) : Int) by rw [Int.natCast_mul, Int.mul_comm], Int.toNat_natCast]
  unfold valAt
  rw [hi1, hj1, hm, e3]
  simp only [Int.toNat_natCast]
  rw [hl, List.take_add, valOf_append, List.drop_drop]
  have hlt : ((ns.drop lo.toNat).take i).length = i := by rw [List.length_take, List.length_drop]; omega
  rw [hlt, Int.pow_mul, Int.add_comm, Int.mul_comm]
theorem shift_facts {n lo hi : Int} {len : Nat} (hn : 1 ≤ n) (hnl : n * (len : Int) ≤ 40000) (hhi : hi = lo + len) (h2 : 1 ≤ len) : 0 ≤ ((lo + hi) / 2 - lo) * n ∧ ((lo + hi) / 2 - lo) * n ≤ 40000 := by
  refine ⟨Int.mul_nonneg (by omega) (by omega), ?_⟩
  rw [Int.mul_comm]
  exact Int.le_trans (Int.mul_le_mul_of_nonneg_left (by omega) (by omega)) hnl
theorem inner6_use {w : World} {p : Program} {loose : List Str} {mean : ExcName → Option Value} {mg mb : Str → Option Value} {f c' cn ci cd D : Addr} {n : Int} {len : Nat} {dp un : Nat} {gd : Option (List Code)} {cnm : Str} {cs : Scope} {a : Addr} {ccd : Value} {cl : List (Str × Addr)} {outer : List Env} {A₀ : Around} {base h₀ : Heap} {L : Addr} {m : Str → Option Value} {rest : List (Addr × Obj)} {s : Shared} {Q E : Value → Shared → Prop}
    {qual : Str} {doc pm ctv : Value} {oc oN oD oI : Obj} {vsC : Array Value} {tC tn : Tok} {vs : List Value} {ns : List Int} {lo hi : Int} {t2 t3 : Tok} {nn : Nat} (C : ∀ len', len' < len → Inner6 w p loose mean mg mb f c' cn ci cd D n len')
    (B : Below A₀ base outer h₀) (F : Fr h₀ L s.heap m) (X : (K w.params).In h₀) (N : News h₀ L s.heap rest) (T : Top p loose mean mg mb h₀) (hk : cs.kind = .function) (C48 : CodeHd base 48 44) (hlt : (hi - lo).toNat < len) (hd : dp + (len + 1) < recursionLimit) (hu : un + (8 * len + 32) < cLine)
    (m0 : (D, W.listOf vs.toArray nn) ∈ rest) (m1 : (f, fnMade (Str.ofString "inner") qual par_i6 body_i6 scope_i6 [(Str.ofString "n", cn), (Str.ofString "inner", ci), (Str.ofString "digits", cd)] doc pm c' ctv) ∈ rest) (m2 : (c', oc) ∈ rest) (e1 : oc.data = .fields vsC) (e2 : vsC[1]? = some (.str qual tC))
    (m3 : (cn, oN) ∈ rest) (e3 : oN.data = .cell (some (.int n tn))) (m4 : (cd, oD) ∈ rest) (e4 : oD.data = .cell (some (.ref D))) (m5 : (ci, oI) ∈ rest) (e5 : oI.data = .cell (some (.ref f)))
    (hi' : IntsAre vs ns) (hib : InB n ns) (hlo : 0 ≤ lo) (hlh : lo < hi) (hle : hi ≤ ns.length) (h256 : ns.length ≤ 256) (hn : 1 ≤ n) (hnl : n * ns.length ≤ 40000)
    (ret : ∀ v t h' tk', Fr h₀ L h' m → News h₀ L h' rest → v = valAt n ns lo (hi - lo).toNat → bits v ≤ 40000 → Q (.int v t) { s with heap := h', toks := tk' }) :
    wpAny (model rw.prog w) (ktrTop dp un gd cnm cs L a ccd cl outer) (call (.ref f) [.int lo t2, .int hi t3]) Q E s :=
  C _ hlt _ _ _ _ _ _ _ _ _ _ _ _ _ _ _ _ _ _ _ _ _ _ _ _ _ _ _ _ _ _ _ _ _ _ _ nn B F X N T hk C48 (by omega) (by omega) m0 m1 m2 e1 e2 m3 e3 m4 e4 m5 e5 hi' hib hlo (by omega) (by omega) hle h256 hn hnl fun t h' tk' F' N' => ret _ t h' tk' F' N' rfl (valAt_bits hn hib hnl (by omega))
set_option maxHeartbeats 4000000 in
theorem inner6 {w : World} {p : Program} {loose : List Str} {mean : ExcName → Option Value} {mg mb : Str → Option Value} {f c' cn ci cd D : Addr} {n : Int} (len : Nat) (ih : ∀ len', len' < len → Inner6 w p loose mean mg mb f c' cn ci cd D n len') : Inner6 w p loose mean mg mb f c' cn ci cd D n len := by
  unfold Inner6
  k_fill
  intro dp un gd cnm cs a₀ ccd cl outer A₀ base h₀ L m rest s Q E qual doc pm ctv oc oN oD oI vsC tC tn vs ns lo hi t2 t3 nn B F X N T hk C48 hd hu m0 m1 m2 e1 e2 m3 e3 m4 e4 m5 e5 hi' hib hlo hhi hlen hle h256 hn hnl hret
  have hnl' : n * (len : Int) ≤ 40000 := Int.le_trans (Int.mul_le_mul_of_nonneg_left (by omega) (by omega)) hnl
  obtain ⟨s1, s2⟩ := shift_facts hn hnl' hhi hlen
  refine wpAny_call ?_
  k_dflt (refine' code_nest ?k1 ?k2 ?k3 ?k4 ?k5 ?kA ?kF ?kK ?k6 ?k7 ?k8 ?k9 ?kB ?_ ?c2 ?c3 ?c4 ?c5; (case kA => exact rfl); (case kF => exact rfl); (case kK => assumption); (case k1 => k_asm); (case k2 => k_asm); (case k3 => k_asm); (case k4 => k_asm); (case k5 => k_asm); (case k6 => exact m1); (case k7 => exact codeRec_news N m2 e1 e2); (case k8 => ktr_room); (case k9 => exact BindsTo.of_eq rfl); (case c5 => decide); (case kB => exact locs rfl); (case c2 => exact rfl); (case c3 => exact rfl); (case c4 => exact rfl); k_whole; intro g' L' h' FG' F' N' B' X' T'; (try dsimp only); (try k_lift B'); (try k_fold))
  dsimp only [body_i6, scope_i6, par_i6, lit]
  (repeat' (first | ((with_reducible show wpAny _ _ (call (Value.ref _) _ _) _ _ _); k_here; k_dflt (apply inner6_use; walk_at "cc"); intro _ _ _ _ _ _ _ _) | (k_unfold; (try dsimp only)) | (k_end; kc_close) | walk1 | (dsimp only; walk1) | (leave1; walk_say "STEP leave1"; (try dsimp only))))
  · obtain rfl : len = 1 := by omega
    rw [← valAt_one (n := n) (by omega)]
    exact hret _ _ _ (by assumption) (by assumption)
  · rename (_ = valAt n ns lo ((lo + hi) / 2 - lo).toNat) => ea
    rename (_ = valAt n ns ((lo + hi) / 2) (hi - (lo + hi) / 2).toNat) => eb
    rw [ea, eb, valAt_two (ns := ns) hn hlo hhi hle hlen]
    exact hret _ _ _ (by assumption) (by assumption)
theorem inner6_all {w : World} {p : Program} {loose : List Str} {mean : ExcName → Option Value} {mg mb : Str → Option Value} {f c' cn ci cd D : Addr} {n : Int} : ∀ len, Inner6 w p loose mean mg mb f c' cn ci cd D n len := by
  have all : ∀ k len, len < k → Inner6 w p loose mean mg mb f c' cn ci cd D n len := by
    intro k
    induction k with
    | zero => intro len h; exact absurd h (Nat.not_lt_zero _)
    | succ k ih => intro len h; exact inner6 len fun len' h' => ih len' (by omega)
  exact fun len => all (len + 1) len (Nat.lt_succ_self _)
end
section
open PySem PySem.W PySem.Calls PyProof.Rows PySem.Spec
set_option maxRecDepth 100000

set_option maxHeartbeats 4000000 in
theorem d2i_fresh {w : World} {p : Program} {loose : List Str} {mean : ExcName → Option Value} {mg mb : Str → Option Value} {n : Int} {t2 : Tok} {D : Addr} {vs : List Value} {ns : List Int} {nn : Nat} (hn : 1 ≤ n) (hnk : n * ns.length ≤ 40000) (h256 : ns.length ≤ 256) (hiv : IntsAre vs ns) (hib : InB n ns)
  (dp un : Nat) (gd : Option (List Code)) (cn : Str) (cs : Scope) (a₀ : Addr) (ccd : Value) (cl : List (Str × Addr)) (outer : List Env) (A₀ : Around) (base h₀ : Heap) (L : Addr) (m : Str → Option Value) (rest : List (Addr × Obj)) (s : Shared)
    (Q E : Value → Shared → Prop) (B : Below A₀ base outer h₀) (F : Fr h₀ L s.heap m) (X : (K w.params).In h₀) (N : News h₀ L s.heap ((44, tabObj #[]) :: rest)) (T : Top p loose mean mg mb h₀) (hk : cs.kind = .function) (hd : dp + 270 < recursionLimit) (hu : un + 3000 < cLine)
    (hL : 249 < L) (C48 : CodeHd base 48 44) (hr : ∀ p ∈ rest, p.1 ≠ 44) (hD : (D, W.listOf vs.toArray nn) ∈ rest)
    (hret : ∀ t h' tk' c' oc vc tc, Fr h₀ L h' m → News h₀ L h' ((44, tabObj (#[] ++ #[rawInt ((50 : Nat) : Int), rawInt ((4 : Nat) : Int), .ref c'])) :: (c', oc) :: rest) → oc.data = .fields vc → vc[1]? = some (.str (Str.ofString "_digits2int.<locals>.inner") tc) →
      Q (.int (valOf (2 ^ n.toNat) ns) t) { s with heap := h', toks := tk' }) :
    wpAny (model rw.prog w) (ktrTop dp un gd cn cs L a₀ ccd cl outer) (call (.ref 49) [.ref D, .int n t2]) Q E s := by
  revert X
  k_fill
  intro X
  refine wpAny_call ?_
  k_dflt (refine' code_defC ?k1 ?k2 ?k3 ?k4 ?k5 ?kA ?kF ?kK ?k6 ?k7 ?k8 ?k9 ?kB ?kD ?_ ?c2 ?c3 ?c4; (case kA => exact rfl); (case kF => exact rfl); (case kK => assumption); (case k1 => k_asm); (case k2 => k_asm); (case k3 => k_asm); (case k4 => k_asm); (case k5 => k_asm); (case k6 => k_is); (case k7 => k_is); (case k8 => ktr_room); (case k9 => exact BindsTo.of_eq rfl); (case kB => exact rfl); (case kD => decide +kernel); (case c2 => exact rfl); (case c3 => exact rfl); (case c4 => exact rfl); k_whole; intro g' L' h' tk' cells' FG' F' N' Y' B' X' T' l1; (try k_lt l1); k_cells Y'; (try simp only [List.cons_append, List.nil_append] at N'); (try dsimp only); (try k_lift B'); (try k_fold))
  obtain ⟨l1a, l1b⟩ := l1
  have l1c := all_of l1b
  dsimp only [body_s6, scope_s6, par_s6, lit]
  (repeat' (first | ((with_reducible show wpAny _ _ (call (Value.ref _) [_, _]) _ _ _); refine stop_intro ?_) | (k_here; (with_reducible show wpAny _ _ (call (Value.builtin _) [Value.ref _]) _ _ _); (with_unfolding_all refine len_ints_fit (News.isList (by k_asm) (by k_mem)) (by assumption) (by omega) ?_; k_whole)) | (k_here; (with_reducible show wpAny _ _ (truthy (Value.ref _)) _ _ _); (with_unfolding_all refine truthy_ints_fit (News.isList (by k_asm) (by k_mem)) (by assumption) (by omega) ?_; k_whole)) | (k_unfold; (try dsimp only)) | (k_end; kc_close) | walk1 | (dsimp only; walk1) | (leave1; walk_say "STEP leave1"; (try dsimp only))))
  · unfold Stop
    k_dflt (refine' inner6_use (len := ns.length + 1) (fun l _ => inner6_all l) ?B ?F ?X ?N ?T ?k ?c48 ?lt ?d ?u ?m0 ?m1 ?m2 ?e1 ?e2 ?m3 ?e3 ?m4 ?e4 ?m5 ?e5 ?i ?ib ?lo ?lh ?le ?l256 ?n1 ?nl ?_; (case B => k_asm); (case F => k_asm); (case X => k_asm); (case N => k_asm); (case T => k_asm); (case k => exact rfl); (case c48 => assumption); (case lt => omega); (case d => ktr_room); (case u => ktr_units); (case m0 => k_mem); (case m1 => exact List.Mem.head _); (case m2 => exact List.Mem.tail _ (List.Mem.head _)); (case e1 => assumption); (case e2 => assumption); (case m3 => k_mem); (case e3 => assumption); (case m4 => k_mem); (case e4 => assumption); (case m5 => k_mem); (case e5 => assumption); (case i => assumption); (case ib => assumption); (case lo => omega); (case lh => omega); (case le => omega); (case l256 => omega); (case n1 => assumption); (case nl => assumption))
    intro v' t' h' tk' F' N' ev' bv'
    have ev2 : v' = valOf (2 ^ n.toNat) ns := by
      rw [ev']
      unfold valAt
      rw [Int.sub_zero, Int.toNat_natCast]
      simp
    subst ev2
    k_steps
    refine hret _ _ _ _ _ _ _ (by assumption) (news_sub (by assumption) (List.forall_mem_cons.mpr ⟨by k_mem, List.forall_mem_cons.mpr ⟨by k_mem, ?sub⟩⟩)) (by assumption) (by assumption)
    case sub => intro x hx; repeat (first | exact hx | apply List.mem_cons_of_mem)
  · have h0 : ns = [] := by
      rename (¬ _) => hn0
      cases ns with
      | nil => rfl
      | cons => simp at hn0
    subst h0
    refine hret _ _ _ _ _ _ _ (by assumption) (news_sub (by assumption) (List.forall_mem_cons.mpr ⟨by k_mem, List.forall_mem_cons.mpr ⟨by k_mem, ?sub⟩⟩)) (by assumption) (by assumption)
    case sub => intro x hx; repeat (first | exact hx | apply List.mem_cons_of_mem)
end
section
open PySem PySem.W PySem.Calls PyProof.Rows PySem.Spec
set_option maxRecDepth 100000

set_option maxHeartbeats 4000000 in
theorem d2i_hit {w : World} {p : Program} {loose : List Str} {mean : ExcName → Option Value} {mg mb : Str → Option Value} {n : Int} {t2 : Tok} {D : Addr} {vs : List Value} {ns : List Int} {nn : Nat} (hn : 1 ≤ n) (hnk : n * ns.length ≤ 40000) (h256 : ns.length ≤ 256) (hiv : IntsAre vs ns) (hib : InB n ns)
  (dp un : Nat) (gd : Option (List Code)) (cn : Str) (cs : Scope) (a₀ : Addr) (ccd : Value) (cl : List (Str × Addr)) (outer : List Env) (A₀ : Around) (base h₀ : Heap) (L : Addr) (m : Str → Option Value) (rest : List (Addr × Obj)) (s : Shared)
    (Q E : Value → Shared → Prop) (B : Below A₀ base outer h₀) (F : Fr h₀ L s.heap m) (X : (K w.params).In h₀) (c' : Addr) (oc : Obj) (vc : Array Value) (tc : Tok) (N : News h₀ L s.heap ((44, tabObj (#[] ++ #[rawInt ((50 : Nat) : Int), rawInt ((4 : Nat) : Int), .ref c'])) :: (c', oc) :: rest)) (hoc : oc.data = .fields vc) (hvc : vc[1]? = some (.str (Str.ofString "_digits2int.<locals>.inner") tc)) (T : Top p loose mean mg mb h₀) (hk : cs.kind = .function) (hd : dp + 270 < recursionLimit) (hu : un + 3000 < cLine)
    (hL : 249 < L) (C48 : CodeHd base 48 44) (hr : ∀ p ∈ rest, p.1 ≠ 44) (hD : (D, W.listOf vs.toArray nn) ∈ rest)
    (hret : ∀ t h' tk', Fr h₀ L h' m → News h₀ L h' ((44, tabObj (#[] ++ #[rawInt ((50 : Nat) : Int), rawInt ((4 : Nat) : Int), .ref c'])) :: (c', oc) :: rest) →
      Q (.int (valOf (2 ^ n.toNat) ns) t) { s with heap := h', toks := tk' }) :
    wpAny (model rw.prog w) (ktrTop dp un gd cn cs L a₀ ccd cl outer) (call (.ref 49) [.ref D, .int n t2]) Q E s := by
  revert X
  k_fill
  intro X
  refine wpAny_call ?_
  k_dflt (refine' code_defC ?k1 ?k2 ?k3 ?k4 ?k5 ?kA ?kF ?kK ?k6 ?k7 ?k8 ?k9 ?kB ?kD ?_ ?c2 ?c3 ?c4; (case kA => exact rfl); (case kF => exact rfl); (case kK => assumption); (case k1 => k_asm); (case k2 => k_asm); (case k3 => k_asm); (case k4 => k_asm); (case k5 => k_asm); (case k6 => k_is); (case k7 => k_is); (case k8 => ktr_room); (case k9 => exact BindsTo.of_eq rfl); (case kB => exact rfl); (case kD => decide +kernel); (case c2 => exact rfl); (case c3 => exact rfl); (case c4 => exact rfl); k_whole; intro g' L' h' tk' cells' FG' F' N' Y' B' X' T' l1; (try k_lt l1); k_cells Y'; (try simp only [List.cons_append, List.nil_append] at N'); (try dsimp only); (try k_lift B'); (try k_fold))
  obtain ⟨l1a, l1d, l1b⟩ := l1
  have l1c := all_of l1b
  dsimp only [body_s6, scope_s6, par_s6, lit]
  (repeat' (first | ((with_reducible show wpAny _ _ (call (Value.ref _) [_, _]) _ _ _); refine stop_intro ?_) | (k_here; (with_reducible show wpAny _ _ (call (Value.builtin _) [Value.ref _]) _ _ _); (with_unfolding_all refine len_ints_fit (News.isList (by k_asm) (by k_mem)) (by assumption) (by omega) ?_; k_whole)) | (k_here; (with_reducible show wpAny _ _ (truthy (Value.ref _)) _ _ _); (with_unfolding_all refine truthy_ints_fit (News.isList (by k_asm) (by k_mem)) (by assumption) (by omega) ?_; k_whole)) | (k_unfold; (try dsimp only)) | (k_end; kc_close) | walk1 | (dsimp only; walk1) | (leave1; walk_say "STEP leave1"; (try dsimp only))))
  · unfold Stop
    k_dflt (refine' inner6_use (len := ns.length + 1) (fun l _ => inner6_all l) ?B ?F ?X ?N ?T ?k ?c48 ?lt ?d ?u ?m0 ?m1 ?m2 ?e1 ?e2 ?m3 ?e3 ?m4 ?e4 ?m5 ?e5 ?i ?ib ?lo ?lh ?le ?l256 ?n1 ?nl ?_; (case B => k_asm); (case F => k_asm); (case X => k_asm); (case N => k_asm); (case T => k_asm); (case k => exact rfl); (case c48 => assumption); (case lt => omega); (case d => ktr_room); (case u => ktr_units); (case m0 => k_mem); (case m1 => exact List.Mem.head _); (case m2 => k_mem); (case e1 => assumption); (case e2 => assumption); (case m3 => k_mem); (case e3 => assumption); (case m4 => k_mem); (case e4 => assumption); (case m5 => k_mem); (case e5 => assumption); (case i => assumption); (case ib => assumption); (case lo => omega); (case lh => omega); (case le => omega); (case l256 => omega); (case n1 => assumption); (case nl => assumption))
    intro v' t' h' tk' F' N' ev' bv'
    have ev2 : v' = valOf (2 ^ n.toNat) ns := by
      rw [ev']
      unfold valAt
      rw [Int.sub_zero, Int.toNat_natCast]
      simp
    subst ev2
    k_steps
    refine hret _ _ _ (by assumption) (news_sub (by assumption) (List.forall_mem_cons.mpr ⟨by k_mem, List.forall_mem_cons.mpr ⟨by k_mem, ?sub⟩⟩))
    case sub => intro x hx; repeat (first | exact hx | apply List.mem_cons_of_mem)
  · have h0 : ns = [] := by
      rename (¬ _) => hn0
      cases ns with
      | nil => rfl
      | cons => simp at hn0
    subst h0
    refine hret _ _ _ (by assumption) (news_sub (by assumption) (List.forall_mem_cons.mpr ⟨by k_mem, List.forall_mem_cons.mpr ⟨by k_mem, ?sub⟩⟩))
    case sub => intro x hx; repeat (first | exact hx | apply List.mem_cons_of_mem)
/-- the state of _digits2int's code table -/
noncomputable def Tab6 (ts : List (Addr × Obj)) : Prop :=
  ts = [(44, tabObj #[])] ∨ ∃ c' oc vc tc, ts = [(44, tabObj (#[] ++ #[rawInt ((50 : Nat) : Int), rawInt ((4 : Nat) : Int), .ref c'])), (c', oc)] ∧ oc.data = .fields vc ∧ vc[1]? = some (.str (Str.ofString "_digits2int.<locals>.inner") tc)
theorem d2i {w : World} {p : Program} {loose : List Str} {mean : ExcName → Option Value} {mg mb : Str → Option Value} {n : Int} {t2 : Tok} {D : Addr} {vs : List Value} {ns : List Int} {nn : Nat} (hn : 1 ≤ n) (hnk : n * ns.length ≤ 40000) (h256 : ns.length ≤ 256) (hiv : IntsAre vs ns) (hib : InB n ns)
  (dp un : Nat) (gd : Option (List Code)) (cn : Str) (cs : Scope) (a₀ : Addr) (ccd : Value) (cl : List (Str × Addr)) (outer : List Env) (A₀ : Around) (base h₀ : Heap) (L : Addr) (m : Str → Option Value) (ts rest : List (Addr × Obj)) (s : Shared)
    (Q E : Value → Shared → Prop) (B : Below A₀ base outer h₀) (F : Fr h₀ L s.heap m) (X : (K w.params).In h₀) (N : News h₀ L s.heap (ts ++ rest)) (T : Top p loose mean mg mb h₀) (hk : cs.kind = .function) (hd : dp + 270 < recursionLimit) (hu : un + 3000 < cLine)
    (hL : 249 < L) (C48 : CodeHd base 48 44) (hts : Tab6 ts) (hr : ∀ p ∈ rest, p.1 ≠ 44) (hD : (D, W.listOf vs.toArray nn) ∈ rest)
    (hret : ∀ t ts' h' tk', Tab6 ts' → Fr h₀ L h' m → News h₀ L h' (ts' ++ rest) → Q (.int (valOf (2 ^ n.toNat) ns) t) { s with heap := h', toks := tk' }) :
    wpAny (model rw.prog w) (ktrTop dp un gd cn cs L a₀ ccd cl outer) (call (.ref 49) [.ref D, .int n t2]) Q E s := by
  rcases hts with rfl | ⟨c', oc, vc, tc, rfl, h1, h2⟩
  · exact d2i_fresh hn hnk h256 hiv hib dp un gd cn cs a₀ ccd cl outer A₀ base h₀ L m rest s Q E B F X N T hk hd hu hL C48 hr hD fun t h' tk' c' oc vc tc F' N' e1 e2 => hret t _ h' tk' (.inr ⟨c', oc, vc, tc, rfl, e1, e2⟩) F' N'
  · exact d2i_hit hn hnk h256 hiv hib dp un gd cn cs a₀ ccd cl outer A₀ base h₀ L m rest s Q E B F X c' oc vc tc N h1 h2 T hk hd hu hL C48 hr hD fun t h' tk' F' N' => hret t _ h' tk' (.inr ⟨c', oc, vc, tc, rfl, h1, h2⟩) F' N'
end
section
open PySem PySem.W PySem.Calls PyProof.Rows PySem.Spec
set_option maxRecDepth 100000
noncomputable def forB : Stmt → List Stmt
  | .For _ _ b .. => b
  | _ => []
@[reducible] noncomputable def body_f7 : List Stmt := lit (show forB (nst 7 4) = _ by conv => lhs; whnf)

noncomputable def DivIn (x b : Int) : Prop := 0 ≤ x ∧ x < b * 2 ^ bits b
/-- the names at a turn's beginning -/
noncomputable def mC (z : Str → Option Value) (lq : Addr) (b n : Int) (tb tn : Tok) (aD qD : Option Value) (r : Int) (tr : Tok) : Str → Option Value := fun y =>
  if y = Str.ofString "a_digit" then aD else if y = Str.ofString "q_digit" then qD else if y = Str.ofString "r" then some (.int r tr) else if y = Str.ofString "q_digits" then some (.ref lq) else if y = Str.ofString "n" then some (.int n tn) else if y = Str.ofString "b" then some (.int b tb) else z y
noncomputable def qs (b B : Int) : Int → List Int → List Int
  | _, [] => []
  | r, d :: ds => (r * B + d).fdiv b :: qs b B ((r * B + d).fmod b) ds
noncomputable def rs (b B : Int) : Int → List Int → Int
  | r, [] => r
  | r, d :: ds => rs b B ((r * B + d).fmod b) ds
theorem fr_swap7 {g h : Heap} {L : Addr} {z : Str → Option Value} {lq : Addr} {b n : Int} {tb tn : Tok} {aD qD : Option Value} {r r' : Int} {tr tr' : Tok} {Qd : Value}
    (F : Fr g L h (fun y => if y = Str.ofString "r" then some (.int r' tr') else if y = Str.ofString "q_digit" then some Qd else if y = Str.ofString "a_digit" then aD else if y = Str.ofString "q_digit" then qD else if y = Str.ofString "r" then some (.int r tr) else if y = Str.ofString "q_digits" then some (.ref lq) else if y = Str.ofString "n" then some (.int n tn) else if y = Str.ofString "b" then some (.int b tb) else z y)) :
    Fr g L h (mC z lq b n tb tn aD (some Qd) r' tr') := by
  have e : (fun y => if y = Str.ofString "r" then some (.int r' tr') else if y = Str.ofString "q_digit" then some Qd else if y = Str.ofString "a_digit" then aD else if y = Str.ofString "q_digit" then qD else if y = Str.ofString "r" then some (.int r tr) else if y = Str.ofString "q_digits" then some (.ref lq) else if y = Str.ofString "n" then some (.int n tn) else if y = Str.ofString "b" then some (.int b tb) else z y) = mC z lq b n tb tn aD (some Qd) r' tr' := by
    funext y
    unfold mC
    have h1 : Str.ofString "r" ≠ Str.ofString "a_digit" := by decide
    have h2 : Str.ofString "r" ≠ Str.ofString "q_digit" := by decide
    have h3 : Str.ofString "q_digit" ≠ Str.ofString "a_digit" := by decide
    by_cases a1 : y = Str.ofString "r"
    · subst a1; simp [h1, h2]
    · by_cases a2 : y = Str.ofString "q_digit"
      · subst a2; simp [h3, a1]
      · simp [a1, a2]
  rw [← e]; exact F
set_option maxHeartbeats 4000000 in
theorem turn7 {w : World} {p : Program} {loose : List Str} {mean : ExcName → Option Value} {mg mb : Str → Option Value} {b n : Int} {tb tn : Tok} (hb : 0 < b) (hn : n = bits b) (hbb : bits b ≤ 7999) (dp un : Nat) (gd : Option (List Code)) (cn : Str) (cs : Scope) (a₀ : Addr) (ccd : Value) (cl : List (Str × Addr)) (outer : List Env) (base h₀ g' : Heap) (L L' : Addr) (m : Str → Option Value) (z : Str → Option Value) (lq I lt : Addr) (lobj it : Obj) (tail : List (Addr × Obj)) (s : Shared)
    (B' : Below (ktrTop dp un gd cn cs L a₀ ccd cl outer) base (envX cn cs L a₀ ccd cl :: outer) g') (X' : (K w.params).In g') (T' : Top p loose mean mg mb g') (hd : dp + 20 < recursionLimit) (hu : un + 200 < cLine) (hk : cs.kind = .function)
    (E : Value → Shared → Prop) (Q : Flow → Shared → Prop) (h : Heap) (tk : Tok) (r d : Int) (tr td : Tok) (qD : Option Value) (vq : List Value) (nq : Nat) (hr0 : 0 ≤ r) (hdi : DivIn (r * 2 ^ n.toNat + d) b) (br : bits r ≤ 8000) (vq256 : vq.length ≤ 256)
    (F : Fr g' L' h (mC z lq b n tb tn (some (.int d td)) qD r tr)) (N : News g' L' h ((I, it) :: (lq, W.listOf vq.toArray nq) :: (lt, lobj) :: tail)) (n1 : @LT.lt Nat _ lq I) (n2 : @LT.lt Nat _ lt lq) (n4 : ∀ q ∈ tail, q.1 ≠ lq) (n5 : ∀ q ∈ tail, q.1 ≠ I)
    (hret : ∀ h' tk' tq tr' t5, Fr g' L' h' (mC z lq b n tb tn (some (.int d td)) (some (.int ((r * 2 ^ n.toNat + d).fdiv b) tq)) ((r * 2 ^ n.toNat + d).fmod b) tr') → News g' L' h' ((I, it) :: (lq, W.listOf (vq ++ [Value.int ((r * 2 ^ n.toNat + d).fdiv b) t5]).toArray (nq + 1)) :: (lt, lobj) :: tail) → Q .next { s with heap := h', toks := tk' }) :
    wpAny (model rw.prog w) ((ktrTop dp un gd cn cs L a₀ ccd cl outer).deeper (envOf (Str.ofString "_divmod_pos") scope_s7 L' 56 (.ref 55))) (execs body_f7 (envOf (Str.ofString "_divmod_pos") scope_s7 L' 56 (.ref 55))) Q E { s with heap := h, toks := tk } := by
  revert X'
  k_fill
  intro X'
  dsimp only [body_f7, scope_s7, lit]
  unfold mC at F
  (repeat' (first | (k_here; (with_reducible show wpAny _ _ (call (Value.builtin _) [Value.ref _, _]) _ _ _); k_dflt (refine' append_K ?k1 ?k2 ?k3 ?_ ?z; (case k1 => k_asm); (case k2 => k_asm); (case k3 => k_upd); (case z => (rw [sizeLine_eq]; simp only [List.size_toArray]; omega)); k_whole); intro _ _ _; (try k_sweep)) | ((with_reducible show wpAny _ _ (call (Value.ref _) _ _) _ _ _); k_here; k_dflt (refine' pair_use ?_ ?_ ?_ ?_ ?_ ?_ (d21 ?_ ?_ ?_ ?c4 ?c5) ?_ ?_ ?_; (case c4 => exact And.left (by assumption : DivIn _ _)); (case c5 => exact And.right (by assumption : DivIn _ _)); walk_at "cc"); intro _ _ _ _ _ _ _; walk_at "lt") | (k_unfold; (try dsimp only)) | (k_end; kc_close) | walk1 | (dsimp only; walk1) | (leave1; walk_say "STEP leave1"; (try dsimp only))))
  rename Fr _ _ _ _ => F9
  rename News _ _ _ _ => N9
  simp only [List.push_toArray] at N9
  exact hret _ _ _ _ _ (fr_swap7 F9) (fun x hx => N9 x (List.mem_cons_of_mem _ hx))
end
section
open PySem PySem.W PySem.Calls PyProof.Rows PySem.Spec
set_option maxRecDepth 100000
theorem fr_first {g h : Heap} {L : Addr} {z : Str → Option Value} {lq : Addr} {b n : Int} {tb tn : Tok} {aD qD : Option Value} {r : Int} {tr : Tok} {v : Value}
    (F : Fr g L h (fun y => if y = Str.ofString "a_digit" then some v else mC z lq b n tb tn aD qD r tr y)) : Fr g L h (mC z lq b n tb tn (some v) qD r tr) := by
  have e : (fun y => if y = Str.ofString "a_digit" then some v else mC z lq b n tb tn aD qD r tr y) = mC z lq b n tb tn (some v) qD r tr := by
    funext y
    unfold mC
    by_cases h : y = Str.ofString "a_digit"
    · simp [h]
    · simp [h]
  rw [← e]; exact F
theorem div_in {r d b n : Int} (hn : n = bits b) (hb : 0 < b) (r0 : 0 ≤ r) (r1 : r < b) (d0 : 0 ≤ d) (d1 : d < 2 ^ n.toNat) : DivIn (r * 2 ^ n.toNat + d) b := by
  subst hn
  have e : ((bits b : Nat) : Int).toNat = bits b := by omega
  rw [e] at d1 ⊢
  have hp : (0 : Int) < 2 ^ bits b := Int.pow_pos (by decide)
  have h0 := Int.mul_nonneg r0 (Int.le_of_lt hp)
  have h1 := Int.mul_le_mul_of_nonneg_right (show r ≤ b - 1 by omega) (Int.le_of_lt hp)
  rw [Int.sub_mul, Int.one_mul] at h1
  exact ⟨by omega, by omega⟩
theorem qs_length (b B : Int) : ∀ (ds : List Int) (r : Int), (qs b B r ds).length = ds.length
  | [], _ => rfl
  | d :: ds, r => by rw [qs, List.length_cons, List.length_cons, qs_length b B ds]
set_option maxHeartbeats 4000000 in
theorem loop7 {w : World} {p : Program} {loose : List Str} {mean : ExcName → Option Value} {mg mb : Str → Option Value} {b n : Int} {tb tn : Tok} (hb : 0 < b) (hn : n = bits b) (hbb : bits b ≤ 7999) (dp un : Nat) (gd : Option (List Code)) (cn : Str) (cs : Scope) (a₀ : Addr) (ccd : Value) (cl : List (Str × Addr)) (outer : List Env) (base h₀ g' : Heap) (L L' : Addr) (m : Str → Option Value) (z : Str → Option Value) (lq I lt : Addr) (lobj : Obj) (tail : List (Addr × Obj)) (s : Shared)
    (B' : Below (ktrTop dp un gd cn cs L a₀ ccd cl outer) base (envX cn cs L a₀ ccd cl :: outer) g') (X' : (K w.params).In g') (T' : Top p loose mean mg mb g') (hd : dp + 20 < recursionLimit) (hu : un + 200 < cLine) (hk : cs.kind = .function)
    (E : Value → Shared → Prop) (Q : Flow → Shared → Prop) (n1 : @LT.lt Nat _ lq I) (n2 : @LT.lt Nat _ lt lq) (n4 : ∀ q ∈ tail, q.1 ≠ lq) (n5 : ∀ q ∈ tail, q.1 ≠ I) :
    ∀ (ds : List Int) (ws : List Value), IntsAre ws ds → (∀ d ∈ ds, 0 ≤ d ∧ d < 2 ^ n.toNat) → ∀ (aD qD : Option Value) (r : Int) (tr : Tok) (vq : List Value) (nq : Nat), 0 ≤ r → r < b → vq.length + ds.length ≤ 256 →
      (∀ h tk aD' qD' tr' vn, Fr g' L' h (mC z lq b n tb tn aD' qD' (rs b (2 ^ n.toNat) r ds) tr') → News g' L' h ((lq, W.listOf (vq ++ vn).toArray (nq + ds.length)) :: (lt, lobj) :: tail) → IntsAre vn (qs b (2 ^ n.toNat) r ds) → Q .next { s with heap := h, toks := tk }) →
      RevRest rw.prog w ((ktrTop dp un gd cn cs L a₀ ccd cl outer).deeper (envOf (Str.ofString "_divmod_pos") scope_s7 L' 56 (.ref 55))) E g' (envOf (Str.ofString "_divmod_pos") scope_s7 L' 56 (.ref 55)) (Str.ofString "a_digit") body_f7 Q s I (lt, lobj) ws (mC z lq b n tb tn aD qD r tr) ((lq, W.listOf vq.toArray nq) :: (lt, lobj) :: tail) := by
  intro ds
  induction ds with
  | nil =>
    intro ws hi _ aD qD r tr vq nq _ _ _ fin
    cases ws with
    | cons _ _ => cases hi
    | nil =>
      refine RevRest.zero fun h tk F N => ?_
      refine fin h tk aD qD tr [] F ?_ IntsAre.nil
      have N2 : News g' L' h ((lq, W.listOf vq.toArray nq) :: (lt, lobj) :: tail) := N
      simpa using N2
  | cons d ds ih =>
    intro ws hi hds aD qD r tr vq nq r0 r1 hl fin
    cases ws with
    | nil => cases hi
    | cons v ws =>
      cases hi with
      | cons _ td hi' =>
      have hd1 := hds d (List.mem_cons_self ..)
      simp only [List.length_cons] at hl
      refine RevRest.succ fun it h tk hc F N => ?_
      have hD := div_in hn hb r0 r1 hd1.1 hd1.2
      refine turn7 hb hn hbb dp un gd cn cs a₀ ccd cl outer base h₀ g' L L' m z lq I lt lobj it tail s B' X' T' hd hu hk E _ h tk r d tr td qD vq nq r0 hD ?_ (by omega) (fr_first F) N n1 n2 n4 n5 ?_
      · refine bits_le_of r0 ?_
        have h1 := lt_of_bits (show bits b ≤ 8000 by omega)
        omega
      · intro h' tk' tq tr' t5 F' N'
        refine ⟨h', tk', _, _, rfl, F', N', ?_, by simp, ?_⟩
        · intro q hq
          rcases List.mem_cons.mp hq with rfl | hq
          · exact Nat.ne_of_lt n1
          · rcases List.mem_cons.mp hq with rfl | hq
            · exact Nat.ne_of_lt (Nat.lt_trans n2 n1)
            · exact n5 q hq
        · refine ih ws hi' (fun x hx => hds x (List.mem_cons_of_mem _ hx)) _ _ _ _ _ _ ?_ ?_ ?_ ?_
          · exact Int.fmod_nonneg_of_pos _ hb
          · exact Int.fmod_lt_of_pos _ hb
          · simp only [List.length_append, List.length_cons, List.length_nil]; omega
          · intro h tk aD' qD' tr'' vn F'' N'' hvn
            refine fin h tk aD' qD' tr'' (Value.int ((r * 2 ^ n.toNat + d).fdiv b) t5 :: vn) F'' ?_ ?_
            · have e : vq ++ Value.int ((r * 2 ^ n.toNat + d).fdiv b) t5 :: vn = vq ++ [Value.int ((r * 2 ^ n.toNat + d).fdiv b) t5] ++ vn := by simp
              rw [e, List.length_cons, show nq + (ds.length + 1) = nq + 1 + ds.length by omega]
              exact N''
            · exact IntsAre.cons _ _ hvn
end
section
open PySem PySem.W PySem.Calls PyProof.Rows PySem.Spec
set_option linter.unusedVariables false
theorem valOf_snoc (B : Int) (xs : List Int) (d : Int) : valOf B (xs ++ [d]) = valOf B xs + B ^ xs.length * d := by
  rw [valOf_append]; simp [valOf]
theorem qs_law {b B : Int} (hb : 0 < b) : ∀ (ds : List Int) (r : Int), valOf B (qs b B r ds).reverse * b + rs b B r ds = r * B ^ ds.length + valOf B ds.reverse
  | [], r => by simp [qs, rs, valOf]
  | d :: ds, r => by
    have ih := qs_law (B := B) hb ds ((r * B + d).fmod b)
    have e := Int.mul_fdiv_add_fmod (r * B + d) b
    simp only [qs, rs, List.reverse_cons, valOf_snoc, List.length_reverse, qs_length, List.length_cons, Int.pow_succ]
    generalize (r * B + d).fdiv b = q at *
    generalize (r * B + d).fmod b = r' at *
    generalize B ^ ds.length = P at *
    have e2 : r' = r * B + d - b * q := by omega
    rw [e2] at ih ⊢
    grind
theorem rs_in {b B : Int} (hb : 0 < b) : ∀ (ds : List Int) (r : Int), 0 ≤ r → r < b → 0 ≤ rs b B r ds ∧ rs b B r ds < b
  | [], r, h0, h1 => ⟨h0, h1⟩
  | d :: ds, r, _, _ => rs_in hb ds _ (Int.fmod_nonneg_of_pos _ hb) (Int.fmod_lt_of_pos _ hb)
theorem qs_in {b n : Int} (hb : 0 < b) : ∀ (ds : List Int) (r : Int), 0 ≤ r → r < b → (∀ d ∈ ds, 0 ≤ d ∧ d < 2 ^ n.toNat) → ∀ q ∈ qs b (2 ^ n.toNat) r ds, 0 ≤ q ∧ q < 2 ^ n.toNat
  | [], _, _, _, _ => by simp [qs]
  | d :: ds, r, h0, h1, hd => by
    have hp : (0 : Int) < 2 ^ n.toNat := Int.pow_pos (by decide)
    have ih := qs_in hb ds ((r * 2 ^ n.toNat + d).fmod b) (Int.fmod_nonneg_of_pos _ hb) (Int.fmod_lt_of_pos _ hb) fun x hx => hd x (List.mem_cons_of_mem _ hx)
    have hd1 := hd d (List.mem_cons_self ..)
    intro q hq
    rcases List.mem_cons.mp hq with rfl | hq
    · have m0 := Int.mul_nonneg h0 (Int.le_of_lt hp)
      have m1 := Int.mul_le_mul_of_nonneg_right (show r ≤ b - 1 by omega) (Int.le_of_lt hp)
      rw [Int.sub_mul, Int.one_mul] at m1
      rw [Int.fdiv_eq_ediv_of_nonneg _ (Int.le_of_lt hb)]
      refine ⟨Int.ediv_nonneg (by omega) (by omega), Int.ediv_lt_of_lt_mul hb ?_⟩
      rw [Int.mul_comm (2 ^ n.toNat) b]
      omega
    · exact ih q hq
theorem digs_in {B : Int} (hB : 0 < B) : ∀ (k : Nat) (x : Int), ∀ d ∈ digs B k x, 0 ≤ d ∧ d < B
  | 0, _ => by simp [digs]
  | k + 1, x => by
    intro d hd
    rcases List.mem_cons.mp hd with rfl | hd
    · exact ⟨Int.emod_nonneg _ (Int.ne_of_gt hB), Int.emod_lt_of_pos _ hB⟩
    · exact digs_in hB k _ d hd
theorem dmp_law {a b n : Int} {k : Nat} (hb : 0 < b) (ha : 0 ≤ a) (hax : a < (2 ^ n.toNat) ^ k) :
    valOf (2 ^ n.toNat) (qs b (2 ^ n.toNat) 0 (digs (2 ^ n.toNat) k a).reverse).reverse = a.fdiv b ∧ rs b (2 ^ n.toNat) 0 (digs (2 ^ n.toNat) k a).reverse = a.fmod b := by
  have hp : (0 : Int) < 2 ^ n.toNat := Int.pow_pos (by decide)
  have e := qs_law (B := 2 ^ n.toNat) hb (digs (2 ^ n.toNat) k a).reverse 0
  rw [List.reverse_reverse, valOf_digs hp k a ha hax, Int.zero_mul, Int.zero_add] at e
  have h := rs_in (B := 2 ^ n.toNat) hb (digs (2 ^ n.toNat) k a).reverse 0 (Int.le_refl _) hb
  generalize valOf (2 ^ n.toNat) (qs b (2 ^ n.toNat) 0 (digs (2 ^ n.toNat) k a).reverse).reverse = q at *
  generalize rs b (2 ^ n.toNat) 0 (digs (2 ^ n.toNat) k a).reverse = r at *
  have e2 : a = q * b + r := by omega
  exact ⟨(fdiv_is hb e2 h.1 h.2).1.symm, (fdiv_is hb e2 h.1 h.2).2.symm⟩
/-- what the walk of _divmod_pos asks of its two numbers -/
theorem dmp_fits {a b : Int} (hb : 0 < b) (ha : 0 ≤ a) (hbb : bits b ≤ 7999) (hab : bits a + bits b ≤ 40000) (hk : bits a ≤ 255 * bits b) :
    ∃ k : Int, (1 : Int) ≤ (Builtin.Int.intBits b : Int) ∧ ((Builtin.Int.intBits a : Int) + (Builtin.Int.intBits b : Int) - 1).fdiv (Builtin.Int.intBits b : Int) = k ∧ 0 ≤ k ∧ k ≤ 256 ∧ bits (Builtin.Int.intBits b : Int) ≤ 9000 ∧
      (Builtin.Int.intBits b : Int) * k ≤ 40000 ∧ Lt5 a (Builtin.Int.intBits b : Int) k.toNat ∧ (a = 0 ∨ 1 ≤ k) := by
  have hB := (bits_low hb).2.2
  have hA := bits_lt (x := a)
  have hz : bits a = 0 → a = 0 := by intro h; rw [h] at hA; omega
  show ∃ k : Int, (1 : Int) ≤ (bits b : Int) ∧ ((bits a : Int) + (bits b : Int) - 1).fdiv (bits b : Int) = k ∧ 0 ≤ k ∧ k ≤ 256 ∧ bits (bits b : Int) ≤ 9000 ∧ (bits b : Int) * k ≤ 40000 ∧ Lt5 a (bits b : Int) k.toNat ∧ (a = 0 ∨ 1 ≤ k)
  have hs : bits ((bits b : Nat) : Int) ≤ 9000 := by
    refine bits_le_iff.mpr ?_
    have : (2 : Nat) ^ 13 ≤ 2 ^ 9000 := Nat.pow_le_pow_right (by decide) (show (13 : Nat) ≤ 9000 by omega)
    simp only [Int.natAbs_natCast]
    omega
  have hkey : (bits a : Int) ≤ (bits b : Int) * ((bits a : Int) + (bits b : Int) - 1).fdiv (bits b : Int) := by
    have e := Int.mul_fdiv_add_fmod ((bits a : Int) + (bits b : Int) - 1) (bits b : Int)
    have l := Int.fmod_lt_of_pos ((bits a : Int) + (bits b : Int) - 1) (show (0 : Int) < (bits b : Int) by omega)
    omega
  have hle : (bits b : Int) * ((bits a : Int) + (bits b : Int) - 1).fdiv (bits b : Int) ≤ (bits a : Int) + (bits b : Int) - 1 := by
    have e := Int.mul_fdiv_add_fmod ((bits a : Int) + (bits b : Int) - 1) (bits b : Int)
    have l := Int.fmod_nonneg_of_pos ((bits a : Int) + (bits b : Int) - 1) (show (0 : Int) < (bits b : Int) by omega)
    omega
  have h0 : 0 ≤ ((bits a : Int) + (bits b : Int) - 1).fdiv (bits b : Int) := Int.fdiv_nonneg (by omega) (by omega)
  generalize hq : ((bits a : Int) + (bits b : Int) - 1).fdiv (bits b : Int) = k at *
  refine ⟨k, by omega, rfl, h0, ?_, hs, by omega, ?_, ?_⟩
  · by_cases h : k ≤ 256
    · exact h
    · have := Int.mul_le_mul_of_nonneg_left (show (257 : Int) ≤ k by omega) (show (0 : Int) ≤ (bits b : Int) by omega)
      omega
  · unfold Lt5
    rw [Int.toNat_natCast, ← Int.pow_mul]
    refine lt_of_bits ?_
    have : ((bits b * k.toNat : Nat) : Int) = (bits b : Int) * k := by rw [Int.natCast_mul, Int.toNat_of_nonneg h0]
    omega
  · by_cases hk0 : k = 0
    · left; apply hz; rw [hk0] at hkey; simp at hkey; omega
    · right; omega
end
section
open PySem PySem.W PySem.Calls PyProof.Rows PySem.Spec
set_option maxRecDepth 100000


theorem offI_of {I : Addr} {it : Obj} : ∀ {l : List (Addr × Obj)}, (∀ p ∈ l, p.1 ≠ I) → OffI I it l
  | [], _ => trivial
  | p :: r, h => ⟨.inl (h p (List.mem_cons_self ..)), offI_of fun q hq => h q (List.mem_cons_of_mem _ hq)⟩
noncomputable def Far44 (l : List (Addr × Obj)) : Prop := ∀ q ∈ l, q.1 ≠ 44 ∧ q.1 ≠ 37
theorem tab6_no {t6 : List (Addr × Obj)} (h6 : Tab6 t6) : ∃ o r, t6 = (44, o) :: r := by
  rcases h6 with rfl | ⟨c', oc, vc, tc, rfl, _⟩ <;> exact ⟨_, _, rfl⟩
theorem code_ne {h₀ h : Heap} {L : Addr} {news : List (Addr × Obj)} {a c : Addr} {ps vc : Array Value} {oc : Obj} {n : Str} {tc : Tok} (N : News h₀ L h news) (h1 : (a, tabObj ps) ∈ news) (h2 : (c, oc) ∈ news) (hd : oc.data = .fields vc) (hv : vc[1]? = some (.str n tc))
    (hp : ∀ x t, ps[1]? ≠ some (.str x t)) : c ≠ a := by
  rintro rfl
  have e := (N _ h1).1.symm.trans (N _ h2).1
  have e2 : tabObj ps = oc := Option.some.inj e
  rw [← e2] at hd
  have e3 : ps = vc := by
    have : Data.fields ps = Data.fields vc := hd
    injection this
  exact hp _ _ (e3 ▸ hv)
theorem apart5 {h₀ h : Heap} {L : Addr} {t5 t6 rest : List (Addr × Obj)} (N : News h₀ L h (t5 ++ (t6 ++ rest))) (h5 : Tab5 t5) (h6 : Tab6 t6) (hr : Far44 rest) : ∀ q ∈ t6 ++ rest, q.1 ≠ 37 := by
  intro q hq
  rcases List.mem_append.mp hq with hq | hq
  · rcases h6 with rfl | ⟨c', oc, vc, tc, rfl, e1, e2⟩
    · rw [List.mem_singleton.mp hq]; decide
    · rcases List.mem_cons.mp hq with rfl | hq
      · exact (by decide : (44 : Nat) ≠ 37)
      · rw [List.mem_singleton.mp hq]
        rcases h5 with rfl | ⟨c2, oc2, vc2, tc2, rfl, _⟩
        · exact code_ne N (ps := #[]) (by simp) (by simp) e1 e2 (by intro x t; simp)
        · exact code_ne N (List.mem_append_left _ (List.mem_cons_self ..)) (by simp) e1 e2 (by intro x t; simp [rawInt])
  · exact (hr q hq).2
theorem apart6 {h₀ h : Heap} {L : Addr} {t5 t6 rest : List (Addr × Obj)} (N : News h₀ L h (t5 ++ (t6 ++ rest))) (h5 : Tab5 t5) (h6 : Tab6 t6) (hr : Far44 rest) : ∀ q ∈ t5 ++ rest, q.1 ≠ 44 := by
  intro q hq
  rcases List.mem_append.mp hq with hq | hq
  · rcases h5 with rfl | ⟨c', oc, vc, tc, rfl, e1, e2⟩
    · rw [List.mem_singleton.mp hq]; decide
    · rcases List.mem_cons.mp hq with rfl | hq
      · exact (by decide : (37 : Nat) ≠ 44) 
      · rw [List.mem_singleton.mp hq]
        rcases h6 with rfl | ⟨c2, oc2, vc2, tc2, rfl, _⟩
        · exact code_ne N (ps := #[]) (by simp) (by simp) e1 e2 (by intro x t; simp)
        · exact code_ne N (List.mem_append_right _ (List.mem_append_left _ (List.mem_cons_self ..))) (by simp) e1 e2 (by intro x t; simp [rawInt])
  · exact (hr q hq).1
theorem lt44 {l : Addr} {t6 rest : List (Addr × Obj)} (h6 : Tab6 t6) (h : ∀ q ∈ t6 ++ rest, @LT.lt Nat _ q.1 l) : @LT.lt Nat _ 44 l := by
  obtain ⟨o, r, rfl⟩ := tab6_no h6
  exact h (44, o) (by simp)
theorem news_6 {h₀ h : Heap} {L : Addr} {a b : Addr × Obj} {t5 t6 rest : List (Addr × Obj)} (N : News h₀ L h (a :: b :: (t5 ++ (t6 ++ rest)))) : News h₀ L h (t6 ++ (a :: b :: (t5 ++ rest))) := by
  intro q hq
  refine N q ?_
  simp only [List.mem_append, List.mem_cons] at hq ⊢
  grind
theorem news_56 {h₀ h : Heap} {L : Addr} {T a b : Addr × Obj} {t5 t6 rest : List (Addr × Obj)} (N : News h₀ L h (T :: (t6 ++ (a :: b :: (t5 ++ rest))))) : News h₀ L h (T :: (t5 ++ (t6 ++ rest))) := by
  intro q hq
  refine N q ?_
  simp only [List.mem_append, List.mem_cons] at hq ⊢
  grind
theorem mC_first {lq t' : Addr} {a b n : Int} {t1 t2 tn tr : Tok} {r : Int} {m : Str → Option Value} (e : m = fun y => if y = Str.ofString "q_digits" then some (.ref lq) else if y = Str.ofString "r" then some (.int r tr) else if y = Str.ofString "a_digits" then some (.ref t') else if y = Str.ofString "n" then some (.int n tn) else List.lookup y [(Str.ofString "b", .int b t2), (Str.ofString "a", .int a t1)]) :
    m = mC (fun y => if y = Str.ofString "a_digits" then some (.ref t') else List.lookup y [(Str.ofString "a", .int a t1)]) lq b n t2 tn none none r tr := by
  subst e
  funext y
  unfold mC
  by_cases c1 : y = Str.ofString "a_digit"
  · subst c1; rfl
  by_cases c2 : y = Str.ofString "q_digit"
  · subst c2; rfl
  by_cases c3 : y = Str.ofString "r"
  · subst c3; rfl
  by_cases c4 : y = Str.ofString "q_digits"
  · subst c4; rfl
  by_cases c5 : y = Str.ofString "n"
  · subst c5; rfl
  by_cases c6 : y = Str.ofString "b"
  · subst c6; rfl
  have c6' : (y == Str.ofString "b") = false := by simpa using c6
  simp [c1, c2, c3, c4, c5, c6, List.lookup_cons, c6']
set_option maxHeartbeats 4000000 in
theorem dmp {w : World} {p : Program} {loose : List Str} {mean : ExcName → Option Value} {mg mb : Str → Option Value} {a b : Int} {t1 t2 : Tok} {k : Int} (hb : 0 < b) (hbb : bits b ≤ 7999) (ha : 0 ≤ a)
  (hn : (1 : Int) ≤ (Builtin.Int.intBits b : Int)) (hkk : ((Builtin.Int.intBits a : Int) + (Builtin.Int.intBits b : Int) - 1).fdiv (Builtin.Int.intBits b : Int) = k) (hk0 : 0 ≤ k) (hk1 : k ≤ 256) (zk : bits (Builtin.Int.intBits b : Int) ≤ 9000) (hnk : (Builtin.Int.intBits b : Int) * k ≤ 40000) (hax : Lt5 a (Builtin.Int.intBits b : Int) k.toNat) (hak : a = 0 ∨ 1 ≤ k)
  (dp un : Nat) (gd : Option (List Code)) (cn : Str) (cs : Scope) (a₀ : Addr) (ccd : Value) (cl : List (Str × Addr)) (outer : List Env) (A₀ : Around) (base h₀ : Heap) (L : Addr) (m : Str → Option Value) (t5 t6 rest : List (Addr × Obj)) (s : Shared)
    (Q E : Value → Shared → Prop) (B : Below A₀ base outer h₀) (F : Fr h₀ L s.heap m) (X : (K w.params).In h₀) (N : News h₀ L s.heap (t5 ++ (t6 ++ rest))) (T : Top p loose mean mg mb h₀) (hk : cs.kind = .function) (hd : dp + 280 < recursionLimit) (hu : un + 3200 < cLine)
    (hL : 249 < L) (C41 : CodeHd base 41 37) (C48 : CodeHd base 48 44) (h5 : Tab5 t5) (h6 : Tab6 t6) (hr : Far44 rest)
    (hret : ∀ T u v t5' t6' h' tk', Tab5 t5' → Tab6 t6' → Fr h₀ L h' m → News h₀ L h' ((T, pairObj (a.fdiv b) (a.fmod b) u v) :: (t5' ++ (t6' ++ rest))) → (∀ q ∈ t5' ++ (t6' ++ rest), q.1 < T) → Q (.ref T) { s with heap := h', toks := tk' }) :
    wpAny (model rw.prog w) (ktrTop dp un gd cn cs L a₀ ccd cl outer) (call (.ref 56) [.int a t1, .int b t2]) Q E s := by
  have hr5 := apart5 N h5 h6 hr
  revert X
  k_fill
  intro X
  refine wpAny_call ?_
  k_dflt ktr_enter
  dsimp only [body_s7, scope_s7, par_s7, lit]
  refine let_A ?_
  intro A1
  (repeat' (first | ((with_reducible show wpAny _ _ (call (Value.ref _) _ _) _ _ _); k_here; k_dflt (apply i2d; walk_at "cc"); intro _ _ _ _ _ _ _ _ _ _ _) | (k_unfold; (try dsimp only)) | (k_end; kc_close) | walk1 | (dsimp only; walk1) | (leave1; walk_say "STEP leave1"; (try dsimp only))))
  rename Fr _ _ _ _ => F8
  rename News _ _ _ _ => N8
  rename IntsAre _ _ => iv
  rename_i l1
  obtain ⟨l1a, l1b, l1c⟩ := l1
  have l1d := all_of l1c
  rename (_ ∧ AllLt _ _) => l2
  obtain ⟨l2a, l2c⟩ := l2
  have l2d := all_of l2c
  rename (∀ q ∈ t6 ++ rest, q.1 < _) => f1
  rename Tab5 _ => tb5
  have F9 : Fr _ _ _ (mC _ _ _ _ _ _ _ _ _ _) := fr_cast (mC_first rfl) F8
  have hnn : ((Builtin.Int.intBits b : Nat) : Int) = bits b := rfl
  have hp2 : (0 : Int) < 2 ^ ((Builtin.Int.intBits b : Nat) : Int).toNat := Int.pow_pos (by decide)
  have len1 := iv.length
  rw [digs_length] at len1
  rename Below _ _ (_ :: _) _ => B8
  rename (K _).In _ => X8
  rename Top _ _ _ _ _ _ => T8
  have dsin : ∀ d ∈ (digs (2 ^ ((Builtin.Int.intBits b : Nat) : Int).toNat) k.toNat a).reverse, 0 ≤ d ∧ d < 2 ^ ((Builtin.Int.intBits b : Nat) : Int).toNat := fun d hd => digs_in hp2 _ _ d (List.mem_reverse.mp hd)
  have lt1 := lt44 h6 f1
  have lt2 := Nat.lt_trans lt1 l2a
  refine iter_revUnr rfl F9 N8 (offI_of ?off) (by k_mem) rfl rfl ?rest
  case off =>
    intro q hq
    simp only [List.mem_cons] at hq
    rcases hq with rfl | rfl | hq
    · exact Nat.ne_of_lt l1a
    · exact Nat.ne_of_lt l1b
    · exact Nat.ne_of_lt (l1d q hq)
  case rest =>
    refine loop7 hb hnn hbb dp un gd cn cs a₀ ccd cl outer base h₀ _ L _ m _ _ _ _ _ _ _ B8 X8 T8 (by omega) (by omega) hk _ _ l1a ?n2 ?n4 ?n5 _ _ iv.reverse ?ds _ _ 0 _ [] 0 (Int.le_refl _) hb ?hl ?fin
    case n2 => exact l2a
    case n4 => exact fun q hq => Nat.ne_of_lt (l2d q hq)
    case n5 => exact fun q hq => Nat.ne_of_lt (l1d q hq)
    case ds => exact dsin
    case hl => (rw [List.length_reverse, digs_length]; simp only [List.length_nil]; omega)
    case fin =>
      intro h9 tk9 aD9 qD9 tr9 vn F9' N9' iv9
      have dl := dmp_law (k := k.toNat) hb ha hax
      have lenq : (qs b (2 ^ ((Builtin.Int.intBits b : Nat) : Int).toNat) 0 (digs (2 ^ ((Builtin.Int.intBits b : Nat) : Int).toNat) k.toNat a).reverse).length = k.toNat := by rw [qs_length, List.length_reverse, digs_length]
      have lenv : vn.length ≤ 256 := by rw [iv9.length, lenq]; omega
      have ivr := iv9.reverse
      have qsin : InB ((Builtin.Int.intBits b : Nat) : Int) (qs b (2 ^ ((Builtin.Int.intBits b : Nat) : Int).toNat) 0 (digs (2 ^ ((Builtin.Int.intBits b : Nat) : Int).toNat) k.toNat a).reverse).reverse := fun q hq => qs_in hb _ 0 (Int.le_refl _) hb dsin q (List.mem_reverse.mp hq)
      have c2 : ((Builtin.Int.intBits b : Nat) : Int) * (qs b (2 ^ ((Builtin.Int.intBits b : Nat) : Int).toNat) 0 (digs (2 ^ ((Builtin.Int.intBits b : Nat) : Int).toNat) k.toNat a).reverse).reverse.length ≤ 40000 := by rw [List.length_reverse, lenq, Int.toNat_of_nonneg hk0]; exact hnk
      have c3 : (qs b (2 ^ ((Builtin.Int.intBits b : Nat) : Int).toNat) 0 (digs (2 ^ ((Builtin.Int.intBits b : Nat) : Int).toNat) k.toNat a).reverse).reverse.length ≤ 256 := by rw [List.length_reverse, lenq]; omega
      have ap6 : ∀ q ∈ _ ++ rest, q.1 ≠ 44 := apart6 (fun q hq => N9' q (List.mem_cons_of_mem _ (List.mem_cons_of_mem _ hq))) tb5 h6 hr
      simp only [List.nil_append] at N9'
      rw [dl.2] at F9'
      unfold mC at F9'
      dsimp only at F9' ⊢
      (repeat' (first | (k_here; (with_reducible show wpAny _ _ (call (Value.builtin _) [Value.ref _]) _ _ _); k_dflt (refine kl_reverse (by k_asm) (by k_asm) ((rfl : (List.toArray _).toList.reverse = List.reverse _)) (by k_upd) (Nat.le_trans (show List.length _ ≤ 256 by assumption) (by rw [sizeLine_eq]; omega)) ?_; k_whole); intro _ _ _; (try k_sweep)) | (k_unfold; (try dsimp only)) | (k_end; kc_close) | walk1 | (dsimp only; walk1) | (leave1; walk_say "STEP leave1"; (try dsimp only))))
      rename News _ _ _ _ => N10
      rename Tab5 _ => tb5
      refine' d2i (vs := vn.reverse) hn c2 c3 ivr qsin _ _ _ _ _ _ _ _ _ _ _ _ _ _ _ _ _ _ _ ?zB ?zF ?zX (news_6 N10) ?zT ?zk ?zd ?zu ?zhL C48 h6 ?zhr ?zhD ?_
      case zB => k_asm
      case zF => k_asm
      case zX => k_asm
      case zT => k_asm
      case zk => first | exact rfl | assumption
      case zd => ktr_room
      case zu => ktr_units
      case zhL => exact above_of (by k_asm) (by k_asm)
      case zhD => exact List.mem_cons_self ..
      case zhr => 
        intro q hq
        rcases List.mem_cons.mp hq with rfl | hq
        · exact Ne.symm (Nat.ne_of_lt lt2)
        · rcases List.mem_cons.mp hq with rfl | hq
          · exact Ne.symm (Nat.ne_of_lt lt1)
          · exact ap6 q hq
      intro t6v t6n h' tk' tb6 F' N'
      k_steps
      rename_i l3 kF kN Tc9 kX9
      rw [dl.1] at kN
      exact hret _ _ _ _ _ _ _ tb5 tb6 kF (news_56 kN) fun q hq => all_of l3 q (by simp only [List.mem_append, List.mem_cons] at hq ⊢; grind)
end
section
open PySem PySem.W PySem.Calls PyProof.Rows PySem.Spec
set_option maxRecDepth 100000
set_option linter.unusedVariables false

theorem dmpX {w : World} {p : Program} {loose : List Str} {mean : ExcName → Option Value} {mg mb : Str → Option Value} {a b : Int} {t1 t2 : Tok} (hb : 0 < b) (ha : 0 ≤ a) (hbb : bits b ≤ 7999) (hab : bits a + bits b ≤ 40000) (hkk : bits a ≤ 255 * bits b)
  (dp un : Nat) (gd : Option (List Code)) (cn : Str) (cs : Scope) (a₀ : Addr) (ccd : Value) (cl : List (Str × Addr)) (outer : List Env) (A₀ : Around) (base h₀ : Heap) (L : Addr) (m : Str → Option Value) (t5 t6 rest : List (Addr × Obj)) (s : Shared)
    (Q E : Value → Shared → Prop) (B : Below A₀ base outer h₀) (F : Fr h₀ L s.heap m) (X : (K w.params).In h₀) (N : News h₀ L s.heap (t5 ++ (t6 ++ rest))) (T : Top p loose mean mg mb h₀) (hk : cs.kind = .function) (hd : dp + 280 < recursionLimit) (hu : un + 3200 < cLine)
    (hL : 249 < L) (C41 : CodeHd base 41 37) (C48 : CodeHd base 48 44) (h5 : Tab5 t5) (h6 : Tab6 t6) (hr : Far44 rest)
    (hret : ∀ T u v t5' t6' h' tk', Tab5 t5' → Tab6 t6' → Fr h₀ L h' m → News h₀ L h' ((T, pairObj (a.fdiv b) (a.fmod b) u v) :: (t5' ++ (t6' ++ rest))) → (∀ q ∈ t5' ++ (t6' ++ rest), q.1 < T) → Q (.ref T) { s with heap := h', toks := tk' }) :
    wpAny (model rw.prog w) (ktrTop dp un gd cn cs L a₀ ccd cl outer) (call (.ref 56) [.int a t1, .int b t2]) Q E s := by
  obtain ⟨k, f1, f2, f3, f4, f5, f6, f7, f8⟩ := dmp_fits hb ha hbb hab hkk
  exact dmp hb hbb ha f1 f2 f3 f4 f5 f6 f7 f8 dp un gd cn cs a₀ ccd cl outer A₀ base h₀ L m t5 t6 rest s Q E B F X N T hk hd hu hL C41 C48 h5 h6 hr hret
set_option maxHeartbeats 4000000 in
theorem idm_pos {w : World} {p : Program} {loose : List Str} {mean : ExcName → Option Value} {mg mb : Str → Option Value} {a b : Int} {t1 t2 : Tok} (hb : 0 < b) (ha : 0 ≤ a) (hbb : bits b ≤ 7999) (hab : bits a + bits b ≤ 40000) (hkk : bits a ≤ 255 * bits b)
  (dp un : Nat) (gd : Option (List Code)) (cn : Str) (cs : Scope) (a₀ : Addr) (ccd : Value) (cl : List (Str × Addr)) (outer : List Env) (A₀ : Around) (base h₀ : Heap) (L : Addr) (m : Str → Option Value) (t5 t6 rest : List (Addr × Obj)) (s : Shared)
    (Q E : Value → Shared → Prop) (B : Below A₀ base outer h₀) (F : Fr h₀ L s.heap m) (X : (K w.params).In h₀) (N : News h₀ L s.heap (t5 ++ (t6 ++ rest))) (T : Top p loose mean mg mb h₀) (hk : cs.kind = .function) (hd : dp + 290 < recursionLimit) (hu : un + 3300 < cLine)
    (hL : 249 < L) (C41 : CodeHd base 41 37) (C48 : CodeHd base 48 44) (h5 : Tab5 t5) (h6 : Tab6 t6) (hr : Far44 rest)
    (hret : ∀ T u v t5' t6' h' tk', Tab5 t5' → Tab6 t6' → Fr h₀ L h' m → News h₀ L h' ((T, pairObj (a.fdiv b) (a.fmod b) u v) :: (t5' ++ (t6' ++ rest))) → (∀ q ∈ t5' ++ (t6' ++ rest), q.1 < T) → Q (.ref T) { s with heap := h', toks := tk' }) :
    wpAny (model rw.prog w) (ktrTop dp un gd cn cs L a₀ ccd cl outer) (call (.ref 63) [.int a t1, .int b t2]) Q E s := by
  have hb0 : b ≠ 0 := by omega
  revert X
  k_fill
  intro X
  refine wpAny_call ?_
  k_dflt ktr_enter
  dsimp only [body_s8, scope_s8, par_s8, lit]
  refine let_A ?_
  intro A1
  (repeat' (first | ((with_reducible show wpAny _ _ (call (Value.ref _) _ _) _ _ _); k_here; k_dflt (apply dmpX; walk_at "cc"); intro _ _ _ _ _ _ _ _ _ _ _; walk_at "lt") | (k_unfold; (try dsimp only)) | (k_end; kc_close) | walk1 | (dsimp only; walk1) | (leave1; walk_say "STEP leave1"; (try dsimp only))))
  · rename_i l1 kF kN Tc kX
    exact hret _ _ _ _ _ _ _ (by assumption) (by assumption) kF kN l1
theorem news_skip {h₀ h : Heap} {L : Addr} {a b : Addr × Obj} {r : List (Addr × Obj)} (N : News h₀ L h (a :: b :: r)) : News h₀ L h (a :: r) := fun q hq => by
  rcases List.mem_cons.mp hq with rfl | hq
  · exact N _ (List.mem_cons_self ..)
  · exact N q (List.mem_cons_of_mem _ (List.mem_cons_of_mem _ hq))
theorem bitNot_is (x : Int) : Builtin.bitNot x = -x - 1 := by unfold Builtin.bitNot; omega
theorem low_math {a b : Int} (hb : 0 < b) : Builtin.bitNot ((Builtin.bitNot a).fdiv b) = a.fdiv b ∧ b + Builtin.bitNot ((Builtin.bitNot a).fmod b) = a.fmod b := by
  have e := Int.mul_fdiv_add_fmod (Builtin.bitNot a) b
  have h0 := Int.fmod_nonneg_of_pos (Builtin.bitNot a) hb
  have h1 := Int.fmod_lt_of_pos (Builtin.bitNot a) hb
  simp only [bitNot_is] at *
  generalize (-a - 1).fdiv b = q at *
  generalize (-a - 1).fmod b = r at *
  have e2 : a = (-q - 1) * b + (b + (-r - 1)) := by grind
  have := fdiv_is hb e2 (by omega) (by omega)
  exact ⟨this.1.symm, this.2.symm⟩
set_option maxHeartbeats 4000000 in
theorem idm_low {w : World} {p : Program} {loose : List Str} {mean : ExcName → Option Value} {mg mb : Str → Option Value} {a b : Int} {t1 t2 : Tok} (hb : 0 < b) (ha : a < 0) (hbb : bits b ≤ 7999) (hab : bits a + bits b ≤ 40000) (hkk : bits a ≤ 255 * bits b)
  (dp un : Nat) (gd : Option (List Code)) (cn : Str) (cs : Scope) (a₀ : Addr) (ccd : Value) (cl : List (Str × Addr)) (outer : List Env) (A₀ : Around) (base h₀ : Heap) (L : Addr) (m : Str → Option Value) (t5 t6 rest : List (Addr × Obj)) (s : Shared)
    (Q E : Value → Shared → Prop) (B : Below A₀ base outer h₀) (F : Fr h₀ L s.heap m) (X : (K w.params).In h₀) (N : News h₀ L s.heap (t5 ++ (t6 ++ rest))) (T : Top p loose mean mg mb h₀) (hk : cs.kind = .function) (hd : dp + 300 < recursionLimit) (hu : un + 3400 < cLine)
    (hL : 249 < L) (C41 : CodeHd base 41 37) (C48 : CodeHd base 48 44) (h5 : Tab5 t5) (h6 : Tab6 t6) (hr : Far44 rest)
    (hret : ∀ T u v t5' t6' h' tk', Tab5 t5' → Tab6 t6' → Fr h₀ L h' m → News h₀ L h' ((T, pairObj (a.fdiv b) (a.fmod b) u v) :: (t5' ++ (t6' ++ rest))) → (∀ q ∈ t5' ++ (t6' ++ rest), q.1 < T) → Q (.ref T) { s with heap := h', toks := tk' }) :
    wpAny (model rw.prog w) (ktrTop dp un gd cn cs L a₀ ccd cl outer) (call (.ref 63) [.int a t1, .int b t2]) Q E s := by
  have hb0 : b ≠ 0 := by omega
  have za : bits (-a - 1) ≤ bits a := bits_le_iff.mpr (Nat.lt_of_le_of_lt (show (-a - 1).natAbs ≤ a.natAbs by omega) bits_lt)
  have c2 : 0 ≤ -a - 1 := by omega
  have c4 : bits (-a - 1) + bits b ≤ 40000 := by omega
  have c5 : bits (-a - 1) ≤ 255 * bits b := by omega
  revert X
  k_fill
  intro X
  refine wpAny_call ?_
  k_dflt ktr_enter
  dsimp only [body_s8, scope_s8, par_s8, lit]
  refine let_A ?_
  intro A1
  (repeat' (first | ((with_reducible show wpAny _ _ (call (Value.ref _) _ _) _ _ _); k_here; k_dflt (apply idm_pos; walk_at "cc"); intro _ _ _ _ _ _ _ _ _ _ _; walk_at "lt") | (k_unfold; (try dsimp only)) | (k_end; kc_close) | walk1 | (dsimp only; walk1) | (leave1; walk_say "STEP leave1"; (try dsimp only))))
  · rename_i l1 kF kN Tc kX
    rw [(low_math hb).1, (low_math hb).2] at kN
    exact hret _ _ _ _ _ _ _ (by assumption) (by assumption) kF (news_skip kN) (all_of l1.2)
theorem idm_b {w : World} {p : Program} {loose : List Str} {mean : ExcName → Option Value} {mg mb : Str → Option Value} {a b : Int} {t1 t2 : Tok} (hb : 0 < b) (hbb : bits b ≤ 7999) (hab : bits a + bits b ≤ 40000) (hkk : bits a ≤ 255 * bits b)
  (dp un : Nat) (gd : Option (List Code)) (cn : Str) (cs : Scope) (a₀ : Addr) (ccd : Value) (cl : List (Str × Addr)) (outer : List Env) (A₀ : Around) (base h₀ : Heap) (L : Addr) (m : Str → Option Value) (t5 t6 rest : List (Addr × Obj)) (s : Shared)
    (Q E : Value → Shared → Prop) (B : Below A₀ base outer h₀) (F : Fr h₀ L s.heap m) (X : (K w.params).In h₀) (N : News h₀ L s.heap (t5 ++ (t6 ++ rest))) (T : Top p loose mean mg mb h₀) (hk : cs.kind = .function) (hd : dp + 300 < recursionLimit) (hu : un + 3400 < cLine)
    (hL : 249 < L) (C41 : CodeHd base 41 37) (C48 : CodeHd base 48 44) (h5 : Tab5 t5) (h6 : Tab6 t6) (hr : Far44 rest)
    (hret : ∀ T u v t5' t6' h' tk', Tab5 t5' → Tab6 t6' → Fr h₀ L h' m → News h₀ L h' ((T, pairObj (a.fdiv b) (a.fmod b) u v) :: (t5' ++ (t6' ++ rest))) → (∀ q ∈ t5' ++ (t6' ++ rest), q.1 < T) → Q (.ref T) { s with heap := h', toks := tk' }) :
    wpAny (model rw.prog w) (ktrTop dp un gd cn cs L a₀ ccd cl outer) (call (.ref 63) [.int a t1, .int b t2]) Q E s := by
  by_cases ha : 0 ≤ a
  · exact idm_pos hb ha hbb hab hkk dp un gd cn cs a₀ ccd cl outer A₀ base h₀ L m t5 t6 rest s Q E B F X N T hk (by omega) (by omega) hL C41 C48 h5 h6 hr hret
  · exact idm_low hb (by omega) hbb hab hkk dp un gd cn cs a₀ ccd cl outer A₀ base h₀ L m t5 t6 rest s Q E B F X N T hk hd hu hL C41 C48 h5 h6 hr hret
theorem neg_math {a b : Int} (hb : b < 0) : (-a).fdiv (-b) = a.fdiv b ∧ -((-a).fmod (-b)) = a.fmod b := by
  have e1 := Int.neg_fdiv_neg a b
  have e := Int.mul_fdiv_add_fmod a b
  have e' := Int.mul_fdiv_add_fmod (-a) (-b)
  rw [e1] at e'
  refine ⟨e1, ?_⟩
  grind
set_option maxHeartbeats 4000000 in
theorem idm_neg {w : World} {p : Program} {loose : List Str} {mean : ExcName → Option Value} {mg mb : Str → Option Value} {a b : Int} {t1 t2 : Tok} (hb : b < 0) (hbb : bits b ≤ 7999) (hab : bits a + bits b ≤ 40000) (hkk : bits a ≤ 255 * bits b)
  (dp un : Nat) (gd : Option (List Code)) (cn : Str) (cs : Scope) (a₀ : Addr) (ccd : Value) (cl : List (Str × Addr)) (outer : List Env) (A₀ : Around) (base h₀ : Heap) (L : Addr) (m : Str → Option Value) (t5 t6 rest : List (Addr × Obj)) (s : Shared)
    (Q E : Value → Shared → Prop) (B : Below A₀ base outer h₀) (F : Fr h₀ L s.heap m) (X : (K w.params).In h₀) (N : News h₀ L s.heap (t5 ++ (t6 ++ rest))) (T : Top p loose mean mg mb h₀) (hk : cs.kind = .function) (hd : dp + 310 < recursionLimit) (hu : un + 3500 < cLine)
    (hL : 249 < L) (C41 : CodeHd base 41 37) (C48 : CodeHd base 48 44) (h5 : Tab5 t5) (h6 : Tab6 t6) (hr : Far44 rest)
    (hret : ∀ T u v t5' t6' h' tk', Tab5 t5' → Tab6 t6' → Fr h₀ L h' m → News h₀ L h' ((T, pairObj (a.fdiv b) (a.fmod b) u v) :: (t5' ++ (t6' ++ rest))) → (∀ q ∈ t5' ++ (t6' ++ rest), q.1 < T) → Q (.ref T) { s with heap := h', toks := tk' }) :
    wpAny (model rw.prog w) (ktrTop dp un gd cn cs L a₀ ccd cl outer) (call (.ref 63) [.int a t1, .int b t2]) Q E s := by
  have hb0 : b ≠ 0 := by omega
  have za : bits (-a) ≤ bits a := bits_le_iff.mpr (Nat.lt_of_le_of_lt (show (-a).natAbs ≤ a.natAbs by omega) bits_lt)
  have zb : bits (-b) ≤ bits b := bits_le_iff.mpr (Nat.lt_of_le_of_lt (show (-b).natAbs ≤ b.natAbs by omega) bits_lt)
  have zb2 : bits b ≤ bits (-b) := bits_le_iff.mpr (Nat.lt_of_le_of_lt (show b.natAbs ≤ (-b).natAbs by omega) bits_lt)
  have c3 : bits (-b) ≤ 7999 := by omega
  have c4 : bits (-a) + bits (-b) ≤ 40000 := by omega
  have c5 : bits (-a) ≤ 255 * bits (-b) := by omega
  revert X
  k_fill
  intro X
  refine wpAny_call ?_
  k_dflt ktr_enter
  dsimp only [body_s8, scope_s8, par_s8, lit]
  refine let_A ?_
  intro A1
  (repeat' (first | ((with_reducible show wpAny _ _ (call (Value.ref _) _ _) _ _ _); k_here; k_dflt (apply idm_b; walk_at "cc"); intro _ _ _ _ _ _ _ _ _ _ _; walk_at "lt") | (k_unfold; (try dsimp only)) | (k_end; kc_close) | walk1 | (dsimp only; walk1) | (leave1; walk_say "STEP leave1"; (try dsimp only))))
  · rename_i l1 kF kN Tc kX
    rw [(neg_math hb).1, (neg_math hb).2] at kN
    exact hret _ _ _ _ _ _ _ (by assumption) (by assumption) kF (news_skip kN) (all_of l1.2)
theorem idm {w : World} {p : Program} {loose : List Str} {mean : ExcName → Option Value} {mg mb : Str → Option Value} {a b : Int} {t1 t2 : Tok} (hb : b ≠ 0) (hbb : bits b ≤ 7999) (hab : bits a + bits b ≤ 40000) (hkk : bits a ≤ 255 * bits b)
  (dp un : Nat) (gd : Option (List Code)) (cn : Str) (cs : Scope) (a₀ : Addr) (ccd : Value) (cl : List (Str × Addr)) (outer : List Env) (A₀ : Around) (base h₀ : Heap) (L : Addr) (m : Str → Option Value) (t5 t6 rest : List (Addr × Obj)) (s : Shared)
    (Q E : Value → Shared → Prop) (B : Below A₀ base outer h₀) (F : Fr h₀ L s.heap m) (X : (K w.params).In h₀) (N : News h₀ L s.heap (t5 ++ (t6 ++ rest))) (T : Top p loose mean mg mb h₀) (hk : cs.kind = .function) (hd : dp + 310 < recursionLimit) (hu : un + 3500 < cLine)
    (hL : 249 < L) (C41 : CodeHd base 41 37) (C48 : CodeHd base 48 44) (h5 : Tab5 t5) (h6 : Tab6 t6) (hr : Far44 rest)
    (hret : ∀ T u v t5' t6' h' tk', Tab5 t5' → Tab6 t6' → Fr h₀ L h' m → News h₀ L h' ((T, pairObj (a.fdiv b) (a.fmod b) u v) :: (t5' ++ (t6' ++ rest))) → (∀ q ∈ t5' ++ (t6' ++ rest), q.1 < T) → Q (.ref T) { s with heap := h', toks := tk' }) :
    wpAny (model rw.prog w) (ktrTop dp un gd cn cs L a₀ ccd cl outer) (call (.ref 63) [.int a t1, .int b t2]) Q E s := by
  by_cases h : 0 < b
  · exact idm_b h hbb hab hkk dp un gd cn cs a₀ ccd cl outer A₀ base h₀ L m t5 t6 rest s Q E B F X N T hk (by omega) (by omega) hL C41 C48 h5 h6 hr hret
  · exact idm_neg (by omega) hbb hab hkk dp un gd cn cs a₀ ccd cl outer A₀ base h₀ L m t5 t6 rest s Q E B F X N T hk hd hu hL C41 C48 h5 h6 hr hret
end
end
section
open PySem PySem.W PySem.Calls PyProof.Rows PySem.Spec
local macro_rules | `(tactic| walk_at "binaryOp RShift int int") => `(tactic| (k_here; (with_reducible refine rshift_int ?kb1 ?_); (case kb1 => omega); (try rw [shr1]); (try rw [two_half]); (try rw [pow2k (by omega)])))
local macro_rules | `(tactic| walk_at "binaryOp BitAnd int int") => `(tactic| (k_here; (with_reducible refine and_int ?_); first | rw [pad_even] | rw [pad_odd] | rw [and_mask]))
section
open PySem PySem.W PySem.Calls PyProof.Rows PySem.Spec
set_option maxRecDepth 100000
set_option linter.unusedVariables false

noncomputable def ahead (a b c d : Int) : Int := a.fdiv b * d + if d < if 0 > a.fmod b - c then 0 else a.fmod b - c then d else if 0 > a.fmod b - c then 0 else a.fmod b - c
set_option maxHeartbeats 4000000 in
theorem law_ahead {w : World} {p : Program} {loose : List Str} {mean : ExcName → Option Value} {mg mb : Str → Option Value} {a b c d : Int} {t1 t2 t3 t4 : Tok} (hb : 0 < b) (hbb : bits b ≤ 9000) (zd : bits d ≤ 9000) (za : bits a ≤ 40000)
  (dp un : Nat) (gd : Option (List Code)) (cn : Str) (cs : Scope) (a₀ : Addr) (ccd : Value) (cl : List (Str × Addr)) (outer : List Env) (A₀ : Around) (base h₀ : Heap) (L : Addr) (m : Str → Option Value) (rest : List (Addr × Obj)) (s : Shared)
    (Q E : Value → Shared → Prop) (B : Below A₀ base outer h₀) (F : Fr h₀ L s.heap m) (X : (K w.params).In h₀) (N : News h₀ L s.heap rest) (T : Top p loose mean mg mb h₀) (hk : cs.kind = .function) (hd : dp + 20 < recursionLimit) (hu : un + 200 < cLine)
    (hret : ∀ t h' tk', Fr h₀ L h' m → News h₀ L h' rest → Q (.int (ahead a b c d) t) { s with heap := h', toks := tk' }) :
    wpAny (model rw.prog w) (ktrTop dp un gd cn cs L a₀ ccd cl outer) (call (.ref 244) [.int a t1, .int b t2, .int c t3, .int d t4]) Q E s := by
  revert X
  k_fill
  intro X
  refine wpAny_call ?_
  k_dflt ktr_enter
  dsimp only [body_s22, scope_s22, par_s22, lit]
  refine let_A ?_
  intro A1
  (repeat' (first | ((with_reducible show wpAny _ _ (binaryOp Operator.FloorDiv (Value.int _ _) (Value.int _ _)) _ _ _); k_here; (with_reducible refine floordiv_int ?kbe ?_ (Or.inl ?kbp)); (case kbe => omega); (case kbp => exact pylong_ok (by assumption))) | (k_unfold; (try dsimp only)) | (k_end; kc_close) | walk1 | (dsimp only; walk1) | (leave1; walk_say "STEP leave1"; (try dsimp only))))
  exact hret _ _ _ (by assumption) (by assumption)
end
section
open PySem PySem.W PySem.Calls PyProof.Rows PySem.Spec
set_option maxRecDepth 100000
set_option linter.unusedVariables false

noncomputable abbrev caps : List Int := [119808, 119860, 119912, 120016, 120172, 120224, 120276, 120328, 120380, 120432]
noncomputable abbrev smalls : List Int := [102, 105, 108, 115, 116]
noncomputable abbrev nothings : List Int := [173, 847, 6150, 6155, 6156, 6157, 8203, 8204, 8205, 8288, 65279, 65024, 65025, 65026, 65027, 65028, 65029, 65030, 65031, 65032, 65033, 65034, 65035, 65036, 65037, 65038, 65039]
noncomputable def sgn (x : Int) : Str :=
  if x.fmod 5 = 0 then Txt.item (Str.ofString "filst") ((x.fdiv 5).fmod 5)
  else if x.fmod 5 = 1 then Txt.item (Str.ofString "FILST") ((x.fdiv 5).fmod 5)
  else if x.fmod 5 = 2 then ⟨#[(caps.getD (((x.fdiv 5).fdiv 5).fmod 10).toNat 0 + smalls.getD ((x.fdiv 5).fmod 5).toNat 0 - 97).toNat]⟩
  else if x.fmod 5 = 3 then ⟨#[(64256 + (x.fdiv 5).fmod 7).toNat]⟩
  else ⟨#[(nothings.getD ((x.fdiv 5).fmod 27).toNat 0).toNat]⟩
noncomputable def ligs : List Str := [Str.ofString "ff", Str.ofString "fi", Str.ofString "fl", Str.ofString "ffi", Str.ofString "ffl", Str.ofString "st", Str.ofString "st"]
noncomputable def ltr (x : Int) : Str :=
  if x.fmod 5 ≤ 2 then Txt.item (Str.ofString "filst") ((x.fdiv 5).fmod 5)
  else if x.fmod 5 = 3 then ligs.getD ((x.fdiv 5).fmod 7).toNat (Str.ofString "")
  else Str.ofString ""
theorem caps_in {i : Int} (h0 : 0 ≤ i) (h1 : i < 10) : 119808 ≤ caps.getD i.toNat 0 ∧ caps.getD i.toNat 0 ≤ 120432 := by
  have : i = 0 ∨ i = 1 ∨ i = 2 ∨ i = 3 ∨ i = 4 ∨ i = 5 ∨ i = 6 ∨ i = 7 ∨ i = 8 ∨ i = 9 := by omega
  rcases this with rfl | rfl | rfl | rfl | rfl | rfl | rfl | rfl | rfl | rfl <;> decide
theorem smalls_in {i : Int} (h0 : 0 ≤ i) (h1 : i < 5) : 102 ≤ smalls.getD i.toNat 0 ∧ smalls.getD i.toNat 0 ≤ 116 := by
  have : i = 0 ∨ i = 1 ∨ i = 2 ∨ i = 3 ∨ i = 4 := by omega
  rcases this with rfl | rfl | rfl | rfl | rfl <;> decide
theorem nothings_in {i : Int} (h0 : 0 ≤ i) (h1 : i < 27) : 0 ≤ nothings.getD i.toNat 0 ∧ nothings.getD i.toNat 0 ≤ 1114111 := by
  have h : ∀ k : Nat, k < 27 → 0 ≤ nothings.getD k 0 ∧ nothings.getD k 0 ≤ 1114111 := by decide
  exact h _ (by omega)
theorem news_drop2 {h₀ h : Heap} {L : Addr} {a b c : Addr × Obj} {r : List (Addr × Obj)} (N : News h₀ L h (a :: b :: c :: r)) : News h₀ L h (a :: r) := fun q hq => by
  rcases List.mem_cons.mp hq with rfl | hq
  · exact N _ (List.mem_cons_self ..)
  · exact N q (List.mem_cons_of_mem _ (List.mem_cons_of_mem _ (List.mem_cons_of_mem _ hq)))
theorem news_drop1 {h₀ h : Heap} {L : Addr} {a b : Addr × Obj} {r : List (Addr × Obj)} (N : News h₀ L h (a :: b :: r)) : News h₀ L h (a :: r) := fun q hq => by
  rcases List.mem_cons.mp hq with rfl | hq
  · exact N _ (List.mem_cons_self ..)
  · exact N q (List.mem_cons_of_mem _ (List.mem_cons_of_mem _ hq))
noncomputable abbrev ligL (k0 k1 k2 k3 k4 k5 k6 : Tok) : List Value := [.str (Str.ofString "ff") k0, .str (Str.ofString "fi") k1, .str (Str.ofString "fl") k2, .str (Str.ofString "ffi") k3, .str (Str.ofString "ffl") k4, .str (Str.ofString "st") k5, .str (Str.ofString "st") k6]
theorem lig_at {k0 k1 k2 k3 k4 k5 k6 : Tok} {i : Int} (h0 : 0 ≤ i) (h1 : i < 7) : ∃ t, (ligL k0 k1 k2 k3 k4 k5 k6)[i.toNat]? = some (.str (ligs.getD i.toNat (Str.ofString "")) t) := by
  have : i = 0 ∨ i = 1 ∨ i = 2 ∨ i = 3 ∨ i = 4 ∨ i = 5 ∨ i = 6 := by omega
  rcases this with rfl | rfl | rfl | rfl | rfl | rfl | rfl <;> exact ⟨_, rfl⟩
theorem item_lig {prog : Program} {w : World} {A : Around} {E : Value → Shared → Prop} {s : Shared} {value slice : PySem.Expr} {l : Addr} {k0 k1 k2 k3 k4 k5 k6 : Tok} {i : Int} {u : Tok} {Q : Value → Shared → Prop} (hl : s.heap.IsList l (ligL k0 k1 k2 k3 k4 k5 k6).toArray) (h0 : 0 ≤ i) (h1 : i < 7)
    (h : ∀ t, Q (.str (ligs.getD i.toNat (Str.ofString "")) t) s) (hs : subscripted slice false (.ref l) (.int i u) = operate [.ref l, .int i u] (getItem (.ref l) (.int i u))) :
    wpAny (model prog w) A (subscriptTail value slice (.ref l) (.int i u)) Q E s := by
  obtain ⟨t, ht⟩ := lig_at (k0 := k0) (k1 := k1) (k2 := k2) (k3 := k3) (k4 := k4) (k5 := k5) (k6 := k6) h0 h1
  exact item_litK hl h0 (by omega) ht (h t) hs
set_option maxHeartbeats 4000000 in
theorem law_sign {w : World} {p : Program} {loose : List Str} {mean : ExcName → Option Value} {mg mb : Str → Option Value} {x : Int} {t1 : Tok} (hx0 : 0 ≤ x) (hxb : bits x ≤ 9000)
  (dp un : Nat) (gd : Option (List Code)) (cn : Str) (cs : Scope) (a₀ : Addr) (ccd : Value) (cl : List (Str × Addr)) (outer : List Env) (A₀ : Around) (base h₀ : Heap) (L : Addr) (m : Str → Option Value) (rest : List (Addr × Obj)) (s : Shared)
    (Q E : Value → Shared → Prop) (B : Below A₀ base outer h₀) (F : Fr h₀ L s.heap m) (X : (K w.params).In h₀) (N : News h₀ L s.heap rest) (T : Top p loose mean mg mb h₀) (hk : cs.kind = .function) (hd : dp + 20 < recursionLimit) (hu : un + 200 < cLine)
    (hret : ∀ D u v h' tk', Fr h₀ L h' m → News h₀ L h' ((D, { cls := .type "tuple", data := .seq #[.str (sgn x) u, .str (ltr x) v] }) :: rest) → (∀ q ∈ rest, q.1 < D) → Q (.ref D) { s with heap := h', toks := tk' }) :
    wpAny (model rw.prog w) (ktrTop dp un gd cn cs L a₀ ccd cl outer) (call (.ref 223) [.int x t1]) Q E s := by
  have m0 := Int.fmod_nonneg_of_pos x (b := 5) (by decide)
  have m1 := Int.fmod_lt_of_pos x (b := 5) (by decide)
  have c2 := caps_in (Int.fmod_nonneg_of_pos ((x.fdiv 5).fdiv 5) (b := 10) (by decide)) (Int.fmod_lt_of_pos _ (by decide))
  have c1 := smalls_in (Int.fmod_nonneg_of_pos (x.fdiv 5) (b := 5) (by decide)) (Int.fmod_lt_of_pos _ (by decide))
  have c70 := Int.fmod_nonneg_of_pos (x.fdiv 5) (b := 7) (by decide)
  have c71 := Int.fmod_lt_of_pos (x.fdiv 5) (b := 7) (by decide)
  have c4 := nothings_in (Int.fmod_nonneg_of_pos (x.fdiv 5) (b := 27) (by decide)) (Int.fmod_lt_of_pos _ (by decide))
  dsimp only [caps] at c2
  dsimp only [smalls] at c1
  revert X
  k_fill
  intro X
  refine wpAny_call ?_
  k_dflt ktr_enter
  dsimp only [body_s19, scope_s19, par_s19, lit]
  refine let_A ?_
  intro A1
  (repeat' (first | (k_here; (with_reducible show wpAny _ _ (call (Value.builtin "chr") [Value.int _ _]) _ _ _); k_dflt (refine chr_of_range (by omega) (by omega) ?_; k_whole)) | (k_unfold; (try dsimp only)) | (k_end; kc_close) | walk1 | (dsimp only; walk1) | (leave1; walk_say "STEP leave1"; (try dsimp only))))
  · rename (x.fmod 5 = 0) => h0
    have e1 : sgn x = Txt.item (Str.ofString "filst") ((x.fdiv 5).fmod 5) := by unfold sgn; rw [if_pos h0]
    have e2 : ltr x = Txt.item (Str.ofString "filst") ((x.fdiv 5).fmod 5) := by unfold ltr; rw [if_pos (by omega)]
    rename_i kF kN _ _
    rw [e1, e2] at hret
    exact hret _ _ _ _ _ kF (news_drop1 kN) (by (first | exact all_of (by assumption) | assumption | ((repeat (rename (_ ∧ _) => hh; obtain ⟨_, _⟩ := hh)); exact all_of (by assumption))))
  · rename (x.fmod 5 = 1) => h1
    have e1 : sgn x = Txt.item (Str.ofString "FILST") ((x.fdiv 5).fmod 5) := by unfold sgn; rw [if_neg (by omega), if_pos h1]
    have e2 : ltr x = Txt.item (Str.ofString "filst") ((x.fdiv 5).fmod 5) := by unfold ltr; rw [if_pos (by omega)]
    rename_i kF kN _ _
    rw [e1, e2] at hret
    exact hret _ _ _ _ _ kF (news_drop1 kN) (by (first | exact all_of (by assumption) | assumption | ((repeat (rename (_ ∧ _) => hh; obtain ⟨_, _⟩ := hh)); exact all_of (by assumption))))
  · rename (x.fmod 5 = 2) => h2
    have e1 : sgn x = ⟨#[(caps.getD (((x.fdiv 5).fdiv 5).fmod 10).toNat 0 + smalls.getD ((x.fdiv 5).fmod 5).toNat 0 - 97).toNat]⟩ := by unfold sgn; rw [if_neg (by omega), if_neg (by omega), if_pos h2]
    have e2 : ltr x = Txt.item (Str.ofString "filst") ((x.fdiv 5).fmod 5) := by unfold ltr; rw [if_pos (by omega)]
    rw [e1, e2] at hret
    rename_i kF kN _ _
    exact hret _ _ _ _ _ kF (news_drop2 kN) (by (first | exact all_of (by assumption) | assumption | ((repeat (rename (_ ∧ _) => hh; obtain ⟨_, _⟩ := hh)); exact all_of (by assumption))))
  · rename (x.fmod 5 = 3) => h3
    have e1 : sgn x = ⟨#[(64256 + (x.fdiv 5).fmod 7).toNat]⟩ := by unfold sgn; rw [if_neg (by omega), if_neg (by omega), if_neg (by omega), if_pos h3]
    have e2 : ltr x = ligs.getD ((x.fdiv 5).fmod 7).toNat (Str.ofString "") := by unfold ltr; rw [if_neg (by omega), if_pos h3]
    rw [e1, e2] at hret
    k_dflt (refine' item_lig ?zl c70 c71 ?_ ?zs; (case zl => is_list); (case zs => with_unfolding_all rfl))
    intro t9
    k_steps
    rename_i kF kN _ _
    exact hret _ _ _ _ _ kF (news_drop2 kN) (by (first | exact all_of (by assumption) | assumption | ((repeat (rename (_ ∧ _) => hh; obtain ⟨_, _⟩ := hh)); exact all_of (by assumption))))
  · have e1 : sgn x = ⟨#[(nothings.getD ((x.fdiv 5).fmod 27).toNat 0).toNat]⟩ := by unfold sgn; rw [if_neg (by omega), if_neg (by omega), if_neg (by omega), if_neg (by omega)]
    have e2 : ltr x = Str.ofString "" := by unfold ltr; rw [if_neg (by omega), if_neg (by omega)]
    rw [e1, e2] at hret
    rename CarriedAll _ _ => hc9
    rename Heap.IsList _ _ _ => hl9
    rename News _ _ _ _ => N9
    rename Fr _ _ _ _ => F9
    have iv := CarriedAll.intsOf hc9
    refine' kmk_add_ints F9 N9 ?za hl9 ?zi iv ?_ ?zz
    case za => exact News.isList N9 (by k_mem)
    case zi => l_ints
    case zz => decide
    intro D' us h' F' N' l1 iv'
    have el : ([173, 847, 6150, 6155, 6156, 6157, 8203, 8204, 8205, 8288, 65279] : List Int) ++ List.map (fun a => a) (rangeInts 65024 1 ((65040 : Int) - 65024).toNat) = nothings := by decide
    rw [el] at iv'
    dsimp only [nothings] at iv' c4
    (repeat' (first | (k_here; (with_reducible show wpAny _ _ (call (Value.builtin "chr") [Value.int _ _]) _ _ _); k_dflt (refine chr_of_range (by omega) (by omega) ?_; k_whole)) | (k_unfold; (try dsimp only)) | (k_end; kc_close) | walk1 | (dsimp only; walk1) | (leave1; walk_say "STEP leave1"; (try dsimp only))))
    rename_i kF kN _ _
    exact hret _ _ _ _ _ kF (news_drop1 (news_drop2 kN)) (by (first | exact all_of (by assumption) | assumption | ((repeat (rename (_ ∧ _) => hh; obtain ⟨_, _⟩ := hh)); exact all_of (by assumption))))
end
end
end
section
open PySem PySem.W PySem.Calls PyProof.Rows Builtin
set_option maxRecDepth 100000
set_option linter.unusedVariables false
noncomputable abbrev accObj (C dx : Addr) (its : Array Value) (n : Nat) : Obj := { cls := .ref C, dict := some dx, data := .seq its n }
noncomputable def lmakesIn (K : Frag) (C : Addr) : Bool := match K.lookup C with
  | some ⟨_, _, .cls cd, sl⟩ => !cd.abstract && !cd.hasDel && cd.hasDict && (sl.toList[4]?).join == some (.builtin "list.__new__") && !cd.mro.isEmpty && cd.mro.contains (.ref C) && cd.mro.contains (.type "list") &&
      specialIn K (.ref C) "__call__" == some (some (.builtin "type.__call__")) && instIn K (.ref C) (.type "type") == some true
  | _ => false
structure LMakes (M : Model) (h : Heap) (C : Addr) : Prop where
  obj : ∃ oc od cd sl, h.get? C = some ⟨oc, od, .cls cd, sl⟩ ∧ cd.abstract = false ∧ cd.hasDel = false ∧ cd.hasDict = true ∧ cd.mro.isEmpty = false
  made : Looks M h (Bind.madeBy (.ref C)) (some "list.__new__")
  base : Looks M h (Bind.staticBase (.ref C)) (.ref C)
  self : Looks M h (isSubtype (.ref C) (.ref C)) true
  top : Looks M h (isSubtype (.ref C) (.type "list")) true
  call : Looks M h (specialOf (.ref C) "__call__") (some (.builtin "type.__call__"))
  typ : Looks M h (isInstance (.ref C) (.type "type")) true
theorem lmakes_of {K : Frag} {M : Model} {h : Heap} (X : K.In h) {C : Addr} (e : lmakesIn K C = true) : LMakes M h C := by
  unfold lmakesIn at e
  split at e
  · rename_i oc od cd sl ho
    simp only [Bool.and_eq_true, Bool.not_eq_true', beq_iff_eq] at e
    obtain ⟨⟨⟨⟨⟨⟨⟨⟨e1, e2⟩, ed⟩, e3⟩, e4⟩, e5⟩, e6⟩, e7⟩, e8⟩ := e
    have hc : clsIn K C = some cd := by unfold clsIn; rw [ho]
    have hm : Looks M h (mroOf (.ref C)) cd.mro := (looks_clsIn X hc).andThen .now
    obtain ⟨c, l, hl⟩ : ∃ c l, cd.mro = c :: l := by cases q : cd.mro with | nil => rw [q] at e4; cases e4 | cons c l => exact ⟨c, l, rfl⟩
    have made : Looks M h (Bind.madeBy (.ref C)) (some "list.__new__") := by
      intro A Q E s k q
      unfold Bind.madeBy
      refine wpAny_bind (hm A _ E s k ?_)
      rw [hl, List.forIn_cons]
      refine wpAny_bind (wpAny_bind (wpAny_bind (wpAny_bind (wpAny_loadPart (k _ _ (X _ _ ho)) (wpAny_pure ?_)))))
      dsimp only
      rw [← Array.getElem?_toList, e3]
      exact wpAny_pure (wpAny_pure (wpAny_pure q))
    refine ⟨⟨oc, od, cd, sl, X _ _ ho, e1, e2, ed, e4⟩, made, ?_, looks_mroIn X ?_, looks_mroIn X ?_, looks_specialIn X e7, looks_instIn X e8⟩
    · intro A Q E s k q
      unfold Bind.staticBase
      refine wpAny_bind (hm A _ E s k ?_)
      rw [hl, List.forIn_cons]
      exact wpAny_bind (wpAny_bind (wpAny_bind (made A _ E s k (wpAny_pure (wpAny_pure (wpAny_pure q))))))
    · unfold mroIn; rw [hc, Option.bind_some, if_neg (by rw [e4]; decide), e5]
    · unfold mroIn; rw [hc, Option.bind_some, if_neg (by rw [e4]; decide), e6]
  · cases e
theorem ln_kind : builtinKind "list.__new__" = some .builtinFn := by decide +kernel
theorem ln_split : splitId "list.__new__" = some ("list", "__new__") := by decide +kernel
theorem ln_quiet : ("list.__new__" : String).startsWith "lifetime." = false := by decide +kernel
theorem ln_row : Manifest.signature? "list.__new__" = some ⟨.any, "list", "list", .cls, [⟨"args", .varPos, false⟩, ⟨"kwargs", .varKw, false⟩]⟩ := by kernel_rfl
section
variable {prog : Program} {w : World} {A : Around} {K : Frag} {C : Addr} {R : Result → Shared → Prop} {h : Heap} {g : Array GenState} {d : Drawn} {t : Nat} {os : OsState}
theorem ln_check {rest : List Value} {E : Value → Shared → Prop} {Q : Unit → Shared → Prop} (Y : LMakes (model prog w) h C) (hq : Q () ⟨h, g, d, t, os⟩) :
    wpAny (model prog w) A (checkBuiltinCall "list.__new__" ⟨.ref C :: rest, []⟩) Q E ⟨h, g, d, t, os⟩ := by
  obtain ⟨⟨oc, od, cd, sl, hC, e1, e2, ed, e4⟩, made, base, self, top, call, typ⟩ := Y
  have hs := ln_row
  have hchk : Bind.checkArgs "list.__new__" ⟨.any, "list", "list", .cls, [⟨"args", .varPos, false⟩, ⟨"kwargs", .varKw, false⟩]⟩ ⟨.ref C :: rest, []⟩ = pure () := by kernel_rfl
  simp only [checkBuiltinCall, ln_kind, ln_split, hs]
  rw [hchk]
  repeat (first | simp only [bne_self_eq_false, Bool.false_eq_true, if_false, Bool.not_true] | lk)
  all_goals exact hq
theorem lnew_K {rest : List Value} (Y : LMakes (model prog w) h C)
    (hq : R (.ok (.ret (.ref (h.objs.size + 1)))) ⟨(h.push emptyDict).push (accObj C h.objs.size #[] 0), g, d, t, os⟩) :
    codeAny (model prog w) A (.call (.builtin "list.__new__") ⟨.ref C :: rest, []⟩) R ⟨h, g, d, t, os⟩ := by
  refine codeAny_of_tree ?_
  show wpAny _ A.in1 (do checkBuiltinCall "list.__new__" ⟨.ref C :: rest, []⟩; again (.builtin "list.__new__" ⟨.ref C :: rest, []⟩)) _ _ _
  refine wpAny_bind (ln_check Y (wpAny_pure ⟨Code.quiet_builtin _ ln_quiet, codeAny_builtin_stack F.entry_list_new rfl fun p st => ?_⟩))
  obtain ⟨⟨oc, od, cd, sl, hC, e1, e2, ed, e4⟩, made, base, self, top, call, typ⟩ := Y
  have hown := owner_list_new
  simp only [hown]
  repeat (first | simp only [Bool.false_eq_true, if_false, Bool.not_true] | lk)
  refine nd_load (Heap.get?_push_of_some _ (Heap.get?_push_of_some _ hC)) ?_
  refine wpAny_pure ?_
  show wpAny _ _ (pure cd.hasDel) _ _ _
  rw [e2]
  refine wpAny_pure ?_
  rw [if_neg (by decide)]
  refine wpAny_pure (wpAny_pure ?_)
  rw [Heap.size_push]
  exact hq
theorem lmake_core {rest : List Value} {init : Value} (Y : LMakes (model prog w) h C) (hi : Looks (model prog w) h (typeLookup (.ref C) "__init__") (some init))
    (hb : ∀ self, Looks (model prog w) h (bindSpecial init self) (init, [self]))
    (hq : codeAny (model prog w) (A.under (.builtin "type.__call__" ⟨.ref C :: rest, []⟩)) (.call init ⟨.ref (h.objs.size + 1) :: rest, []⟩) (InitBack (h.objs.size + 1) R) ⟨(h.push emptyDict).push (accObj C h.objs.size #[] 0), g, d, t, os⟩) :
    codeAny (model prog w) A (.call (.ref C) ⟨rest, []⟩) R ⟨h, g, d, t, os⟩ := by
  have Y' := Y
  obtain ⟨⟨oc, od, cd, sl, hC, e1, e2, ed, e4⟩, made, base, self, top, call, typ⟩ := Y
  refine codeAny_of_tree ?_
  show wpAny _ _ (callAny (.ref C) _) _ _ _
  refine nd_load hC ?_
  show wpAny _ _ (callAny.viaDunder (.ref C) _) _ _ _
  unfold callAny.viaDunder
  refine wpAny_bind (call.at ?_)
  dsimp only
  rw [tc_bind]
  refine wpAny_bind (wpAny_pure (wpAny_bind (wpAny_pure ?_)))
  refine wpAny_pure (a := Fin.again (.call (.builtin "type.__call__") ⟨.ref C :: rest, []⟩)) (And.intro rfl ?_)
  refine codeAny_call_builtin_at (Code.quiet_builtin _ (by decide +kernel)) entry_typeCall (check_slot tc_kind tc_split typ (tc_args _ _ _) ?_)
  unfold Builtin.«type.__call__»
  have hm : Looks (model prog w) h (mroOf (.ref C)) cd.mro := ((Looks.ld (part := none) hC).andThen .now).andThen .now
  repeat (first | simp only [e4, Bool.false_eq_true, if_false] | with_reducible refine wpAny_call ?_ | lk)
  refine lnew_K Y' ?_
  have k : ∀ b o, h.get? b = some o → ((h.push emptyDict).push (accObj C h.objs.size #[] 0)).get? b = some o := fun b o e => Heap.get?_push_of_some _ (Heap.get?_push_of_some _ e)
  have hx : ((h.push emptyDict).push (accObj C h.objs.size #[] 0)).get? (h.objs.size + 1) = some (accObj C h.objs.size #[] 0) := by heap_get
  have t1 : Looks (model prog w) ((h.push emptyDict).push (accObj C h.objs.size #[] 0)) (typeOf (.ref (h.objs.size + 1))) (.ref C) := (Looks.ld hx).andThen .now
  have s1 := self.keeps k
  have i1 := hi.keeps k
  have b1 := (hb (.ref (h.objs.size + 1))).keeps k
  unfold isInstance callSpecial? specialOf
  repeat (first | with_reducible refine wpAny_call ?_ | lk)
  refine codeAny_mono hq fun r s' z => ?_
  rcases r with e | (v | _ | _ | _) <;> first | exact z | exact z.elim | skip
  obtain ⟨rfl, z⟩ := z
  exact wpAny_pure (wpAny_pure z)
end
section
variable {prog : Program} {w : World} {A : Around} {K : Frag} {C x : Addr} {s : Shared} {h₀ : Heap} {L : Addr} {m : Str → Option Value} {news : List (Addr × Obj)} {R : Result → Shared → Prop}
theorem lmake_K {rest : List Value} {fI : Addr} (F : Fr h₀ L s.heap m) (N : News h₀ L s.heap news) (X : K.In s.heap) (hm : lmakesIn K C = true)
    (hi : findIn K (.ref C) "__init__" = some (some (.ref fI))) (hf : typeIn K (.ref fI) = some (.type "function"))
    (h : ∀ x dx h', Fr h₀ L h' m → News h₀ L h' ((x, accObj C dx #[] 0) :: (dx, emptyDict) :: news) → (∀ p ∈ news, p.1 < dx) → dx < x →
      codeAny (model prog w) (A.under (.builtin "type.__call__" ⟨.ref C :: rest, []⟩)) (.call (.ref fI) ⟨.ref x :: rest, []⟩) (InitBack x R) { s with heap := h' }) :
    codeAny (model prog w) A (.call (.ref C) ⟨rest, []⟩) R s := by
  obtain ⟨hh, g, d, t, os⟩ := s
  refine lmake_core (lmakes_of X hm) (looks_findIn X hi) (fun self => bind_fn X self hf) (h _ hh.objs.size _ ((F.push _).push _) ?_ (fun p hp => Heap.lt_size (N p hp).1) (Nat.lt_succ_self _))
  have := (N.push F emptyDict).push (F.push _) (accObj C hh.objs.size #[] 0)
  rwa [Heap.size_push] at this
end
end
section
open PySem PySem.W PySem.Calls PyProof.Rows Builtin Builtin.ObjectAttr Builtin.Getset_descriptor
set_option maxRecDepth 100000
set_option linter.unusedVariables false
section
variable {prog : Program} {w : World} {A : Around} {E : Value → Shared → Prop} {s : Shared} {K : Frag} {c mc : Value} {name : Str} {x C : Addr} {ox : Obj} {od : Option Obj} {pl : Sem Bool} {Q : Value × List Value → Shared → Prop}
theorem canon_lga : (Manifest.canonical "list.__getattribute__" != "object.__getattribute__") = false := by decide +kernel
theorem method_fnL {f : Addr} (X : K.In s.heap) (I : InstAt s.heap x ox C od) (hga : findIn K (.ref C) "__getattribute__" = some (some (.builtin "list.__getattribute__"))) (hk : findIn K (.ref C) "__getattr__" = some none)
    (hf : findIn K (.ref C) name = some (some (.ref f))) (ht : typeIn K (.ref f) = some (.type "function")) (hs : shadowIn od name = some false) (h : Q (.ref f, [.ref x]) s) :
    wpAny (model prog w) A (getMethod (.ref x) name pl) Q E s := by
  have hcan := canon_lga
  unfold getMethod specialOf
  refine wpAny_bind (wpAny_bind (I.type.here ((looks_findIn X hga).here ?_)))
  dsimp only
  rw [hcan, if_neg (by decide)]
  refine wpAny_bind (wpAny_bind (I.type.here ((looks_findIn X hk).here ?_)))
  refine wpAny_bind (wpAny_bind (I.type.here ((looks_findIn X hf).here (wpAny_bind ((looks_typeIn X ht).here ?_)))))
  rw [if_neg (by decide +kernel)]
  refine wpAny_bind (wpAny_loadPart I.at_ ?_)
  have hd := I.dict
  cases e : ox.dict with
  | none => exact wpAny_bind (wpAny_rule (wpAny_pure h))
  | some dx =>
    cases od with
    | none => rw [e] at hd; exact hd.elim
    | some o =>
      rw [e] at hd
      obtain ⟨r, a, b⟩ := Option.map_eq_some_iff.mp hs
      refine wpAny_bind (wpAny_bind (wpAny_loadPart hd ?_))
      rw [nsLook_of a]
      refine wpAny_pure ?_
      rw [b]
      exact wpAny_bind (wpAny_rule (wpAny_pure h))
/-- a method of a built-in class above, read off an instance -/
theorem method_bi {id : String} (X : K.In s.heap) (I : InstAt s.heap x ox C od) (hga : findIn K (.ref C) "__getattribute__" = some (some (.builtin "list.__getattribute__"))) (hk : findIn K (.ref C) "__getattr__" = some none)
    (hf : findIn K (.ref C) name = some (some (.builtin id))) (ht : typeOf (.builtin id) = pure (.type "method_descriptor")) (hs : shadowIn od name = some false) (h : Q (.builtin id, [.ref x]) s) :
    wpAny (model prog w) A (getMethod (.ref x) name pl) Q E s := by
  have hcan := canon_lga
  unfold getMethod specialOf
  refine wpAny_bind (wpAny_bind (I.type.here ((looks_findIn X hga).here ?_)))
  dsimp only
  rw [hcan, if_neg (by decide)]
  refine wpAny_bind (wpAny_bind (I.type.here ((looks_findIn X hk).here ?_)))
  refine wpAny_bind (wpAny_bind (I.type.here ((looks_findIn X hf).here (wpAny_bind ?_))))
  rw [ht]
  refine wpAny_pure ?_
  rw [if_neg (by decide +kernel)]
  refine wpAny_bind (wpAny_loadPart I.at_ ?_)
  have hd := I.dict
  cases e : ox.dict with
  | none => exact wpAny_bind (wpAny_rule (wpAny_pure h))
  | some dx =>
    cases od with
    | none => rw [e] at hd; exact hd.elim
    | some o =>
      rw [e] at hd
      obtain ⟨r, a, b⟩ := Option.map_eq_some_iff.mp hs
      refine wpAny_bind (wpAny_bind (wpAny_loadPart hd ?_))
      rw [nsLook_of a]
      refine wpAny_pure ?_
      rw [b]
      exact wpAny_bind (wpAny_rule (wpAny_pure h))
end
theorem lga_kind : builtinKind "list.__getattribute__" = some .slot := by decide +kernel
theorem lga_split : splitId "list.__getattribute__" = some ("list", "__getattribute__") := by decide +kernel
theorem lga_args (a b : Value) : argsOk "list.__getattribute__" ⟨[a, b], []⟩ := by unfold argsOk; kernel_rfl
theorem lga_bind (self : Value) : bindSpecial (.builtin "list.__getattribute__") self = pure (.builtin "list.__getattribute__", [self]) := by kernel_rfl
theorem lga_plain : plainId "list.__getattribute__" = true := by decide +kernel
section
variable {prog : Program} {w : World} {A : Around} {E : Value → Shared → Prop} {s : Shared} {K : Frag} {x C : Addr} {ox : Obj} {od : Option Obj} {name : Str} {expr : Bool} {Q : Value → Shared → Prop}
theorem get_valueL {v : Value} (X : K.In s.heap) (I : InstAt s.heap x ox C od) (hga : findIn K (.ref C) "__getattribute__" = some (some (.builtin "list.__getattribute__"))) (hk : findIn K (.ref C) "__getattr__" = some none) (hsub : mroIn K C (.type "list") = some true)
    (hf : findObj K C od name = some (.value v)) (hh : handedIn v = true) (h : Q v { s with toks := s.toks + 1 }) : wpAny (model prog w) A (getAttr (.ref x) name expr) Q E s := by
  obtain ⟨hp, g, d, t, os⟩ := s
  have L0 := I.type (M := model prog w)
  have L1 := looks_findIn (M := model prog w) X hga
  have L2 := looks_findIn (M := model prog w) X hk
  have L3 := looks_find (M := model prog w) X I hf
  have hi : Looks (model prog w) hp (isInstance (.ref x) (.type "list")) true := L0.andThen (looks_mroIn X hsub)
  unfold getAttr getAttrBy
  refine wpAny_bind (wpAny_mkText (wpAny_holding (wpAny_bind (L0.at (wpAny_bind (L1.at ?_))))))
  dsimp only
  rw [show (Value.builtin "list.__getattribute__" == Value.builtin "object.__getattribute__") = false from by decide +kernel, Bool.and_false, if_neg (by decide)]
  unfold getAttrByItsOwn hookBefore callGetattribute boundAndCalled
  refine wpAny_bind ?_
  rw [if_pos (show onTheHeap (.ref C) = true from rfl)]
  refine L2.at ?_
  refine wpAny_bind (wpAny_attempt (wpAny_holding ?_))
  rw [if_neg (by rw [show onTheHeap (Value.builtin "list.__getattribute__") = false from rfl, Bool.and_false]; decide)]
  rw [lga_bind]
  refine wpAny_bind (wpAny_pure ?_)
  show wpAny _ _ (call (.builtin "list.__getattribute__") [.ref x, .str name t]) _ _ _
  refine wpAny_call (codeAny_call_builtin lga_plain PySem.am_entry_list_getattribute (@check_slot (model prog w) _ _ ⟨hp, g, d, t + 1, os⟩ "list.__getattribute__" "list" "__getattribute__" (.ref x) [.str name t] [] _ lga_kind lga_split hi (lga_args _ _) ?_))
  unfold Builtin.«object.__getattribute__»
  refine wpAny_bind (wpAny_pure (wpAny_bind (wpAny_pure (wpAny_bind (L0.at (wpAny_bind (L3.at ?_)))))))
  refine wpAny_pure ?_
  show wpAny _ _ (handedOut v) _ _ _
  rw [handedOut_of hh]; exact wpAny_pure h
end
/-- setattr on an instance of a subclass of list -/
noncomputable def onlyList : List Value → Bool
  | [.type m, .type n] => m == "list" && n == "object"
  | .ref _ :: r => onlyList r
  | _ => false
theorem refuse_list (self : Value) : refuseLoop self "__setattr__" [.type "list", .type "object"] = pure () := by kernel_rfl
theorem refuse_onlyL (self : Value) : ∀ {l : List Value}, onlyList l = true → refuseLoop self "__setattr__" l = pure ()
  | [.type m, .type n], e => by
    simp only [onlyList, Bool.and_eq_true, beq_iff_eq] at e
    rw [e.1, e.2]; exact refuse_list self
  | .ref c :: r, e => by
    rw [refuseLoop_ref]
    refine refuse_onlyL self (l := r) ?_
    cases r with
    | nil => cases e
    | cons a r => cases r <;> exact e
theorem onlyL_has : ∀ {l : List Value}, onlyList l = true → l.contains (.type "object") = true
  | [.type m, .type n], e => by
    simp only [onlyList, Bool.and_eq_true, beq_iff_eq] at e
    rw [e.1, e.2]; decide +kernel
  | .ref c :: r, e => by
    rw [List.contains_cons, onlyL_has (l := r) (by
      cases r with
      | nil => cases e
      | cons a r => cases r <;> exact e), Bool.or_true]
noncomputable def plainOverL (K : Frag) (C : Addr) : Bool := (clsIn K C).any fun cd => onlyList cd.mro
section
variable {prog : Program} {w : World} {A : Around} {K : Frag} {C x : Addr} {s : Shared} {h₀ : Heap} {L : Addr} {m : Str → Option Value} {news : List (Addr × Obj)} {R : Result → Shared → Prop}
theorem osa_openL {ox : Obj} {od : Option Obj} {name : Str} {tk : Tok} {v : Value} {r : Option Value} (X : K.In s.heap) (I : InstAt s.heap x ox C od) (hp : plainOverL K C = true) (ht : takerIn K C name = some r)
    (h : ∀ b, wpAny (model prog w) A.in1 (match r with | some a => setByDescriptor a (.ref x) v | none => storeInOwnDict (.ref x) (.ref C) (.str name tk) name v b)
      (fun fin s' => match fin with | .done f => R (.ok f) s' | .again c' => c'.quiet = true ∧ codeAny (model prog w) A c' R s') (fun e s' => R (.error e) s') s) :
    codeAny (model prog w) A (.call (.builtin "object.__setattr__") ⟨[.ref x, .str name tk, v], []⟩) R s := by
  have SF := PySem.F.store_object
  obtain ⟨cd, hc, ho⟩ := any_some hp
  have ne : cd.mro.isEmpty = false := by cases q : cd.mro with | nil => rw [q] at ho; cases ho | cons _ _ => rfl
  have sub : Looks (model prog w) s.heap (isInstance (.ref x) (.type "object")) true := I.type.andThen (looks_mroIn X (by unfold mroIn; rw [hc, Option.bind_some, if_neg (by rw [ne]; decide), onlyL_has ho]))
  refine codeAny_call_builtin SF.slot.plain SF.entry (@check_slot (model prog w) _ _ s "object.__setattr__" "object" "__setattr__" (.ref x) [.str name tk, v] [] _ SF.kind SF.split sub (SF.args (.ref x) (.str name tk) v) ?_)
  obtain ⟨attr, ha, hr⟩ := Option.bind_eq_some_iff.mp ht
  have hm : Looks (model prog w) s.heap (mroOf (.ref C)) cd.mro := (looks_clsIn X hc).andThen .now
  have L3 : Looks (model prog w) s.heap (storeTaker? attr) r := by
    cases attr with
    | none => cases hr; exact .now
    | some a =>
      obtain ⟨b, hb, rfl⟩ := Option.map_eq_some_iff.mp hr
      refine (looks_takesIn X hb).andThen ?_
      cases b <;> exact .now
  rw [osa_eq, refuse_eq]
  refine wpAny_bind (wpAny_bind (I.type.here (wpAny_bind (hm.here ?_))))
  rw [refuse_onlyL _ ho]
  refine wpAny_pure (wpAny_bind (I.type.here (wpAny_bind ((looks_findIn X ha).here (wpAny_bind (L3.here ?_))))))
  exact h _
theorem osa_dictL {ox od od' : Obj} {dx : Addr} {name : Str} {tk : Tok} {v : Value} {pre post : List (Addr × Obj)} {es : List DictEntry} {n : Nat} (F : Fr h₀ L s.heap m) (N : News h₀ L s.heap (pre ++ (dx, od) :: post)) (X : K.In s.heap)
    (I : InstAt s.heap x ox C (some od)) (hd : ox.dict = some dx) (hp : plainOverL K C = true) (ht : takerIn K C name = some none) (hh : (clsIn K C).any (·.hasDict) = true)
    (hl : (lookIn name od).isSome = true) (h1 : ∀ p ∈ pre, p.1 ≠ dx) (h2 : ∀ p ∈ post, p.1 ≠ dx)
    (e : Obj.putName name (PyData.keyHash w.params name) (.str name s.toks) v od = od') (e' : od'.data = .dict es.toArray n) (hz : es.length ≤ 1000)
    (h : ∀ h', Fr h₀ L h' m → News h₀ L h' (pre ++ (dx, od') :: post) → R (.ok (.ret .none)) { s with heap := h', toks := s.toks + 1 }) :
    codeAny (model prog w) A (.call (.builtin "object.__setattr__") ⟨[.ref x, .str name tk, v], []⟩) R s := by
  refine osa_openL X I hp ht fun b => ?_
  obtain ⟨cd, hc, hd'⟩ := any_some hh
  obtain ⟨U1, U2⟩ := news_upd (f := Obj.putName name (PyData.keyHash w.params name) (.str name s.toks) v) F N h1 h2 e (by obtain ⟨_, _, dd, _⟩ := od'; cases e'; rfl)
  have D := (N (dx, od) (by simp)).1
  have D' := (U2 (dx, od') (by simp)).1
  obtain ⟨hx, hcl, hn, -⟩ := I
  obtain ⟨oc, odi, oda, osl⟩ := ox
  dsimp only at hcl hd
  subst hcl hd
  refine wpAny_bind (wpAny_pure (wpAny_bind (wpAny_bind (wpAny_loadPart hx (wpAny_bind ((looks_clsIn X hc).here ?_))))))
  rw [hd']
  refine wpAny_pure (a := some dx) (wpAny_bind (wpAny_pure (wpAny_bind ?_)))
  unfold nsSet
  refine wpAny_bind (wpAny_bind (wpAny_askSetting (wpAny_pure (wpAny_bind (wpAny_mkText (wpAny_bind (wpAny_loadPart D ?_)))))))
  unfold lookIn at hl
  split at hl
  · rename_i es₀ n₀ q
    rw [q]
    dsimp only
    have c : (!es₀.any (·.key.isStr name) && es₀.any (·.refKey)) = false := by
      rw [← Array.any_toList, ← Array.any_toList]
      split at hl
      · rename_i en he
        rw [List.any_eq_true.mpr ⟨en, List.mem_of_find?_eq_some he, List.find?_some he⟩]; rfl
      · split at hl
        · cases hl
        · rename_i z; rw [Bool.not_eq_true] at z; rw [z, Bool.and_false]
    rw [aRefKeyMayBeTheName_at, c]
    refine wpAny_updatePart D ?_
    refine wpAny_bind (wpAny_lookBehind D' (by rw [e']; exact pastItsLine_dict (by rw [List.size_toArray, sizeLine_eq]; omega)) ?_)
    exact wpAny_pure (h _ U1 U2)
  · cases hl
theorem set_dictL {E : Value → Shared → Prop} {ox : Obj} {dx : Addr} {name : Str} {v : Value} {es es' : List DictEntry} {n n' : Nat} {news' : List (Addr × Obj)} {Q : Unit → Shared → Prop} (F : Fr h₀ L s.heap m) (X₀ : K.In h₀) (N : News h₀ L s.heap news) (I : InstAt s.heap x ox C (some (dictOf es n))) (hd : ox.dict = some dx)
    (hs : findIn K (.ref C) "__setattr__" = some (some (.builtin "object.__setattr__"))) (hp : plainOverL K C = true) (ht : takerIn K C name = some none) (hh : hasDictIn K C = true) (hl : (getL name es).isSome = true)
    (e : (putL name (PyData.keyHash w.params name) (.str name (s.toks + 1)) v es, putN name es n) = (es', n')) (U : Upd dx (dictOf es n) (dictOf es' n') news news') (hz : es'.length ≤ 1000)
    (h : ∀ h', Fr h₀ L h' m → News h₀ L h' news' → Q () { s with heap := h', toks := s.toks + 2 }) :
    wpAny (model prog w) A (setAttr (.ref x) name v) Q E s := by
  obtain ⟨pre, post, rfl, rfl, a, b⟩ := U.split
  obtain ⟨e1, e2⟩ := Prod.mk.inj e
  exact set_plain (X₀.keeps F.keep) I hs (osa_dictL (s := { s with toks := s.toks + 1 }) F N (X₀.keeps F.keep) I hd hp ht hh hl a b (by rw [putName_dict, e1, e2]) rfl hz fun h' F' N' => h h' F' N')
end
end
section
open PySem PySem.W PySem.Calls PyProof.Rows Builtin
set_option maxRecDepth 100000
set_option linter.unusedVariables false
theorem slot_mdget : Slot "method_descriptor" "__get__" "method_descriptor.__get__" := .of (owner := "method_descriptor") (n := "__get__") (by rw [typeLookup_type, builtinLookup_eq_fast]; kernel_rfl) (by decide +kernel) (by decide +kernel) (by decide +kernel)
  (by first | exact .inl (by decide +kernel) | exact .inr (by decide +kernel)) (by rw [isSubtype_type]; kernel_rfl)
theorem entry_mdget : entryFor table "method_descriptor.__get__" = some Builtin.«method_descriptor.__get__» := entryFor_of_tree (by kernel_rfl)
theorem args_mdget (a b c : Value) : argsOk "method_descriptor.__get__" ⟨[a, b, c], []⟩ := by unfold argsOk; kernel_rfl
theorem slot_wdget : Slot "wrapper_descriptor" "__get__" "wrapper_descriptor.__get__" := .of (owner := "wrapper_descriptor") (n := "__get__") (by rw [typeLookup_type, builtinLookup_eq_fast]; kernel_rfl) (by decide +kernel) (by decide +kernel) (by decide +kernel)
  (by first | exact .inl (by decide +kernel) | exact .inr (by decide +kernel)) (by rw [isSubtype_type]; kernel_rfl)
theorem entry_wdget : entryFor table "wrapper_descriptor.__get__" = some Builtin.«wrapper_descriptor.__get__» := entryFor_of_tree (by kernel_rfl)
theorem args_wdget (a b c : Value) : argsOk "wrapper_descriptor.__get__" ⟨[a, b, c], []⟩ := by unfold argsOk; kernel_rfl
noncomputable abbrev bmObj (id : String) (x : Addr) : Obj := { cls := .type "builtin_function_or_method", dict := none, data := .fields #[.builtin id, .ref x], slots := #[] }
noncomputable abbrev mwObj (id : String) (x : Addr) : Obj := { cls := .type "method-wrapper", dict := none, data := .fields #[.builtin id, .ref x], slots := #[] }
noncomputable def chkI (name : Str) (cls obj : Value) : Sem Unit := do
  if !(← isInstance obj cls) then
    rule "descr.get.wrong-instance"
    raiseError "TypeError" s!"descriptor '{name.toString}' for '{← typeName cls}' objects doesn't apply to a '{← typeNameOf obj}' object"
theorem pop_get_eq (x C : Addr) : Builtin.«method_descriptor.__get__» ⟨[.builtin "list.pop", .ref x, .ref C], []⟩ = (do chkI "pop" (.type "list") (.ref x); ret (← newFields "builtin_function_or_method" [.builtin "list.pop", .ref x])) := by kernel_rfl
theorem len_get_eq (x C : Addr) : Builtin.«wrapper_descriptor.__get__» ⟨[.builtin "list.__len__", .ref x, .ref C], []⟩ = (do chkI "__len__" (.type "list") (.ref x); ret (← newFields "method-wrapper" [.builtin "list.__len__", .ref x])) := by kernel_rfl
theorem init_get_eq (x C : Addr) : Builtin.«wrapper_descriptor.__get__» ⟨[.builtin "list.__init__", .ref x, .ref C], []⟩ = (do chkI "__init__" (.type "list") (.ref x); ret (← newFields "method-wrapper" [.builtin "list.__init__", .ref x])) := by kernel_rfl
section
variable {prog : Program} {w : World} {A : Around} {E : Value → Shared → Prop} {h : Heap} {g : Array GenState} {d : Drawn} {t : Nat} {os : OsState} {x C : Addr}
theorem chk_pass {name : Str} {Q : Unit → Shared → Prop} (ho : Looks (model prog w) h (typeOf (.ref x)) (.ref C)) (hs : Looks (model prog w) h (isSubtype (.ref C) (.type "list")) true) (hq : Q () ⟨h, g, d, t, os⟩) :
    wpAny (model prog w) A (chkI name (.type "list") (.ref x)) Q E ⟨h, g, d, t, os⟩ := by
  unfold chkI
  unfold isInstance
  repeat (first | simp only [Bool.false_eq_true, if_false, Bool.not_true] | lk)
  all_goals exact hq
structure BiGet (id : String) (name : Str) (bcls DT gid : String) (B : Builtin) : Prop where
  slot : Slot DT "__get__" gid
  entry : entryFor table gid = some B
  args : ∀ a b c, argsOk gid ⟨[a, b, c], []⟩
  ty : typeOf (.builtin id) = pure (.type DT)
  eq : ∀ x C : Addr, B ⟨[.builtin id, .ref x, .ref C], []⟩ = (do chkI name (.type "list") (.ref x); ret (← newFields bcls [.builtin id, .ref x]))
theorem bi_pop : BiGet "list.pop" "pop" "builtin_function_or_method" "method_descriptor" "method_descriptor.__get__" Builtin.«method_descriptor.__get__» := ⟨slot_mdget, entry_mdget, args_mdget, by kernel_rfl, pop_get_eq⟩
theorem bi_len : BiGet "list.__len__" "__len__" "method-wrapper" "wrapper_descriptor" "wrapper_descriptor.__get__" Builtin.«wrapper_descriptor.__get__» := ⟨slot_wdget, entry_wdget, args_wdget, by kernel_rfl, len_get_eq⟩
theorem bi_init : BiGet "list.__init__" "__init__" "method-wrapper" "wrapper_descriptor" "wrapper_descriptor.__get__" Builtin.«wrapper_descriptor.__get__» := ⟨slot_wdget, entry_wdget, args_wdget, by kernel_rfl, init_get_eq⟩
noncomputable abbrev boundObj (bcls id : String) (x : Addr) : Obj := { cls := .type bcls, dict := none, data := .fields #[.builtin id, .ref x], slots := #[] }
theorem bi_get {id bcls DT gid : String} {name : Str} {B : Builtin} {Q : Value → Shared → Prop} (G : BiGet id name bcls DT gid B) (ho : Looks (model prog w) h (typeOf (.ref x)) (.ref C)) (hs : Looks (model prog w) h (isSubtype (.ref C) (.type "list")) true)
    (hq : Q (.ref h.objs.size) ⟨h.push (boundObj bcls id x), g, d, t, os⟩) : wpAny (model prog w) A (call (.builtin gid) [.builtin id, .ref x, .ref C]) Q E ⟨h, g, d, t, os⟩ := by
  refine wpAny_call_entry G.slot ?_ G.entry ?_ (G.args _ _ _)
  · exact G.ty
  · rw [G.eq]
    refine wpAny_bind (chk_pass ho hs (wpAny_bind ?_))
    refine wpAny_newObj_type (wpAny_pure ⟨_, rfl, hq⟩) (by size_fits)
theorem sup_ga {so D x C : Addr} {l₀ l : List Value} {K : Frag} {name : Str} {tk : Tok} {id bcls DT gid : String} {B : Builtin} {Q : Fin → Shared → Prop} (G : BiGet id name bcls DT gid B)
    (hso : h.get? so = some { cls := .type "super", dict := none, data := .fields #[.ref D, .ref x, .ref C], slots := #[] }) (hno : Looks (model prog w) h (opaqueClassAbove (.ref C)) none)
    (hC : Looks (model prog w) h (mroOf (.ref C)) l₀) (hl : (l₀.dropWhile (· != .ref D)).drop 1 = l) (X : K.In h) (ho : Looks (model prog w) h (typeOf (.ref x)) (.ref C)) (hs : Looks (model prog w) h (isSubtype (.ref C) (.type "list")) true)
    (hf : alongIn K name l = some (some (.builtin id))) (hxC : x ≠ C) (hn : (name == ("__class__" : Str)) = false)
    (hq : Q (.done (.ret (.ref h.objs.size))) ⟨h.push (boundObj bcls id x), g, d, t, os⟩) :
    wpAny (model prog w) A (Builtin.«super.__getattribute__» ⟨[.ref so, .str name tk], []⟩) Q E ⟨h, g, d, t, os⟩ := by
  have hlk := G.slot.lookup
  have hty := G.ty
  have hne : (Value.ref x == Value.ref C) = false := by simp [hxC]
  have hdt : ({ cls := .type "super", dict := none, data := .fields #[.ref D, .ref x, .ref C], slots := #[] } : Obj).data = .fields #[.ref D, .ref x, .ref C] := rfl
  have f0 : (#[.ref D, .ref x, .ref C] : Array Value)[0]? = some (.ref D) := rfl
  have f1 : (#[.ref D, .ref x, .ref C] : Array Value)[1]? = some (.ref x) := rfl
  have f2 : (#[.ref D, .ref x, .ref C] : Array Value)[2]? = some (.ref C) := rfl
  unfold Builtin.«super.__getattribute__»
  repeat (first
    | (with_reducible refine wpAny_field hso hdt f0 ?_) | (with_reducible refine wpAny_field hso hdt f1 ?_) | (with_reducible refine wpAny_field hso hdt f2 ?_)
    | (with_reducible refine ks_wpAny_notOpaque hno ?_)
    | (with_reducible refine Looks.at hC ?_; rw [hl])
    | (refine ks_forIn_along X (fun _ _ => rfl) rfl ?_ hf)
    | (with_reducible refine wpAny_of_eq hty ?_)
    | (with_reducible refine bi_get G ho hs ?_)
    | (simp only [hn, hne, Bool.or_false, Bool.false_eq_true, if_false])
    | wp_step
    | dsimp only)
  all_goals exact hq
theorem sup_method {so D x C : Addr} {l₀ l : List Value} {K : Frag} {name : Str} {pl : Sem Bool} {id bcls DT gid : String} {B : Builtin} {Q : Value × List Value → Shared → Prop} (G : BiGet id name bcls DT gid B)
    (hso : h.get? so = some { cls := .type "super", dict := none, data := .fields #[.ref D, .ref x, .ref C], slots := #[] }) (hno : Looks (model prog w) h (opaqueClassAbove (.ref C)) none)
    (hC : Looks (model prog w) h (mroOf (.ref C)) l₀) (hl : (l₀.dropWhile (· != .ref D)).drop 1 = l) (X : K.In h) (ho : Looks (model prog w) h (typeOf (.ref x)) (.ref C)) (hs : Looks (model prog w) h (isSubtype (.ref C) (.type "list")) true)
    (hf : alongIn K name l = some (some (.builtin id))) (hxC : x ≠ C) (hn : (name == ("__class__" : Str)) = false)
    (hq : Q (.ref h.objs.size, []) ⟨h.push (boundObj bcls id x), g, d, t + 1, os⟩) :
    wpAny (model prog w) A (getMethod (.ref so) name pl) Q E ⟨h, g, d, t, os⟩ := by
  have hlk := F.ks_slot_super_ga.lookup
  have hcan := F.ks_canon_super_ga
  have hT : ∀ t', (⟨h, g, d, t', os⟩ : Shared).TypeIs (.ref so) "super" := fun _ => ⟨_, hso, rfl⟩
  unfold getMethod
  refine wpAny_bind (wpAny_specialOf (hT _) hlk ?_)
  show wpAny _ _ (if (Manifest.canonical "super.__getattribute__" != "object.__getattribute__") = true then _ else _) _ _ _
  rw [if_pos hcan]
  unfold getAttr getAttrBy
  refine wpAny_bind (wpAny_bind (wpAny_mkText (wpAny_holding (wpAny_bind (wpAny_typeOf (hT _) (wpAny_bind (wpAny_of_eq hlk ?_)))))))
  show wpAny _ _ (getAttrByItsOwn (.ref so) (.str name t) (.type "super") (.builtin "super.__getattribute__") true false) _ _ _
  unfold getAttrByItsOwn hookBefore callGetattribute boundAndCalled
  refine wpAny_bind (wpAny_of_eq (show (if onTheHeap (.type "super") then typeLookup (.type "super") "__getattr__" else pure none) = pure none from rfl) ?_)
  refine wpAny_bind (wpAny_attempt (wpAny_holding ?_))
  show wpAny _ _ (bindSpecial (.builtin "super.__getattribute__") (.ref so) >>= _) _ _ _
  refine wpAny_bind (wpAny_of_eq (F.ks_slot_super_ga.bind _) ?_)
  refine wpAny_mono (Q := fun v s' => v = .ref h.objs.size ∧ s' = ⟨h.push (boundObj bcls id x), g, d, t + 1, os⟩) (E := fun _ _ => False)
    (wpAny_call_entry F.ks_slot_super_ga (hT _) F.ks_entry_super_ga (sup_ga G hso hno hC hl X ho hs hf hxC hn ⟨_, rfl, rfl, rfl⟩) (F.ks_gaArgs_super _ _)) (fun v s' hv => ?_) fun _ _ z => z.elim
  obtain ⟨rfl, rfl⟩ := hv
  exact wpAny_pure (wpAny_pure hq)
end
section
variable {prog : Program} {w : World} {A : Around} {E : Value → Shared → Prop} {s : Shared} {h₀ : Heap} {L : Addr} {m mg mb : Str → Option Value} {news : List (Addr × Obj)} {K : Frag} {p : Program} {loose : List Str} {mean : ExcName → Option Value} {x C D so : Addr} {ox : Obj} {odx : Option Obj}
theorem ks_method_bi {name : Str} {pl : Sem Bool} {id bcls DT gid : String} {B : Builtin} {Q : Value × List Value → Shared → Prop} (G : BiGet id name bcls DT gid B) (F : Fr h₀ L s.heap m) (X₀ : K.In h₀) (N : News h₀ L s.heap news) (hso : (so, ks_superObj D x C) ∈ news) (I : InstAt s.heap x ox C odx) (ho : nsIn K cStatics "thirdparty.any" = some none)
    (hm : ks_superIn K C D name = some (some (.builtin id))) (hsub : mroIn K C (.type "list") = some true) (hn : (name == ("__class__" : Str)) = false)
    (h : ∀ q h', Fr h₀ L h' m → News h₀ L h' ((q, boundObj bcls id x) :: news) → (∀ p ∈ news, p.1 < q) → Q (.ref q, []) { s with heap := h', toks := s.toks + 1 }) : wpAny (model prog w) A (getMethod (.ref so) name pl) Q E s := by
  have X : K.In s.heap := X₀.keeps F.keep
  obtain ⟨hh, g, d, t, os⟩ := s
  cases hc : clsIn K C with
  | none => unfold ks_superIn at hm; rw [hc] at hm; cases hm
  | some cd =>
    unfold ks_superIn at hm
    rw [hc] at hm
    refine sup_method G (N _ hso).1 (looks_opaque X ho) (l₀ := cd.mro) ?_ rfl X I.type (looks_mroIn X hsub) hm (ks_ne X I hc) hn ?_
    · exact fun A Q E s k q => wpAny_bind ((looks_clsIn X hc) A _ E s k (wpAny_pure q))
    · obtain ⟨F', N', l'⟩ := ks_newsPush (s := ⟨hh, g, d, t, os⟩) (o := boundObj bcls id x) F N rfl (Heap.get?_push_at rfl rfl) (fun b o e => Heap.get?_push_of_some _ e)
      exact h _ _ F' N' l'
end
end
section
open PySem PySem.W PySem.Calls PyProof.Rows Builtin
set_option maxRecDepth 100000
set_option linter.unusedVariables false
theorem InstAt.of_acc {h₀ h : Heap} {L x C dx : Addr} {news : List (Addr × Obj)} {od : Obj} {its : Array Value} {n : Nat} (N : News h₀ L h news) (h1 : (x, accObj C dx its n) ∈ news) (h2 : (dx, od) ∈ news) :
    InstAt h x (accObj C dx its n) C (some od) := ⟨(N _ h1).1, rfl, rfl, (N _ h2).1⟩
theorem acc_seq (f : Array Value → Array Value) (C dx : Addr) (its : Array Value) (n : Nat) : Obj.mapSeq f (accObj C dx its n) = accObj C dx (f its) (if (f its).size == its.size then n else n + 1) := rfl
theorem pop_kind : builtinKind "list.pop" = some .method := by decide +kernel
theorem pop_split : splitId "list.pop" = some ("list", "pop") := by decide +kernel
theorem app_kind : builtinKind "list.append" = some .method := by decide +kernel
theorem app_split : splitId "list.append" = some ("list", "append") := by decide +kernel
theorem len_kind : builtinKind "list.__len__" = some .slot := by decide +kernel
theorem init_kind : builtinKind "list.__init__" = some .slot := by decide +kernel
section
variable {prog : Program} {w : World} {A : Around} {E : Value → Shared → Prop} {s : Shared} {h₀ : Heap} {L : Addr} {m : Str → Option Value} {news news' : List (Addr × Obj)} {K : Frag} {x C dx q : Addr} {ox : Obj} {odx : Option Obj} {its : Array Value} {n : Nat}
theorem check_method {i owner nm : String} {self : Value} {rest : List Value} {Q : Unit → Shared → Prop}
    (hk : builtinKind i = some .method) (hs : splitId i = some (owner, nm)) (hi : Looks (model prog w) s.heap (isInstance self (.type owner)) true) (ha : argsOk i ⟨self :: rest, []⟩) (hq : Q () s) :
    wpAny (model prog w) A (checkBuiltinCall i ⟨self :: rest, []⟩) Q E s := by
  simp only [checkBuiltinCall, hk, hs]
  refine wpAny_bind (hi.here ?_)
  simp only [Bool.not_true, Bool.false_eq_true, if_false]
  cases hsig : Manifest.signature? i with
  | none => exact wpAny_pure hq
  | some sig =>
    simp only [argsOk, hsig] at ha
    have h2 : Bind.checkArgs i sig ⟨self :: rest, []⟩ = pure () := ha
    show wpAny _ A (Bind.checkArgs i sig ⟨self :: rest, []⟩) Q E s
    rw [h2]; exact wpAny_pure hq
theorem app_args (a v : Value) : argsOk "list.append" ⟨[a, v], []⟩ := by unfold argsOk; kernel_rfl
/-- append on an instance of a subclass of list -/
theorem acc_append {v : Value} {Q : Value → Shared → Prop} (F : Fr h₀ L s.heap m) (X₀ : K.In h₀) (N : News h₀ L s.heap news) (hsub : mroIn K C (.type "list") = some true)
    (U : Upd x (accObj C dx its n) (accObj C dx (its.push v) (n + 1)) news news') (hsz : its.size ≤ sizeLine)
    (h : ∀ h', Fr h₀ L h' m → News h₀ L h' news' → Q .none { s with heap := h' }) : wpAny (model prog w) A (call (.builtin "list.append") [.ref x, v]) Q E s := by
  obtain ⟨pre, post, rfl, rfl, a, b⟩ := U.split
  have z := N (x, accObj C dx its n) (List.mem_append.mpr (.inr (.head _)))
  have X : K.In s.heap := X₀.keeps F.keep
  have hi : Looks (model prog w) s.heap (isInstance (.ref x) (.type "list")) true := Looks.andThen (Looks.andThen (Looks.ld z.1) .now) (looks_mroIn X hsub)
  refine wpAny_call (codeAny_call_builtin PySem.F.slot_list_append.plain PySem.F.entry_list_append (check_method app_kind app_split hi (app_args _ _) ?_))
  show wpAny _ _ (updateSeq x (·.push v) >>= fun _ => ret .none) _ _ s
  refine wpAny_bind ?_
  obtain ⟨U1, U2⟩ := news_upd (f := Obj.mapSeq (·.push v)) F N a b (o' := accObj C dx (its.push v) (n + 1)) (by rw [acc_seq]; simp) rfl
  exact wpAny_updateSeq z.1 rfl (wpAny_pure (h _ U1 U2)) hsz (by rw [Array.size_push]; omega)
/-- a bound method of a built-in class is called -/
theorem call_bound_bi {id bcls : String} {args : List Value} {R : Result → Shared → Prop} (hb : s.heap.get? q = some (boundObj bcls id x)) (hc : bcls = "builtin_function_or_method" ∨ bcls = "method-wrapper") (hq : (Code.builtin id ⟨.ref x :: args, []⟩).quiet = true)
    (h : wpAny (model prog w) A.in1 (checkBoundCall id ⟨.ref x :: args, []⟩) (fun _ s' => codeAny (model prog w) A (.builtin id ⟨.ref x :: args, []⟩) R s') (fun e s' => R (.error e) s') s) :
    codeAny (model prog w) A (.call (.ref q) ⟨args, []⟩) R s := by
  refine codeAny_of_tree ?_
  show wpAny _ A.in1 (callAny (.ref q) ⟨args, []⟩) _ _ _
  unfold callAny
  refine wpAny_bind (wpAny_load hb ?_)
  have c1 : ((Value.type bcls == Value.type "method") || (Value.type bcls == Value.type "builtin_function_or_method") || (Value.type bcls == Value.type "method-wrapper")) = true := by rcases hc with rfl | rfl <;> decide +kernel
  have c2 : (Value.type bcls != Value.type "method") = true := by rcases hc with rfl | rfl <;> decide +kernel
  dsimp only
  rw [if_pos c1]
  show wpAny _ _ (if (Value.type bcls != Value.type "method") = true then _ else _) _ _ _
  rw [if_pos c2]
  refine wpAny_bind (wpAny_mono h (fun _ s' h' => ?_) fun _ _ e => e)
  exact wpAny_pure ⟨hq, h'⟩
theorem callWith_bi {id bcls : String} {pos : Pos} {env : Env} {first : List Value} {Q : Value → Shared → Prop} (N : News h₀ L s.heap news) (hq : (q, boundObj bcls id x) ∈ news) (hc : bcls = "builtin_function_or_method" ∨ bcls = "method-wrapper")
    (h : wpAny (model prog w) A (call (.ref q) (first ++ [])) Q E s) : wpAny (model prog w) A (callWith pos (.ref q) first (backTo pos (starEach [] env)) []) Q E s :=
  callWith_of (P := fun h => h.get? q = some (boundObj bcls id x)) rfl (fun h e => ⟨.machine, .inr (.inl rfl), (Looks.ld (part := none) e).andThen (by
    have c1 : (Value.type bcls != Value.type "method") = true := by rcases hc with rfl | rfl <;> decide +kernel
    have c2 : (Value.type bcls == Value.type "builtin_function_or_method" || Value.type bcls == Value.type "method-wrapper") = true := by rcases hc with rfl | rfl <;> decide +kernel
    show Looks _ _ (if (Value.type bcls != Value.type "method") = true then _ else _) _
    rw [if_pos c1, if_pos c2]
    exact .now)⟩) (evalArgs_nil3 ⟨(N _ hq).1, h⟩)
theorem len_bound (a : Value) : checkBoundCall "list.__len__" ⟨[a], []⟩ = pure () := by kernel_rfl
theorem init_bound (a : Value) : checkBoundCall "list.__init__" ⟨[a], []⟩ = pure () := by kernel_rfl
theorem pop_sig : Manifest.signature? "list.pop" = some ⟨.positional, "list.pop", "pop", .self, [⟨"index", .posOnly, false⟩]⟩ := by kernel_rfl
theorem pop_checks (a : Value) : Bind.checkArgs "list.pop" ⟨.positional, s!"{(Str.ofString "_Accumulator").toString}.{Bind.lastOf "list.pop"}", "pop", .self, [⟨"index", .posOnly, false⟩]⟩ ⟨[a], []⟩ = pure () := by kernel_rfl
theorem pop_var : Manifest.varargsMethods.contains "list.pop" = false := by decide +kernel
theorem pop_bound {Q : Unit → Shared → Prop} {cd : ClassData} (X : K.In s.heap) (hx : s.heap.get? x = some (accObj C dx its n)) (hc : clsIn K C = some cd) (hqn : cd.qualname = Str.ofString "_Accumulator") (hmod : mroIn K C (.type "module") = some false) (ht : typeIn K (.ref C) = some (.type "type")) (hq : Q () s) :
    wpAny (model prog w) A (checkBoundCall "list.pop" ⟨[.ref x], []⟩) Q E s := by
  have t1 : Looks (model prog w) s.heap (typeOf (.ref x)) (.ref C) := (Looks.ld hx).andThen .now
  have i1 : Looks (model prog w) s.heap (isInstance (.ref x) (.type "module")) false := t1.andThen (looks_mroIn X hmod)
  have c1 := looks_clsIn (M := model prog w) X hc
  have t2 := looks_typeIn (M := model prog w) X ht
  have chk := pop_checks (.ref x)
  unfold checkBoundCall
  simp only [pop_sig, pop_kind, bne_self_eq_false, Bool.false_and, Bool.false_eq_true, if_false]
  refine wpAny_bind (i1.here ?_)
  simp only [pop_var, Bool.or_self, Bool.false_eq_true, if_false]
  refine wpAny_bind (ks_wpAny_isType_inst (h := s.heap) (g := s.gens) (d := s.drawn) (t := s.toks) (os := s.os) hx (by intro c e; cases e) ?_)
  simp only [Bool.false_eq_true, if_false]
  refine wpAny_bind (t1.here ?_)
  refine wpAny_bind (c1.here ?_)
  refine wpAny_bind (t2.here ?_)
  rw [hqn, if_pos (by decide +kernel)]
  exact wpAny_of_eq chk hq
theorem erased_le (a : Array Value) (k : Nat) : (a.eraseIdxIfInBounds k).size ≤ a.size := by
  unfold Array.eraseIdxIfInBounds
  split
  · rw [Array.size_eraseIdx]; omega
  · exact Nat.le_refl _
theorem acc_pop_body {y : Value} {Q : Flow → Shared → Prop} (hx : s.heap.get? x = some (accObj C dx its n)) (hy : its[its.size - 1]? = some y) (hs1 : its.size ≤ sizeLine)
    (h : Q (.ret y) { s with heap := s.heap.update x (Obj.mapSeq fun xs => xs.eraseIdxIfInBounds (its.size - 1)) }) :
    wpAny (model prog w) A (Builtin.«list.pop» ⟨[.ref x], []⟩) (fun fin s' => match fin with | .done f => Q f s' | .again _ => False) E s := by
  have hpos : 0 < its.size := by
    rcases Nat.eq_zero_or_pos its.size with h0 | h0
    · simp [h0] at hy
    · exact h0
  have hne : ¬ its.isEmpty = true := by
    intro he; have : its.size = 0 := by simpa using he
    omega
  have hk : seqIndex? (-1) its.size = some (its.size - 1) := by
    rw [seqIndex_neg (by omega) (by omega)]; congr 1; omega
  obtain ⟨hp, g, d, tk, os⟩ := s
  wp_walk using wpAny_loadPart' hx
  simp only [hk, hy, Option.bind_some, Option.map_some]
  have hz' : (its.eraseIdxIfInBounds (its.size - 1)).size ≤ sizeLine + 1 := Nat.le_trans (erased_le its _) (Nat.le_succ_of_le hs1)
  wp_walk using (wpAny_updateSeq hx rfl (hz := hs1) (_hz' := hz')), wpAny_loadPart' hx
  exact h
theorem erase_last {a : Array Value} {v : Value} : (a.push v).eraseIdxIfInBounds ((a.push v).size - 1) = a := by
  unfold Array.eraseIdxIfInBounds
  have h : (a.push v).size - 1 < (a.push v).size := by simp
  rw [dif_pos h]
  have e : (a.push v).size - 1 = a.size := by simp
  apply Array.ext
  · rw [Array.size_eraseIdx]; simp
  · intro i h1 h2
    rw [Array.getElem_eraseIdx]
    split
    · rw [Array.getElem_push_lt h2]
    · rename_i h3; simp at h3; omega
theorem acc_pop {v : Value} {cd : ClassData} {Q : Value → Shared → Prop} (F : Fr h₀ L s.heap m) (X₀ : K.In h₀) (N : News h₀ L s.heap news) (hq : (q, boundObj "builtin_function_or_method" "list.pop" x) ∈ news)
    (hc : clsIn K C = some cd) (hqn : cd.qualname = Str.ofString "_Accumulator") (hmod : mroIn K C (.type "module") = some false) (ht : typeIn K (.ref C) = some (.type "type"))
    (U : Upd x (accObj C dx (its.push v) n) (accObj C dx its (n + 1)) news news') (hsz : its.size < sizeLine)
    (h : ∀ h', Fr h₀ L h' m → News h₀ L h' news' → Q v { s with heap := h' }) : wpAny (model prog w) A (call (.ref q) []) Q E s := by
  have hb := (N _ hq).1
  obtain ⟨pre, post, rfl, rfl, a, b⟩ := U.split
  have z := N (x, accObj C dx (its.push v) n) (List.mem_append.mpr (.inr (.head _)))
  have X : K.In s.heap := X₀.keeps F.keep
  refine wpAny_call (call_bound_bi hb (.inl rfl) (Code.quiet_builtin _ (by decide +kernel)) (pop_bound X z.1 hc hqn hmod ht ?_))
  refine codeAny_builtin PySem.F.entry_list_pop ?_
  have hy : (its.push v)[(its.push v).size - 1]? = some v := by simp
  obtain ⟨U1, U2⟩ := news_upd (f := Obj.mapSeq fun xs => xs.eraseIdxIfInBounds ((its.push v).size - 1)) F N a b (o' := accObj C dx its (n + 1)) (by rw [acc_seq, erase_last]; simp) rfl
  refine wpAny_mono (acc_pop_body (Q := fun f s' => match f with | .ret r => Q r s' | _ => False) z.1 hy (by rw [Array.size_push]; omega) (h _ U1 U2)) (fun fin s' hh => ?_) fun _ _ e => e
  rcases fin with (_ | _ | _ | _) | _ <;> first | exact hh | exact hh.elim
theorem acc_len0 {Q : Value → Shared → Prop} (F : Fr h₀ L s.heap m) (N : News h₀ L s.heap news) (hq : (q, boundObj "method-wrapper" "list.__len__" x) ∈ news) (hx : (x, accObj C dx its n) ∈ news)
    (h : ∀ t tk', Q (.int its.size t) { s with toks := tk' }) : wpAny (model prog w) A (call (.ref q) []) Q E s := by
  have hb := (N _ hq).1
  have z := (N _ hx).1
  refine wpAny_call (call_bound_bi hb (.inr rfl) (Code.quiet_builtin _ (by decide +kernel)) (wpAny_of_eq (len_bound _) ?_))
  refine codeAny_builtin PySem.F.entry_list_len ?_
  unfold Builtin.«list.__len__»
  obtain ⟨hp, g, d, tk, os⟩ := s
  wp_walk using wpAny_loadPart' z
  exact h _ _
theorem acc_init0 {Q : Value → Shared → Prop} (F : Fr h₀ L s.heap m) (N : News h₀ L s.heap news) (hq : (q, boundObj "method-wrapper" "list.__init__" x) ∈ news) (U : Upd x (accObj C dx #[] n) (accObj C dx #[] n) news news)
    (h : ∀ h', Fr h₀ L h' m → News h₀ L h' news → Q .none { s with heap := h' }) : wpAny (model prog w) A (call (.ref q) []) Q E s := by
  have hb := (N _ hq).1
  obtain ⟨pre, post, rfl, e, a, b⟩ := U.split
  have z := N (x, accObj C dx #[] n) (List.mem_append.mpr (.inr (.head _)))
  refine wpAny_call (call_bound_bi hb (.inr rfl) (Code.quiet_builtin _ (by decide +kernel)) (wpAny_of_eq (init_bound _) ?_))
  refine codeAny_builtin PySem.F.entry_list_init ?_
  obtain ⟨U1, U2⟩ := news_upd (f := Obj.mapSeq fun _ => #[]) F N a b (o' := accObj C dx #[] n) (by rw [acc_seq]; simp) rfl
  unfold Builtin.«list.__init__»
  obtain ⟨hp, g, d, tk, os⟩ := s
  wp_walk using (wpAny_load z.1), (wpAny_updateSeq z.1 rfl (hz := by simp) (_hz' := by simp)), wpAny_loadPart' z.1
  trace_state
  exact h _ U1 U2
end
end
section
open PySem PySem.W PySem.Calls PyProof.Rows PySem.Spec
local macro_rules | `(tactic| k_inst) => `(tactic| (refine InstAt.of_acc (by k_asm) (by k_mem) (by k_mem)))
section
open PySem PySem.W PySem.Calls PyProof.Rows PySem.Spec
set_option maxRecDepth 100000
set_option linter.unusedVariables false
theorem news_swap {h₀ h : Heap} {L : Addr} {a b : Addr × Obj} {r : List (Addr × Obj)} (N : News h₀ L h (a :: b :: r)) : News h₀ L h (b :: a :: r) := fun q hq => by
  rcases List.mem_cons.mp hq with rfl | hq
  · exact N _ (List.mem_cons_of_mem _ (List.mem_cons_self ..))
  · rcases List.mem_cons.mp hq with rfl | hq
    · exact N _ (List.mem_cons_self ..)
    · exact N q (List.mem_cons_of_mem _ (List.mem_cons_of_mem _ hq))
noncomputable abbrev tupS (f p : Str) (u v : Tok) : Obj := { cls := .type "tuple", data := .seq #[.str f u, .str p v] }
set_option maxHeartbeats 4000000 in
theorem acc_push {w : World} {p : Program} {loose : List Str} {mean : ExcName → Option Value} {mg mb : Str → Option Value} {x dx : Addr} {its : Array Value} {n : Nat} {f pp : Str} {t1 t2 : Tok} {od : Obj} (hsz : its.size ≤ sizeLine) (hsh : shadowIn (some od) (Str.ofString "append") = some false)
  (dp un : Nat) (gd : Option (List Code)) (cn : Str) (cs : Scope) (a₀ : Addr) (ccd : Value) (cl : List (Str × Addr)) (outer : List Env) (A₀ : Around) (base h₀ : Heap) (L : Addr) (m : Str → Option Value) (rest : List (Addr × Obj)) (s : Shared)
    (Q E : Value → Shared → Prop) (B : Below A₀ base outer h₀) (F : Fr h₀ L s.heap m) (X : (K w.params).In h₀) (N : News h₀ L s.heap ((x, accObj 143 dx its n) :: (dx, od) :: rest)) (T : Top p loose mean mg mb h₀) (hk : cs.kind = .function) (hd : dp + 20 < recursionLimit) (hu : un + 200 < cLine)
    (hx1 : dx ≠ x) (hx2 : ∀ q ∈ rest, q.1 ≠ x)
    (hret : ∀ D u v h' tk', Fr h₀ L h' m → News h₀ L h' ((x, accObj 143 dx (its.push (.ref D)) (n + 1)) :: (D, tupS f pp u v) :: (dx, od) :: rest) → x < D → dx < D → (∀ q ∈ rest, q.1 < D) → Q .none { s with heap := h', toks := tk' }) :
    wpAny (model rw.prog w) (ktrTop dp un gd cn cs L a₀ ccd cl outer) (call (.ref 87) [.ref x, .str f t1, .str pp t2]) Q E s := by
  revert X
  k_fill
  intro X
  refine wpAny_call ?_
  k_dflt ktr_enter
  dsimp only [body_s11_1, scope_s11_1, par_s11_1, lit]
  refine let_A ?_
  intro A1
  (repeat' (first | (k_here; (with_reducible show wpAny _ _ (call (Value.builtin _) [Value.ref _, _]) _ _ _); k_dflt (refine acc_append (C := 143) (by k_asm) (by k_asm) (by k_asm) (by k_is) (by k_upd) (by assumption) ?_); intro _ _ _; (try k_sweep)) | ((with_reducible show wpAny _ _ (getMethod (Value.ref _) _ _) _ _ _); k_here; k_dflt (refine method_bi (C := 143) (Frag.In.keeps (by k_asm) (Fr.keep (by k_asm))) (by k_inst) (by k_is) (by k_is) (by k_is) (by rfl) (by assumption) ?_)) | (k_unfold; (try dsimp only)) | (k_end; kc_close) | walk1 | (dsimp only; walk1) | (leave1; walk_say "STEP leave1"; (try dsimp only))))
  rename_i kF kN Tc kX
  rename (_ ∧ _ ∧ AllLt _ _) => l1
  obtain ⟨l1a, l1b, l1c⟩ := l1
  exact hret _ _ _ _ _ kF (news_swap kN) l1a l1b (all_of l1c)
end
section
open PySem PySem.W PySem.Calls PyProof.Rows PySem.Spec

section
open PySem PySem.W PySem.Calls PyProof.Rows PySem.Spec
local macro_rules | `(tactic| walk_at "wpAt") => `(tactic| (dsimp only; walk1))
section
open PySem PySem.W PySem.Calls PyProof.Rows PySem.Spec
set_option maxRecDepth 100000
set_option linter.unusedVariables false
set_option maxHeartbeats 4000000 in
theorem acc_count {w : World} {p : Program} {loose : List Str} {mean : ExcName → Option Value} {mg mb : Str → Option Value} {x dx : Addr} {its : Array Value} {n : Nat} {od : Obj}
  (dp un : Nat) (gd : Option (List Code)) (cn : Str) (cs : Scope) (a₀ : Addr) (ccd : Value) (cl : List (Str × Addr)) (outer : List Env) (A₀ : Around) (base h₀ : Heap) (L : Addr) (m : Str → Option Value) (rest : List (Addr × Obj)) (s : Shared)
    (Q E : Value → Shared → Prop) (B : Below A₀ base outer h₀) (F : Fr h₀ L s.heap m) (X : (K w.params).In h₀) (N : News h₀ L s.heap ((x, accObj 143 dx its n) :: (dx, od) :: rest)) (T : Top p loose mean mg mb h₀) (hk : cs.kind = .function) (hd : dp + 20 < recursionLimit) (hu : un + 200 < cLine)
    (hret : ∀ t h' tk', Fr h₀ L h' m → News h₀ L h' ((x, accObj 143 dx its n) :: (dx, od) :: rest) → Q (.int its.size t) { s with heap := h', toks := tk' }) :
    wpAny (model rw.prog w) (ktrTop dp un gd cn cs L a₀ ccd cl outer) (call (.ref 140) [.ref x]) Q E s := by
  revert X
  k_fill
  intro X
  refine wpAny_call ?_
  (k_dflt (refine ks_code_super (by k_asm) (by k_asm) (by k_asm) (by k_asm) (by k_asm) rfl rfl (by assumption) (by k_is) (by k_is) (by ktr_room) (BindsTo.of_eq rfl) (locs rfl) ?_ (by decide) rfl rfl rfl; intro _ _ _ _ _ _ B9 _ _; walk_at "lt"; (try dsimp only); (try k_lift B9)))
  dsimp only [body_s11_8, scope_s11_8, par_s11_8, lit]
  (repeat' (first | ((with_reducible show wpAny _ _ (call (Value.ref _) _ _) _ _ _); k_here; k_dflt (refine acc_len0 (by k_asm) (by k_asm) (by k_mem) (by k_mem) ?_; intro _ _)) | ((with_reducible show wpAny _ _ (getMethod (Value.ref _) _ _) _ _ _); k_here; k_dflt (refine' ks_method_bi bi_len ?k1 ?k2 ?k3 ?k4 ?k5 ?k6 ?k7 ?k8 ?k9 ?_; (case k1 => k_asm); (case k2 => k_asm); (case k3 => k_asm); (case k4 => k_mem); (case k5 => k_inst); (case k6 => k_is); (case k7 => ks_is); (case k8 => k_is); (case k9 => decide); intro _ _ _ _; walk_at "lt")) | ((with_reducible show wpAny _ _ (callWith ..) _ _ _); k_here; k_dflt (refine' callWith_bi ?k1 ?k2 ?k3 ?_; (case k1 => k_asm); (case k2 => k_mem); (case k3 => first | exact .inl rfl | exact .inr rfl); k_whole; (try dsimp only [List.nil_append, List.append_nil]))) | (k_unfold; (try dsimp only)) | (k_end; kc_close) | walk1 | (dsimp only; walk1) | (leave1; walk_say "STEP leave1"; (try dsimp only))))
  exact hret _ _ _ (by assumption) (fun q hq => by
    rename_i kN _ _
    exact kN q (List.mem_cons_of_mem _ (List.mem_cons_of_mem _ hq)))
set_option maxHeartbeats 4000000 in
theorem acc_pop_some {w : World} {p : Program} {loose : List Str} {mean : ExcName → Option Value} {mg mb : Str → Option Value} {x dx : Addr} {its : Array Value} {v : Value} {n : Nat} {od : Obj} (hsz : its.size < sizeLine) (hsh : shadowIn (some od) (Str.ofString "part_count") = some false)
  (dp un : Nat) (gd : Option (List Code)) (cn : Str) (cs : Scope) (a₀ : Addr) (ccd : Value) (cl : List (Str × Addr)) (outer : List Env) (A₀ : Around) (base h₀ : Heap) (L : Addr) (m : Str → Option Value) (rest : List (Addr × Obj)) (s : Shared)
    (Q E : Value → Shared → Prop) (B : Below A₀ base outer h₀) (F : Fr h₀ L s.heap m) (X : (K w.params).In h₀) (N : News h₀ L s.heap ((x, accObj 143 dx (its.push v) n) :: (dx, od) :: rest)) (T : Top p loose mean mg mb h₀) (hk : cs.kind = .function) (hd : dp + 40 < recursionLimit) (hu : un + 500 < cLine)
    (hx1 : dx ≠ x) (hx2 : ∀ q ∈ rest, q.1 ≠ x)
    (hret : ∀ h' tk', Fr h₀ L h' m → News h₀ L h' ((x, accObj 143 dx its (n + 1)) :: (dx, od) :: rest) → Q v { s with heap := h', toks := tk' }) :
    wpAny (model rw.prog w) (ktrTop dp un gd cn cs L a₀ ccd cl outer) (call (.ref 103) [.ref x]) Q E s := by
  have hne : ((its.push v).size : Int) ≠ 0 := by rw [Array.size_push]; omega
  revert X
  k_fill
  intro X
  refine wpAny_call ?_
  (k_dflt (refine ks_code_super (by k_asm) (by k_asm) (by k_asm) (by k_asm) (by k_asm) rfl rfl (by assumption) (by k_is) (by k_is) (by ktr_room) (BindsTo.of_eq rfl) (locs rfl) ?_ (by decide) rfl rfl rfl; intro _ _ _ _ _ _ B9 _ _; walk_at "lt"; (try dsimp only); (try k_lift B9)))
  dsimp only [body_s11_3, scope_s11_3, par_s11_3, lit]
  (repeat' (first | (ks_step "exec Return"; refine stop_intro ?_) | ((with_reducible show wpAny _ _ (call (Value.ref _) _ _) _ _ _); k_here; k_dflt (apply acc_count; walk_at "cc"); intro _ _ _ _ _) | ((with_reducible show wpAny _ _ (getMethod (Value.ref _) _ _) _ _ _); k_here; k_dflt (refine method_fnL (C := 143) (Frag.In.keeps (by k_asm) (Fr.keep (by k_asm))) (by k_inst) (by k_is) (by k_is) (by k_is) (by k_is) (by assumption) ?_)) | (k_unfold; (try dsimp only)) | (k_end; kc_close) | walk1 | (dsimp only; walk1) | (leave1; walk_say "STEP leave1"; (try dsimp only))))
  · unfold Stop
    refine ks_wpAt_Return_some ?_
    ks_step "eval Call"
    refine ks_wpAt_MethodCall ?_
    (repeat' (first | (ks_step "exec Return"; refine stop_intro ?_) | ((with_reducible show wpAny _ _ (call (Value.ref _) _ _) _ _ _); k_here; k_dflt (refine' acc_pop ?k1 ?k2 ?k3 ?k4 ?k5 ?k6 ?k7 ?k8 ?k9 ?k10 ?_; (case k1 => k_asm); (case k2 => k_asm); (case k3 => k_asm); (case k4 => k_mem); (case k9 => k_upd); (case k5 => exact rfl); (case k6 => exact rfl); (case k7 => k_is); (case k8 => k_is); (case k10 => assumption); intro _ _ _)) | ((with_reducible show wpAny _ _ (getMethod (Value.ref _) _ _) _ _ _); k_here; k_dflt (refine' ks_method_bi bi_pop ?k1 ?k2 ?k3 ?k4 ?k5 ?k6 ?k7 ?k8 ?k9 ?_; (case k1 => k_asm); (case k2 => k_asm); (case k3 => k_asm); (case k4 => k_mem); (case k5 => k_inst); (case k6 => k_is); (case k7 => ks_is); (case k8 => k_is); (case k9 => decide); intro _ _ _ _; walk_at "lt")) | ((with_reducible show wpAny _ _ (callWith ..) _ _ _); k_here; k_dflt (refine' callWith_bi ?k1 ?k2 ?k3 ?_; (case k1 => k_asm); (case k2 => k_mem); (case k3 => first | exact .inl rfl | exact .inr rfl); k_whole; (try dsimp only [List.nil_append, List.append_nil]))) | (k_unfold; (try dsimp only)) | (k_end; kc_close) | walk1 | (dsimp only; walk1) | (leave1; walk_say "STEP leave1"; (try dsimp only))))
    rename_i kF kN Tc kX
    exact hret _ _ kF (fun q hq => kN q (List.mem_cons_of_mem _ (List.mem_cons_of_mem _ hq)))
set_option maxHeartbeats 4000000 in
theorem acc_pop_none {w : World} {p : Program} {loose : List Str} {mean : ExcName → Option Value} {mg mb : Str → Option Value} {x dx : Addr} {n : Nat} {od : Obj} (hsh : shadowIn (some od) (Str.ofString "part_count") = some false)
  (dp un : Nat) (gd : Option (List Code)) (cn : Str) (cs : Scope) (a₀ : Addr) (ccd : Value) (cl : List (Str × Addr)) (outer : List Env) (A₀ : Around) (base h₀ : Heap) (L : Addr) (m : Str → Option Value) (rest : List (Addr × Obj)) (s : Shared)
    (Q E : Value → Shared → Prop) (B : Below A₀ base outer h₀) (F : Fr h₀ L s.heap m) (X : (K w.params).In h₀) (N : News h₀ L s.heap ((x, accObj 143 dx (#[]) n) :: (dx, od) :: rest)) (T : Top p loose mean mg mb h₀) (hk : cs.kind = .function) (hd : dp + 40 < recursionLimit) (hu : un + 500 < cLine)
    (hx1 : dx ≠ x) (hx2 : ∀ q ∈ rest, q.1 ≠ x)
    (hret : ∀ D u v h' tk', Fr h₀ L h' m → News h₀ L h' ((D, tupS (Str.ofString "") (Str.ofString "") u v) :: (x, accObj 143 dx #[] n) :: (dx, od) :: rest) → x < D → dx < D → (∀ q ∈ rest, q.1 < D) → Q (.ref D) { s with heap := h', toks := tk' }) :
    wpAny (model rw.prog w) (ktrTop dp un gd cn cs L a₀ ccd cl outer) (call (.ref 103) [.ref x]) Q E s := by
  have hne : (((#[] : Array Value).size : Nat) : Int) = 0 := rfl
  revert X
  k_fill
  intro X
  refine wpAny_call ?_
  (k_dflt (refine ks_code_super (by k_asm) (by k_asm) (by k_asm) (by k_asm) (by k_asm) rfl rfl (by assumption) (by k_is) (by k_is) (by ktr_room) (BindsTo.of_eq rfl) (locs rfl) ?_ (by decide) rfl rfl rfl; intro _ _ _ _ _ _ B9 _ _; walk_at "lt"; (try dsimp only); (try k_lift B9)))
  dsimp only [body_s11_3, scope_s11_3, par_s11_3, lit]
  (repeat' (first | (ks_step "exec Return"; refine stop_intro ?_) | ((with_reducible show wpAny _ _ (call (Value.ref _) _ _) _ _ _); k_here; k_dflt (apply acc_count; walk_at "cc"); intro _ _ _ _ _) | ((with_reducible show wpAny _ _ (getMethod (Value.ref _) _ _) _ _ _); k_here; k_dflt (refine method_fnL (C := 143) (Frag.In.keeps (by k_asm) (Fr.keep (by k_asm))) (by k_inst) (by k_is) (by k_is) (by k_is) (by k_is) (by assumption) ?_)) | (k_unfold; (try dsimp only)) | (k_end; kc_close) | walk1 | (dsimp only; walk1) | (leave1; walk_say "STEP leave1"; (try dsimp only))))
  rename_i kF kN Tc kX
  rename (_ ∧ _ ∧ AllLt _ _) => l1
  obtain ⟨l1a, l1b, l1c⟩ := l1
  exact hret _ _ _ _ _ kF kN l1a l1b (all_of l1c)
end
section
open PySem PySem.W PySem.Calls PyProof.Rows PySem.Spec
set_option maxRecDepth 100000
set_option linter.unusedVariables false
noncomputable abbrev initObj (P : Params) (a : Int) (t kt : Tok) : Obj := dictOf [{ hash := PyData.keyHash P (Str.ofString "_initial_size"), key := .str (Str.ofString "_initial_size") kt, val := .int a t }] 1
theorem init_shadow {P : Params} {a : Int} {t kt : Tok} : shadowIn (some (initObj P a t kt)) (Str.ofString "append") = some false ∧ shadowIn (some (initObj P a t kt)) (Str.ofString "part_count") = some false := ⟨rfl, rfl⟩
noncomputable def Stop2 (p : Prop) : Prop := p
theorem stop2_intro {p : Prop} (h : Stop2 p) : p := h
set_option maxHeartbeats 4000000 in
theorem acc_make {w : World} {p : Program} {loose : List Str} {mean : ExcName → Option Value} {mg mb : Str → Option Value} {a : Int} {t1 : Tok}
  (dp un : Nat) (gd : Option (List Code)) (cn : Str) (cs : Scope) (a₀ : Addr) (ccd : Value) (cl : List (Str × Addr)) (outer : List Env) (A₀ : Around) (base h₀ : Heap) (L : Addr) (m : Str → Option Value) (rest : List (Addr × Obj)) (s : Shared)
    (Q E : Value → Shared → Prop) (B : Below A₀ base outer h₀) (F : Fr h₀ L s.heap m) (X : (K w.params).In h₀) (N : News h₀ L s.heap rest) (T : Top p loose mean mg mb h₀) (hk : cs.kind = .function) (hd : dp + 40 < recursionLimit) (hu : un + 500 < cLine)
    (hret : ∀ x dx kt h' tk', Fr h₀ L h' m → News h₀ L h' ((x, accObj 143 dx #[] 0) :: (dx, initObj w.params a t1 kt) :: rest) → (∀ q ∈ rest, q.1 < dx) → dx < x → Q (.ref x) { s with heap := h', toks := tk' }) :
    wpAny (model rw.prog w) (ktrTop dp un gd cn cs L a₀ ccd cl outer) (call (.ref 143) [.int a t1]) Q E s := by
  revert X
  k_fill
  intro X
  refine wpAny_call ?_
  refine' lmake_K ?zF ?zN ?zX ?zm ?zi ?zf ?_
  case zF => k_asm
  case zN => k_asm
  case zX => exact Frag.In.keeps (by k_asm) (Fr.keep (by k_asm))
  case zm => kernel_rfl
  case zi => k_is
  case zf => k_is
  intro x dx h' F' N' l1 l2
  replace N' : News h₀ L h' ((x, accObj 143 dx #[] 0) :: (dx, dictOf [] 0) :: rest) := N'
  have l2n : @LT.lt Nat _ dx x := l2
  have l2m : x ≠ dx := Nat.ne_of_gt l2
  have l1n : ∀ p ∈ rest, p.1 ≠ dx := fun p hp => Nat.ne_of_lt (l1 p hp)
  have l1x : ∀ p ∈ rest, p.1 ≠ x := fun p hp => Nat.ne_of_lt (Nat.lt_trans (l1 p hp) l2)
  (k_dflt (refine ks_code_super (by k_asm) (by k_asm) (by k_asm) (by k_asm) (by k_asm) rfl rfl (by assumption) (by k_is) (by k_is) (by ktr_room) (by first | exact BindsTo.of_eq rfl | exact binds_K (by k_in) rfl (by k_is) rfl rfl rfl) (locs rfl) ?_ (by decide) rfl rfl rfl; intro _ _ _ _ _ _ B9 _ _; walk_at "lt"; (try dsimp only); (try k_lift B9)))
  dsimp only [body_s11_0, scope_s11_0, par_s11_0, lit]
  (repeat' (first | (ks_step "exec Expr"; refine stop2_intro ?_) | ((with_reducible show wpAny _ _ (setAttr ..) _ _ _); k_here; k_dflt (refine set_dictL (by k_asm) (by k_asm) (by k_asm) (by k_inst) rfl (by k_is) (by kernel_rfl) (by k_is) (by k_is) (by k_get) (by k_put) (by k_upd) (Nat.le_of_ble_eq_true rfl) ?_; k_whole; intro _ _ _; (try k_sweep))) | (k_unfold; (try dsimp only)) | (k_end; kc_close) | walk1 | (dsimp only; walk1) | (leave1; walk_say "STEP leave1"; (try dsimp only))))
  unfold Stop2
  refine ks_wpAt_Expr_any ?_
  refine ks_wpAt_MethodCall ?_
  (repeat' (first | (ks_step "exec Expr"; refine stop2_intro ?_) | ((with_reducible show wpAny _ _ (call (Value.ref _) _ _) _ _ _); k_here; k_dflt (refine acc_init0 (by k_asm) (by k_asm) (by k_mem) (by k_upd) ?_; intro _ _ _)) | ((with_reducible show wpAny _ _ (getMethod (Value.ref _) _ _) _ _ _); k_here; k_dflt (refine ks_method_bi bi_init (by k_asm) (by k_asm) (by k_asm) (by k_mem) (by k_inst) (by k_is) (by ks_is) (by k_is) (by decide) ?_; intro _ _ _ _; walk_at "lt")) | ((with_reducible show wpAny _ _ (callWith ..) _ _ _); k_here; k_dflt (refine callWith_bi (by k_asm) (by k_mem) (by first | exact .inl rfl | exact .inr rfl) ?_; k_whole; (try dsimp only [List.nil_append, List.append_nil]))) | (k_unfold; (try dsimp only)) | (k_end; kc_close) | walk1 | (dsimp only; walk1) | (leave1; walk_say "STEP leave1"; (try dsimp only))))
  rename_i kF kN Tc kX
  exact hret _ _ _ _ _ kF (fun q hq => kN q (List.mem_cons_of_mem _ (List.mem_cons_of_mem _ hq))) l1 l2
set_option maxHeartbeats 4000000 in
theorem acc_make0 {w : World} {p : Program} {loose : List Str} {mean : ExcName → Option Value} {mg mb : Str → Option Value} 
  (dp un : Nat) (gd : Option (List Code)) (cn : Str) (cs : Scope) (a₀ : Addr) (ccd : Value) (cl : List (Str × Addr)) (outer : List Env) (A₀ : Around) (base h₀ : Heap) (L : Addr) (m : Str → Option Value) (rest : List (Addr × Obj)) (s : Shared)
    (Q E : Value → Shared → Prop) (B : Below A₀ base outer h₀) (F : Fr h₀ L s.heap m) (X : (K w.params).In h₀) (N : News h₀ L s.heap rest) (T : Top p loose mean mg mb h₀) (hk : cs.kind = .function) (hd : dp + 40 < recursionLimit) (hu : un + 500 < cLine)
    (hret : ∀ x dx t1 kt h' tk', Fr h₀ L h' m → News h₀ L h' ((x, accObj 143 dx #[] 0) :: (dx, initObj w.params 0 t1 kt) :: rest) → (∀ q ∈ rest, q.1 < dx) → dx < x → Q (.ref x) { s with heap := h', toks := tk' }) :
    wpAny (model rw.prog w) (ktrTop dp un gd cn cs L a₀ ccd cl outer) (call (.ref 143) []) Q E s := by
  revert X
  k_fill
  intro X
  refine wpAny_call ?_
  refine' lmake_K ?zF ?zN ?zX ?zm ?zi ?zf ?_
  case zF => k_asm
  case zN => k_asm
  case zX => exact Frag.In.keeps (by k_asm) (Fr.keep (by k_asm))
  case zm => kernel_rfl
  case zi => k_is
  case zf => k_is
  intro x dx h' F' N' l1 l2
  replace N' : News h₀ L h' ((x, accObj 143 dx #[] 0) :: (dx, dictOf [] 0) :: rest) := N'
  have l2n : @LT.lt Nat _ dx x := l2
  have l2m : x ≠ dx := Nat.ne_of_gt l2
  have l1n : ∀ p ∈ rest, p.1 ≠ dx := fun p hp => Nat.ne_of_lt (l1 p hp)
  have l1x : ∀ p ∈ rest, p.1 ≠ x := fun p hp => Nat.ne_of_lt (Nat.lt_trans (l1 p hp) l2)
  (k_dflt (refine ks_code_super (by k_asm) (by k_asm) (by k_asm) (by k_asm) (by k_asm) rfl rfl (by assumption) (by k_is) (by k_is) (by ktr_room) (by first | exact BindsTo.of_eq rfl | exact binds_K (by k_in) rfl (by k_is) rfl rfl rfl) (locs rfl) ?_ (by decide) rfl rfl rfl; intro _ _ _ _ _ _ B9 _ _; walk_at "lt"; (try dsimp only); (try k_lift B9)))
  dsimp only [body_s11_0, scope_s11_0, par_s11_0, lit]
  (repeat' (first | (ks_step "exec Expr"; refine stop2_intro ?_) | ((with_reducible show wpAny _ _ (setAttr ..) _ _ _); k_here; k_dflt (refine set_dictL (by k_asm) (by k_asm) (by k_asm) (by k_inst) rfl (by k_is) (by kernel_rfl) (by k_is) (by k_is) (by k_get) (by k_put) (by k_upd) (Nat.le_of_ble_eq_true rfl) ?_; k_whole; intro _ _ _; (try k_sweep))) | (k_unfold; (try dsimp only)) | (k_end; kc_close) | walk1 | (dsimp only; walk1) | (leave1; walk_say "STEP leave1"; (try dsimp only))))
  unfold Stop2
  refine ks_wpAt_Expr_any ?_
  refine ks_wpAt_MethodCall ?_
  (repeat' (first | (ks_step "exec Expr"; refine stop2_intro ?_) | ((with_reducible show wpAny _ _ (call (Value.ref _) _ _) _ _ _); k_here; k_dflt (refine acc_init0 (by k_asm) (by k_asm) (by k_mem) (by k_upd) ?_; intro _ _ _)) | ((with_reducible show wpAny _ _ (getMethod (Value.ref _) _ _) _ _ _); k_here; k_dflt (refine ks_method_bi bi_init (by k_asm) (by k_asm) (by k_asm) (by k_mem) (by k_inst) (by k_is) (by ks_is) (by k_is) (by decide) ?_; intro _ _ _ _; walk_at "lt")) | ((with_reducible show wpAny _ _ (callWith ..) _ _ _); k_here; k_dflt (refine callWith_bi (by k_asm) (by k_mem) (by first | exact .inl rfl | exact .inr rfl) ?_; k_whole; (try dsimp only [List.nil_append, List.append_nil]))) | (k_unfold; (try dsimp only)) | (k_end; kc_close) | walk1 | (dsimp only; walk1) | (leave1; walk_say "STEP leave1"; (try dsimp only))))
  rename_i kF kN Tc kX
  exact hret _ _ _ _ _ _ kF (fun q hq => kN q (List.mem_cons_of_mem _ (List.mem_cons_of_mem _ hq))) l1 l2
end
section
open PySem PySem.W PySem.Calls PyProof.Rows Builtin
set_option maxRecDepth 100000
set_option linter.unusedVariables false
noncomputable def HasSeq (h : Heap) (a : Addr) (items : Array Value) : Prop := ∃ o n, h.get? a = some o ∧ o.data = .seq items n
theorem HasSeq.at {h h' : Heap} {a : Addr} {items : Array Value} (x : HasSeq h a items) (k : ∀ o, h.get? a = some o → h'.get? a = some o) : HasSeq h' a items :=
  let ⟨o, n, ho, hd⟩ := x; ⟨o, n, k o ho, hd⟩
theorem li_kind : builtinKind "list.__iter__" = some .slot := by decide +kernel
theorem li_split : splitId "list.__iter__" = some ("list", "__iter__") := by decide +kernel
theorem li_args (a : Value) : argsOk "list.__iter__" ⟨[a], []⟩ := by unfold argsOk; kernel_rfl
theorem li_bind (self : Value) : bindSpecial (.builtin "list.__iter__") self = pure (.builtin "list.__iter__", [self]) := by kernel_rfl
theorem li_plain : plainId "list.__iter__" = true := by decide +kernel
section
variable {prog : Program} {w : World} {A : Around} {E : Value → Shared → Prop} {s : Shared} {K : Frag} {x C : Addr} {ox : Obj} {od : Option Obj}
theorem li_call {Q : Value → Shared → Prop} (hi : Looks (model prog w) s.heap (isInstance (.ref x) (.type "list")) true)
    (hQ : Q (.ref s.heap.objs.size) { s with heap := s.heap.push { cls := .type "list_iterator", data := .fields #[.ref x, .int 0 0] } }) : wpAny (model prog w) A (call (.builtin "list.__iter__") [.ref x]) Q E s := by
  refine wpAny_call (codeAny_call_builtin li_plain PySem.entry_list_iter (@check_slot (model prog w) _ _ s "list.__iter__" "list" "__iter__" (.ref x) [] [] _ li_kind li_split hi (li_args _) ?_))
  show wpAny _ _ (do ret (← newFields "list_iterator" [.ref x, rawInt 0])) _ _ s
  exact wpAny_bind (wpAny_newObj_type (wpAny_pure hQ))
theorem acc_iter {Q : Value → Shared → Prop} (X : K.In s.heap) (I : InstAt s.heap x ox C od) (hs : findIn K (.ref C) "__iter__" = some (some (.builtin "list.__iter__"))) (hsub : mroIn K C (.type "list") = some true)
    (hQ : Q (.ref s.heap.objs.size) { s with heap := s.heap.push { cls := .type "list_iterator", data := .fields #[.ref x, .int 0 0] } }) : wpAny (model prog w) A (pyIter (.ref x)) Q E s := by
  have hi : Looks (model prog w) s.heap (isInstance (.ref x) (.type "list")) true := I.type.andThen (looks_mroIn X hsub)
  have fin2 : ∀ refuse : Sem Value, wpAny (model prog w) A (if (Value.builtin "list.__iter__" == Value.none) = true then (refuse >>= fun v => pure (some v)) else (call (.builtin "list.__iter__") ([.ref x] ++ []) >>= fun v => pure (some v)))
      (fun r s' => r = some (.ref s.heap.objs.size) ∧ s' = { s with heap := s.heap.push { cls := .type "list_iterator", data := .fields #[.ref x, .int 0 0] } }) E s := by
    intro refuse
    rw [if_neg (show ¬ ((Value.builtin "list.__iter__" == Value.none) = true) from by decide +kernel)]
    exact wpAny_bind (li_call hi (wpAny_pure ⟨rfl, rfl⟩))
  unfold pyIter
  refine wpAny_bind (wpAny_bind (I.type.here ((looks_findIn X hs).here ?_)))
  show wpAny _ A (callSpecialIfBoundUnlessNone? (.ref x) "__iter__" _ >>= _) Q E s
  refine wpAny_bind (wpAny_mono (Q := fun r s' => r = some (.ref s.heap.objs.size) ∧ s' = { s with heap := s.heap.push { cls := .type "list_iterator", data := .fields #[.ref x, .int 0 0] } }) (E := E) ?_ (fun r s' hr => ?_) fun _ _ z => z)
  · simp only [callSpecialIfBoundUnlessNone?, bindSpecialIfBound?]
    refine wpAny_holding (wpAny_bind (wpAny_bind (wpAny_bind (I.type.here ((looks_findIn X hs).here ?_)))))
    refine wpAny_bind (wpAny_askSetting (wpAny_ite ?_))
    split
    · refine wpAny_bind ?_
      rw [li_bind]
      exact wpAny_pure (wpAny_pure (by exact fin2 _))
    · refine wpAny_tryCatch (wpAny_bind ?_)
      rw [li_bind]
      exact wpAny_pure (wpAny_pure (by exact fin2 _))
  · obtain ⟨rfl, rfl⟩ := hr
    exact wpAny_bind (wpAny_specialOf (T := "list_iterator") ⟨_, Heap.get?_push_size _ rfl, rfl⟩ PySem.slot_listiter_next.lookup (wpAny_pure hQ))
theorem seq_next {it : Addr} {i : Nat} {items : Array Value} {v : Value} {Q : Option Value → Shared → Prop} (hit : s.heap.IsListIter it x i) (hl : HasSeq s.heap x items) (hx : items[i]? = some v)
    (hQ : ∀ h', h'.IsListIter it x (i + 1) → Heap.SameBut it s.heap h' → Q (some v) { s with heap := h' }) : wpAny (model prog w) A (pyNext (.ref it)) Q E s := by
  have hit' := hit
  obtain ⟨o, ho, hc, hd⟩ := hit
  obtain ⟨ol, nl, hol, hdl⟩ := hl
  have fin : ∀ h', h' = s.heap.update it (Obj.mapFields fun vs => vs.setIfInBounds 1 (rawInt ((i : Int) + 1))) → Q (some v) { s with heap := h' } := by
    rintro h' rfl
    refine hQ _ ⟨_, Heap.get?_update_self _ ho (Obj.isFreed_of_fields (Obj.data_mapFields hd _)), (Obj.cls_mapFields ..).trans hc, ?_⟩ (Heap.SameBut.update ..)
    rw [Obj.data_mapFields hd]; simp [rawInt]
  unfold pyNext
  refine wpAny_bind (wpAny_attempt (wpAny_callSpecial?_slot (name := Str.ofString "__next__") hit'.typeIs PySem.slot_listiter_next (wpAny_call_entry PySem.slot_listiter_next hit'.typeIs PySem.entry_listiter_next ?_ (PySem.args_listiter_next _))))
  show wpAny _ _ (field (.ref it) 0 >>= _) _ _ s
  refine wpAny_bind (wpAny_field ho hd (x := .ref x) rfl ?_)
  dsimp only
  rw [if_neg (show ¬ ((Value.ref x == Value.none) = true) from Bool.false_ne_true)]
  refine wpAny_bind (wpAny_field ho hd (x := .int i 0) rfl (wpAny_bind (wpAny_seqItems hol hdl ?_)))
  simp only [Int.toNat_natCast, hx]
  exact wpAny_bind (wpAny_setField ho hd (by simp) (wpAny_pure ⟨v, rfl, wpAny_pure (fin _ rfl)⟩))
theorem seq_end {it : Addr} {i : Nat} {items : Array Value} {Q : Option Value → Shared → Prop} (hh : A.handled = none) (hit : s.heap.IsListIter it x i) (hl : HasSeq s.heap x items) (hx : items[i]? = none)
    (hQ : ∀ h', Heap.ExtBut it s.heap h' → Q none { s with heap := h' }) : wpAny (model prog w) A (pyNext (.ref it)) Q E s := by
  have hit' := hit
  obtain ⟨o, ho, hc, hd⟩ := hit
  obtain ⟨ol, nl, hol, hdl⟩ := hl
  unfold pyNext
  refine wpAny_bind (wpAny_attempt (wpAny_callSpecial?_slot (name := Str.ofString "__next__") hit'.typeIs PySem.slot_listiter_next (wpAny_call_entry PySem.slot_listiter_next hit'.typeIs PySem.entry_listiter_next ?_ (PySem.args_listiter_next _))))
  show wpAny _ _ (field (.ref it) 0 >>= _) _ _ s
  refine wpAny_bind (wpAny_field ho hd (x := .ref x) rfl ?_)
  dsimp only
  rw [if_neg (show ¬ ((Value.ref x == Value.none) = true) from Bool.false_ne_true)]
  refine wpAny_bind (wpAny_field ho hd (x := .int i 0) rfl (wpAny_bind (wpAny_seqItems hol hdl ?_)))
  simp only [Int.toNat_natCast, hx]
  refine wpAny_bind (wpAny_rule (wpAny_bind (wpAny_setField ho hd (by simp) ?_)))
  show wpAny _ _ (newExc (.type "StopIteration") [] >>= _) _ _ _
  refine wpAny_bind ?_
  simp only [newExc, newTuple]
  refine wpAny_bind (wpAny_newObj_type ?_ (by size_fits))
  refine wpAny_bind (m := firstArgMember _ _) (wpAny_of_eq (a := Value.none) (by first | rfl | (simp only [firstArgMember]; rfl)) ?_)
  refine wpAny_newObj_type ?_ (by size_fits)
  simp only [raiseNew]
  refine wpAny_bind (wpAny_handled ?_)
  rw [show A.in1.handled = none from hh]
  refine wpAny_bind (wpAny_pure (wpAny_throw ?_))
  refine wpAny_bind (wpAny_isInstance (T := "StopIteration") (b := true) ⟨_, Heap.get?_push_size _ rfl, rfl⟩ PySem.isSubtype_stop ?_)
  exact wpAny_pure (hQ _ (((Heap.SameBut.update ..).extBut.push _).push _))
end
theorem walks_acc {prog : Program} {w : World} {A : Around} (hh : A.handled = none) (I ax : Addr) (hne : ax ≠ I) (items : Array Value) (Ts : Nat → Addr) (vals : Nat → Array Value)
    (hit : ∀ j, j < items.size → items[j]? = some (.ref (Ts j))) (hTI : ∀ j, j < items.size → Ts j ≠ I) :
    WalksU prog w A I (I :: ax :: (List.range items.size).map Ts) [I] items.size (fun j v => v = vals j)
      (fun j h => h.IsListIter I ax j ∧ HasSeq h ax items ∧ ∀ k, k < items.size → h.IsTuple (Ts k) (vals k))
      (fun j T h => (j < items.size ∧ T = Ts j) ∧ h.IsListIter I ax (j + 1) ∧ HasSeq h ax items ∧ ∀ k, k < items.size → h.IsTuple (Ts k) (vals k)) where
  sub := fun b hb => by simp at hb; simp [hb]
  frame := fun _ _ _ st hk => ⟨st.1.at fun o e => hk I (by simp) o e, st.2.1.at fun o e => hk ax (by simp) o e,
    fun k hk' => (st.2.2 k hk').at fun o e => hk (Ts k) (List.mem_cons_of_mem _ (List.mem_cons_of_mem _ (List.mem_map.mpr ⟨k, List.mem_range.mpr hk', rfl⟩))) o e⟩
  item := fun i s Q E hi st hQ => by
    refine seq_next st.1 st.2.1 (hit i hi) fun h' hit' hs' => ?_
    have tup : ∀ k, k < items.size → h'.IsTuple (Ts k) (vals k) := fun k hk' => (st.2.2 k hk').extBut hs'.extBut (hTI k hk')
    exact hQ (Ts i) (vals i) h' s.toks rfl (tup i hi) ⟨⟨hi, rfl⟩, hit', st.2.1.at fun o e => hs'.extBut _ o hne e, tup⟩ fun b o hb e => hs'.extBut b o (fun h => hb (by simp [h])) e
  go := fun _ _ _ _ _ s Q _ hm hQ => wpAny_letOwnedTupleGo_listiter hm.2.1 (hQ s.heap hm.2 fun _ _ _ e => e)
  apart := fun j T _ hm hmem => by
    rcases List.mem_cons.mp hmem with e | e
    · exact hTI j hm.1.1 (hm.1.2 ▸ e)
    · cases e
  done := fun s Q E st hQ => seq_end hh st.1 st.2.1 (by simp) fun h' he' => hQ h' s.toks fun b o hb e => he' b o (fun h => hb (by simp [h])) e
  self := fun _ _ _ _ st hQ => wpAny_pyIter_listiter st.1 hQ
end
section
open PySem PySem.W PySem.Calls PyProof.Rows Builtin
set_option maxRecDepth 100000
set_option linter.unusedVariables false
theorem walks_shift {prog : Program} {w : World} {A : Around} {I : Addr} {fp wr : List Addr} {G : Array GenState → Array GenState → Prop} {n : Nat} {P : Nat → Value → Prop} {St : Nat → Shared → Prop} (W : WalksS prog w A I fp wr G n P St) :
    WalksS prog w A I fp wr G (n + 1) (fun i v => ∃ j, i = j + 1 ∧ P j v) (fun i s => ∃ j, i = j + 1 ∧ St j s) where
  sub := W.sub
  grefl := W.grefl
  gtrans := W.gtrans
  frame := fun i s h' tk ⟨j, e, st⟩ ht hk => ⟨j, e, W.frame j s h' tk st ht hk⟩
  item := fun i s Q E hi ⟨j, e, st⟩ hQ => W.item j s Q E (by omega) st fun v s' hP st' hm => hQ v s' ⟨j, e, hP⟩ ⟨j + 1, by omega, st'⟩ hm
  done := fun s Q E ⟨j, e, st⟩ hQ => by
    have ej : j = n := by omega
    subst ej
    exact W.done s Q E st hQ
  self := fun i s Q E ⟨j, e, st⟩ hQ => W.self j s Q E st hQ
theorem args_sum2 (a b : Value) : argsOk "sum" ⟨[a, b], []⟩ := by unfold argsOk; kernel_rfl
section
variable {prog : Program} {w : World} {A : Around} {E : Value → Shared → Prop} {s : Shared}
theorem sum_start {x : Value} {a : Int} {ta : Tok} {Q : Value → Shared → Prop} (hfa : InLong a)
    (h : wpAny (model prog w) A.in1 (pyIter x) (fun it s₂ => ∃ I fp wr G n P St val, it = .ref I ∧ WalksS prog w A.in1 I fp wr G n P St ∧ St 0 s₂ ∧ (∀ b ∈ fp, b < s₂.heap.objs.size) ∧
      (∀ i v, P i v → ∃ t, v = .int (val (i + 1)) t) ∧ val 0 = a ∧ (∀ j, j < n + 1 → InLong (val j) ∧ InLong (preSum val (j + 1))) ∧
      ∀ s' t', Moved wr G s₂ s' → Q (.int (preSum val (n + 1)) t') s') E s) :
    wpAny (model prog w) A (call (.builtin "sum") [x, .int a ta]) Q E s := by
  refine call_function_tree PySem.F.kind_sum PySem.F.plain_sum PySem.F.entry_sum (args_sum2 _ _) ?_
  unfold Builtin.«sum»
  simp only [List.length_cons, List.length_nil]
  rw [if_neg (by decide)]
  refine wpAny_bind (wpAny_of_eq (show Builtin.Builtins.bindParams "sum" ["start"] 0 { pos := [.int a ta] } = pure [some (.int a ta)] from rfl) ?_)
  refine wpAny_bind (wpAny_mono h (fun it s₂ h₂ => ?_) fun _ _ e => e)
  obtain ⟨I, fp, wr, G, n, P, St, val, rfl, W, hst, hfp, hval, hv0, hfit, hQ⟩ := h₂
  have hc : (decide (-(2 ^ 63) ≤ a) && decide (a < 2 ^ 63)) = true := by
    simp only [Bool.and_eq_true, decide_eq_true_eq]
    exact hfa
  show wpAny _ A.in1 (if (_ : Bool) = true then _ else _) _ _ _
  split
  case isFalse hneg => exact absurd hc hneg
  refine wpAny_bind (wpAny_rule (wpAny_bind (wpAny_mkInt ?_)))
  refine wpAny_bind (wpAny_pure ?_)
  simp only [List.forIn_cons, List.forIn_nil]
  refine wpAny_bind (wpAny_bind (wpAny_bind (wpAny_isInstance (T := "int") (b := false) (typeIs_int _ _ _) PySem.sub_int_str ?_)))
  simp only [Bool.false_eq_true, if_false]
  refine wpAny_pure (wpAny_bind (wpAny_bind (wpAny_isInstance (T := "int") (b := false) (typeIs_int _ _ _) PySem.sub_int_bytes ?_)))
  simp only [Bool.false_eq_true, if_false]
  refine wpAny_pure (wpAny_bind (wpAny_bind (wpAny_isInstance (T := "int") (b := false) (typeIs_int _ _ _) PySem.sub_int_bytearray ?_)))
  simp only [Bool.false_eq_true, if_false]
  refine wpAny_pure (wpAny_pure ?_)
  refine wpAny_bind (wpAny_newObj_type ?_)
  have hSf : s₂.heap.objs.size ∉ fp := fun hm => Nat.lt_irrefl _ (hfp _ hm)
  have W' := walks_shift W
  refine wpAny_pure ⟨plainId_quiet PySem.F.plain_sum_loop _, codeAny_sum_loopS W' val (fun i v ⟨j, e, hP⟩ => e ▸ hval j v hP) hfit s₂.heap.objs.size hSf n 1 _ s₂.toks 0 (by omega) (by omega)
    (W'.frame 1 s₂ _ _ ⟨0, rfl, hst⟩ (by first | exact Nat.le_refl _ | exact Nat.le_succ _ | omega) fun b _ o e => Heap.get?_push_of_some _ e) ?_ fun s' t' hm => ?_⟩
  · have e0 : preSum val 1 = a := by simp [preSum, hv0]
    rw [e0]
    exact Heap.get?_push_size _ rfl
  · exact hQ s' t' (hm.drop_new (by first | exact Nat.le_refl _ | exact Nat.le_succ _ | omega))
variable {h₀ : Heap} {L K : Addr} {m : Str → Option Value} {g : Addr} {n : Nat} {F : Nat → Value → Prop}
theorem sum_genStart {a : Int} {ta : Tok} {Q : Value → Shared → Prop} (Fh : Fr h₀ L s.heap m) (G : AllBare s.gens) (X : Gen prog w A K g n F s) (hLK : L ≤ K) (hfa : InLong a) (val : Nat → Int) (hv0 : val 0 = a) (hval : ∀ j v, F j v → ∃ t, v = .int (val (j + 1)) t) (hfit : ∀ j, j < n + 1 → InLong (val j) ∧ InLong (preSum val (j + 1)))
    (hQ : ∀ s' t', Fr h₀ L s'.heap m → AllBare s'.gens → s'.os = s.os → (∀ b o, b ≤ K → s.heap.get? b = some o → s'.heap.get? b = some o) → Q (.int (preSum val (n + 1)) t') s') : wpAny (model prog w) A (call (.builtin "sum") [.ref g, .int a ta]) Q E s := by
  obtain ⟨fp, wr, gg, St, W, hst, _, _, hfp, hwr⟩ := X
  have W := W.in4_1
  exact sum_start hfa (W.self 0 _ _ _ hst ⟨g, _, _, _, _, _, _, val, rfl, W, hst, hfp, hval, hv0, hfit, fun s' t' hm => hQ s' t' (Fh.moved hm fun b hb => Nat.lt_of_le_of_lt hLK (hwr b hb)) (G.movedS hm) hm.os fun b o hb e => hm.heap b o (fun hmem => Nat.lt_irrefl _ (Nat.lt_of_lt_of_le (hwr b hmem) hb)) e⟩)
end
end
section
open PySem PySem.W PySem.Calls PyProof.Rows Builtin
set_option maxRecDepth 100000
set_option linter.unusedVariables false
noncomputable abbrev PQ := Addr × Str × Str × Tok × Tok
noncomputable abbrev pqObj (q : PQ) : Addr × Obj := (q.1, tupS q.2.1 q.2.2.1 q.2.2.2.1 q.2.2.2.2)
theorem passing_tt (n : Nat) : passing (fun _ => true) n 0 = List.range n := by simp [passing]
theorem obj_ne {h₀ h : Heap} {L : Addr} {news : List (Addr × Obj)} {a b : Addr} {o o' : Obj} (N : News h₀ L h news) (h1 : (a, o) ∈ news) (h2 : (b, o') ∈ news) (hc : o.cls ≠ o'.cls) : a ≠ b := by
  rintro rfl
  exact hc (congrArg Obj.cls (Option.some.inj ((N _ h1).1.symm.trans (N _ h2).1)))
theorem walksS_mono {prog : Program} {w : World} {A : Around} {I : Addr} {fp wr : List Addr} {G : Array GenState → Array GenState → Prop} {n : Nat} {P P' : Nat → Value → Prop} {St : Nat → Shared → Prop} (W : WalksS prog w A I fp wr G n P St)
    (h : ∀ i v, i < n → P i v → P' i v) : WalksS prog w A I fp wr G n P' St where
  sub := W.sub
  grefl := W.grefl
  gtrans := W.gtrans
  frame := W.frame
  item := fun i s Q E hi st hQ => W.item i s Q E hi st fun v s' hP st' hm => hQ v s' (h i v hi hP) st' hm
  done := W.done
  self := W.self
set_option maxHeartbeats 4000000 in
theorem gen_acc {prog : Program} {w : World} {A : Around} {E : Value → Shared → Prop} {s : Shared} {g : Heap} {L : Addr} {m : Str → Option Value} {K : Frag} {p : Program} {loose : List Str} {mean : ExcName → Option Value} {mg mb : Str → Option Value} {env : Env} {C x dx P c : Addr}
    {its ps : Array Value} {n : Nat} {od : Obj} {rest : List (Addr × Obj)} {qs : List PQ} {elt iter : Expr} {xa xb : Str} {pa pb pt : Pos} {kt : Nat} {scope : Scope} {pos : Pos} {Q : Value → Shared → Prop} (FF : PQ → Value → Prop)
    (hh : A.handled = none) (hroom : A.depth < recursionLimit) (hglob : env.globals = mainGlobals) (hcode : env.code = .ref c)
    (hco : scope.isCoroutine = false) (hclos : closureFor scope env = pure []) (hcell : ∀ y ∈ scope.names, y.2 ≠ .cell) (h0 : scope.names.lookup (".0" : Str) = some NameKind.local)
    (hxa : scope.names.lookup xa = some .local) (hxb : scope.names.lookup xb = some .local) (hab : xa ≠ xb) (hkind : scope.kind = .function) (hs : ∀ x, genFold iter env x = pure x)
    (F : Fr g L s.heap m) (X : K.In g) (T : Top p loose mean mg mb g) (N : News g L s.heap ((P, tabObj ps) :: (x, accObj C dx its n) :: (dx, od) :: rest)) (G : AllBare s.gens)
    (hcd : CodeHd g c P) (ht : TriplesOk ps.toList) (hps : codeAmong pos ps.toList = none ∨ ∃ c', codeAmong pos ps.toList = some (.ref c'))
    (hits : its.toList = qs.map fun q => Value.ref q.1) (hqs : ∀ q ∈ qs, pqObj q ∈ rest) (hPr : ∀ q ∈ rest, q.1 ≠ P) (hdP : dx ≠ P)
    (hiter : findIn K (.ref C) "__iter__" = some (some (.builtin "list.__iter__"))) (hsub : mroIn K C (.type "list") = some true)
    (hself : wpAny (model prog w) A (eval iter env) (fun v s' => v = .ref x ∧ s' = s) E s)
    (helt : ∀ (C' : Addr) (code : Value) (A' : Around) E' (q : PQ) (t : Shared) m₂, A'.handled = none → q ∈ qs → Fr g C' t.heap m₂ → m₂ xa = some (.str q.2.1 q.2.2.2.1) → m₂ xb = some (.str q.2.2.1 q.2.2.2.2) →
      wpAny (model prog w) A' (eval elt (genEnv scope [] C' code builtinsNs env)) (fun y s₃ => FF q y ∧ Keeps t s₃) E' t)
    (hQ : ∀ a s₅ ps', TriplesOk ps'.toList → (∃ c', codeAmong pos ps'.toList = some (.ref c')) → Fr g L s₅.heap m → News g L s₅.heap ((P, tabObj ps') :: (x, accObj C dx its n) :: (dx, od) :: rest) → AllBare s₅.gens → s₅.os = s.os → s₅.drawn = s.drawn →
      L ≤ s.heap.objs.size - 1 → Gen prog w A (s.heap.objs.size - 1) a qs.length (fun j y => ∃ q, qs[j]? = some q ∧ FF q y) s₅ → (∀ q ∈ (P, tabObj ps') :: (x, accObj C dx its n) :: (dx, od) :: rest, q.1 ≤ s.heap.objs.size - 1) → Q (.ref a) s₅) :
    wpAny (model prog w) A (eval (.GeneratorExp elt [⟨.Tuple [.Name xa pa, .Name xb pb] kt pt, iter, [], 0⟩] scope pos) env) Q E s := by
  have nP := N _ (List.mem_cons_self ..)
  have nx := N (x, accObj C dx its n) (by repeat (first | exact .head _ | apply List.Mem.tail))
  have hxlt : x < s.heap.objs.size := Heap.lt_size nx.1
  have hPlt : P < s.heap.objs.size := Heap.lt_size nP.1
  have hqN : ∀ q ∈ qs, s.heap.get? q.1 = some (pqObj q).2 := fun q hq => (N (pqObj q) (List.mem_cons_of_mem _ (List.mem_cons_of_mem _ (List.mem_cons_of_mem _ (hqs q hq))))).1
  have hxP : x ≠ P := obj_ne N (o := accObj C dx its n) (o' := tabObj ps) (by repeat (first | exact .head _ | apply List.Mem.tail)) (by repeat (first | exact .head _ | apply List.Mem.tail)) (by intro e; cases e)
  have hqP : ∀ q ∈ qs, q.1 ≠ P := fun q hq => obj_ne N (o := (pqObj q).2) (o' := tabObj ps) (List.mem_cons_of_mem _ (List.mem_cons_of_mem _ (List.mem_cons_of_mem _ (hqs q hq)))) (by repeat (first | exact .head _ | apply List.Mem.tail)) (by intro e; cases e)
  have hLlt : L < s.heap.objs.size := F.ns.lt
  refine wpAny_GeneratorExp_walksQT hh hco hclos hcell h0 hxa hxb hab hkind hroom (wpAny_mono hself (fun xv s₁ e12 => ?_) fun _ _ e => e) hs
  obtain ⟨rfl, rfl⟩ := e12
  refine acc_iter (X.keeps F.keep) (InstAt.of_acc (od := od) (its := its) (n := n) N (List.mem_cons_of_mem _ (List.mem_cons_self ..)) (List.mem_cons_of_mem _ (List.mem_cons_of_mem _ (List.mem_cons_self ..)))) hiter hsub ?_
  refine ⟨(T.nolimit.keeps F.keep).push _, ?_⟩
  have main : ∀ (code : Value) (h₃ : Heap) (tk₃ : Tok) (ps' : Array Value), Heap.ExtBut P (s₁.heap.push { cls := .type "list_iterator", data := .fields #[.ref x, .int 0 0] }) h₃ → (s₁.heap.push { cls := .type "list_iterator", data := .fields #[.ref x, .int 0 0] }).objs.size ≤ h₃.objs.size → h₃.get? P = some (tabObj ps') → TriplesOk ps'.toList → (∃ c', codeAmong pos ps'.toList = some (.ref c')) →
      wpAny (model prog w) A (builtinsFor env.globals env.builtins) (fun bi s₄ =>
        ∃ I fp wr n₀ Pt St₀ Mid pz F', Value.ref s₁.heap.objs.size = .ref I ∧ (∀ A' : Around, A'.handled = none → WalksU prog w A' I fp wr n₀ Pt St₀ Mid) ∧ (∀ i vals, Pt i vals → ∃ va vb, vals = #[va, vb]) ∧ St₀ 0 s₄.heap ∧ (∀ b ∈ fp, b < s₄.heap.objs.size) ∧ s₄.heap.NoLimit ∧ cStatics ∉ wr ∧
          (∀ href : Heap, (∀ b o, s₄.heap.get? b = some o → href.get? b = some o) →
            QuietGenT prog w (genEnv scope [] s₄.heap.objs.size code bi env) xa xb [] elt (List.range s₄.heap.objs.size) wr Pt pz F' href) ∧
          (∀ a h₅ tk gs, gs.bare = true → s₄.heap.objs.size < a → h₅.objs.size = a + 1 → (∀ b o, s₄.heap.get? b = some o → h₅.get? b = some o) →
            WalksS prog w A.in4 a (a :: s₄.heap.objs.size :: List.range s₄.heap.objs.size) (s₄.heap.objs.size :: wr) (GenOnlyQ s₄.gens.size) (passing pz n₀ 0).length
              (fun j y => ∃ i, (passing pz n₀ 0)[j]? = some i ∧ F' i y) (GenAt prog w A.in4 a s₄.gens.size s₄.heap.objs.size (List.range s₄.heap.objs.size) wr pz n₀ F') →
            GenAt prog w A.in4 a s₄.gens.size s₄.heap.objs.size (List.range s₄.heap.objs.size) wr pz n₀ F' 0 { s₄ with gens := s₄.gens.push gs, toks := tk, heap := h₅ } →
            Q (.ref a) { s₄ with gens := s₄.gens.push gs, toks := tk, heap := h₅ })) E { s₁ with heap := h₃, toks := tk₃ } := by
    intro code h₃ tk₃ ps' hx₃ hsz₃ hP₃ ht₃ hc₃
    have hPg : g.get? P = none := nP.2.2
    have keep₃ : ∀ b o, b ≠ P → s₁.heap.get? b = some o → h₃.get? b = some o := fun b o hb e => hx₃ b o hb (Heap.get?_push_of_some _ e)
    have keepg : ∀ b o, g.get? b = some o → h₃.get? b = some o := fun b o e => keep₃ b o (fun hb => by rw [hb, hPg] at e; cases e) (F.keep b o e)
    have hg₃ : h₃.Ns mainGlobals mg := T.g.keeps keepg
    obtain ⟨bm, ob, hb1, hb2, hb3, hb4, hb5, hb6⟩ := T.bmain
    rw [Heap.size_push] at hsz₃
    rw [hglob]
    refine wpAny_builtinsFor hg₃ hb1 hb2 (keepg _ _ hb3) hb4 hb5 hb6 ?_
    have hisz : its.size = qs.length := by rw [← Array.length_toList, hits, List.length_map]
    let Ts : Nat → Addr := fun j => (qs[j]?.map fun q => q.1).getD 0
    let vals : Nat → Array Value := fun j => (qs[j]?.map fun q => (#[.str q.2.1 q.2.2.2.1, .str q.2.2.1 q.2.2.2.2] : Array Value)).getD #[.none, .none]
    have at' : ∀ j, j < its.size → ∃ q, qs[j]? = some q ∧ q ∈ qs := fun j hj => ⟨qs[j]'(hisz ▸ hj), by rw [List.getElem?_eq_getElem (hisz ▸ hj)], List.getElem_mem _⟩
    have hit : ∀ j, j < its.size → its[j]? = some (.ref (Ts j)) := fun j hj => by
      obtain ⟨q, e, _⟩ := at' j hj
      rw [← Array.getElem?_toList, hits]
      simp [Ts, e]
    have hTlt : ∀ j, j < its.size → Ts j < s₁.heap.objs.size := fun j hj => by
      obtain ⟨q, e, hm⟩ := at' j hj
      simp only [Ts, e, Option.map_some, Option.getD_some]
      exact Heap.lt_size (hqN q hm)
    have htup : ∀ j, j < its.size → h₃.IsTuple (Ts j) (vals j) := fun j hj => by
      obtain ⟨q, e, hm⟩ := at' j hj
      simp only [Ts, vals, e, Option.map_some, Option.getD_some]
      exact ⟨_, keep₃ _ _ (hqP q hm) (hqN q hm), rfl, _, rfl⟩
    have W := fun (A' : Around) (hA : A'.handled = none) => (walks_acc (prog := prog) (w := w) hA s₁.heap.objs.size x (Nat.ne_of_lt hxlt) its Ts vals hit fun j hj => Nat.ne_of_lt (hTlt j hj)).bound
    refine ⟨_, _, _, _, _, _, _, (fun _ => true), (fun i y => ∃ q, qs[i]? = some q ∧ FF q y), rfl, W, (fun i v hv => by
      obtain ⟨hi, rfl⟩ := hv
      obtain ⟨q, e, _⟩ := at' i hi
      exact ⟨_, _, by simp [vals, e]; exact ⟨rfl, rfl⟩⟩), ⟨⟨_, hx₃ _ _ (Nat.ne_of_gt hPlt) (Heap.get?_push_size _ rfl), rfl, rfl⟩, ⟨_, _, keep₃ _ _ hxP nx.1, rfl⟩, htup⟩, ?_, ?_, ?_, ?_, ?_⟩
    · intro b hb
      show b < h₃.objs.size
      rcases List.mem_cons.mp hb with rfl | hb
      · exact hsz₃
      · rcases List.mem_cons.mp hb with rfl | hb
        · exact Nat.lt_of_lt_of_le hxlt (Nat.le_of_succ_le hsz₃)
        · obtain ⟨k, hk, rfl⟩ := List.mem_map.mp hb
          exact Nat.lt_of_lt_of_le (hTlt k (List.mem_range.mp hk)) (Nat.le_of_succ_le hsz₃)
    · exact T.nolimit.keeps keepg
    · intro hm
      obtain ⟨_, hns, _⟩ := T.nolimit.keeps F.keep
      exact absurd hns.lt (by rw [List.mem_singleton.mp hm]; exact Nat.lt_irrefl _)
    · intro href hhref
      refine ⟨fun A' E' i va vb s₂ m₂ hA hP hn hma hmb hk => wpAny_pure ⟨rfl, _, _, rfl, fun _ _ e => e⟩, fun A' E' i va vb s₂ m₂ hA hP hpz hn hma hmb hk => ?_⟩
      obtain ⟨hi, e⟩ := hP
      obtain ⟨q, eq, hm⟩ := at' i hi
      simp only [vals, eq, Option.map_some, Option.getD_some] at e
      obtain ⟨rfl, rfl⟩ : va = .str q.2.1 q.2.2.2.1 ∧ vb = .str q.2.2.1 q.2.2.2.2 := by simpa using congrArg Array.toList e
      have hgs : g.objs.size ≤ s₁.heap.objs.size := Nat.le_of_lt (Nat.lt_of_le_of_lt F.above hLlt)
      have F₂ : Fr g h₃.objs.size s₂.heap m₂ := ⟨hn, fun b o eb => by
        have hb1 : b < s₁.heap.objs.size := Heap.lt_size (F.keep b o eb)
        refine hk b (List.mem_range.mpr (Nat.lt_of_lt_of_le hb1 (Nat.le_of_succ_le hsz₃))) (fun hm => ?_) o (hhref _ _ (keepg b o eb))
        rw [List.mem_singleton.mp hm] at hb1
        exact Nat.lt_irrefl _ hb1, Nat.le_trans hgs (Nat.le_of_succ_le hsz₃)⟩
      exact wpAny_mono (helt h₃.objs.size code A' E' q s₂ m₂ hA hm F₂ hma hmb) (fun y s₃ ⟨h1, h2⟩ => ⟨⟨q, eq, h1⟩, h2⟩) fun _ _ e => e
    · intro a h₅ tk gs hgb hag hsz₅ hk₅ Wg hat
      have keep₅ : ∀ b o, b ≠ P → s₁.heap.get? b = some o → h₅.get? b = some o := fun b o hb e => hk₅ b o (keep₃ b o hb e)
      have hLP : L ≠ P := fun e => nP.2.1 e.symm
      have F₅ : Fr g L h₅ m := ⟨F.ns.at fun o e => keep₅ L o hLP e, fun b o e => hk₅ b o (keepg b o e), F.above⟩
      have N₅ : News g L h₅ ((P, tabObj ps') :: (x, accObj C dx its n) :: (dx, od) :: rest) := by
        intro q hq
        by_cases hqP' : q.1 = P
        · rcases List.mem_cons.mp hq with rfl | hq'
          · exact ⟨hk₅ _ _ hP₃, nP.2⟩
          · rcases List.mem_cons.mp hq' with rfl | hq'
            · exact absurd hqP' hxP
            · rcases List.mem_cons.mp hq' with rfl | hq'
              · exact absurd hqP' hdP
              · exact absurd hqP' (hPr q hq')
        · rcases List.mem_cons.mp hq with rfl | hq'
          · exact absurd rfl hqP'
          · have z := N q (List.mem_cons_of_mem _ hq')
            exact ⟨keep₅ _ _ hqP' z.1, z.2⟩
      have hall : ∀ q ∈ (P, tabObj ps') :: (x, accObj C dx its n) :: (dx, od) :: rest, q.1 ≤ s₁.heap.objs.size - 1 := by
        intro q hq
        rcases List.mem_cons.mp hq with rfl | hq'
        · exact Nat.le_sub_one_of_lt hPlt
        · exact Nat.le_sub_one_of_lt (Heap.lt_size (N q (List.mem_cons_of_mem _ hq')).1)
      refine hQ a _ ps' ht₃ hc₃ F₅ N₅ (G.push hgb) rfl rfl (Nat.le_sub_one_of_lt hLlt) ?_ hall
      have Wq := walksS_mono Wg (P' := fun j y => ∃ q, qs[j]? = some q ∧ FF q y) fun i v hi hP => by
        obtain ⟨k, hk, q, hq, hF⟩ := hP
        rw [passing_tt] at hk
        have : k = i := by
          rw [List.getElem?_range (by simpa [passing_tt] using hi)] at hk
          exact (Option.some.inj hk).symm
        subst this
        exact ⟨q, hq, hF⟩
      have hlen : (passing (fun _ => true) its.size 0).length = qs.length := by rw [passing_tt, List.length_range, hisz]
      rw [hlen] at Wq
      refine ⟨_, _, _, _, Wq, hat, (fun i s' st => st.1.typeIs), List.mem_cons_self .., ?_, ?_⟩
      · intro b hb
        show b < h₅.objs.size
        rw [hsz₅]
        rcases List.mem_cons.mp hb with rfl | hb
        · exact Nat.lt_succ_self _
        · rcases List.mem_cons.mp hb with rfl | hb
          · exact Nat.lt_succ_of_lt hag
          · exact Nat.lt_succ_of_lt (Nat.lt_trans (List.mem_range.mp hb) hag)
      · intro b hb
        have hpos : s₁.heap.objs.size - 1 < s₁.heap.objs.size := Nat.sub_lt (Nat.lt_of_le_of_lt (Nat.zero_le _) hLlt) (by decide)
        rcases List.mem_cons.mp hb with rfl | hb
        · exact Nat.lt_of_lt_of_le hpos (Nat.le_of_succ_le hsz₃)
        · rw [List.mem_singleton.mp hb]; exact hpos
  rcases hps with hnf | ⟨c', hf⟩
  · refine wpAny_genexprCodeX hcode (((hcd.keeps F.keep).keeps fun b o e => Heap.get?_push_of_some _ e).code (Heap.get?_push_of_some _ nP.1) ht) (((hcd.keeps F.keep).keeps fun b o e => Heap.get?_push_of_some _ e).tab (Heap.get?_push_of_some _ nP.1)) hnf fun c' h₃ tk₃ hx₃ hge hlt hcode₃ _ htab₃ _ => ?_
    refine main _ h₃ tk₃ _ hx₃ (Nat.le_trans hge (Nat.le_of_lt hlt)) htab₃.2 ?_ ?_
    · have e : (ps ++ #[rawInt pos.line, rawInt pos.col, .ref c']).toList = ps.toList ++ [rawInt pos.line, rawInt pos.col, .ref c'] := by simp
      rw [e]; exact TriplesOk_snoc _ _ _ _ ht
    · have e : (ps ++ #[rawInt pos.line, rawInt pos.col, .ref c']).toList = ps.toList ++ [rawInt pos.line, rawInt pos.col, .ref c'] := by simp
      rw [e]; exact ⟨_, codeAmong_snoc _ ht hnf⟩
  · refine wpAny_genexprCode_hit hcode (((hcd.keeps F.keep).keeps fun b o e => Heap.get?_push_of_some _ e).code (Heap.get?_push_of_some _ nP.1) ht) hf ?_
    exact main _ _ _ ps (fun b o _ e => e) (Nat.le_refl _) (Heap.get?_push_of_some _ nP.1) ht ⟨c', hf⟩
end
section
open PySem PySem.W PySem.Calls PyProof.Rows PySem.Spec
set_option maxRecDepth 100000
set_option linter.unusedVariables false

noncomputable def lenq (q : PQ) : Int := (q.2.1.length : Int) + (q.2.2.1.length : Int)
theorem hd109 {w : World} {h : Heap} (X : (K w.params).In h) : CodeHd h 109 105 := by
  have e : h.get? 109 = some (o109 w.params) := X 109 _ (by kernel_rfl)
  exact ⟨_, _, _, _, _, _, _, _, _, e, rfl, rfl, rfl, rfl, rfl, rfl, rfl, rfl, by decide⟩
noncomputable abbrev posL : Pos := { line := 99, col := 19, endLine := 99, endCol := 63 }
noncomputable def TabOk (pos : Pos) (ps : Array Value) : Prop := TriplesOk ps.toList ∧ (codeAmong pos ps.toList = none ∨ ∃ c', codeAmong pos ps.toList = some (.ref c'))
theorem nameGen_bi {M : Model} {A : Around} {E : Value → Shared → Prop} {s : Shared} {K : Frag} {p : Program} {loose : List Str} {mean : ExcName → Option Value} {mg mb : Str → Option Value} {g : Heap} {C' : Addr} {m : Str → Option Value} {x : Str} {pos : Pos} {v : Value} {scope : Scope} {cl : List (Str × Addr)} {code : Value} {env : Env} {Q : Value → Shared → Prop}
    (F : Fr g C' s.heap m) (X : K.In g) (T : Top p loose mean mg mb g) (hx : nsIn K mainGlobals x = some none) (hb : bootBuiltins x = some v) (hn : x ≠ "__name__") (hg : env.globals = mainGlobals) (hk : scope.kind = .function) (hkx : (genEnv scope cl C' code builtinsNs env).kindOf x = some .globalImplicit) (hd : (x == ("__debug__" : Str)) = false)
    (h : Q v s) : wpAny M A (eval (.Name x pos) (genEnv scope cl C' code builtinsNs env)) Q E s :=
  Name_function_global hk hkx (loadGlobal_builtin (env := genEnv scope cl C' code builtinsNs env) (show s.heap.Ns env.globals mg from hg ▸ T.g.keeps F.keep) (mg_none_of X T.g hx) (T.b.keeps F.keep) ((T.builtins _ hn).trans hb) h) hd
theorem gen_toks {prog : Program} {w : World} {A : Around} {Kb a : Addr} {n : Nat} {F : Nat → Value → Prop} {s : Shared} {tk : Tok} (X : Gen prog w A Kb a n F s) (h : s.toks ≤ tk) : Gen prog w A Kb a n F { s with toks := tk } := by
  obtain ⟨fp, wr, g, St, W, hst, hT, ha, hfp, hwr⟩ := X
  exact ⟨fp, wr, g, St, W, W.frame 0 s s.heap tk hst h (fun _ _ _ e => e), hT, ha, hfp, hwr⟩
set_option maxHeartbeats 4000000 in
theorem acc_len {w : World} {p : Program} {loose : List Str} {mean : ExcName → Option Value} {mg mb : Str → Option Value} {x dx : Addr} {its ps : Array Value} {qs : List PQ} {n : Nat} {a : Int} {t1 kt : Tok}
  (hits : its.toList = qs.map fun q => Value.ref q.1) (htab : TabOk posL ps)
  (dp un : Nat) (gd : Option (List Code)) (cn : Str) (cs : Scope) (a₀ : Addr) (ccd : Value) (cl : List (Str × Addr)) (outer : List Env) (A₀ : Around) (base h₀ : Heap) (L : Addr) (m : Str → Option Value) (rest : List (Addr × Obj)) (s : Shared)
    (Q E : Value → Shared → Prop) (B : Below A₀ base outer h₀) (F : Fr h₀ L s.heap m) (X : (K w.params).In h₀) (N : News h₀ L s.heap ((105, tabObj ps) :: (x, accObj 143 dx its n) :: (dx, initObj w.params a t1 kt) :: rest)) (T : Top p loose mean mg mb h₀) (hk : cs.kind = .function) (hd : dp + 40 < recursionLimit) (hu : un + 500 < cLine)
    (G : AllBare s.gens) (hqs : ∀ q ∈ qs, pqObj q ∈ rest) (hPr : ∀ q ∈ rest, q.1 ≠ 105) (hdP : dx ≠ 105) (hql : ∀ q ∈ qs, q.2.1.length ≤ 2 ^ 20 ∧ q.2.2.1.length ≤ 2 ^ 20) (ha0 : 0 ≤ a) (ha1 : a ≤ 2 ^ 40) (hqn : qs.length < 2 ^ 20)
    (hret : ∀ t s' ps', TabOk posL ps' → Fr h₀ L s'.heap m → News h₀ L s'.heap ((105, tabObj ps') :: (x, accObj 143 dx its n) :: (dx, initObj w.params a t1 kt) :: rest) → AllBare s'.gens → s'.os = s.os → Q (.int (a + (qs.map lenq).sum) t) s') :
    wpAny (model rw.prog w) (ktrTop dp un gd cn cs L a₀ ccd cl outer) (call (.ref 110) [.ref x]) Q E s := by
  have hfits : PyProof.Rows.SumFits (a :: qs.map lenq) := by
    refine PyProof.Rows.sumFits_small (fun y hy => ?_) (by simp only [List.length_cons, List.length_map]; omega)
    rcases List.mem_cons.mp hy with rfl | hy
    · exact ⟨by omega, by omega⟩
    · obtain ⟨q, hq, rfl⟩ := List.mem_map.mp hy
      have := hql q hq
      unfold lenq
      exact ⟨by omega, by omega⟩
  revert X
  k_fill
  intro X
  refine wpAny_call ?_
  k_dflt ktr_enter
  dsimp only [body_s11_4, scope_s11_4, par_s11_4, lit]
  k_steps
  rename Fr _ _ _ _ => F9
  rename News _ _ _ _ => N9
  rename (K _).In _ => X9
  rename Top _ _ _ _ _ _ => T9
  refine gen_acc (FF := fun q y => ∃ t, y = .int (lenq q) t) rfl ?zroom rfl rfl rfl rfl ?zcell rfl rfl rfl ?zab rfl (fun _ => rfl) F9 X9 T9 N9 G (hd109 X9) htab.1 htab.2 hits hqs hPr hdP ?zit ?zsub ?zself ?zelt ?zQ
  case zroom => ktr_room
  case zcell => decide
  case zab => decide
  case zit => k_is
  case zsub => k_is
  case zself =>
    k_steps
  case zelt =>
    intro C' code A' E' q t m₂ hA hq F2 hma hmb
    obtain ⟨hl1, hl2⟩ := hql q hq
    refine wpAny_BinOp ?_
    refine Call_ ?_
    refine nameGen_bi F2 X9 T9 (by k_is) (by boot_by_name) (by decide) rfl rfl rfl (by decide) ?_
    walk1
    walk1
    refine ldVarG F2 hma ?_
    walk1
    refine len_str (by omega) ?_
    refine Call_ ?_
    refine nameGen_bi F2 X9 T9 (by k_is) (by boot_by_name) (by decide) rfl rfl rfl (by decide) ?_
    walk1
    walk1
    refine ldVarG F2 hmb ?_
    walk1
    refine len_str (by omega) ?_
    walk1
    exact ⟨⟨_, rfl⟩, _, _, rfl, fun _ _ e => e⟩
  case zQ =>
    intro ga s₅ ps' ht' hc' F5 N5 G5 hos hdr hLK hgen hall
    clear N9 F9 F N
    k_steps
    refine get_valueL (C := 143) (od := some (initObj w.params a t1 kt)) (X9.keeps F5.keep) (InstAt.of_acc N5 (List.mem_cons_of_mem _ (List.mem_cons_self ..)) (List.mem_cons_of_mem _ (List.mem_cons_of_mem _ (List.mem_cons_self ..)))) (by k_is) (by k_is) (by k_is) (findObj_own (attr := none) (by k_is) (by k_is) (by rfl) (by rfl)) rfl ?_
    k_steps
    have hgen2 := gen_toks hgen (Nat.le_succ s₅.toks)
    refine sum_genStart F5 G5 hgen2 hLK ?_ (fun j => (a :: qs.map lenq).getD j 0) rfl ?_ ?_ ?_
    · exact ⟨by omega, by omega⟩
    · rintro j v ⟨q, hq, t, rfl⟩
      exact ⟨t, by simp [List.getD_eq_getElem?_getD, hq]⟩
    · intro j hj
      have := hfits j (by simpa using hj)
      rw [PyProof.Rows.preSum_getD]
      exact this
    · intro s' t' F' G' hos' hkeep
      have N' : News _ _ s'.heap ((105, tabObj ps') :: (x, accObj 143 dx its n) :: (dx, initObj w.params a t1 kt) :: rest) := fun q hq => ⟨hkeep _ _ (hall q hq) (N5 q hq).1, (N5 q hq).2⟩
      have es : preSum (fun j => (a :: qs.map lenq).getD j 0) (qs.length + 1) = a + (qs.map lenq).sum := by
        rw [PyProof.Rows.preSum_getD, List.take_of_length_le (by simp), List.sum_cons]
      rw [es]
      k_steps
      exact hret _ _ _ ⟨ht', .inr hc'⟩ (by assumption) (by assumption) G' (hos'.trans hos)
end
section
open PySem PySem.W PySem.Calls PyProof.Rows PySem.Spec
set_option maxRecDepth 100000
set_option linter.unusedVariables false

theorem hd116 {w : World} {h : Heap} (X : (K w.params).In h) : CodeHd h 116 112 := by
  have e : h.get? 116 = some (o116 w.params) := X 116 _ (by kernel_rfl)
  exact ⟨_, _, _, _, _, _, _, _, _, e, rfl, rfl, rfl, rfl, rfl, rfl, rfl, rfl, by decide⟩
noncomputable abbrev posS : Pos := { line := 102, col := 32, endLine := 102, endCol := 85 }
noncomputable def strq (q : PQ) : Str := Txt.join (Str.ofString "") [q.2.1, q.2.2.1]
theorem nameGen_gl {M : Model} {A : Around} {E : Value → Shared → Prop} {s : Shared} {K : Frag} {p : Program} {loose : List Str} {mean : ExcName → Option Value} {mg mb : Str → Option Value} {g : Heap} {C' : Addr} {m : Str → Option Value} {x : Str} {pos : Pos} {v : Value} {scope : Scope} {cl : List (Str × Addr)} {code : Value} {env : Env} {Q : Value → Shared → Prop}
    (F : Fr g C' s.heap m) (X : K.In g) (T : Top p loose mean mg mb g) (hx : nsIn K mainGlobals x = some (some v)) (hg : env.globals = mainGlobals) (hk : scope.kind = .function) (hkx : (genEnv scope cl C' code builtinsNs env).kindOf x = some .globalImplicit) (hd : (x == ("__debug__" : Str)) = false)
    (h : Q v s) : wpAny M A (eval (.Name x pos) (genEnv scope cl C' code builtinsNs env)) Q E s :=
  Name_function_global hk hkx (loadGlobal_global (env := genEnv scope cl C' code builtinsNs env) (show s.heap.Ns env.globals mg from hg ▸ T.g.keeps F.keep) (mg_of X T.g hx) h) hd
set_option maxHeartbeats 4000000 in
theorem acc_str {w : World} {p : Program} {loose : List Str} {mean : ExcName → Option Value} {mg mb : Str → Option Value} {x dx : Addr} {its ps : Array Value} {qs : List PQ} {n : Nat} {a : Int} {t1 kt : Tok}
  (hits : its.toList = qs.map fun q => Value.ref q.1) (htab : TabOk posS ps)
  (dp un : Nat) (gd : Option (List Code)) (cn : Str) (cs : Scope) (a₀ : Addr) (ccd : Value) (cl : List (Str × Addr)) (outer : List Env) (A₀ : Around) (base h₀ : Heap) (L : Addr) (m : Str → Option Value) (rest : List (Addr × Obj)) (s : Shared)
    (Q E : Value → Shared → Prop) (B : Below A₀ base outer h₀) (F : Fr h₀ L s.heap m) (X : (K w.params).In h₀) (N : News h₀ L s.heap ((112, tabObj ps) :: (x, accObj 143 dx its n) :: (dx, initObj w.params a t1 kt) :: rest)) (T : Top p loose mean mg mb h₀) (hk : cs.kind = .function) (hd : dp + 40 < recursionLimit) (hu : un + 500 < cLine)
    (G : AllBare s.gens) (hqs : ∀ q ∈ qs, pqObj q ∈ rest) (hPr : ∀ q ∈ rest, q.1 ≠ 112) (hdP : dx ≠ 112) (hql : ∀ q ∈ qs, q.2.1.length ≤ 2 ^ 20 ∧ q.2.2.1.length ≤ 2 ^ 20) (hqn : qs.length < 2 ^ 20) (hjoin : JoinOk (Str.ofString "") (qs.map strq) = true)
    (hret : ∀ t s' ps', TabOk posS ps' → Fr h₀ L s'.heap m → News h₀ L s'.heap ((112, tabObj ps') :: (x, accObj 143 dx its n) :: (dx, initObj w.params a t1 kt) :: rest) → AllBare s'.gens → s'.os = s.os → Q (.str (Txt.join (Str.ofString "") (qs.map strq)) t) s') :
    wpAny (model rw.prog w) (ktrTop dp un gd cn cs L a₀ ccd cl outer) (call (.ref 117) [.ref x]) Q E s := by
  have hrange : (List.range qs.length).map (fun j => (qs.map strq).getD j (Str.ofString "")) = qs.map strq := by
    have := PyProof.Rows.range_getD (qs.map strq) (Str.ofString "")
    rwa [List.length_map] at this
  revert X
  k_fill
  intro X
  refine wpAny_call ?_
  k_dflt ktr_enter
  dsimp only [body_s11_5, scope_s11_5, par_s11_5, lit]
  k_steps
  rename Fr _ _ _ _ => F9
  rename News _ _ _ _ => N9
  rename (K _).In _ => X9
  rename Top _ _ _ _ _ _ => T9
  rename Fr _ _ _ _ => F9
  rename News _ _ _ _ => N9
  rename (K _).In _ => X9
  rename Top _ _ _ _ _ _ => T9
  refine gen_acc (FF := fun q y => ∃ t, y = .str (strq q) t) rfl ?zroom rfl rfl rfl rfl ?zcell rfl rfl rfl ?zab rfl (fun _ => rfl) F9 X9 T9 N9 G (hd116 X9) htab.1 htab.2 hits hqs hPr hdP ?zit ?zsub ?zself ?zelt ?zQ
  case zroom => ktr_room
  case zcell => decide
  case zab => decide
  case zit => k_is
  case zsub => k_is
  case zself => k_steps
  case zelt =>
    intro C' code A' E' q t m₂ hA hq F2 hma hmb
    obtain ⟨hl1, hl2⟩ := hql q hq
    refine MethodCall_ ?_
    refine nameGen_gl F2 X9 T9 (v := .str (Str.ofString "") 278) (by k_is) rfl rfl rfl (by decide) ?_
    walk1
    walk1
    walk1
    walk1
    walk1
    refine ldVarG F2 hma ?_
    walk1
    refine ldVarG F2 hmb ?_
    walk1
    refine wpAny_newTuple ?_
    walk1
    exact PyProof.Rows.join_tuple (items := #[Value.str q.2.1 q.2.2.2.1, Value.str q.2.2.1 q.2.2.2.2]) (ys := [q.2.1, q.2.2.1]) ⟨_, Heap.get?_push_size _ rfl, rfl, _, rfl⟩ (.cons _ _ (.cons _ _ .nil)) (by simp only [List.map_cons, List.map_nil, List.sum_cons, List.sum_nil, List.length_cons, List.length_nil]; show _ + 2 * 0 ≤ _; omega) fun t' k => ⟨⟨t', rfl⟩, _, _, rfl, fun b o e => Heap.get?_push_of_some _ e⟩
  case zQ =>
    intro ga s₅ ps' ht' hc' F5 N5 G5 hos hdr hLK hgen hall
    clear N9 F9 F N
    k_steps
    refine join_rowsK F5 G5 hgen hLK (fun j => (qs.map strq).getD j (Str.ofString "")) ?_ ?_ ?_ ?_
    · rintro j v ⟨q, hq, t, rfl⟩
      exact ⟨t, by simp [List.getD_eq_getElem?_getD, hq]⟩
    · rw [hrange]; exact hjoin
    · intro s' t' F' G' hos' hkeep
      have N' : News _ _ s'.heap ((112, tabObj ps') :: (x, accObj 143 dx its n) :: (dx, initObj w.params a t1 kt) :: rest) := fun q hq => ⟨hkeep _ _ (hall q hq) (N5 q hq).1, (N5 q hq).2⟩
      rw [hrange]
      k_steps
      exact hret _ _ _ ⟨ht', .inr hc'⟩ (by assumption) (by assumption) G' (hos'.trans hos)
    · rw [sizeLine_eq]; omega
end
end
section
open PySem PySem.W PySem.Calls PyProof.Rows PySem.Spec
set_option maxRecDepth 100000
set_option linter.unusedVariables false
theorem lenq_sum : ∀ qs : List PQ, (∀ q ∈ qs, q.2.1.length ≤ 2 ^ 20 ∧ q.2.2.1.length ≤ 2 ^ 20) → 0 ≤ (qs.map lenq).sum ∧ (qs.map lenq).sum ≤ ((qs.length : Nat) : Int) * 2 ^ 21
  | [], _ => by simp
  | q :: qs, h => by
    have h1 := h q (List.mem_cons_self ..)
    have h2 := lenq_sum qs fun x hx => h x (List.mem_cons_of_mem _ hx)
    simp only [List.map_cons, List.sum_cons, List.length_cons, lenq] at h2 ⊢
    omega
theorem acc_blen {w : World} {p : Program} {loose : List Str} {mean : ExcName → Option Value} {mg mb : Str → Option Value} {x dx : Addr} {its ps : Array Value} {qs : List PQ} {n : Nat} {a : Int} {t1 kt : Tok}
  (hits : its.toList = qs.map fun q => Value.ref q.1) (htab : TabOk posL ps)
  (dp un : Nat) (gd : Option (List Code)) (cn : Str) (cs : Scope) (a₀ : Addr) (ccd : Value) (cl : List (Str × Addr)) (outer : List Env) (A₀ : Around) (base h₀ : Heap) (L : Addr) (m : Str → Option Value) (rest : List (Addr × Obj)) (s : Shared)
    (Q E : Value → Shared → Prop) (B : Below A₀ base outer h₀) (F : Fr h₀ L s.heap m) (X : (K w.params).In h₀) (N : News h₀ L s.heap ((105, tabObj ps) :: (x, accObj 143 dx its n) :: (dx, initObj w.params a t1 kt) :: rest)) (T : Top p loose mean mg mb h₀) (hk : cs.kind = .function) (hd : dp + 40 < recursionLimit) (hu : un + 600 < cLine)
    (G : AllBare s.gens) (hqs : ∀ q ∈ qs, pqObj q ∈ rest) (hPr : ∀ q ∈ rest, q.1 ≠ 105) (hdP : dx ≠ 105) (hql : ∀ q ∈ qs, q.2.1.length ≤ 2 ^ 20 ∧ q.2.2.1.length ≤ 2 ^ 20) (ha0 : 0 ≤ a) (ha1 : a ≤ 2 ^ 40) (hqn : qs.length < 2 ^ 20)
    (hret : ∀ t s' ps', TabOk posL ps' → Fr h₀ L s'.heap m → News h₀ L s'.heap ((105, tabObj ps') :: (x, accObj 143 dx its n) :: (dx, initObj w.params a t1 kt) :: rest) → AllBare s'.gens → s'.os = s.os → Q (.int (a + (qs.map lenq).sum) t) s') :
    wpAny (model rw.prog w) (ktrTop dp un gd cn cs L a₀ ccd cl outer) (call (.builtin "len") [.ref x]) Q E s := by
  have hs0 := lenq_sum qs hql
  have hs1 : ((qs.length : Nat) : Int) * 2 ^ 21 ≤ 2 ^ 20 * 2 ^ 21 := Int.mul_le_mul_of_nonneg_right (by omega) (by decide)
  refine len_K (C := 143) (f := 110) F X (InstAt.of_acc (od := initObj w.params a t1 kt) N (List.mem_cons_of_mem _ (List.mem_cons_self ..)) (List.mem_cons_of_mem _ (List.mem_cons_of_mem _ (List.mem_cons_self ..)))) (by kernel_rfl) (by kernel_rfl) ?_
  refine acc_len hits htab dp (un + 1) gd cn cs a₀ ccd cl outer A₀ base h₀ L m rest s _ E B F X N T hk hd (by omega) G hqs hPr hdP hql ha0 ha1 hqn fun t s' ps' h1 h2 h3 h4 h5 => ?_
  exact ⟨⟨by omega, by omega⟩, hret _ { s' with toks := s'.toks + 1 } ps' h1 h2 h3 h4 h5⟩
theorem acc_bstr {w : World} {p : Program} {loose : List Str} {mean : ExcName → Option Value} {mg mb : Str → Option Value} {x dx : Addr} {its ps : Array Value} {qs : List PQ} {n : Nat} {a : Int} {t1 kt : Tok}
  (hits : its.toList = qs.map fun q => Value.ref q.1) (htab : TabOk posS ps)
  (dp un : Nat) (gd : Option (List Code)) (cn : Str) (cs : Scope) (a₀ : Addr) (ccd : Value) (cl : List (Str × Addr)) (outer : List Env) (A₀ : Around) (base h₀ : Heap) (L : Addr) (m : Str → Option Value) (rest : List (Addr × Obj)) (s : Shared)
    (Q E : Value → Shared → Prop) (B : Below A₀ base outer h₀) (F : Fr h₀ L s.heap m) (X : (K w.params).In h₀) (N : News h₀ L s.heap ((112, tabObj ps) :: (x, accObj 143 dx its n) :: (dx, initObj w.params a t1 kt) :: rest)) (T : Top p loose mean mg mb h₀) (hk : cs.kind = .function) (hd : dp + 40 < recursionLimit) (hu : un + 600 < cLine)
    (G : AllBare s.gens) (hqs : ∀ q ∈ qs, pqObj q ∈ rest) (hPr : ∀ q ∈ rest, q.1 ≠ 112) (hdP : dx ≠ 112) (hql : ∀ q ∈ qs, q.2.1.length ≤ 2 ^ 20 ∧ q.2.2.1.length ≤ 2 ^ 20) (hqn : qs.length < 2 ^ 20) (hjoin : JoinOk (Str.ofString "") (qs.map strq) = true)
    (hret : ∀ t s' ps', TabOk posS ps' → Fr h₀ L s'.heap m → News h₀ L s'.heap ((112, tabObj ps') :: (x, accObj 143 dx its n) :: (dx, initObj w.params a t1 kt) :: rest) → AllBare s'.gens → s'.os = s.os → Q (.str (Txt.join (Str.ofString "") (qs.map strq)) t) s') :
    wpAny (model rw.prog w) (ktrTop dp un gd cn cs L a₀ ccd cl outer) (call (.type "str") [.ref x]) Q E s := by
  refine kso_call ?_ (X.keeps F.keep) (InstAt.of_acc (od := initObj w.params a t1 kt) N (List.mem_cons_of_mem _ (List.mem_cons_self ..)) (List.mem_cons_of_mem _ (List.mem_cons_of_mem _ (List.mem_cons_self ..)))) (C := 143) (f := 117) (by kernel_rfl) (by kernel_rfl) ?_
  · show un + 2 < cLine
    omega
  refine acc_str hits htab dp (un + 2) gd cn cs a₀ ccd cl outer A₀ base h₀ L m rest s _ E B F X N T hk hd (by omega) G hqs hPr hdP hql hqn hjoin fun t s' ps' h1 h2 h3 h4 h5 => ?_
  exact hret _ _ ps' h1 h2 h3 h4 h5
end
section
open PySem PySem.W PySem.Calls PyProof.Rows PySem.Spec
set_option maxRecDepth 100000
set_option linter.unusedVariables false
section
variable {prog : Program} {w : World} {A : Around} {E : Value → Shared → Prop} {env : Env} {h₀ : Heap} {v : Str} {body : List Stmt} {Q : Flow → Shared → Prop}
/-- the state at a turn's beginning -/
noncomputable def StrAt (h₀ : Heap) (L I : Addr) (St : Nat → Heap → Prop) (Inv : Nat → (Str → Option Value) → List (Addr × Obj) → Shared → Prop) (i : Nat) (s : Shared) : Prop :=
  ∃ m news, St i s.heap ∧ Fr h₀ L s.heap m ∧ News h₀ L s.heap news ∧ (∀ q ∈ news, q.1 ≠ I) ∧ Inv i m news s
theorem owit_str {x : Str} {I : Addr} {St : Nat → Heap → Prop} (W : Walks prog w A I [I] [I] x.cps.size (SignAt x) St) (Inv : Nat → (Str → Option Value) → List (Addr × Obj) → Shared → Prop)
    (hInv : ∀ i m news s h tk, Inv i m news s → Inv i m news { s with heap := h, toks := tk })
    (hL : env.locals ≠ I) (h0 : h₀.get? I = none) (live : ∀ i h, St i h → ∃ o, h.get? I = some o)
    (step : ∀ i c u m news s' own rest, x.cps[i]? = some c → Inv i m news s' → (∀ q ∈ news, q.1 ≠ I) → (∀ q ∈ own, q.1 = I) → (∃ o, (I, o) ∈ own) → Fr h₀ env.locals s'.heap m → News h₀ env.locals s'.heap (own ++ news) →
      (∀ m' news' s'', Fr h₀ env.locals s''.heap m' → News h₀ env.locals s''.heap (own ++ news') → (∀ q ∈ news', q.1 ≠ I) → Inv (i + 1) m' news' s'' → rest s'') →
      wpAny (model prog w) A (storeName env v (.str ⟨#[c]⟩ u)) (fun _ s₂ => wpAny (model prog w) A (execs body env) (OwitFlow Q rest) E s₂) E s')
    (fin : ∀ m news s', Fr h₀ env.locals s'.heap m → News h₀ env.locals s'.heap news → (∀ q ∈ news, q.1 ≠ I) → Inv x.cps.size m news s' → Q .next s') :
    ∀ k i f s, i + k = x.cps.size → k < f → StrAt h₀ env.locals I St Inv i s → OwitRest prog w A E env v body Q I f s := by
  have old : ∀ b o, h₀.get? b = some o → b ∉ [I] := fun b o e hb => by rw [List.mem_singleton.mp hb, h0] at e; cases e
  have next : ∀ (h h' : Heap) m news, Fr h₀ env.locals h m → News h₀ env.locals h news → (∀ q ∈ news, q.1 ≠ I) → (∀ b o, b ∉ [I] → h.get? b = some o → h'.get? b = some o) → Fr h₀ env.locals h' m ∧ News h₀ env.locals h' news := fun h h' m news F N hn hk =>
    ⟨⟨F.ns.at' fun o e => hk _ o (by simpa using hL) e, fun b o e => hk b o (old b o e) (F.keep b o e), F.above⟩, fun p hp => ⟨hk _ _ (by simpa using hn p hp) (N p hp).1, (N p hp).2⟩⟩
  intro k
  induction k with
  | zero =>
    intro i f s hi hf ⟨m, news, hst, F, N, hn, hI⟩
    obtain ⟨f, rfl⟩ : ∃ g, f = g + 1 := ⟨f - 1, by omega⟩
    obtain rfl : i = x.cps.size := by omega
    refine OwitRest.succ (W.done _ _ _ hst fun h' tk hk => ?_)
    obtain ⟨F1, N1⟩ := next s.heap h' m news F N hn hk
    exact fin m news _ F1 N1 hn (hInv _ _ _ _ _ _ hI)
  | succ k ih =>
    intro i f s hi hf ⟨m, news, hst, F, N, hn, hI⟩
    obtain ⟨f, rfl⟩ : ∃ g, f = g + 1 := ⟨f - 1, by omega⟩
    refine OwitRest.succ (W.item i _ _ _ (by omega) hst fun y h' tk hy hst' hk => ?_)
    obtain ⟨F1, N1⟩ := next s.heap h' m news F N hn hk
    obtain ⟨c, u, hc, rfl⟩ := hy
    have hLf : env.locals ∉ [I] := by simpa using hL
    have Nown : News h₀ env.locals h' (PyProof.Rows.ownOf h₀ [I] h') := news_ownOf hLf
    refine step i c u m news { s with heap := h', toks := tk } (PyProof.Rows.ownOf h₀ [I] h') _ hc (hInv _ _ _ _ _ _ hI) hn (fun q hq => by simpa using ownOf_sub q hq) (by obtain ⟨o, ho⟩ := live _ _ hst'; exact ⟨o, mem_ownOf (List.mem_singleton.mpr rfl) h0 ho⟩) F1 (Nown.append N1) fun m' news' s'' F2 N2 hn2 hI2 => ?_
    refine ih (i + 1) f s'' (by omega) (by omega) ⟨m', news', ?_, F2, N2.right, hn2, hI2⟩
    refine W.frame _ _ _ hst' fun b hb o e => ?_
    rw [List.mem_singleton.mp hb] at e ⊢
    exact (N2 _ (List.mem_append_left _ (mem_ownOf (List.mem_singleton.mpr rfl) h0 e))).1
theorem for_str {x : Str} {t : Tok} {s : Shared} {m : Str → Option Value} {news : List (Addr × Obj)} (hh : A.handled = none) (hx : x.cps.size < 64) (F : Fr h₀ env.locals s.heap m) (N : News h₀ env.locals s.heap news)
    (Inv : Nat → (Str → Option Value) → List (Addr × Obj) → Shared → Prop) (hInv : ∀ i m news s h tk, Inv i m news s → Inv i m news { s with heap := h, toks := tk }) (h0 : Inv 0 m news s)
    (step : ∀ I i c u m news s' own rest, x.cps[i]? = some c → Inv i m news s' → (∀ q ∈ news, q.1 ≠ I) → (∀ q ∈ own, q.1 = I) → (∃ o, (I, o) ∈ own) → h₀.get? I = none → Fr h₀ env.locals s'.heap m → News h₀ env.locals s'.heap (own ++ news) →
      (∀ m' news' s'', Fr h₀ env.locals s''.heap m' → News h₀ env.locals s''.heap (own ++ news') → (∀ q ∈ news', q.1 ≠ I) → Inv (i + 1) m' news' s'' → rest s'') →
      wpAny (model prog w) A (storeName env v (.str ⟨#[c]⟩ u)) (fun _ s₂ => wpAny (model prog w) A (execs body env) (OwitFlow Q rest) E s₂) E s')
    (fin : ∀ m news s', Fr h₀ env.locals s'.heap m → News h₀ env.locals s'.heap news → Inv x.cps.size m news s' → Q .next s') :
    wpAny (model prog w) A (pyIter (.str x t)) (OwitAt prog w A E env v body Q) E s := by
  have hlt : ∀ b ob, s.heap.get? b = some ob → b < s.heap.objs.size := fun b ob e => Heap.lt_size e
  have hfresh : h₀.get? s.heap.objs.size = none := by
    cases e : h₀.get? s.heap.objs.size with
    | none => rfl
    | some ob => exact absurd (hlt _ _ (F.keep _ _ e)) (Nat.lt_irrefl _)
  have hLI : env.locals ≠ s.heap.objs.size := by
    obtain ⟨ob, _, _, ho, _⟩ := F.ns
    exact Nat.ne_of_lt (hlt _ _ ho)
  have key : ∀ (o : Obj) (St : Nat → Heap → Prop), Walks prog w A s.heap.objs.size [s.heap.objs.size] [s.heap.objs.size] x.cps.size (SignAt x) St → St 0 (s.heap.push o) → (∀ i h, St i h → ∃ o, h.get? s.heap.objs.size = some o) →
      OwitAt prog w A E env v body Q (.ref s.heap.objs.size) { s with heap := s.heap.push o } := fun o St W hst live => by
    refine OwitAt.intro ?_
    refine owit_str W Inv hInv hLI hfresh live (fun i c u m news s' own rest a b d e e2 f g k => step _ i c u m news s' own rest a b d e e2 hfresh f g k) (fun m news s' F N _ h => fin m news s' F N h) x.cps.size 0 64 _ (by omega) hx ?_
    exact ⟨m, news, hst, F.push _, fun p hp => ⟨Heap.get?_push_of_some _ (N p hp).1, (N p hp).2⟩, fun q hq => Nat.ne_of_lt (hlt _ _ (N q hq).1), hInv _ _ _ _ _ _ h0⟩
  cases ha : x.cps.all (· < 128)
  · exact wpAny_pyIter_wide ha (key _ _ (Walks.strWide hh _ x t) ⟨_, Heap.get?_push_size _ rfl, rfl, rfl⟩ fun i h st => let ⟨o, ho, _⟩ := st; ⟨o, ho⟩)
  · exact wpAny_pyIter_ascii ha (key _ _ (Walks.strAscii hh _ x t) ⟨_, Heap.get?_push_size _ rfl, rfl, rfl⟩ fun i h st => let ⟨o, ho, _⟩ := st; ⟨o, ho⟩)
end
end
section
open PySem PySem.W PySem.Calls PyProof.Rows PySem.Spec
set_option maxRecDepth 100000
set_option linter.unusedVariables false
theorem news_pk {h₀ h : Heap} {L : Addr} {a b c d : Addr × Obj} {r : List (Addr × Obj)} (N : News h₀ L h (a :: b :: c :: d :: r)) : News h₀ L h (b :: c :: a :: d :: r) := fun q hq => by
  refine N q ?_
  simp only [List.mem_cons] at hq ⊢
  grind
theorem news_kp {h₀ h : Heap} {L : Addr} {a b c d e : Addr × Obj} {r : List (Addr × Obj)} (N : News h₀ L h (b :: e :: c :: a :: d :: r)) : News h₀ L h (a :: b :: c :: d :: e :: r) := fun q hq => by
  refine N q ?_
  simp only [List.mem_cons] at hq ⊢
  grind
@[reducible] noncomputable def body_f20 : List Stmt := lit (show forB (nst 20 2) = _ by conv => lhs; whnf)
noncomputable def mB (z : Str → Option Value) (lv : Option Value) : Str → Option Value := fun y => if y = Str.ofString "letter" then lv else z y
noncomputable abbrev z20 (x lo : Addr) (a : Int) (ta : Tok) (wd : Str) (tw : Tok) : Str → Option Value := fun y => if y = Str.ofString "low" then some (.ref lo) else if y = Str.ofString "table" then some (.ref x) else List.lookup y [(Str.ofString "head", .int a ta), (Str.ofString "word", .str wd tw)]
/-- all others of the ledger -/
structure Off20 (x lo dx : Addr) (tail : List (Addr × Obj)) : Prop where
  f1 : ∀ q ∈ tail, q.1 ≠ x
  f2 : ∀ q ∈ tail, q.1 ≠ lo
  f3 : ∀ q ∈ tail, q.1 ≠ 105
  a1 : dx ≠ x
  a2 : lo ≠ x
  a3 : dx ≠ lo
  a4 : (105 : Addr) ≠ x
  a5 : (105 : Addr) ≠ lo
  a6 : dx ≠ 105
noncomputable def Clear20 (x lo : Addr) (tail : List (Addr × Obj)) : Prop := ∀ (ps : Array Value) (lobj : Obj), ∀ q ∈ (105, tabObj ps) :: (lo, lobj) :: tail, q.1 ≠ x
set_option maxHeartbeats 4000000 in
theorem turn20 {w : World} {p : Program} {loose : List Str} {mean : ExcName → Option Value} {mg mb : Str → Option Value} {wd : Str} {tw ta t1 kt : Tok} {a : Int}  (dp un : Nat) (gd : Option (List Code)) (cn : Str) (cs : Scope) (a₀ : Addr) (ccd : Value) (cl : List (Str × Addr)) (outer : List Env) (base h₀ g' : Heap) (L L' : Addr) (m : Str → Option Value) (x lo dx : Addr) (tail : List (Addr × Obj)) (s : Shared)
    (B' : Below (ktrTop dp un gd cn cs L a₀ ccd cl outer) base (envX cn cs L a₀ ccd cl :: outer) g') (X' : (K w.params).In g') (T' : Top p loose mean mg mb g') (hd : dp + 60 < recursionLimit) (hu : un + 900 < cLine) (hk : cs.kind = .function)
    (E : Value → Shared → Prop) (Q : Flow → Shared → Prop) (c : Nat) (tc : Tok) (ps its : Array Value) (qs : List PQ) (n : Nat) (lobj : Obj) (kvs : List (Str × Value))
    (F : Fr g' L' s.heap (mB (z20 x lo a ta wd tw) (some (.str ⟨#[c]⟩ tc)))) (N : News g' L' s.heap ((105, tabObj ps) :: (x, accObj 143 dx its n) :: (dx, initObj w.params a t1 kt) :: (lo, lobj) :: tail)) (O : Off20 x lo dx tail)
    (G : AllBare s.gens) (hits : its.toList = qs.map fun q => Value.ref q.1) (hqs : ∀ q ∈ qs, pqObj q ∈ tail) (htab : TabOk posL ps) (hql : ∀ q ∈ qs, q.2.1.length ≤ 2 ^ 20 ∧ q.2.2.1.length ≤ 2 ^ 20) (ha0 : 0 ≤ a) (ha1 : a ≤ 2 ^ 40) (hqn : qs.length ≤ 5) (hlo : lobj.IsDictOf (strKind rw.prog w) kvs) (hkv : kvs.length ≤ 5) (hc0 : 0 ≤ Txt.count wd ⟨#[c]⟩) (hc1 : Txt.count wd ⟨#[c]⟩ ≤ 1000)
    (hret : ∀ s' D u v ps' lobj' t, Fr g' L' s'.heap (mB (z20 x lo a ta wd tw) (some (.str ⟨#[c]⟩ tc))) → News g' L' s'.heap ((105, tabObj ps') :: (x, accObj 143 dx (its.push (.ref D)) (n + 1)) :: (dx, initObj w.params a t1 kt) :: (lo, lobj') :: (D, tupS (Str.ofString "") (Txt.mul ⟨#[c]⟩ (Txt.count wd ⟨#[c]⟩)) u v) :: tail) → x < D → dx < D → lo < D → (∀ q ∈ tail, q.1 < D) →
      AllBare s'.gens → s'.os = s.os → TabOk posL ps' → lobj'.IsDictOf (strKind rw.prog w) (stored kvs ⟨#[c]⟩ (.int (a + (qs.map lenq).sum) t)) → Q .next s') :
    wpAny (model rw.prog w) ((ktrTop dp un gd cn cs L a₀ ccd cl outer).deeper (envOf (Str.ofString "_law_table") scope_s20 L' 230 (.ref 229))) (execs body_f20 (envOf (Str.ofString "_law_table") scope_s20 L' 230 (.ref 229))) Q E s := by
  obtain ⟨o1, o2, o3, o4, o5, o6, o7, o8, o9⟩ := O
  have hPr : ∀ q ∈ (lo, lobj) :: tail, q.1 ≠ 105 := by
    intro q hq
    rcases List.mem_cons.mp hq with rfl | hq
    · exact o8.symm
    · exact o3 q hq
  have hqs' : ∀ q ∈ qs, pqObj q ∈ (lo, lobj) :: tail := fun q hq => List.mem_cons_of_mem _ (hqs q hq)
  have hsz : its.size ≤ 5 := by
    have := congrArg List.length hits
    simp only [Array.length_toList, List.length_map] at this
    omega
  have hci : Clear20 x lo tail := by
    intro ps lobj q hq
    rcases List.mem_cons.mp hq with rfl | hq
    · exact o7
    rcases List.mem_cons.mp hq with rfl | hq
    · exact o5
    · exact o1 q hq
  have o7' := o7.symm
  have o5' := o5.symm
  have o8' := o8.symm
  revert X'
  k_fill
  intro X'
  dsimp only [body_f20, scope_s20, lit]
  unfold mB z20 at F
  (repeat' (first | (k_here; (with_reducible show wpAny _ _ (setItem ..) _ _ _); k_dflt (refine' kda_set (knd := PySem.strKind _ _) ?F ?N ?U ?d (strKind_is _ _ _ _) ?z ?_; (case F => k_asm); (case N => k_asm); (case U => exact .tail (by assumption) (.tail (by assumption) (.tail (by assumption) (.head (by assumption))))); (case d => k_asm); (case z => rw [sizeLine_eq]; omega)); intro _ _ _ N9 _; (try dsimp only at N9)) | (k_here; (with_reducible show wpAny _ _ (binaryOp Operator.Mult (Value.str _ _) (Value.int _ _)) _ _ _); (refine SB.mul (mulOk_of 16 1048576 (show 1 ≤ 16 by decide) (by omega) (by omega) (by decide) (by decide)) ?_; intro _ _)) | (k_here; (with_reducible show wpAny _ _ (call (Value.ref 87) [Value.ref _, Value.str _ _, Value.str _ _]) _ _ _); k_dflt (refine' acc_push ?c1 ?c2 _ _ _ _ _ _ _ _ _ _ _ _ _ _ _ _ _ _ ?_ ?_ ?_ ?cN ?_ ?_ ?_ ?_ ?_ ?ci ?_; (case cN => exact news_pk (by k_asm)); (case c1 => (rw [sizeLine_eq]; omega)); (case c2 => exact init_shadow.1); (case ci => exact (by assumption : Clear20 _ _ _) _ _); walk_at "cc"; intro _ _ _ _ _ _ _ _ _ _)) | ((with_reducible show wpAny _ _ (call (Value.builtin "len") _ _) _ _ _); k_here; k_dflt (refine' acc_blen (t1 := _) (kt := _) ?_ ?_ _ _ _ _ _ _ _ _ _ _ _ _ _ _ _ _ _ _ ?_ ?_ ?_ ?_ ?_ ?_ ?_ ?_ ?_ ?_ ?_ ?_ ?_ ?_ ?_ ?_ ?_; walk_at "cc"; intro _ _ _ _ _ _ _ _)) | ((with_reducible show wpAny _ _ (getMethod (Value.ref _) _ _) _ _ _); k_here; k_dflt (refine method_fnL (C := 143) (Frag.In.keeps (by k_asm) (Fr.keep (by k_asm))) (by k_inst) (by k_is) (by k_is) (by k_is) (by k_is) rfl ?_)) | (k_unfold; (try dsimp only)) | (k_end; kc_close) | walk1 | (dsimp only; walk1) | (leave1; walk_say "STEP leave1"; (try dsimp only))))
  rename_i l1 l2 l3
  rename Fr _ _ _ _ => F9
  rename News _ _ _ _ => N9
  rename TabOk _ _ => P9
  rename Obj.IsDictOf _ _ _ => d9
  rename AllBare _ => G9
  exact hret _ _ _ _ _ _ _ F9 (news_kp N9) l1 l2 (l3 _ (List.mem_cons_of_mem _ (List.mem_cons_self ..))) (fun q hq => l3 q (List.mem_cons_of_mem _ (List.mem_cons_of_mem _ hq))) G9 (by assumption) P9 d9
end
section
open PySem PySem.W PySem.Calls PyProof.Rows PySem.Spec
set_option maxRecDepth 100000
set_option linter.unusedVariables false

noncomputable abbrev lets : List Nat := [102, 105, 108, 115, 116]
noncomputable def LowIs (cnt : Nat → Int) : Int → List Nat → List (Str × Value) → Prop
  | _, [], [] => True
  | a, c :: cs, kv :: kvs => kv.1 = ⟨#[c]⟩ ∧ (∃ t, kv.2 = .int a t) ∧ LowIs cnt (a + cnt c) cs kvs
  | _, _, _ => False
theorem LowIs.length {cnt : Nat → Int} : ∀ {a : Int} {cs : List Nat} {kvs : List (Str × Value)}, LowIs cnt a cs kvs → kvs.length = cs.length
  | _, [], [], _ => rfl
  | _, _ :: _, _ :: _, h => by simp [LowIs.length h.2.2]
  | _, [], _ :: _, h => h.elim
  | _, _ :: _, [], h => h.elim
theorem LowIs.put {cnt : Nat → Int} {c : Nat} {t : Tok} : ∀ {a : Int} {cs : List Nat} {kvs : List (Str × Value)}, LowIs cnt a cs kvs → LowIs cnt a (cs ++ [c]) (kvs ++ [(⟨#[c]⟩, .int (a + (cs.map cnt).sum) t)])
  | a, [], [], _ => ⟨rfl, ⟨t, by simp⟩, trivial⟩
  | a, c' :: cs, kv :: kvs, h => ⟨h.1, h.2.1, by have := LowIs.put (c := c) (t := t) h.2.2; rwa [Int.add_assoc] at this⟩
  | _, [], _ :: _, h => h.elim
  | _, _ :: _, [], h => h.elim
theorem LowIs.no {cnt : Nat → Int} {c : Nat} : ∀ {a : Int} {cs : List Nat} {kvs : List (Str × Value)}, LowIs cnt a cs kvs → c ∉ cs → kvs.any (fun kv => kv.1 = (⟨#[c]⟩ : Str)) = false
  | _, [], [], _, _ => rfl
  | a, c' :: cs, kv :: kvs, h, hc => by
    rw [List.any_cons, LowIs.no h.2.2 (fun hm => hc (List.mem_cons_of_mem _ hm)), Bool.or_false, h.1]
    have : c' ≠ c := fun e => hc (e ▸ List.mem_cons_self ..)
    simp [this]
  | _, [], _ :: _, h, _ => h.elim
  | _, _ :: _, [], h, _ => h.elim
theorem LowIs.at {cnt : Nat → Int} {c : Nat} : ∀ {a : Int} {cs : List Nat} {kvs : List (Str × Value)}, LowIs cnt a cs kvs → c ∈ cs → ∃ t, valueAt kvs ⟨#[c]⟩ = some (.int (a + ((cs.takeWhile (fun y => y != c)).map cnt).sum) t)
  | _, [], [], _, hc => by cases hc
  | a, c' :: cs, kv :: kvs, h, hc => by
    obtain ⟨e1, ⟨t, e2⟩, h3⟩ := h
    by_cases he : c' = c
    · subst he
      refine ⟨t, ?_⟩
      unfold valueAt
      rw [List.find?_cons_of_pos (by simpa using e1)]
      simp [e2]
    · have hc2 : c ∈ cs := by
        rcases List.mem_cons.mp hc with rfl | h
        · exact absurd rfl he
        · exact h
      obtain ⟨t2, ih⟩ := LowIs.at h3 hc2
      refine ⟨t2, ?_⟩
      unfold valueAt at ih ⊢
      rw [List.find?_cons_of_neg (by rw [e1]; simpa using he), ih, List.takeWhile_cons_of_pos (by simpa using he), List.map_cons, List.sum_cons, Int.add_assoc]
  | _, [], _ :: _, h, _ => h.elim
  | _, _ :: _, [], h, _ => h.elim

/-- the runs of the letters, as the table holds them -/
noncomputable def PQsAre (wd : Str) (cs : List Nat) (qs : List PQ) : Prop := qs.map (fun q => (q.2.1, q.2.2.1)) = cs.map fun c => (Str.ofString "", Txt.mul ⟨#[c]⟩ (Txt.count wd ⟨#[c]⟩))
theorem lets_no : ∀ (i c : Nat), lets[i]? = some c → c ∉ lets.take i := by
  intro i c h
  rcases i with _ | _ | _ | _ | _ | i
  · simp
  all_goals (simp [lets] at h)
  all_goals (subst h; decide)
theorem lets_take {i c : Nat} (h : lets[i]? = some c) : lets.take (i + 1) = lets.take i ++ [c] := by
  rw [List.take_add_one, h]; rfl
theorem pqs_sum {wd : Str} {cs : List Nat} {qs : List PQ} (h : PQsAre wd cs qs) (hc : ∀ c ∈ cs, 0 ≤ Txt.count wd ⟨#[c]⟩) : (qs.map lenq).sum = (cs.map fun c => Txt.count wd ⟨#[c]⟩).sum := by
  unfold PQsAre at h
  have e : qs.map lenq = (qs.map fun q => (q.2.1, q.2.2.1)).map fun p : Str × Str => (p.1.length : Int) + (p.2.length : Int) := by
    rw [List.map_map]; rfl
  rw [e, h, List.map_map]
  congr 1
  refine List.map_congr_left fun c hm => ?_
  show ((Str.ofString "").length : Int) + ((Txt.mul ⟨#[c]⟩ (Txt.count wd ⟨#[c]⟩)).length : Int) = _
  rw [len_mul]
  have h0 := hc c hm
  rw [decide_eq_false (by omega)]
  show ((0 : Nat) : Int) + ((1 : Nat) : Int) * Txt.count wd ⟨#[c]⟩ = _
  omega
theorem fr_next20 {g h : Heap} {L x lo : Addr} {a : Int} {ta tw : Tok} {wd : Str} {lv : Option Value} {v : Value} (F : Fr g L h (fun y => if y = Str.ofString "letter" then some v else mB (z20 x lo a ta wd tw) lv y)) : Fr g L h (mB (z20 x lo a ta wd tw) (some v)) := by
  have e : (fun y => if y = Str.ofString "letter" then some v else mB (z20 x lo a ta wd tw) lv y) = mB (z20 x lo a ta wd tw) (some v) := by
    funext y
    unfold mB
    by_cases h : y = Str.ofString "letter"
    · simp [h]
    · simp [h]
  rw [← e]; exact F
noncomputable def Inv20 (w : World) (wd : Str) (tw ta kt : Tok) (a : Int) (x lo dx : Addr) (rest : List (Addr × Obj)) (os : OsState) (i : Nat) (m : Str → Option Value) (news : List (Addr × Obj)) (s : Shared) : Prop :=
  ∃ lv ps its qs n lobj kvs, m = mB (z20 x lo a ta wd tw) lv ∧ news = (105, tabObj ps) :: (x, accObj 143 dx its n) :: (dx, initObj w.params a ta kt) :: (lo, lobj) :: ((qs.map pqObj).reverse ++ rest) ∧
    AllBare s.gens ∧ s.os = os ∧ its.toList = qs.map (fun q => Value.ref q.1) ∧ PQsAre wd (lets.take i) qs ∧ (∀ q ∈ qs, q.2.1.length ≤ 2 ^ 20 ∧ q.2.2.1.length ≤ 2 ^ 20) ∧ (∀ q ∈ qs, lo < q.1) ∧ TabOk posL ps ∧ lobj.IsDictOf (strKind rw.prog w) kvs ∧ LowIs (fun c => Txt.count wd ⟨#[c]⟩) a (lets.take i) kvs
theorem fr_first20 {g h : Heap} {L x lo : Addr} {a : Int} {ta tw : Tok} {wd : Str} (F : Fr g L h (z20 x lo a ta wd tw)) : Fr g L h (mB (z20 x lo a ta wd tw) none) := by
  have e : z20 x lo a ta wd tw = mB (z20 x lo a ta wd tw) none := by
    funext y
    unfold mB
    by_cases h : y = Str.ofString "letter"
    · subst h; rfl
    · rw [if_neg h]
  rw [← e]; exact F
set_option maxHeartbeats 4000000 in
theorem law_table {w : World} {p : Program} {loose : List Str} {mean : ExcName → Option Value} {mg mb : Str → Option Value} {wd : Str} {tw ta : Tok} {a : Int}
  (dp un : Nat) (gd : Option (List Code)) (cn : Str) (cs : Scope) (a₀ : Addr) (ccd : Value) (cl : List (Str × Addr)) (outer : List Env) (A₀ : Around) (base h₀ : Heap) (L : Addr) (m : Str → Option Value) (ps : Array Value) (rest : List (Addr × Obj)) (s : Shared)
    (Q E : Value → Shared → Prop) (B : Below A₀ base outer h₀) (F : Fr h₀ L s.heap m) (X : (K w.params).In h₀) (N : News h₀ L s.heap ((105, tabObj ps) :: rest)) (T : Top p loose mean mg mb h₀) (hk : cs.kind = .function) (hd : dp + 80 < recursionLimit) (hu : un + 1200 < cLine)
    (G : AllBare s.gens) (htab : TabOk posL ps) (hPr : ∀ q ∈ rest, q.1 ≠ 105) (ha0 : 0 ≤ a) (ha1 : a ≤ 2 ^ 40) (hc : ∀ c ∈ lets, 0 ≤ Txt.count wd ⟨#[c]⟩ ∧ Txt.count wd ⟨#[c]⟩ ≤ 1000)
    (hret : ∀ s' T x dx lo lobj kvs kt ps' its n qs, Fr h₀ L s'.heap m → News h₀ L s'.heap ((T, { cls := .type "tuple", data := .seq #[.ref x, .ref lo] }) :: (105, tabObj ps') :: (x, accObj 143 dx its n) :: (dx, initObj w.params a ta kt) :: (lo, lobj) :: ((qs.map pqObj).reverse ++ rest)) →
      (∀ q ∈ rest, q.1 < dx) → dx < x → x < lo → 105 < dx → (∀ q ∈ qs, lo < q.1) → (∀ q ∈ qs, q.1 < T) → lo < T → its.toList = qs.map (fun q => Value.ref q.1) → PQsAre wd lets qs → lobj.IsDictOf (strKind rw.prog w) kvs → LowIs (fun c => Txt.count wd ⟨#[c]⟩) a lets kvs → TabOk posL ps' → AllBare s'.gens → s'.os = s.os → Q (.ref T) s') :
    wpAny (model rw.prog w) (ktrTop dp un gd cn cs L a₀ ccd cl outer) (call (.ref 230) [.str wd tw, .int a ta]) Q E s := by
  revert X
  k_fill
  intro X
  refine wpAny_call ?_
  k_dflt ktr_enter
  dsimp only [body_s20, scope_s20, par_s20, lit]
  refine let_A ?_
  intro A1
  (repeat' (first | ((with_reducible show wpAny _ _ (pyIter (Value.str _ _)) _ _ _); refine stop_intro ?_) | ((with_reducible show wpAny _ _ (exec (Stmt.For ..) _) _ _ _); k_here; refine owit_for ?_) | ((with_reducible show wpAny _ _ (call (Value.ref _) _ _) _ _ _); k_here; k_dflt (apply acc_make; walk_at "cc"); intro _ _ _ _ _ _ _ _ _) | (k_unfold; (try dsimp only)) | (k_end; kc_close) | walk1 | (dsimp only; walk1) | (leave1; walk_say "STEP leave1"; (try dsimp only))))
  unfold Stop
  rename (_ ∧ _ ∧ _ ∧ AllLt _ _) => l1
  rename (∀ q ∈ (105, _) :: rest, _) => l2
  rename Fr _ _ _ _ => F9
  rename Fr h₀ _ _ _ => FG9
  rename News _ _ _ _ => N9
  rename Obj.IsDictOf (PySem.strKind _ _) _ _ => d9
  rename Below _ _ _ _ => B9
  rename Top _ _ _ _ _ _ => T9
  rename (K w.params).In _ => X9
  rename_i g' L' h1 x dx kt h2 tk2 l3 h3 t1 m1 lo h4 oo lo' fs hi fi h5 tq m2
  have F8 : Fr g' L' h5 (mB (z20 x lo a ta wd tw) none) := by
    refine fr_first20 ?_
    exact F9
  have N8 : News g' L' h5 ((105, tabObj ps) :: (x, accObj 143 dx #[] 0) :: (dx, initObj w.params a ta kt) :: (lo, oo) :: ((([] : List PQ).map pqObj).reverse ++ rest)) := fun q hq => N9 q (by
    simp only [List.map_nil, List.reverse_nil, List.nil_append, List.mem_cons] at hq ⊢
    grind)
  have p105 : 105 < dx := l2 (105, tabObj ps) (List.mem_cons_self ..)
  have pr : ∀ q ∈ rest, q.1 < dx := fun q hq => l2 q (List.mem_cons_of_mem _ hq)
  obtain ⟨l1a, l1b, l1c, l1d⟩ := l1
  refine for_str (m := mB (z20 x lo a ta wd tw) none) (by exact rfl) (by decide) F8 N8 (Inv20 w wd tw ta kt a x lo dx rest s.os) (fun i m news s h tk h => h) ?h0 ?step ?fin
  case h0 => exact ⟨none, ps, #[], [], 0, oo, [], rfl, rfl, G, rfl, rfl, rfl, (fun _ h => nomatch h), (fun _ h => nomatch h), htab, d9, trivial⟩
  case step => 
    intro I i c u m news s' own rest' hc' hI hn ho ho2 hI0 F1 N1 hre
    obtain ⟨lv, ps1, its, qs, n, lobj, kvs, rfl, rfl, hG, hos, hits, hqs, hql, hlt, htab1, hlo, hlow⟩ := hI
    have hci : lets[i]? = some c := by
      have e : (Str.ofString "filst").cps = lets.toArray := by decide
      rw [e, List.getElem?_toArray] at hc'
      exact hc'
    have hcm := List.mem_of_getElem? hci
    have hcc := hc c hcm
    have hno := lets_no i c hci
    have htk := lets_take hci
    have hsum := pqs_sum hqs fun c hc1 => (hc c (List.mem_of_mem_take hc1)).1
    have hlen : qs.length = (lets.take i).length := by
      have := congrArg List.length hqs
      simpa [PQsAre] using this
    have hl5 : (lets.take i).length ≤ 5 := by simp; omega
    have hall : ∀ q ∈ ((qs.map pqObj).reverse ++ rest), q.1 ≠ x ∧ q.1 ≠ lo ∧ q.1 ≠ 105 := by
      intro q hq
      rcases List.mem_append.mp hq with hq | hq
      · obtain ⟨y, hy, rfl⟩ := List.mem_map.mp (List.mem_reverse.mp hq)
        have := hlt y hy
        exact ⟨Nat.ne_of_gt (Nat.lt_trans l1a this), Nat.ne_of_gt this, Nat.ne_of_gt (Nat.lt_trans l1c this)⟩
      · have := pr q hq
        exact ⟨Nat.ne_of_lt (Nat.lt_trans this l3), Nat.ne_of_lt (Nat.lt_trans this l1b), hPr q hq⟩
    have hO : Off20 x lo dx (own ++ ((qs.map pqObj).reverse ++ rest)) := by
      have hx : I ≠ x := (hn (x, accObj 143 dx its n) (by repeat (first | exact .head _ | apply List.Mem.tail))).symm
      have hlo' : I ≠ lo := (hn (lo, lobj) (by repeat (first | exact .head _ | apply List.Mem.tail))).symm
      have h105 : I ≠ 105 := (hn (105, tabObj ps1) (by repeat (first | exact .head _ | apply List.Mem.tail))).symm
      refine ⟨fun q hq => ?_, fun q hq => ?_, fun q hq => ?_, Nat.ne_of_lt l3, Nat.ne_of_gt l1a, Nat.ne_of_lt l1b, Nat.ne_of_lt (Nat.lt_trans p105 l3), Nat.ne_of_lt l1c, Nat.ne_of_gt p105⟩
      all_goals rcases List.mem_append.mp hq with hq | hq
      · rw [ho q hq]; exact hx
      · exact (hall q hq).1
      · rw [ho q hq]; exact hlo'
      · exact (hall q hq).2.1
      · rw [ho q hq]; exact h105
      · exact (hall q hq).2.2
    walk_at "storeName"
    rename Fr _ _ _ _ => F7
    rename News _ _ _ _ => N7
    refine turn20 (tw := tw) (ta := ta) (t1 := ta) (kt := kt) dp un gd cn cs a₀ ccd cl outer base h₀ g' L L' m x lo dx (own ++ ((qs.map pqObj).reverse ++ rest)) _ B9 X9 T9 (by omega) (by omega) hk _ _ c u ps1 its qs n lobj kvs ?fF ?fN hO hG hits ?fq htab1 hql ha0 ha1 (by omega) hlo (by rw [hlow.length]; exact hl5) hcc.1 hcc.2 ?fr
    case fF => exact fr_next20 F7
    case fN => 
      intro q hq
      refine N7 q ?_
      simp only [List.mem_cons, List.mem_append] at hq ⊢
      grind
    case fq => exact fun q hq => List.mem_append_right _ (List.mem_append_left _ (List.mem_reverse.mpr (List.mem_map_of_mem hq)))
    case fr =>
      intro s2 D u' v' ps2 lobj2 t2 F2 N2 d1 d2 d3 d4 G2 os2 tab2 low2
      refine hre _ ((105, tabObj ps2) :: (x, accObj 143 dx (its.push (.ref D)) (n + 1)) :: (dx, initObj w.params a ta kt) :: (lo, lobj2) :: (((qs ++ [(D, Str.ofString "", Txt.mul ⟨#[c]⟩ (Txt.count wd ⟨#[c]⟩), u', v')]).map pqObj).reverse ++ rest)) s2 F2 ?fN ?fI ?fV
      case fN =>
        intro q hq
        refine N2 q ?_
        simp only [List.map_append, List.reverse_append, List.map_cons, List.map_nil, List.reverse_cons, List.reverse_nil, List.nil_append, List.mem_cons, List.mem_append, List.cons_append] at hq ⊢
        grind
      case fI =>
        intro q hq
        obtain ⟨ob, hob⟩ := ho2
        have hID : I < D := d4 (I, ob) (List.mem_append_left _ hob)
        simp only [List.map_append, List.reverse_append, List.map_cons, List.map_nil, List.reverse_cons, List.reverse_nil, List.nil_append, List.mem_cons, List.mem_append, List.cons_append] at hq
        rcases hq with rfl | rfl | rfl | rfl | rfl | hq
        · exact hn (105, tabObj ps1) (by repeat (first | exact .head _ | apply List.Mem.tail))
        · exact hn (x, accObj 143 dx its n) (by repeat (first | exact .head _ | apply List.Mem.tail))
        · exact hn (dx, initObj w.params a ta kt) (by repeat (first | exact .head _ | apply List.Mem.tail))
        · exact hn (lo, lobj) (by repeat (first | exact .head _ | apply List.Mem.tail))
        · exact Nat.ne_of_gt hID
        · exact hn q (.tail _ (.tail _ (.tail _ (.tail _ (List.mem_append.mpr hq)))))
      case fV =>
        refine ⟨_, ps2, its.push (.ref D), qs ++ [(D, Str.ofString "", Txt.mul ⟨#[c]⟩ (Txt.count wd ⟨#[c]⟩), u', v')], n + 1, lobj2, _, rfl, rfl, G2, os2.trans hos, ?_, ?_, ?_, ?_, tab2, low2, ?_⟩
        · simp [hits]
        · rw [htk]; unfold PQsAre at hqs ⊢; rw [List.map_append, List.map_append, hqs]; rfl
        · intro q hq
          rcases List.mem_append.mp hq with hq | hq
          · exact hql q hq
          · rw [List.mem_singleton.mp hq]
            refine ⟨show (Str.ofString "").length ≤ 2 ^ 20 by decide, ?_⟩
            have := len_mul_one (y := ⟨#[c]⟩) (n := Txt.count wd ⟨#[c]⟩) (N := 1000) rfl hcc.2
            exact Nat.le_trans this (by decide)
        · intro q hq
          rcases List.mem_append.mp hq with hq | hq
          · exact hlt q hq
          · rw [List.mem_singleton.mp hq]; exact d3
        · rw [htk]
          have e : stored kvs (⟨#[c]⟩ : Str) (Value.int (a + (qs.map lenq).sum) t2) = kvs ++ [(⟨#[c]⟩, Value.int (a + ((lets.take i).map fun c => Txt.count wd ⟨#[c]⟩).sum) t2)] := by
            unfold stored
            rw [hlow.no hno, hsum]; rfl
          rw [e]; exact hlow.put
  case fin =>
    intro m news s' F1 N1 hI
    obtain ⟨lv, ps1, its, qs, n, lobj, kvs, rfl, rfl, hG, hos, hits, hqs, hql, hlt, htab1, hlo, hlow⟩ := hI
    k_steps
    rename_i D h' F' N' l7 kF kN Tc kX
    have hD : ∀ q ∈ (qs.map pqObj).reverse ++ rest, q.1 < D := all_of l7.2.2.2.2
    exact hret _ D x dx lo lobj kvs kt ps1 its n qs kF kN pr l3 l1a p105 hlt (fun q hq => hD (pqObj q) (List.mem_append_left _ (List.mem_reverse.mpr (List.mem_map_of_mem hq)))) l7.2.2.2.1 hits hqs hlo hlow htab1 hG hos
end
section
open PySem PySem.W PySem.Calls PyProof.Rows PySem.Spec
set_option maxRecDepth 100000
set_option linter.unusedVariables false
/-- the code tables that the calls fill, in the ledger -/
noncomputable def Tabs (tb : List (Addr × Obj)) : Prop := ∃ t5 t6 pl ps, tb = t5 ++ (t6 ++ [(105, tabObj pl), (112, tabObj ps)]) ∧ Tab5 t5 ∧ Tab6 t6 ∧ TabOk posL pl ∧ TabOk posS ps
noncomputable def Plain (o : Obj) : Prop := ∀ vs, o.data ≠ .fields vs
theorem tab5_fields {t5 : List (Addr × Obj)} (h : Tab5 t5) : ∀ q ∈ t5, ∃ vs, q.2.data = .fields vs := by
  rcases h with rfl | ⟨c', oc, vc, tc, rfl, e1, e2⟩
  · intro q hq
    rw [List.mem_singleton.mp hq]; exact ⟨_, rfl⟩
  · intro q hq
    rcases List.mem_cons.mp hq with rfl | hq
    · exact ⟨_, rfl⟩
    · rw [List.mem_singleton.mp hq]; exact ⟨_, e1⟩
theorem tab6_fields {t6 : List (Addr × Obj)} (h : Tab6 t6) : ∀ q ∈ t6, ∃ vs, q.2.data = .fields vs := by
  rcases h with rfl | ⟨c', oc, vc, tc, rfl, e1, e2⟩
  · intro q hq
    rw [List.mem_singleton.mp hq]; exact ⟨_, rfl⟩
  · intro q hq
    rcases List.mem_cons.mp hq with rfl | hq
    · exact ⟨_, rfl⟩
    · rw [List.mem_singleton.mp hq]; exact ⟨_, e1⟩
theorem tabs_fields {tb : List (Addr × Obj)} (h : Tabs tb) : ∀ q ∈ tb, ∃ vs, q.2.data = .fields vs := by
  obtain ⟨t5, t6, pl, ps, rfl, h5, h6, _, _⟩ := h
  intro q hq
  rcases List.mem_append.mp hq with hq | hq
  · exact tab5_fields h5 q hq
  rcases List.mem_append.mp hq with hq | hq
  · exact tab6_fields h6 q hq
  rcases List.mem_cons.mp hq with rfl | hq
  · exact ⟨_, rfl⟩
  · rw [List.mem_singleton.mp hq]; exact ⟨_, rfl⟩
theorem news_same {h₀ h : Heap} {L : Addr} {news : List (Addr × Obj)} {a : Addr} {o o' : Obj} (N : News h₀ L h news) (h1 : (a, o) ∈ news) (h2 : (a, o') ∈ news) : o = o' :=
  Option.some.inj ((N _ h1).1.symm.trans (N _ h2).1)
theorem tabs_apart {h₀ h : Heap} {L : Addr} {tb news : List (Addr × Obj)} {a : Addr} {o : Obj} (N : News h₀ L h news) (hs : ∀ q ∈ tb, q ∈ news) (ht : Tabs tb) (hm : (a, o) ∈ news) (ho : Plain o) : ∀ q ∈ tb, q.1 ≠ a := by
  rintro ⟨b, ob⟩ hq rfl
  obtain ⟨vs, e⟩ := tabs_fields ht _ hq
  exact ho vs (news_same N (hs _ hq) hm ▸ e)
/-- 105 and 112 are apart from the tables of the other two -/
theorem news_idm {h₀ h : Heap} {L : Addr} {t5 t6 two rest : List (Addr × Obj)} (N : News h₀ L h ((t5 ++ (t6 ++ two)) ++ rest)) : News h₀ L h (t5 ++ (t6 ++ (two ++ rest))) := by
  intro q hq
  refine N q ?_
  simp only [List.mem_append] at hq ⊢
  grind
theorem idmT {w : World} {p : Program} {loose : List Str} {mean : ExcName → Option Value} {mg mb : Str → Option Value} {a b : Int} {t1 t2 : Tok} (hb : b ≠ 0) (hbb : bits b ≤ 7999) (hab : bits a + bits b ≤ 40000) (hkk : bits a ≤ 255 * bits b)
  (dp un : Nat) (gd : Option (List Code)) (cn : Str) (cs : Scope) (a₀ : Addr) (ccd : Value) (cl : List (Str × Addr)) (outer : List Env) (A₀ : Around) (base h₀ : Heap) (L : Addr) (m : Str → Option Value) (tb rest : List (Addr × Obj)) (s : Shared)
    (Q E : Value → Shared → Prop) (B : Below A₀ base outer h₀) (F : Fr h₀ L s.heap m) (X : (K w.params).In h₀) (N : News h₀ L s.heap (tb ++ rest)) (T : Top p loose mean mg mb h₀) (hk : cs.kind = .function) (hd : dp + 310 < recursionLimit) (hu : un + 3500 < cLine)
    (hL : 249 < L) (C41 : CodeHd base 41 37) (C48 : CodeHd base 48 44) (ht : Tabs tb) (hr : ∀ q ∈ rest, @LT.lt Nat _ 249 q.1)
    (hret : ∀ T u v tb' h' tk', Tabs tb' → Fr h₀ L h' m → News h₀ L h' ((T, pairObj (a.fdiv b) (a.fmod b) u v) :: (tb' ++ rest)) → (∀ q ∈ tb' ++ rest, q.1 < T) → Q (.ref T) { s with heap := h', toks := tk' }) :
    wpAny (model rw.prog w) (ktrTop dp un gd cn cs L a₀ ccd cl outer) (call (.ref 63) [.int a t1, .int b t2]) Q E s := by
  obtain ⟨t5, t6, pl, ps, rfl, h5, h6, h7, h8⟩ := ht
  have hf : Far44 ([(105, tabObj pl), (112, tabObj ps)] ++ rest) := by
    intro q hq
    rcases List.mem_append.mp hq with hq | hq
    · rcases List.mem_cons.mp hq with rfl | hq
      · exact ⟨show (105 : Nat) ≠ 44 by decide, show (105 : Nat) ≠ 37 by decide⟩
      · rw [List.mem_singleton.mp hq]; exact ⟨show (112 : Nat) ≠ 44 by decide, show (112 : Nat) ≠ 37 by decide⟩
    · have := hr q hq
      exact ⟨Nat.ne_of_gt (Nat.lt_trans (by decide) this), Nat.ne_of_gt (Nat.lt_trans (by decide) this)⟩
  refine idm hb hbb hab hkk dp un gd cn cs a₀ ccd cl outer A₀ base h₀ L m t5 t6 _ s Q E B F X (news_idm N) T hk hd hu hL C41 C48 h5 h6 hf fun T u v t5' t6' h' tk' h5' h6' F' N' l1 => ?_
  refine hret T u v (t5' ++ (t6' ++ [(105, tabObj pl), (112, tabObj ps)])) h' tk' ⟨t5', t6', pl, ps, rfl, h5', h6', h7, h8⟩ F' (fun q hq => N' q ?_) (fun q hq => l1 q ?_)
  · simp only [List.mem_append, List.mem_cons] at hq ⊢
    grind
  · simp only [List.mem_append, List.mem_cons] at hq ⊢
    grind
end
section
open PySem PySem.W PySem.Calls PyProof.Rows PySem.Spec
set_option maxRecDepth 100000
set_option linter.unusedVariables false
@[reducible] noncomputable def body_f21 : List Stmt := lit (show forB (nst 21 1) = _ by conv => lhs; whnf)
noncomputable abbrev z21 (x lo : Addr) (wd : Str) (size unit start : Int) (tw ts tu tt : Tok) : Str → Option Value := fun y => if y = Str.ofString "pile" then some (.ref x) else List.lookup y [(Str.ofString "start", .int start tt), (Str.ofString "unit", .int unit tu), (Str.ofString "low", .ref lo), (Str.ofString "size", .int size ts), (Str.ofString "word", .str wd tw)]
set_option maxHeartbeats 4000000 in
theorem turn21 {w : World} {p : Program} {loose : List Str} {mean : ExcName → Option Value} {mg mb : Str → Option Value} {wd : Str} {size unit start a : Int} {tw ts tu tt t1 kt : Tok} (dp un : Nat) (gd : Option (List Code)) (cn : Str) (cs : Scope) (a₀ : Addr) (ccd : Value) (cl : List (Str × Addr)) (outer : List Env) (base h₀ g' : Heap) (L L' : Addr) (m : Str → Option Value) (x lo dx : Addr) (tail : List (Addr × Obj)) (s : Shared)
    (B' : Below (ktrTop dp un gd cn cs L a₀ ccd cl outer) base (envX cn cs L a₀ ccd cl :: outer) g') (X' : (K w.params).In g') (T' : Top p loose mean mg mb g') (hd : dp + 60 < recursionLimit) (hu : un + 900 < cLine) (hk : cs.kind = .function)
    (E : Value → Shared → Prop) (Q : Flow → Shared → Prop) (c : Nat) (tc : Tok) (its : Array Value) (n : Nat)
    (F : Fr g' L' s.heap (mB (z21 x lo wd size unit start tw ts tu tt) (some (.str ⟨#[c]⟩ tc)))) (N : News g' L' s.heap ((x, accObj 143 dx its n) :: (dx, initObj w.params a t1 kt) :: tail)) (hx : dx ≠ x) (ht : ∀ q ∈ tail, q.1 ≠ x) (hsz : its.size ≤ sizeLine)
    (hret : ∀ D u v h' tk', Fr g' L' h' (mB (z21 x lo wd size unit start tw ts tu tt) (some (.str ⟨#[c]⟩ tc))) → News g' L' h' ((x, accObj 143 dx (its.push (.ref D)) (n + 1)) :: (D, tupS (Str.ofString "") ⟨#[c]⟩ u v) :: (dx, initObj w.params a t1 kt) :: tail) → x < D → dx < D → (∀ q ∈ tail, q.1 < D) → Q .next { s with heap := h', toks := tk' }) :
    wpAny (model rw.prog w) ((ktrTop dp un gd cn cs L a₀ ccd cl outer).deeper (envOf (Str.ofString "_law_laid") scope_s21 L' 237 (.ref 236))) (execs body_f21 (envOf (Str.ofString "_law_laid") scope_s21 L' 237 (.ref 236))) Q E s := by
  revert X'
  k_fill
  intro X'
  dsimp only [body_f21, scope_s21, lit]
  unfold mB z21 at F
  (repeat' (first | (k_here; (with_reducible show wpAny _ _ (call (Value.ref 87) [Value.ref _, Value.str _ _, Value.str _ _]) _ _ _); k_dflt (refine acc_push (by assumption) init_shadow.1 _ _ _ _ _ _ _ _ _ _ _ _ _ _ _ _ _ _ (by k_asm) (by k_asm) (by k_asm) (by k_asm) (by k_asm) (by first | exact rfl | assumption) (by ktr_room) (by ktr_units) (by assumption) (by assumption) ?_; intro _ _ _ _ _ _ _ _ _ _)) | ((with_reducible show wpAny _ _ (getMethod (Value.ref _) _ _) _ _ _); k_here; k_dflt (refine method_fnL (C := 143) (Frag.In.keeps (by k_asm) (Fr.keep (by k_asm))) (by k_inst) (by k_is) (by k_is) (by k_is) (by k_is) rfl ?_)) | (k_unfold; (try dsimp only)) | (k_end; kc_close) | walk1 | (dsimp only; walk1) | (leave1; walk_say "STEP leave1"; (try dsimp only))))
  exact hret _ _ _ _ _ (by assumption) (by assumption) (by assumption) (by assumption) (by assumption)
theorem fr_next21 {g h : Heap} {L : Addr} {z : Str → Option Value} {lv : Option Value} {v : Value} (F : Fr g L h (fun y => if y = Str.ofString "letter" then some v else mB z lv y)) : Fr g L h (mB z (some v)) := by
  have e : (fun y => if y = Str.ofString "letter" then some v else mB z lv y) = mB z (some v) := by
    funext y
    unfold mB
    by_cases h : y = Str.ofString "letter"
    · simp [h]
    · simp [h]
  rw [← e]; exact F
end
section
open PySem PySem.W PySem.Calls PyProof.Rows PySem.Spec
local macro_rules | `(tactic| ke_room) => `(tactic| ktr_units)
section
open PySem PySem.W PySem.Calls PyProof.Rows PySem.Spec
set_option maxRecDepth 100000
set_option linter.unusedVariables false
local macro_rules | `(tactic| bits_by_make) => `(tactic| with_reducible assumption)
theorem ne_tupS {prog : Program} {w : World} {A : Around} {E : Value → Shared → Prop} {s : Shared} {h₀ : Heap} {L : Addr} {news : List (Addr × Obj)} {a b : Addr} {f p f2 p2 : Str} {u v u2 v2 : Tok} {Q : Value → Shared → Prop} (N : News h₀ L s.heap news) (h1 : (a, tupS f p u v) ∈ news) (h2 : (b, tupS f2 p2 u2 v2) ∈ news) (hu : A.units < cLine)
    (h : Q (.bool (!((f == f2) && (p == p2)))) s) : wpAny (model prog w) A (compareOp .NotEq (.ref a) (.ref b)) Q E s := by
  have ha : s.heap.IsTuple a #[.str f u, .str p v] := ⟨_, (N _ h1).1, rfl, _, rfl⟩
  have hb : s.heap.IsTuple b #[.str f2 u2, .str p2 v2] := ⟨_, (N _ h2).1, rfl, _, rfl⟩
  have r := SeqAt.RcNeAt.tuples (A := A) (e := fun j => if j = 0 then f == f2 else p == p2) ha hb hu (fun j j1 j2 => by
    have : j = 0 ∨ j = 1 := by simp at j1; omega
    rcases this with rfl | rfl
    · exact SeqAt.EqAt.str_str _ _ _ _
    · exact SeqAt.EqAt.str_str _ _ _ _)
  refine r prog w E Q ?_
  have e : (!((List.range (min (#[Value.str f u, .str p v] : Array Value).size (#[Value.str f2 u2, .str p2 v2] : Array Value).size)).all (fun j => if j = 0 then f == f2 else p == p2) && (#[Value.str f u, .str p v] : Array Value).size == (#[Value.str f2 u2, .str p2 v2] : Array Value).size)) = (!((f == f2) && (p == p2))) := by
    simp [List.range_succ]
  rw [e]; exact h
theorem one_ne_empty {c : Nat} : (!((Str.ofString "" == Str.ofString "") && ((⟨#[c]⟩ : Str) == Str.ofString ""))) = true := by
  have : ((⟨#[c]⟩ : Str) == Str.ofString "") = false := by
    rw [beq_eq_false_iff_ne]
    intro e
    have := congrArg (fun x : Str => x.cps.size) e
    simp at this
    exact absurd this (by decide)
  simp [this]
theorem item_last {prog : Program} {w : World} {A : Around} {E : Value → Shared → Prop} {s : Shared} {value slice : Expr} {l : Addr} {vs : List Value} {v : Value} {n : Nat} {u : Tok} {Q : Value → Shared → Prop} {h₀ : Heap} {L : Addr} {news : List (Addr × Obj)} (N : News h₀ L s.heap news) (hm : (l, W.listOf (vs ++ [v]).toArray n) ∈ news) (h : Q v s)
    (hs : subscripted slice false (.ref l) (.int (-1) u) = operate [.ref l, .int (-1) u] (getItem (.ref l) (.int (-1) u)) := by with_unfolding_all rfl) :
    wpAny (model prog w) A (subscriptTail value slice (.ref l) (.int (-1) u)) Q E s := by
  have hl : s.heap.IsList l (vs ++ [v]).toArray := ⟨_, (N _ hm).1, rfl, _, rfl⟩
  refine tail_any hl.typeIs slot_list_getitem.lookup (wpAny_getItem_list_neg hl (by decide) ?_ (by decide) ?_ h) hs
  · simp; omega
  · have e : (-1 + (((vs ++ [v]).toArray.size : Nat) : Int)).toNat = vs.length := by simp; omega
    rw [e]; simp
noncomputable def whB : Stmt → List Stmt
  | .While _ b _ _ => b
  | _ => []
noncomputable def whT : Stmt → Expr
  | .While t _ _ _ => t
  | _ => .Name Str.empty ⟨0, 0, 0, 0⟩
@[reducible] noncomputable def body_w21 : List Stmt := lit (show whB (nst 21 4) = _ by conv => lhs; whnf)
@[reducible] noncomputable def test_w21 : Expr := lit (show whT (nst 21 4) = _ by conv => lhs; whnf)
noncomputable def mW (z : Str → Option Value) (nl pt : Addr) (lv mv rv : Option Value) : Str → Option Value := fun y =>
  if y = Str.ofString "piece" then some (.ref pt) else if y = Str.ofString "rest" then rv else if y = Str.ofString "many" then mv else if y = Str.ofString "numbers" then some (.ref nl) else if y = Str.ofString "letter" then lv else z y
theorem news_in6 {h₀ h : Heap} {L : Addr} {a b c d e f : Addr × Obj} {tb r : List (Addr × Obj)} (N : News h₀ L h (a :: b :: c :: d :: e :: f :: (tb ++ r))) : News h₀ L h (tb ++ (b :: c :: d :: e :: f :: r)) := fun q hq => by
  refine N q ?_
  simp only [List.mem_cons, List.mem_append] at hq ⊢
  grind
theorem news_out5 {h₀ h : Heap} {L : Addr} {a b c d e f : Addr × Obj} {tb r : List (Addr × Obj)} (N : News h₀ L h (a :: (tb ++ (b :: c :: d :: e :: f :: r)))) : News h₀ L h (a :: b :: c :: d :: e :: f :: (tb ++ r)) := fun q hq => by
  refine N q ?_
  simp only [List.mem_cons, List.mem_append] at hq ⊢
  grind
theorem news_pop {h₀ h : Heap} {L : Addr} {a b c d e f : Addr × Obj} {r : List (Addr × Obj)} (N : News h₀ L h (a :: b :: c :: d :: e :: f :: r)) : News h₀ L h (c :: d :: a :: b :: e :: f :: r) := fun q hq => by
  refine N q ?_
  simp only [List.mem_cons] at hq ⊢
  grind
theorem news_back1 {h₀ h : Heap} {L : Addr} {a b c d e f : Addr × Obj} {r : List (Addr × Obj)} (N : News h₀ L h (a :: b :: c :: d :: e :: f :: r)) : News h₀ L h (d :: a :: b :: e :: r) := fun q hq => by
  refine N q ?_
  simp only [List.mem_cons] at hq ⊢
  grind
theorem news_back0 {h₀ h : Heap} {L : Addr} {z a b c d e f : Addr × Obj} {r : List (Addr × Obj)} (N : News h₀ L h (z :: a :: b :: c :: d :: e :: f :: r)) : News h₀ L h (z :: d :: a :: b :: e :: r) := fun q hq => by
  refine N q ?_
  simp only [List.mem_cons] at hq ⊢
  grind
noncomputable def lay (size unit : Int) (cnt : Nat → Int) (low : Nat → Int) (x : Int) (c : Nat) : Int := (x.fdiv (cnt c * unit) * size + low c) * unit + x.fmod (cnt c * unit)
theorem above_of' {A₀ : Around} {base g h : Heap} {outer : List Env} {L : Addr} {m : Str → Option Value} : True := trivial
theorem fr_map21 {g h : Heap} {L : Addr} {z : Str → Option Value} {nl pt D : Addr} {lv mv rv : Option Value} {b c : Value}
    (F : Fr g L h (fun y => if y = Str.ofString "piece" then some (.ref D) else if y = Str.ofString "rest" then some b else if y = Str.ofString "many" then some c else if y = Str.ofString "piece" then some (.ref pt) else if y = Str.ofString "rest" then rv else if y = Str.ofString "many" then mv else if y = Str.ofString "numbers" then some (.ref nl) else if y = Str.ofString "letter" then lv else z y)) :
    Fr g L h (mW z nl D lv (some c) (some b)) := by
  have e : (fun y => if y = Str.ofString "piece" then some (.ref D) else if y = Str.ofString "rest" then some b else if y = Str.ofString "many" then some c else if y = Str.ofString "piece" then some (.ref pt) else if y = Str.ofString "rest" then rv else if y = Str.ofString "many" then mv else if y = Str.ofString "numbers" then some (.ref nl) else if y = Str.ofString "letter" then lv else z y) = mW z nl D lv (some c) (some b) := by
    funext y
    unfold mW
    by_cases a1 : y = Str.ofString "piece"
    · simp [a1]
    by_cases a2 : y = Str.ofString "rest"
    · simp [a2]
    by_cases a3 : y = Str.ofString "many"
    · simp [a3]
    simp [a1, a2, a3]
  rw [← e]; exact F
set_option maxHeartbeats 4000000 in
theorem turn21w {w : World} {p : Program} {loose : List Str} {mean : ExcName → Option Value} {mg mb : Str → Option Value} {wd : Str} {size unit start a : Int} {tw ts tu tt t1 kt : Tok} (dp un : Nat) (gd : Option (List Code)) (cn : Str) (cs : Scope) (a₀ : Addr) (ccd : Value) (cl : List (Str × Addr)) (outer : List Env) (base h₀ g' : Heap) (L L' : Addr) (m : Str → Option Value) (x lo dx nl pt : Addr) (tb rest : List (Addr × Obj)) (s : Shared)
    (B' : Below (ktrTop dp un gd cn cs L a₀ ccd cl outer) base (envX cn cs L a₀ ccd cl :: outer) g') (X' : (K w.params).In g') (T' : Top p loose mean mg mb g') (hd : dp + 400 < recursionLimit) (hu : un + 5000 < cLine) (hk : cs.kind = .function)
    (E : Value → Shared → Prop) (Q : Flow → Shared → Prop) (k : Nat) (c : Nat) (u v : Tok) (its : Array Value) (n n0 : Nat) (vs : List Value) (cur lw : Int) (tx tl : Tok) (lobj : Obj) (kvs : List (Str × Value)) (lv mv rv : Option Value)
    (hE : PassesOwn (model rw.prog w) ((ktrTop dp un gd cn cs L a₀ ccd cl outer).deeper (envOf (Str.ofString "_law_laid") scope_s21 L' 237 (.ref 236))) (envOf (Str.ofString "_law_laid") scope_s21 L' 237 (.ref 236)) E)
    (hlo : lobj.IsDictOf (strKind rw.prog w) kvs) (hval : valueAt kvs ⟨#[c]⟩ = some (.int lw tl))
    (C41 : CodeHd base 41 37) (C48 : CodeHd base 48 44) (ht : Tabs tb)
    (F : Fr g' L' s.heap (mW (z21 x lo wd size unit start tw ts tu tt) nl pt lv mv rv)) (N : News g' L' s.heap ((nl, W.listOf (vs ++ [Value.int cur tx]).toArray n0) :: (x, accObj 143 dx its n) :: (dx, initObj w.params a t1 kt) :: (lo, lobj) :: (pt, tupS (Str.ofString "") ⟨#[c]⟩ u v) :: (tb ++ rest)))
    (far : ∀ q ∈ rest, @LT.lt Nat _ 249 q.1) (fnl : @LT.lt Nat _ 249 nl) (fx : @LT.lt Nat _ 249 x) (fdx : @LT.lt Nat _ 249 dx) (flo : @LT.lt Nat _ 249 lo) (fpt : @LT.lt Nat _ 249 pt) (hLL : 249 < L')
    (x1 : x ≠ nl) (x2 : dx ≠ nl) (x3 : lo ≠ nl) (x4 : pt ≠ nl) (x5 : ∀ q ∈ rest, q.1 ≠ nl)
    (y1 : nl ≠ x) (y2 : dx ≠ x) (y3 : lo ≠ x) (y4 : pt ≠ x) (y5 : ∀ q ∈ rest, q.1 ≠ x)
    (hsz : its.size ≤ sizeLine) (hvs : (vs ++ [Value.int cur tx]).toArray.size ≤ sizeLine) (hm1 : IntMulOk (Txt.count wd ⟨#[c]⟩) unit) (hm2 : IntMulOk (cur.fdiv (Txt.count wd ⟨#[c]⟩ * unit)) size) (hm3 : IntMulOk (cur.fdiv (Txt.count wd ⟨#[c]⟩ * unit) * size + lw) unit)
    (hb : Txt.count wd ⟨#[c]⟩ * unit ≠ 0) (hbb : bits (Txt.count wd ⟨#[c]⟩ * unit) ≤ 7999) (hab : bits cur + bits (Txt.count wd ⟨#[c]⟩ * unit) ≤ 40000) (hkk : bits cur ≤ 255 * bits (Txt.count wd ⟨#[c]⟩ * unit)) (hits : its = #[] ∨ ∃ (D : Addr) (its' : Array Value), its = its'.push (.ref D))
    (hret1 : ∀ (D : Addr) (its' : Array Value), its = its'.push (.ref D) → ∀ tb' h' tk' mv' rv' tx', Tabs tb' → Fr g' L' h' (mW (z21 x lo wd size unit start tw ts tu tt) nl D lv mv' rv') → News g' L' h' ((nl, W.listOf ((vs ++ [Value.int cur tx]) ++ [Value.int (lay size unit (fun c => Txt.count wd ⟨#[c]⟩) (fun _ => lw) cur c) tx']).toArray (n0 + 1)) :: (x, accObj 143 dx its' (n + 1)) :: (dx, initObj w.params a t1 kt) :: (lo, lobj) :: (tb' ++ rest)) →
      WhlRest rw.prog w ((ktrTop dp un gd cn cs L a₀ ccd cl outer).deeper (envOf (Str.ofString "_law_laid") scope_s21 L' 237 (.ref 236))) E (envOf (Str.ofString "_law_laid") scope_s21 L' 237 (.ref 236)) test_w21 body_w21 [] Q k { s with heap := h', toks := tk' })
    (hret2 : its = #[] → ∀ D u' v' tb' h' tk' mv' rv' tx', Tabs tb' → Fr g' L' h' (mW (z21 x lo wd size unit start tw ts tu tt) nl D lv mv' rv') → News g' L' h' ((D, tupS (Str.ofString "") (Str.ofString "") u' v') :: (nl, W.listOf ((vs ++ [Value.int cur tx]) ++ [Value.int (lay size unit (fun c => Txt.count wd ⟨#[c]⟩) (fun _ => lw) cur c) tx']).toArray (n0 + 1)) :: (x, accObj 143 dx its n) :: (dx, initObj w.params a t1 kt) :: (lo, lobj) :: (tb' ++ rest)) → nl < D →
      WhlRest rw.prog w ((ktrTop dp un gd cn cs L a₀ ccd cl outer).deeper (envOf (Str.ofString "_law_laid") scope_s21 L' 237 (.ref 236))) E (envOf (Str.ofString "_law_laid") scope_s21 L' 237 (.ref 236)) test_w21 body_w21 [] Q k { s with heap := h', toks := tk' }) :
    WhlRest rw.prog w ((ktrTop dp un gd cn cs L a₀ ccd cl outer).deeper (envOf (Str.ofString "_law_laid") scope_s21 L' 237 (.ref 236))) E (envOf (Str.ofString "_law_laid") scope_s21 L' 237 (.ref 236)) test_w21 body_w21 [] Q (k + 1) s := by
  revert X'
  k_fill
  intro X'
  refine whl_turn hE ?_
  dsimp only [body_w21, test_w21, scope_s21, lit] at hE ⊢
  unfold mW z21 at F
  (repeat' (first | (k_here; (with_reducible show wpAny _ _ (compareOp CmpOp.NotEq (Value.ref _) (Value.ref _)) _ _ _); k_dflt (refine ne_tupS (by k_asm) (by k_mem) (by k_mem) ?zu ?_; (case zu => ktr_units); (try rw [one_ne_empty]))) | ((with_reducible show wpAny _ _ (call (Value.ref 63) _) _ _ _); refine stop_intro ?_) | (k_here; (with_reducible show wpAny _ _ (subscriptTail _ _ (Value.ref _) (Value.int (-1) _)) _ _ _); k_dflt (refine item_last (by k_asm) (by k_mem) ?_)) | ((with_reducible show wpAny _ _ (binaryOp Operator.Mult (Value.int _ _) (Value.int _ _)) _ _ _); k_here; (with_reducible refine mul_int ?_ (by assumption))) | (k_unfold; (try dsimp only)) | (k_end; kc_close) | walk1 | (dsimp only; walk1) | (leave1; walk_say "STEP leave1"; (try dsimp only))))
  unfold Stop
  rename News _ _ _ _ => N2
  rename Fr _ _ _ _ => F2
  k_dflt (refine' idmT hb hbb hab hkk _ _ _ _ _ _ _ _ _ _ _ _ _ _ tb ((nl, W.listOf (vs ++ [Value.int cur tx]).toArray n0) :: (x, accObj 143 dx its n) :: (dx, initObj w.params a t1 kt) :: (lo, lobj) :: (pt, tupS (Str.ofString "") ⟨#[c]⟩ u v) :: rest) _ _ _ ?zB F2 ?zX (news_in6 N2) ?zT ?zk ?zd ?zu hLL C41 C48 ht ?zr ?_)
  case zB => k_asm
  case zX => k_asm
  case zT => k_asm
  case zk => first | exact rfl | assumption
  case zd => ktr_room
  case zu => ktr_units
  case zr =>
    intro q hq
    simp only [List.mem_cons] at hq
    rcases hq with rfl | rfl | rfl | rfl | rfl | hq
    · exact fnl
    · exact fx
    · exact fdx
    · exact flo
    · exact fpt
    · exact far q hq
  intro T u2 v2 tb2 h2 tk2 ht2 F3 N3 l3
  replace N3 := news_out5 N3
  have hT1 : T ≠ nl := Nat.ne_of_gt (l3 (nl, W.listOf (vs ++ [Value.int cur tx]).toArray n0) (List.mem_append_right _ (List.mem_cons_self ..)))
  have hT2 : T ≠ x := Nat.ne_of_gt (l3 (x, accObj 143 dx its n) (List.mem_append_right _ (List.mem_cons_of_mem _ (List.mem_cons_self ..))))
  have hpl : Plain (W.listOf (vs ++ [Value.int cur tx]).toArray n0) := fun vs e => by cases e
  have hpx : Plain (accObj 143 dx its n) := fun vs e => by cases e
  have ap1 := tabs_apart (a := nl) N3 (fun q hq => by simp only [List.mem_cons, List.mem_append]; simp [hq]) ht2 (by first | (solve | repeat (first | exact .head _ | apply List.Mem.tail)) | simp) hpl
  have ap2 := tabs_apart (a := x) N3 (fun q hq => by simp only [List.mem_cons, List.mem_append]; simp [hq]) ht2 (o := accObj 143 dx its n) (by first | (solve | repeat (first | exact .head _ | apply List.Mem.tail)) | simp) hpx
  have hU1 : ∀ q ∈ (x, accObj 143 dx its n) :: (dx, initObj w.params a t1 kt) :: (lo, lobj) :: (pt, tupS (Str.ofString "") ⟨#[c]⟩ u v) :: (tb2 ++ rest), q.1 ≠ nl := by
    intro q hq
    simp only [List.mem_cons, List.mem_append] at hq
    rcases hq with rfl | rfl | rfl | rfl | hq | hq
    · exact x1
    · exact x2
    · exact x3
    · exact x4
    · exact ap1 q hq
    · exact x5 q hq
  (repeat' (first | (k_here; (with_reducible show wpAny _ _ (call (Value.builtin _) [Value.ref _, _]) _ _ _); k_dflt (refine append_K (by k_asm) (by k_asm) (.tail (by assumption) (.head (by assumption))) ?_ (by assumption); k_whole); intro _ _ _) | ((with_reducible show wpAny _ _ (call (Value.ref 103) _) _ _ _); refine stop_intro ?_) | ((with_reducible show wpAny _ _ (getMethod (Value.ref _) _ _) _ _ _); k_here; k_dflt (refine method_fnL (C := 143) (Frag.In.keeps (by k_asm) (Fr.keep (by k_asm))) (by k_inst) (by k_is) (by k_is) (by k_is) (by k_is) rfl ?_)) | (k_here; (with_reducible show wpAny _ _ (subscriptTail _ _ (Value.ref _) (Value.str _ _)) _ _ _); k_dflt (refine kda_item (knd := PySem.strKind _ _) (by k_asm) (by k_mem) (by k_asm) (strKind_is _ _ _ _) (by assumption) ?_)) | ((with_reducible show wpAny _ _ (binaryOp Operator.Mult (Value.int _ _) (Value.int _ _)) _ _ _); k_here; (with_reducible refine mul_int ?_ (by assumption))) | (k_unfold; (try dsimp only)) | (k_end; kc_close) | walk1 | (dsimp only; walk1) | (leave1; walk_say "STEP leave1"; (try dsimp only))))
  unfold Stop
  rename News _ _ _ _ => N4
  rename Fr _ _ _ _ => F4
  have hP : ∀ o : Obj, ∀ q ∈ (T, pairObj (cur.fdiv (Txt.count wd ⟨#[c]⟩ * unit)) (cur.fmod (Txt.count wd ⟨#[c]⟩ * unit)) u2 v2) :: (nl, o) :: (lo, lobj) :: (pt, tupS (Str.ofString "") ⟨#[c]⟩ u v) :: (tb2 ++ rest), q.1 ≠ x := by
    intro o q hq
    simp only [List.mem_cons, List.mem_append] at hq
    rcases hq with rfl | rfl | rfl | rfl | hq | hq
    · exact hT2
    · exact y1
    · exact y3
    · exact y4
    · exact ap2 q hq
    · exact y5 q hq
  simp only [List.push_toArray] at N4
  rcases hits with hi | ⟨D, its', hi⟩
  · subst hi
    k_dflt (refine' acc_pop_none init_shadow.2 _ _ _ _ _ _ _ _ _ _ _ _ _ _ _ _ _ _ ?zB F4 ?zX (news_pop N4) ?zT ?zk ?zd ?zu y2 (hP _) ?_)
    case zB => k_asm
    case zX => k_asm
    case zT => k_asm
    case zk => first | exact rfl | assumption
    case zd => ktr_room
    case zu => ktr_units
    intro D u' v' h' tk' F5 N5 d1 d2 d3
    (repeat' (first | ((with_reducible show WhlPost ..); refine stop_intro ?_) | (k_unfold; (try dsimp only)) | (k_end; kc_close) | walk1 | (dsimp only; walk1) | (leave1; walk_say "STEP leave1"; (try dsimp only))))
    unfold Stop
    rename Fr _ _ _ _ => F6
    rename News _ _ _ _ => N6
    refine hret2 rfl D u' v' tb2 _ _ _ _ _ ht2 (fr_map21 F6) (news_back0 N6) (d3 (nl, _) (List.mem_cons_of_mem _ (List.mem_cons_self ..)))
  · subst hi
    k_dflt (refine' acc_pop_some (by rw [Array.size_push] at hsz; omega) init_shadow.2 _ _ _ _ _ _ _ _ _ _ _ _ _ _ _ _ _ _ ?zB F4 ?zX (news_pop N4) ?zT ?zk ?zd ?zu y2 (hP _) ?_)
    case zB => k_asm
    case zX => k_asm
    case zT => k_asm
    case zk => first | exact rfl | assumption
    case zd => ktr_room
    case zu => ktr_units
    intro h' tk' F5 N5
    (repeat' (first | ((with_reducible show WhlPost ..); refine stop_intro ?_) | (k_unfold; (try dsimp only)) | (k_end; kc_close) | walk1 | (dsimp only; walk1) | (leave1; walk_say "STEP leave1"; (try dsimp only))))
    unfold Stop
    rename Fr _ _ _ _ => F6
    rename News _ _ _ _ => N6
    refine hret1 D its' rfl tb2 _ _ _ _ _ ht2 (fr_map21 F6) (news_back1 N6)
end
section
open PySem PySem.W PySem.Calls PyProof.Rows PySem.Spec
set_option maxRecDepth 100000
set_option linter.unusedVariables false
theorem none_ne_empty : (!((Str.ofString "" == Str.ofString "") && (Str.ofString "" == Str.ofString ""))) = false := by simp
noncomputable def laid (f : Int → Nat → Int) : Int → List Nat → List Int
  | _, [] => []
  | x, c :: cs => f x c :: laid f (f x c) cs
theorem bits_mono {x y : Int} (h : x.natAbs ≤ y.natAbs) : bits x ≤ bits y := bits_le_iff.mpr (Nat.lt_of_le_of_lt h bits_lt)
theorem lay_bits {size unit low x : Int} {cn : Int} {k : Nat} (hk : bits unit ≤ k) (hx : bits x ≤ k) (hu : 0 < unit) (s0 : 0 ≤ size) (s1 : size ≤ 30) (l0 : 0 ≤ low) (l1 : low ≤ 30) (c0 : 1 ≤ cn) (c1 : cn ≤ 30) :
    bits (lay size unit (fun _ => cn) (fun _ => low) x 0) ≤ k + 10 := by
  have hu2 : unit < 2 ^ k := lt_of_bits hk
  have hcu : 0 < cn * unit := Int.mul_pos (by omega) hu
  have hxb : (x.natAbs : Int) < 2 ^ k := by
    have := bits_le_iff.mp hx
    exact_mod_cast this
  rw [bits_le_iff]
  dsimp only [lay]
  rw [Int.fdiv_eq_ediv_of_nonneg _ (by omega), Int.fmod_eq_emod_of_nonneg _ (by omega)]
  generalize hq : x / (cn * unit) = q
  generalize hr : x % (cn * unit) = r
  have e : cn * unit * q + r = x := by rw [← hq, ← hr]; exact Int.mul_ediv_add_emod x (cn * unit)
  have r0 : 0 ≤ r := by rw [← hr]; exact Int.emod_nonneg _ (by omega)
  have r1 : r < cn * unit := by rw [← hr]; exact Int.emod_lt_of_pos _ hcu
  have r2 : cn * unit ≤ 30 * unit := Int.mul_le_mul_of_nonneg_right c1 (by omega)
  -- |q| * unit ≤ |q| * cn * unit ≤ |x| + r
  have hp : (2 : Int) ^ (k + 10) = 2 ^ k * 1024 := by rw [Int.pow_add]; rfl
  generalize hP : (2 : Int) ^ k = P at *
  have key : ∀ y : Int, -(P * 1024) < y → y < P * 1024 → y.natAbs < 2 ^ (k + 10) := by
    intro y h1 h2
    have : (y.natAbs : Int) < 2 ^ (k + 10) := by rw [hp]; omega
    exact_mod_cast this
  have hl : low * unit ≤ 30 * unit := Int.mul_le_mul_of_nonneg_right l1 (by omega)
  have hl0 : 0 ≤ low * unit := Int.mul_nonneg l0 (by omega)
  have hsp : (q * size + low) * unit + r = size * (q * unit) + low * unit + r := by grind
  rw [hsp]
  by_cases hq0 : 0 ≤ q
  · have h1 : q * unit ≤ cn * unit * q := by
      have : unit * q ≤ (cn * unit) * q := Int.mul_le_mul_of_nonneg_right (by have := Int.mul_le_mul_of_nonneg_right c0 (Int.le_of_lt hu); omega) hq0
      rw [Int.mul_comm q unit]; exact this
    have h2 : 0 ≤ q * unit := Int.mul_nonneg hq0 (by omega)
    have h3 : size * (q * unit) ≤ 30 * (q * unit) := Int.mul_le_mul_of_nonneg_right s1 h2
    have h4 : 0 ≤ size * (q * unit) := Int.mul_nonneg s0 h2
    refine key _ (by omega) (by omega)
  · have h1 : cn * unit * q ≤ q * unit := by
      have : (-q) * (1 * unit) ≤ (-q) * (cn * unit) := Int.mul_le_mul_of_nonneg_left (Int.mul_le_mul_of_nonneg_right c0 (by omega)) (by omega)
      grind
    have h2 : 0 ≤ (-q) * unit := Int.mul_nonneg (by omega) (by omega)
    have h3 : size * ((-q) * unit) ≤ 30 * ((-q) * unit) := Int.mul_le_mul_of_nonneg_right s1 h2
    have h4 : 0 ≤ size * ((-q) * unit) := Int.mul_nonneg s0 h2
    have h5 : size * (q * unit) = -(size * ((-q) * unit)) := by grind
    have h6 : q * unit = -((-q) * unit) := by grind
    refine key _ (by omega) (by omega)
set_option maxHeartbeats 4000000 in
theorem end21w {w : World} {p : Program} {loose : List Str} {mean : ExcName → Option Value} {mg mb : Str → Option Value} {wd : Str} {size unit start : Int} {tw ts tu tt : Tok} (dp un : Nat) (gd : Option (List Code)) (cn : Str) (cs : Scope) (a₀ : Addr) (ccd : Value) (cl : List (Str × Addr)) (outer : List Env) (base h₀ g' : Heap) (L L' : Addr) (m : Str → Option Value) (x lo nl pt : Addr) (news : List (Addr × Obj)) (s : Shared)
    (B' : Below (ktrTop dp un gd cn cs L a₀ ccd cl outer) base (envX cn cs L a₀ ccd cl :: outer) g') (X' : (K w.params).In g') (T' : Top p loose mean mg mb g') (hd : dp + 400 < recursionLimit) (hu : un + 5000 < cLine) (hk : cs.kind = .function)
    (E : Value → Shared → Prop) (Q : Flow → Shared → Prop) (k : Nat) (u v : Tok) (lv mv rv : Option Value)
    (hE : PassesOwn (model rw.prog w) ((ktrTop dp un gd cn cs L a₀ ccd cl outer).deeper (envOf (Str.ofString "_law_laid") scope_s21 L' 237 (.ref 236))) (envOf (Str.ofString "_law_laid") scope_s21 L' 237 (.ref 236)) E)
    (F : Fr g' L' s.heap (mW (z21 x lo wd size unit start tw ts tu tt) nl pt lv mv rv)) (N : News g' L' s.heap ((pt, tupS (Str.ofString "") (Str.ofString "") u v) :: news))
    (hret : ∀ h' tk', Fr g' L' h' (mW (z21 x lo wd size unit start tw ts tu tt) nl pt lv mv rv) → News g' L' h' news → Q .next { s with heap := h', toks := tk' }) :
    WhlRest rw.prog w ((ktrTop dp un gd cn cs L a₀ ccd cl outer).deeper (envOf (Str.ofString "_law_laid") scope_s21 L' 237 (.ref 236))) E (envOf (Str.ofString "_law_laid") scope_s21 L' 237 (.ref 236)) test_w21 body_w21 [] Q (k + 1) s := by
  revert X'
  k_fill
  intro X'
  refine whl_turn hE ?_
  dsimp only [body_w21, test_w21, scope_s21, lit] at hE ⊢
  unfold mW z21 at F
  (repeat' (first | (k_here; (with_reducible show wpAny _ _ (compareOp CmpOp.NotEq (Value.ref _) (Value.ref _)) _ _ _); k_dflt (refine ne_tupS (by k_asm) (by k_mem) (by k_mem) ?zu ?_; (case zu => ktr_units); (try rw [none_ne_empty]))) | (k_unfold; (try dsimp only)) | (k_end; kc_close) | walk1 | (dsimp only; walk1) | (leave1; walk_say "STEP leave1"; (try dsimp only))))
  rename Fr _ _ _ _ => F2
  rename News _ _ _ _ => N2
  exact hret _ _ F2 (fun q hq => N2 q (List.mem_cons_of_mem _ (List.mem_cons_of_mem _ hq)))
theorem news_end {h₀ h : Heap} {L : Addr} {a b c d : Addr × Obj} {r r2 : List (Addr × Obj)} (N : News h₀ L h (a :: b :: c :: d :: (r ++ r2))) : News h₀ L h (a :: d :: (r ++ r2)) := fun q hq => by
  refine N q ?_
  simp only [List.mem_cons] at hq ⊢
  grind
theorem bits_mul (a b : Int) : bits (a * b) ≤ bits a + bits b := by
  rw [bits_le_iff, Int.natAbs_mul, Nat.pow_add]
  exact Nat.mul_lt_mul'' bits_lt bits_lt
theorem bits_add (a b : Int) (k : Nat) (ha : bits a ≤ k) (hb : bits b ≤ k) : bits (a + b) ≤ k + 1 := by
  rw [bits_le_iff] at ha hb ⊢
  have := Int.natAbs_add_le a b
  rw [Nat.pow_succ]
  omega
theorem bits_fdiv {a b : Int} (hb : 0 < b) : bits (a.fdiv b) ≤ bits a + 1 := by
  rw [Int.fdiv_eq_ediv_of_nonneg _ (by omega)]
  have h := @bits_lt a
  rw [bits_le_iff, Nat.pow_succ]
  have hd := Int.mul_ediv_add_emod a b
  have r0 := Int.emod_nonneg a (show b ≠ 0 by omega)
  have r1 := Int.emod_lt_of_pos a hb
  generalize hq : a / b = q at *
  have hp : (0 : Nat) < 2 ^ bits a := Nat.pow_pos (by decide)
  by_cases hq0 : 0 ≤ q
  · have : 1 * q ≤ b * q := Int.mul_le_mul_of_nonneg_right (by omega) hq0
    omega
  · have : 1 * (-q - 1) ≤ b * (-q - 1) := Int.mul_le_mul_of_nonneg_right (by omega) (by omega)
    have e : b * (-q - 1) = -(b * q) - b := by grind
    omega
theorem bits_small {x : Int} (h0 : 0 ≤ x) (h1 : x ≤ 30) : bits x ≤ 5 := bits_le_of h0 (by omega)
theorem bits_unit {x : Int} (h : 10 ^ 18 ≤ x) : 60 ≤ bits x := by
  by_cases hc : bits x ≤ 59
  · have := lt_of_bits hc
    omega
  · omega
theorem bits_fmod {a b : Int} (hb : 0 < b) : bits (a.fmod b) ≤ bits b := by
  rw [Int.fmod_eq_emod_of_nonneg _ (by omega)]
  have r0 := Int.emod_nonneg a (show b ≠ 0 by omega)
  have r1 := Int.emod_lt_of_pos a hb
  exact bits_mono (by omega)
/-- the sizes that a turn asks for -/
theorem sizes21 {cnt unit size low cur : Int} {k : Nat} (hun : bits unit ≤ 5000) (hu18 : 10 ^ 18 ≤ unit) (s0 : 0 ≤ size) (s1 : size ≤ 30) (l0 : 0 ≤ low) (l1 : low ≤ 30) (c0 : 1 ≤ cnt) (c1 : cnt ≤ 30) (hc : bits cur ≤ k) (hk : k ≤ 12600) :
    IntMulOk cnt unit ∧ IntMulOk (cur.fdiv (cnt * unit)) size ∧ IntMulOk (cur.fdiv (cnt * unit) * size + low) unit ∧ cnt * unit ≠ 0 ∧ bits (cnt * unit) ≤ 7999 ∧ bits cur + bits (cnt * unit) ≤ 40000 ∧ bits cur ≤ 255 * bits (cnt * unit) := by
  have b1 := bits_small (x := cnt) (by omega) c1
  have b2 := bits_small s0 s1
  have b3 := bits_small l0 l1
  have hge : unit ≤ cnt * unit := by
    have := Int.mul_le_mul_of_nonneg_right c0 (show 0 ≤ unit by omega)
    omega
  have b4 := bits_mul cnt unit
  have b5 := bits_unit (show 10 ^ 18 ≤ cnt * unit by omega)
  have b6 := bits_fdiv (a := cur) (b := cnt * unit) (by omega)
  have b7 := bits_mul (cur.fdiv (cnt * unit)) size
  have b8 := bits_add (cur.fdiv (cnt * unit) * size) low (k + 6) (by omega) (by omega)
  exact ⟨mul_ok (by omega), mul_ok (by omega), mul_ok (by omega), by omega, by omega, by omega, by omega⟩
theorem news_ins {h₀ h : Heap} {L : Addr} {a b c d e : Addr × Obj} {r r2 : List (Addr × Obj)} (N : News h₀ L h (a :: b :: c :: d :: (r ++ r2))) (he : e ∈ r2) : News h₀ L h (a :: b :: c :: d :: e :: (r ++ r2)) := fun q hq => by
  refine N q ?_
  simp only [List.mem_cons, List.mem_append] at hq ⊢
  grind
/-- the remaining pile's letters, from the top on: what the loop still does -/
theorem loop21 {w : World} {p : Program} {loose : List Str} {mean : ExcName → Option Value} {mg mb : Str → Option Value} {wd : Str} {size unit start a : Int} {tw ts tu tt t1 kt : Tok} (dp un : Nat) (gd : Option (List Code)) (cn : Str) (cs : Scope) (a₀ : Addr) (ccd : Value) (cl : List (Str × Addr)) (outer : List Env) (base h₀ g' : Heap) (L L' : Addr) (m : Str → Option Value) (x lo dx nl : Addr) (rest : List (Addr × Obj))
    (B' : Below (ktrTop dp un gd cn cs L a₀ ccd cl outer) base (envX cn cs L a₀ ccd cl :: outer) g') (X' : (K w.params).In g') (T' : Top p loose mean mg mb g') (hd : dp + 400 < recursionLimit) (hu : un + 5000 < cLine) (hk : cs.kind = .function)
    (E : Value → Shared → Prop) (Q : Flow → Shared → Prop) (lobj : Obj) (kvs : List (Str × Value)) (lv : Option Value) (low : Nat → Int)
    (hE : PassesOwn (model rw.prog w) ((ktrTop dp un gd cn cs L a₀ ccd cl outer).deeper (envOf (Str.ofString "_law_laid") scope_s21 L' 237 (.ref 236))) (envOf (Str.ofString "_law_laid") scope_s21 L' 237 (.ref 236)) E)
    (hlo : lobj.IsDictOf (strKind rw.prog w) kvs) (C41 : CodeHd base 41 37) (C48 : CodeHd base 48 44)
    (far : ∀ q ∈ rest, @LT.lt Nat _ 249 q.1) (fnl : @LT.lt Nat _ 249 nl) (fx : @LT.lt Nat _ 249 x) (fdx : @LT.lt Nat _ 249 dx) (flo : @LT.lt Nat _ 249 lo) (hLL : 249 < L')
    (x1 : x ≠ nl) (x2 : dx ≠ nl) (x3 : lo ≠ nl) (x5 : ∀ q ∈ rest, q.1 ≠ nl) (y2 : dx ≠ x) (y3 : lo ≠ x) (y5 : ∀ q ∈ rest, q.1 ≠ x)
    (hun : bits unit ≤ 5000) (hu18 : 10 ^ 18 ≤ unit) (s0 : 0 ≤ size) (s1 : size ≤ 30) (B : Nat) (hB : B ≤ 12600) (hB5 : 5000 ≤ B) :
    ∀ (ds : List Nat) (pd : List Addr), pd.length = ds.length → (∀ i (h : i < ds.length) d, pd[i]? = some d → ∃ u v, (d, tupS (Str.ofString "") ⟨#[ds[i]]⟩ u v) ∈ rest) →
      (∀ c ∈ ds, (∃ t, valueAt kvs ⟨#[c]⟩ = some (.int (low c) t)) ∧ 0 ≤ low c ∧ low c ≤ 30 ∧ 1 ≤ Txt.count wd ⟨#[c]⟩ ∧ Txt.count wd ⟨#[c]⟩ ≤ 30) →
    ∀ (s : Shared) (c : Nat) (pt : Addr) (u v : Tok) (tb : List (Addr × Obj)) (n n0 k : Nat) (vs : List Value) (cur : Int) (tx : Tok) (mv rv : Option Value), Tabs tb → ds.length + 2 ≤ k →
      (pt, tupS (Str.ofString "") ⟨#[c]⟩ u v) ∈ rest → ((∃ t, valueAt kvs ⟨#[c]⟩ = some (.int (low c) t)) ∧ 0 ≤ low c ∧ low c ≤ 30 ∧ 1 ≤ Txt.count wd ⟨#[c]⟩ ∧ Txt.count wd ⟨#[c]⟩ ≤ 30) → max (bits cur) 5000 + 10 * (ds.length + 1) ≤ B → vs.length + ds.length ≤ 1000 →
      Fr g' L' s.heap (mW (z21 x lo wd size unit start tw ts tu tt) nl pt lv mv rv) →
      News g' L' s.heap ((nl, W.listOf (vs ++ [Value.int cur tx]).toArray n0) :: (x, accObj 143 dx (pd.reverse.map Value.ref).toArray n) :: (dx, initObj w.params a t1 kt) :: (lo, lobj) :: (tb ++ rest)) →
      (∀ h' tk' D mv' rv' tb' vn nn, Tabs tb' → Fr g' L' h' (mW (z21 x lo wd size unit start tw ts tu tt) nl D lv mv' rv') → IntsAre vn (laid (lay size unit (fun c => Txt.count wd ⟨#[c]⟩) low) cur (c :: ds)) → News g' L' h' ((nl, W.listOf (vs ++ [Value.int cur tx] ++ vn).toArray nn) :: (lo, lobj) :: (tb' ++ rest)) → Q .next { s with heap := h', toks := tk' }) →
      WhlRest rw.prog w ((ktrTop dp un gd cn cs L a₀ ccd cl outer).deeper (envOf (Str.ofString "_law_laid") scope_s21 L' 237 (.ref 236))) E (envOf (Str.ofString "_law_laid") scope_s21 L' 237 (.ref 236)) test_w21 body_w21 [] Q k s := by
  intro ds
  induction ds with
  | nil =>
    intro pd hpl hpd hds s c pt u v tb n n0 k vs cur tx mv rv ht hkk hpt hc hbc hlen F N fin
    have hcw := hc
    obtain ⟨⟨tl, hval⟩, l0, l1, c0, c1⟩ := hc
    obtain ⟨k, rfl⟩ : ∃ j, k = j + 1 := ⟨k - 1, by omega⟩
    obtain ⟨z1, z2, z3, z4, z5, z6, z7⟩ := sizes21 (cur := cur) hun hu18 s0 s1 l0 l1 c0 c1 (Nat.le_refl _) (by omega)
    have hvs : (vs ++ [Value.int cur tx]).toArray.size ≤ sizeLine := by
      rw [List.size_toArray, List.length_append, List.length_singleton]
      exact Nat.le_trans (show vs.length + 1 ≤ 1001 by omega) (by rw [sizeLine_eq]; decide)
    have hlb : bits (lay size unit (fun c => Txt.count wd ⟨#[c]⟩) low cur c) ≤ max (bits cur) 5000 + 10 := lay_bits (k := max (bits cur) 5000) (Nat.le_trans hun (Nat.le_max_right _ _)) (Nat.le_max_left _ _) (by omega) s0 s1 l0 l1 c0 c1
    obtain rfl : pd = [] := List.eq_nil_of_length_eq_zero (by simpa using hpl)
    refine turn21w dp un gd cn cs a₀ ccd cl outer base h₀ g' L L' m x lo dx nl pt tb rest s B' X' T' hd hu hk E Q k c u v _ n n0 vs cur (low c) tx tl lobj kvs lv mv rv hE hlo hval C41 C48 ht F (news_ins N hpt) far fnl fx fdx flo (far _ hpt) hLL x1 x2 x3 (x5 _ hpt) x5 (Ne.symm x1) y2 y3 (y5 _ hpt) y5 (by simp) hvs z1 z2 z3 z4 z5 z6 z7 (.inl rfl) ?_ ?_
    · intro D its' e
      exact absurd (congrArg Array.size e) (by simp)
    · intro _ D u' v' tb' h' tk' mv' rv' tx' ht' F' N' hD
      obtain ⟨k, rfl⟩ : ∃ j, k = j + 1 := ⟨k - 1, by simp at hkk; omega⟩
      refine end21w dp un gd cn cs a₀ ccd cl outer base h₀ g' L L' m x lo nl D _ _ B' X' T' hd hu hk E Q k u' v' lv mv' rv' hE F' N' ?_
      intro h'' tk'' F'' N''
      refine fin h'' tk'' D mv' rv' tb' [Value.int (lay size unit (fun c => Txt.count wd ⟨#[c]⟩) low cur c) tx'] _ ht' F'' (.cons _ _ .nil) (news_end N'')
  | cons c' ds ih =>
    intro pd hpl hpd hds s c pt u v tb n n0 k vs cur tx mv rv ht hkk hpt hc hbc hlen F N fin
    have hcw := hc
    obtain ⟨⟨tl, hval⟩, l0, l1, c0, c1⟩ := hc
    obtain ⟨k, rfl⟩ : ∃ j, k = j + 1 := ⟨k - 1, by omega⟩
    obtain ⟨z1, z2, z3, z4, z5, z6, z7⟩ := sizes21 (cur := cur) hun hu18 s0 s1 l0 l1 c0 c1 (Nat.le_refl _) (by omega)
    have hvs : (vs ++ [Value.int cur tx]).toArray.size ≤ sizeLine := by
      rw [List.size_toArray, List.length_append, List.length_singleton]
      exact Nat.le_trans (show vs.length + 1 ≤ 1001 by omega) (by rw [sizeLine_eq]; decide)
    have hlb : bits (lay size unit (fun c => Txt.count wd ⟨#[c]⟩) low cur c) ≤ max (bits cur) 5000 + 10 := lay_bits (k := max (bits cur) 5000) (Nat.le_trans hun (Nat.le_max_right _ _)) (Nat.le_max_left _ _) (by omega) s0 s1 l0 l1 c0 c1
    obtain ⟨d, pd, rfl⟩ : ∃ d pd', pd = d :: pd' := by
      cases pd with
      | nil => simp at hpl
      | cons d pd => exact ⟨d, pd, rfl⟩
    obtain ⟨ud, vd, hdm⟩ := hpd 0 (by simp) d rfl
    have hcons : ((d :: pd).reverse.map Value.ref).toArray = ((pd.reverse.map Value.ref).toArray).push (.ref d) := by simp
    have hsz : ((d :: pd).reverse.map Value.ref).toArray.size ≤ sizeLine := by
      simp only [List.size_toArray, List.length_map, List.length_reverse]
      rw [hpl]
      exact Nat.le_trans (show (c' :: ds).length ≤ 1001 by omega) (by rw [sizeLine_eq]; decide)
    refine turn21w dp un gd cn cs a₀ ccd cl outer base h₀ g' L L' m x lo dx nl pt tb rest s B' X' T' hd hu hk E Q k c u v _ n n0 vs cur (low c) tx tl lobj kvs lv mv rv hE hlo hval C41 C48 ht F (news_ins N hpt) far fnl fx fdx flo (far _ hpt) hLL x1 x2 x3 (x5 _ hpt) x5 (Ne.symm x1) y2 y3 (y5 _ hpt) y5 hsz hvs z1 z2 z3 z4 z5 z6 z7 (.inr ⟨d, _, hcons⟩) ?_ ?_
    · intro D its' e tb' h' tk' mv' rv' tx' ht' F' N'
      have e2 := hcons.symm.trans e
      obtain ⟨e3, e4⟩ : (pd.reverse.map Value.ref).toArray = its' ∧ Value.ref d = Value.ref D := by
        have := Array.push_eq_push.mp e2
        exact ⟨this.2, this.1⟩
      obtain rfl : d = D := by injection e4
      subst e3
      simp only [List.length_cons] at hbc hlen hkk
      refine ih pd (by simpa using hpl) (fun i hi d' hd' => ?_) (fun c hc => hds c (List.mem_cons_of_mem _ hc)) _ c' d ud vd tb' (n + 1) (n0 + 1) k (vs ++ [Value.int cur tx]) _ tx' mv' rv' ht' (by omega) hdm (hds c' (List.mem_cons_self ..)) ?_ (by simp; omega) F' N' ?_
      · have := hpd (i + 1) (by simpa using hi) d' (by simpa using hd')
        simpa using this
      · show max (bits (lay size unit (fun c => Txt.count wd ⟨#[c]⟩) low cur c)) 5000 + 10 * (ds.length + 1) ≤ B
        omega
      · intro h'' tk'' D' mv'' rv'' tb'' vn nn ht'' F'' iv N''
        refine fin h'' tk'' D' mv'' rv'' tb'' (Value.int (lay size unit (fun c => Txt.count wd ⟨#[c]⟩) low cur c) tx' :: vn) nn ht'' F'' (.cons _ _ iv) ?_
        rw [List.append_assoc] at N''
        exact N''
    · intro e
      rw [hcons] at e
      exact absurd (congrArg Array.size e) (by simp)
end
end
section
open PySem PySem.W PySem.Calls PyProof.Rows PySem.Spec
set_option maxRecDepth 100000
set_option linter.unusedVariables false
/-- the letters' pairs on the pile -/
noncomputable def LettersAre (cs : List Nat) (qs : List PQ) : Prop := qs.map (fun q => (q.2.1, q.2.2.1)) = cs.map fun c => (Str.ofString "", (⟨#[c]⟩ : Str))
noncomputable def Inv21 (w : World) (z : Str → Option Value) (a : Int) (ta kt : Tok) (x dx : Addr) (tail : List (Addr × Obj)) (cs : List Nat) (gs : Array GenState) (dr : Drawn) (os : OsState) (i : Nat) (m : Str → Option Value) (news : List (Addr × Obj)) (s : Shared) : Prop :=
  ∃ lv its qs n, m = mB z lv ∧ news = (x, accObj 143 dx its n) :: (dx, initObj w.params a ta kt) :: ((qs.map pqObj).reverse ++ tail) ∧
    s.gens = gs ∧ s.drawn = dr ∧ s.os = os ∧ its.toList = qs.map (fun q => Value.ref q.1) ∧ LettersAre (cs.take i) qs ∧ (∀ q ∈ qs, x < q.1)
theorem fr_first21 {g h : Heap} {L : Addr} {z : Str → Option Value} (hz : z (Str.ofString "letter") = none) (F : Fr g L h z) : Fr g L h (mB z none) := by
  have e : z = mB z none := by
    funext y
    unfold mB
    by_cases h : y = Str.ofString "letter"
    · subst h; rw [hz]; rfl
    · rw [if_neg h]
  rw [← e]; exact F
theorem fr_first21w {g h : Heap} {L : Addr} {z : Str → Option Value} {nl pt : Addr} {lv : Option Value} (h1 : z (Str.ofString "rest") = none) (h2 : z (Str.ofString "many") = none)
    (F : Fr g L h (fun y => if y = Str.ofString "piece" then some (.ref pt) else if y = Str.ofString "numbers" then some (.ref nl) else mB z lv y)) : Fr g L h (mW z nl pt lv none none) := by
  have e : (fun y => if y = Str.ofString "piece" then some (.ref pt) else if y = Str.ofString "numbers" then some (.ref nl) else mB z lv y) = mW z nl pt lv none none := by
    funext y
    unfold mW mB
    by_cases a1 : y = Str.ofString "rest"
    · subst a1; rw [h1]; rfl
    by_cases a2 : y = Str.ofString "many"
    · subst a2; rw [h2]; rfl
    simp [a1, a2]
  rw [← e]; exact F
theorem letters_snoc {cs : List Nat} {c : Nat} {qs : List PQ} (h : LettersAre (cs ++ [c]) qs) : ∃ qs0 d u v, qs = qs0 ++ [(d, Str.ofString "", (⟨#[c]⟩ : Str), u, v)] ∧ LettersAre cs qs0 := by
  unfold LettersAre at h ⊢
  rcases List.eq_nil_or_concat qs with rfl | ⟨qs0, q, rfl⟩
  · simp at h
  · obtain ⟨d, f, p, u, v⟩ := q
    rw [List.concat_eq_append, List.map_append, List.map_append] at h
    have := List.append_inj' h rfl
    obtain ⟨h1, h2⟩ := this
    simp at h2
    obtain ⟨rfl, rfl⟩ := h2
    exact ⟨qs0, d, u, v, by rw [List.concat_eq_append], h1⟩
theorem news_pop1 {h₀ h : Heap} {L : Addr} {a b c : Addr × Obj} {r : List (Addr × Obj)} (N : News h₀ L h (a :: b :: c :: r)) : News h₀ L h (b :: c :: a :: r) := fun q hq => by
  refine N q ?_
  simp only [List.mem_cons] at hq ⊢
  grind
theorem news_loop {h₀ h : Heap} {L : Addr} {a b c d : Addr × Obj} {r t r2 : List (Addr × Obj)} (N : News h₀ L h (b :: c :: a :: (r ++ (t ++ r2)))) (hd : d ∈ r2) : News h₀ L h (a :: b :: c :: d :: (t ++ (r ++ r2))) := fun q hq => by
  refine N q ?_
  simp only [List.mem_cons, List.mem_append] at hq ⊢
  grind
theorem news_last {h₀ h : Heap} {L : Addr} {a d : Addr × Obj} {r t r2 : List (Addr × Obj)} (N : News h₀ L h (a :: d :: (t ++ (r ++ r2)))) : News h₀ L h (a :: (t ++ r2)) := fun q hq => by
  refine N q ?_
  simp only [List.mem_cons, List.mem_append] at hq ⊢
  grind
set_option maxHeartbeats 4000000 in
theorem law_laid {w : World} {p : Program} {loose : List Str} {mean : ExcName → Option Value} {mg mb : Str → Option Value} {cs : List Nat} {size unit start : Int} {tw ts tu tt : Tok} {lo : Addr} {lobj : Obj} {kvs : List (Str × Value)} {low : Nat → Int}
  (dp un : Nat) (gd : Option (List Code)) (cn : Str) (csc : Scope) (a₀ : Addr) (ccd : Value) (cl : List (Str × Addr)) (outer : List Env) (A₀ : Around) (base h₀ : Heap) (L : Addr) (m : Str → Option Value) (tb rest : List (Addr × Obj)) (s : Shared)
    (Q E : Value → Shared → Prop) (B : Below A₀ base outer h₀) (F : Fr h₀ L s.heap m) (X : (K w.params).In h₀) (N : News h₀ L s.heap (tb ++ rest)) (T : Top p loose mean mg mb h₀) (hk : csc.kind = .function) (hd : dp + 500 < recursionLimit) (hu : un + 6000 < cLine)
    (hL : 249 < L) (C41 : CodeHd base 41 37) (C48 : CodeHd base 48 44) (ht : Tabs tb) (far : ∀ q ∈ rest, @LT.lt Nat _ 249 q.1) (hlm : (lo, lobj) ∈ rest) (hlo : lobj.IsDictOf (strKind rw.prog w) kvs)
    (hcs0 : cs ≠ []) (hcs1 : cs.length < 30) (hun : bits unit ≤ 5000) (hu18 : 10 ^ 18 ≤ unit) (s0 : 0 ≤ size) (s1 : size ≤ 30) (hst : bits start ≤ 12000)
    (hcn : ∀ c ∈ cs, (∃ t, valueAt kvs ⟨#[c]⟩ = some (.int (low c) t)) ∧ 0 ≤ low c ∧ low c ≤ 30 ∧ 1 ≤ Txt.count ⟨cs.toArray⟩ ⟨#[c]⟩ ∧ Txt.count ⟨cs.toArray⟩ ⟨#[c]⟩ ≤ 30)
    (hret : ∀ nl vn nn tb' h' tk', Tabs tb' → Fr h₀ L h' m → IntsAre vn (start :: laid (lay size unit (fun c => Txt.count ⟨cs.toArray⟩ ⟨#[c]⟩) low) start cs.reverse) → News h₀ L h' ((nl, W.listOf vn.toArray nn) :: (tb' ++ rest)) → (∀ q ∈ rest, q.1 < nl) → Q (.ref nl) { s with heap := h', toks := tk' }) :
    wpAny (model rw.prog w) (ktrTop dp un gd cn csc L a₀ ccd cl outer) (call (.ref 237) [.str ⟨cs.toArray⟩ tw, .int size ts, .ref lo, .int unit tu, .int start tt]) Q E s := by
  revert X
  k_fill
  intro X
  refine wpAny_call ?_
  k_dflt ktr_enter
  dsimp only [body_s21, scope_s21, par_s21, lit]
  refine let_A ?_
  intro A1
  (repeat' (first | ((with_reducible show wpAny _ _ (pyIter (Value.str _ _)) _ _ _); refine stop_intro ?_) | ((with_reducible show wpAny _ _ (exec (Stmt.For ..) _) _ _ _); k_here; refine owit_for ?_) | ((with_reducible show wpAny _ _ (call (Value.ref _) _ _) _ _ _); k_here; k_dflt (apply acc_make0; walk_at "cc"); intro _ _ _ _ _ _ _ _ _ _) | (k_unfold; (try dsimp only)) | (k_end; kc_close) | walk1 | (dsimp only; walk1) | (leave1; walk_say "STEP leave1"; (try dsimp only))))
  unfold Stop
  rename (∀ q ∈ tb ++ rest, _) => l1
  rename Fr _ _ _ _ => F9
  rename Fr h₀ _ _ _ => FG9
  rename News _ _ _ _ => N9
  rename Below _ _ _ _ => B9
  rename Top _ _ _ _ _ _ => T9
  rename (K w.params).In _ => X9
  rename_i g' L' h1 x dx t1 kt h1b tk2 l2 h2 tq m1
  have hxf : @LT.lt Nat _ dx x := l2
  have F8 : Fr g' L' h2 (mB (z21 x lo ⟨cs.toArray⟩ size unit start tw ts tu tt) none) := fr_first21 rfl F9
  have N8 : News g' L' h2 ((x, accObj 143 dx #[] 0) :: (dx, initObj w.params 0 t1 kt) :: ((([] : List PQ).map pqObj).reverse ++ (tb ++ rest))) := fun q hq => N9 q (by simpa using hq)
  refine for_str (m := mB (z21 x lo ⟨cs.toArray⟩ size unit start tw ts tu tt) none) (by exact rfl) (by simp; omega) F8 N8 (Inv21 w (z21 x lo ⟨cs.toArray⟩ size unit start tw ts tu tt) 0 t1 kt x dx (tb ++ rest) cs s.gens s.drawn s.os) (fun i m news s h tk h => h) ?h0 ?step ?fin
  case h0 => exact ⟨none, #[], [], 0, rfl, rfl, rfl, rfl, rfl, rfl, rfl, (fun _ h => nomatch h)⟩
  case step =>
    intro I i c u m news s' own rest' hc' hI hn ho ho2 hI0 F1 N1 hre
    obtain ⟨lv, its, qs, n, rfl, rfl, hG, hdr, hos, hits, hqs, hlt⟩ := hI
    have hci : cs[i]? = some c := by rwa [List.getElem?_toArray] at hc'
    have htk : cs.take (i + 1) = cs.take i ++ [c] := by rw [List.take_add_one, hci]; rfl
    have hlen : its.size = qs.length := by
      have := congrArg List.length hits
      simpa using this
    have hlen2 : qs.length ≤ cs.length := by
      have := congrArg List.length hqs
      simp only [List.length_map, List.length_take] at this
      omega
    have hxI : I ≠ x := (hn (x, accObj 143 dx its n) (by repeat (first | exact .head _ | apply List.Mem.tail))).symm
    have hxt : ∀ q ∈ own ++ ((qs.map pqObj).reverse ++ (tb ++ rest)), q.1 ≠ x := by
      intro q hq
      rcases List.mem_append.mp hq with hq | hq
      · rw [ho q hq]; exact hxI
      rcases List.mem_append.mp hq with hq | hq
      · obtain ⟨y, hy, rfl⟩ := List.mem_map.mp (List.mem_reverse.mp hq)
        exact Nat.ne_of_gt (hlt y hy)
      · exact Nat.ne_of_lt (Nat.lt_trans (l1 q hq) l2)
    walk_at "storeName"
    rename Fr _ _ _ _ => F7
    rename News _ _ _ _ => N7
    refine turn21 (wd := ⟨cs.toArray⟩) (size := size) (unit := unit) (start := start) (a := 0) (tw := tw) (ts := ts) (tu := tu) (tt := tt) (t1 := t1) (kt := kt) dp un gd cn csc a₀ ccd cl outer base h₀ g' L L' m x lo dx (own ++ ((qs.map pqObj).reverse ++ (tb ++ rest))) _ B9 X9 T9 (by omega) (by omega) hk _ _ c u its n ?fF ?fN (Nat.ne_of_lt l2) hxt (by rw [hlen]; exact Nat.le_trans (show qs.length ≤ 1001 by omega) (by rw [sizeLine_eq]; decide)) ?fr
    case fF => exact fr_next21 F7
    case fN =>
      intro q hq
      refine N7 q ?_
      simp only [List.mem_cons, List.mem_append] at hq ⊢
      grind
    case fr =>
      intro D u' v' h3 tk3 F2 N2 d1 d2 d3
      refine hre _ ((x, accObj 143 dx (its.push (.ref D)) (n + 1)) :: (dx, initObj w.params 0 t1 kt) :: (((qs ++ [(D, Str.ofString "", (⟨#[c]⟩ : Str), u', v')]).map pqObj).reverse ++ (tb ++ rest))) _ F2 ?gN ?gI ?gV
      case gN =>
        intro q hq
        refine N2 q ?_
        simp only [List.map_append, List.reverse_append, List.map_cons, List.map_nil, List.reverse_cons, List.reverse_nil, List.nil_append, List.mem_cons, List.mem_append, List.cons_append] at hq ⊢
        grind
      case gI =>
        intro q hq
        obtain ⟨ob, hob⟩ := ho2
        have hID : I < D := d3 (I, ob) (List.mem_append_left _ hob)
        simp only [List.map_append, List.reverse_append, List.map_cons, List.map_nil, List.reverse_cons, List.reverse_nil, List.nil_append, List.mem_cons, List.cons_append] at hq
        rcases hq with rfl | rfl | rfl | hq
        · exact hn (x, accObj 143 dx its n) (by repeat (first | exact .head _ | apply List.Mem.tail))
        · exact hn (dx, initObj w.params 0 t1 kt) (by repeat (first | exact .head _ | apply List.Mem.tail))
        · exact Nat.ne_of_gt hID
        · exact hn q (List.mem_cons_of_mem _ (List.mem_cons_of_mem _ hq))
      case gV =>
        refine ⟨_, its.push (.ref D), qs ++ [(D, Str.ofString "", (⟨#[c]⟩ : Str), u', v')], n + 1, rfl, rfl, hG, hdr, hos, ?_, ?_, ?_⟩
        · simp [hits]
        · rw [htk]; unfold LettersAre at hqs ⊢; rw [List.map_append, List.map_append, hqs]; rfl
        · intro q hq
          rcases List.mem_append.mp hq with hq | hq
          · exact hlt q hq
          · rw [List.mem_singleton.mp hq]; exact d1
  case fin =>
    intro m news s' F1 N1 hI
    obtain ⟨lv, its, qs, n, rfl, rfl, hG, hdr, hos, hits, hqs, hlt⟩ := hI
    have hqs' : LettersAre cs qs := by
      have e : cs.take cs.length = cs := List.take_length
      rw [← e]; exact hqs
    (repeat' (first | ((with_reducible show wpAny _ _ (call (Value.ref 103) _) _ _ _); refine stop_intro ?_) | ((with_reducible show wpAny _ _ (getMethod (Value.ref _) _ _) _ _ _); k_here; k_dflt (refine method_fnL (C := 143) (Frag.In.keeps (by k_asm) (Fr.keep (by k_asm))) (by k_inst) (by k_is) (by k_is) (by k_is) (by k_is) rfl ?_)) | (k_unfold; (try dsimp only)) | (k_end; kc_close) | walk1 | (dsimp only; walk1) | (leave1; walk_say "STEP leave1"; (try dsimp only))))
    unfold Stop
    rename (_ ∧ _ ∧ AllLt _ _) => l5
    rename Fr _ _ _ _ => F5
    rename News _ _ _ _ => N5
    rename_i nl h5a F5a N5a h5 tq m5
    obtain ⟨l5a, l5b, l5c⟩ := l5
    have l5d := all_of l5c
    obtain ⟨cs0, c, rfl⟩ : ∃ cs0 c, cs = cs0 ++ [c] := ⟨cs.dropLast, cs.getLast hcs0, (List.dropLast_concat_getLast hcs0).symm⟩
    obtain ⟨qs0, pt, up, vp, rfl, hqs0⟩ := letters_snoc hqs'
    have hits0 : its = ((qs0.map fun q => Value.ref q.1).toArray).push (.ref pt) := by
      apply Array.ext'
      rw [hits]; simp
    have hlen0 : qs0.length = cs0.length := by
      have := congrArg List.length hqs0
      simpa using this
    simp only [List.length_append, List.length_singleton] at hcs1
    have hxq : ∀ q ∈ (((qs0 ++ [(pt, Str.ofString "", (⟨#[c]⟩ : Str), up, vp)]).map pqObj).reverse ++ rest), q.1 ≠ x := by
      intro q hq
      rcases List.mem_append.mp hq with hq | hq
      · obtain ⟨y, hy, rfl⟩ := List.mem_map.mp (List.mem_reverse.mp hq)
        exact Nat.ne_of_gt (hlt y hy)
      · exact Nat.ne_of_lt (Nat.lt_trans (l1 q (List.mem_append_right _ hq)) l2)
    have hxn : ∀ q ∈ (nl, W.listOf #[Value.int start tt] 0) :: (((qs0 ++ [(pt, Str.ofString "", (⟨#[c]⟩ : Str), up, vp)]).map pqObj).reverse ++ (tb ++ rest)), q.1 ≠ x := by
      intro q hq
      rcases List.mem_cons.mp hq with rfl | hq
      · exact Nat.ne_of_gt l5a
      rcases List.mem_append.mp hq with hq | hq
      · exact hxq q (List.mem_append_left _ hq)
      · exact Nat.ne_of_lt (Nat.lt_trans (l1 q hq) l2)
    rw [hits0] at N5
    k_dflt (refine' acc_pop_some (by simp; exact Nat.lt_of_lt_of_le (show qs0.length < 1001 by omega) (by rw [sizeLine_eq]; decide)) init_shadow.2 _ _ _ _ _ _ _ _ _ _ _ _ _ _ _ _ _ _ ?zB F5 ?zX (news_pop1 N5) ?zT ?zk ?zd ?zu (Nat.ne_of_lt l2) hxn ?_)
    case zB => k_asm
    case zX => k_asm
    case zT => k_asm
    case zk => first | exact rfl | assumption
    case zd => ktr_room
    case zu => ktr_units
    intro h6 tk6 F6 N6
    (repeat' (first | ((with_reducible show wpAny _ _ (exec (Stmt.While ..) _) _ _ _); k_here; k_dflt (refine whl_start 100 ?_)) | ((with_reducible show WhlRest ..); refine stop_intro ?_) | (k_unfold; (try dsimp only)) | (k_end; kc_close) | walk1 | (dsimp only; walk1) | (leave1; walk_say "STEP leave1"; (try dsimp only))))
    unfold Stop
    rename Fr _ _ _ _ => F7
    rename News _ _ _ _ => N7
    have lf0 : ∀ q ∈ rest, @LT.lt Nat _ q.1 nl := fun q hq => l5d q (List.mem_append_right _ (List.mem_append_right _ hq))
    have f249 : @LT.lt Nat _ 249 dx := Nat.lt_trans (far _ hlm) (l1 _ (List.mem_append_right _ hlm))
    have e1 : (qs0.map fun q => Value.ref q.1).toArray = (((qs0.map fun q => q.1).reverse).reverse.map Value.ref).toArray := by simp
    rw [e1] at N7
    have hcnt : ∀ c' ∈ cs0.reverse, c' ∈ cs0 ++ [c] := fun c' h => List.mem_append_left _ (List.mem_reverse.mp h)
    have hlaid : (cs0 ++ [c]).reverse = c :: cs0.reverse := by simp
    have hqget : ∀ i (h : i < cs0.reverse.length) d, (qs0.map fun q => q.1).reverse[i]? = some d → ∃ u v, (d, tupS (Str.ofString "") ⟨#[cs0.reverse[i]]⟩ u v) ∈ ((qs0 ++ [(pt, Str.ofString "", (⟨#[c]⟩ : Str), up, vp)]).map pqObj).reverse ++ rest := by
      intro i hi d hd
      have hi2 : i < qs0.reverse.length := by simpa [hlen0] using hi
      have e2 : qs0.reverse[i]?.map (fun q => q.1) = some d := by rw [← List.getElem?_map, List.map_reverse]; exact hd
      rw [List.getElem?_eq_getElem hi2] at e2
      have e3 : qs0.reverse[i].1 = d := by simpa using e2
      have e4 : (qs0.reverse.map (fun q => (q.2.1, q.2.2.1)))[i]? = (cs0.reverse.map fun c => (Str.ofString "", (⟨#[c]⟩ : Str)))[i]? := by
        rw [List.map_reverse, List.map_reverse]
        unfold LettersAre at hqs0
        rw [hqs0]
      rw [List.getElem?_map, List.getElem?_map, List.getElem?_eq_getElem hi2, List.getElem?_eq_getElem hi] at e4
      have e5 : qs0.reverse[i].2.1 = Str.ofString "" ∧ qs0.reverse[i].2.2.1 = (⟨#[cs0.reverse[i]]⟩ : Str) := by simpa using e4
      have hm : qs0.reverse[i] ∈ qs0 := List.mem_reverse.mp (List.getElem_mem hi2)
      refine ⟨qs0.reverse[i].2.2.2.1, qs0.reverse[i].2.2.2.2, List.mem_append_left _ (List.mem_reverse.mpr ?_)⟩
      rw [← e3, ← e5.1, ← e5.2]
      exact List.mem_map.mpr ⟨_, List.mem_append_left _ hm, rfl⟩
    refine loop21 (a := 0) (t1 := t1) (kt := kt) dp un gd cn csc a₀ ccd cl outer base h₀ g' L L' m x lo dx nl (((qs0 ++ [(pt, Str.ofString "", (⟨#[c]⟩ : Str), up, vp)]).map pqObj).reverse ++ rest) B9 X9 T9 (by omega) (by omega) hk _ _ lobj kvs _ low ?zE hlo C41 C48 ?zfar (Nat.lt_trans (Nat.lt_trans f249 l2) l5a) (Nat.lt_trans f249 l2) f249 (far _ hlm) ?zLL (Nat.ne_of_lt l5a) (Nat.ne_of_lt l5b) (Nat.ne_of_lt (lf0 _ hlm)) ?z5 (Nat.ne_of_lt l2) (Nat.ne_of_lt (Nat.lt_trans (l1 _ (List.mem_append_right _ hlm)) l2)) hxq hun hu18 s0 s1 12600 (by decide) (by decide) cs0.reverse ((qs0.map fun q => q.1).reverse) (by simp [hlen0]) hqget (fun c' h => hcn c' (hcnt c' h)) _ c pt up vp tb (n + 1) 0 _ [] start tt none none ht ?zk2 ?zpt (hcn c (by simp)) ?zB ?zlen (fr_first21w rfl rfl F7) ?zN ?zfin
    case zE => passes_own
    case zfar =>
      intro q hq
      rcases List.mem_append.mp hq with hq | hq
      · obtain ⟨y, hy, rfl⟩ := List.mem_map.mp (List.mem_reverse.mp hq)
        exact Nat.lt_trans (Nat.lt_trans f249 l2) (hlt y hy)
      · exact far q hq
    case zLL => exact above_of (by k_asm) (by k_asm)
    case z5 =>
      intro q hq
      rcases List.mem_append.mp hq with hq | hq
      · exact Nat.ne_of_lt (l5d q (List.mem_append_left _ hq))
      · exact Nat.ne_of_lt (lf0 q hq)
    case zk2 => simp; omega
    case zpt => simp
    case zB => simp; omega
    case zlen => simp; omega
    case zN => exact news_loop N7 hlm
    case zfin =>
      intro h8 tk8 D mv rv tb8 vn nn ht8 F8' iv N8'
      k_steps
      rename_i kF kN Tc kX
      rw [hG, hdr, hos]
      rw [hlaid] at hret
      exact hret nl (Value.int start tt :: vn) nn tb8 _ _ ht8 kF (.cons _ _ iv) (news_last kN) lf0
end
section
open PySem PySem.W PySem.Calls PyProof.Rows PySem.Spec
set_option maxRecDepth 100000
set_option linter.unusedVariables false
theorem rangeKs8 : ∀ k ∈ rangeKs 0 ((8 : Int) - 0).toNat, 0 ≤ k ∧ k < 8 := by decide
theorem news_drop {h₀ h : Heap} {L : Addr} {a b c d : Addr × Obj} {r : List (Addr × Obj)} (N : News h₀ L h (a :: b :: c :: d :: r)) : News h₀ L h (a :: r) := fun q hq => by
  refine N q ?_
  simp only [List.mem_cons] at hq ⊢
  grind
theorem isList_keeps {h h' : Heap} {a : Addr} {xs : Array Value} (k : ∀ b o, h.get? b = some o → h'.get? b = some o) (x : h.IsList a xs) : h'.IsList a xs := by
  obtain ⟨o, e, r⟩ := x
  exact ⟨o, k _ _ e, r⟩
set_option maxHeartbeats 4000000 in
theorem law_drawn {w : World} {p : Program} {loose : List Str} {mean : ExcName → Option Value} {mg mb : Str → Option Value} {sa : Addr} {vs : List Value} {ns : List Int}
  (dp un : Nat) (gd : Option (List Code)) (cn : Str) (csc : Scope) (a₀ : Addr) (ccd : Value) (cl : List (Str × Addr)) (outer : List Env) (A₀ : Around) (base h₀ : Heap) (L : Addr) (m : Str → Option Value) (rest : List (Addr × Obj)) (s : Shared)
    (Q E : Value → Shared → Prop) (B : Below A₀ base outer h₀) (F : Fr h₀ L s.heap m) (X : (K w.params).In h₀) (N : News h₀ L s.heap rest) (T : Top p loose mean mg mb h₀) (hk : csc.kind = .function) (hd : dp + 50 < recursionLimit) (hu : un + 600 < cLine)
    (hl : h₀.IsList sa vs.toArray) (iv : IntsAre vs ns) (hlen : ns.length ≤ 63)
    (hret : ∀ (nl : Addr) (vn : List Value) (nn : Nat) (ds : List Int) h' tk', Fr h₀ L h' m → News h₀ L h' ((nl, W.listOf vn.toArray nn) :: rest) → IntsAre vn ds → ds.length = 8 → (∀ d ∈ ds, 0 ≤ d ∧ bits d ≤ 4983) → Q (.ref nl) { s with heap := h', toks := tk' }) :
    wpAny (model rw.prog w) (ktrTop dp un gd cn csc L a₀ ccd cl outer) (call (.ref 216) [.ref sa]) Q E s := by
  revert X
  k_fill
  intro X
  refine wpAny_call ?_
  k_dflt (refine' code_defC ?k1 ?k2 ?k3 ?k4 ?k5 ?kA ?kF ?kK ?k6 ?k7 ?k8 ?k9 ?kB ?kD ?_ ?c2 ?c3 ?c4; (case kA => exact rfl); (case kF => exact rfl); (case kK => assumption); (case k1 => k_asm); (case k2 => k_asm); (case k3 => k_asm); (case k4 => k_asm); (case k5 => k_asm); (case k6 => k_is); (case k7 => k_is); (case k8 => ktr_room); (case k9 => exact BindsTo.of_eq rfl); (case kB => exact rfl); (case kD => decide +kernel); (case c2 => exact rfl); (case c3 => exact rfl); (case c4 => exact rfl); k_whole; intro g' L' h' tk' cells' FG' F' N' Y' B' X' T' l1; (try k_lt l1); k_cells Y'; (try simp only [List.cons_append, List.nil_append] at N'); (try dsimp only); (try k_lift B'); (try k_fold))
  dsimp only [body_s18, scope_s18, par_s18, lit]
  rename Fr h₀ _ _ _ => FG9
  have hl2 := isList_keeps FG9.keep hl
  k_steps
  rename IntsAre _ (List.map _ (rangeKs _ _)) => I9
  rename_i kF kN Tc kX
  refine hret _ _ _ _ _ _ kF (news_drop kN) I9 (by rw [List.length_map, rangeKs_length]; rfl) ?_
  intro d hd'
  obtain ⟨k, hk', rfl⟩ := List.mem_map.mp hd'
  have hk2 := rangeKs8 k hk'
  have hp : (8 : Int) ≤ 10 ^ 1500 := by decide +kernel
  have hp2 : (10 : Int) ^ Int.toNat 1500 = 10 ^ 1500 := rfl
  split
  · rw [hp2]
    have q0 := Int.fmod_nonneg_of_pos ([0, 4, 16, 0, 54, 82, 13, 11].getD k.toNat 0 + (List.take (min (k + 1).toNat ns.length - k.toNat) (List.drop k.toNat ns)).sum) (b := 10 ^ 1500) (by omega)
    exact ⟨q0, bits_le_of q0 (Int.lt_trans (Int.fmod_lt_of_pos _ (by omega)) (by decide +kernel))⟩
  · exact ⟨hk2.1, bits_le_of hk2.1 (Int.lt_trans hk2.2 (by decide +kernel))⟩
end
section
open PySem PySem.W PySem.Calls PyProof.Rows PySem.Spec
set_option maxRecDepth 100000
set_option linter.unusedVariables false
theorem triples_no {ps : Array Value} (h : TriplesOk ps.toList) : ∀ x t, ps[1]? ≠ some (.str x t) := by
  intro x t e
  rw [← Array.getElem?_toList] at e
  match hl : ps.toList, h with
  | [], _ => rw [hl] at e; simp at e
  | .int _ _ :: .int _ _ :: _ :: _, _ => rw [hl] at e; simp at e
theorem tab5_off {h₀ h : Heap} {L : Addr} {news t5 : List (Addr × Obj)} {P : Addr} {ps : Array Value} (N : News h₀ L h news) (hs : ∀ q ∈ t5, q ∈ news) (h5 : Tab5 t5) (hm : (P, tabObj ps) ∈ news) (hp : TriplesOk ps.toList) (h37 : (37 : Nat) ≠ P) : ∀ q ∈ t5, q.1 ≠ P := by
  rcases h5 with rfl | ⟨c', oc, vc, tc, rfl, e1, e2⟩
  · intro q hq; rw [List.mem_singleton.mp hq]; exact h37
  · intro q hq
    rcases List.mem_cons.mp hq with rfl | hq
    · exact h37
    · rw [List.mem_singleton.mp hq]
      exact code_ne N hm (hs _ (by simp)) e1 e2 (triples_no hp)
theorem tab6_off {h₀ h : Heap} {L : Addr} {news t6 : List (Addr × Obj)} {P : Addr} {ps : Array Value} (N : News h₀ L h news) (hs : ∀ q ∈ t6, q ∈ news) (h6 : Tab6 t6) (hm : (P, tabObj ps) ∈ news) (hp : TriplesOk ps.toList) (h44 : (44 : Nat) ≠ P) : ∀ q ∈ t6, q.1 ≠ P := by
  rcases h6 with rfl | ⟨c', oc, vc, tc, rfl, e1, e2⟩
  · intro q hq; rw [List.mem_singleton.mp hq]; exact h44
  · intro q hq
    rcases List.mem_cons.mp hq with rfl | hq
    · exact h44
    · rw [List.mem_singleton.mp hq]
      exact code_ne N hm (hs _ (by simp)) e1 e2 (triples_no hp)
/-- the table of __len__'s generator, taken out of the tables -/
theorem tabs_105 {h₀ h : Heap} {L : Addr} {tb rest : List (Addr × Obj)} (N : News h₀ L h (tb ++ rest)) (ht : Tabs tb) :
    ∃ (pl : Array Value) (os : List (Addr × Obj)), (∀ q : Addr × Obj, q ∈ tb ↔ q = (105, tabObj pl) ∨ q ∈ os) ∧ TabOk posL pl ∧ (∀ q ∈ os, q.1 ≠ 105) ∧ ∀ pl', TabOk posL pl' → ∃ tb' : List (Addr × Obj), Tabs tb' ∧ ∀ q : Addr × Obj, q ∈ tb' ↔ q = (105, tabObj pl') ∨ q ∈ os := by
  obtain ⟨t5, t6, pl, ps, rfl, h5, h6, h7, h8⟩ := ht
  have hm : (105, tabObj pl) ∈ (t5 ++ (t6 ++ [(105, tabObj pl), (112, tabObj ps)])) ++ rest := by simp
  refine ⟨pl, t5 ++ (t6 ++ [(112, tabObj ps)]), fun q => ?_, h7, fun q hq => ?_, fun pl' h' => ⟨t5 ++ (t6 ++ [(105, tabObj pl'), (112, tabObj ps)]), ⟨t5, t6, pl', ps, rfl, h5, h6, h', h8⟩, fun q => ?_⟩⟩
  · simp only [List.mem_append, List.mem_cons, List.not_mem_nil, or_false]; grind
  · rcases List.mem_append.mp hq with hq | hq
    · exact tab5_off N (fun q hq => by simp [hq]) h5 hm h7.1 (by decide) q hq
    rcases List.mem_append.mp hq with hq | hq
    · exact tab6_off N (fun q hq => by simp [hq]) h6 hm h7.1 (by decide) q hq
    · rw [List.mem_singleton.mp hq]; exact (by decide : (112 : Nat) ≠ 105)
  · simp only [List.mem_append, List.mem_cons, List.not_mem_nil, or_false]; grind
theorem tabs_112 {h₀ h : Heap} {L : Addr} {tb rest : List (Addr × Obj)} (N : News h₀ L h (tb ++ rest)) (ht : Tabs tb) :
    ∃ (ps : Array Value) (os : List (Addr × Obj)), (∀ q : Addr × Obj, q ∈ tb ↔ q = (112, tabObj ps) ∨ q ∈ os) ∧ TabOk posS ps ∧ (∀ q ∈ os, q.1 ≠ 112) ∧ ∀ ps', TabOk posS ps' → ∃ tb' : List (Addr × Obj), Tabs tb' ∧ ∀ q : Addr × Obj, q ∈ tb' ↔ q = (112, tabObj ps') ∨ q ∈ os := by
  obtain ⟨t5, t6, pl, ps, rfl, h5, h6, h7, h8⟩ := ht
  have hm : (112, tabObj ps) ∈ (t5 ++ (t6 ++ [(105, tabObj pl), (112, tabObj ps)])) ++ rest := by simp
  refine ⟨ps, t5 ++ (t6 ++ [(105, tabObj pl)]), fun q => ?_, h8, fun q hq => ?_, fun ps' h' => ⟨t5 ++ (t6 ++ [(105, tabObj pl), (112, tabObj ps')]), ⟨t5, t6, pl, ps', rfl, h5, h6, h7, h'⟩, fun q => ?_⟩⟩
  · simp only [List.mem_append, List.mem_cons, List.not_mem_nil, or_false]; grind
  · rcases List.mem_append.mp hq with hq | hq
    · exact tab5_off N (fun q hq => by simp [hq]) h5 hm h8.1 (by decide) q hq
    rcases List.mem_append.mp hq with hq | hq
    · exact tab6_off N (fun q hq => by simp [hq]) h6 hm h8.1 (by decide) q hq
    · rw [List.mem_singleton.mp hq]; exact (by decide : (105 : Nat) ≠ 112)
  · simp only [List.mem_append, List.mem_cons, List.not_mem_nil, or_false]; grind
theorem law_tableT {w : World} {p : Program} {loose : List Str} {mean : ExcName → Option Value} {mg mb : Str → Option Value} {wd : Str} {tw ta : Tok} {a : Int}
  (dp un : Nat) (gd : Option (List Code)) (cn : Str) (cs : Scope) (a₀ : Addr) (ccd : Value) (cl : List (Str × Addr)) (outer : List Env) (A₀ : Around) (base h₀ : Heap) (L : Addr) (m : Str → Option Value) (tb rest : List (Addr × Obj)) (s : Shared)
    (Q E : Value → Shared → Prop) (B : Below A₀ base outer h₀) (F : Fr h₀ L s.heap m) (X : (K w.params).In h₀) (N : News h₀ L s.heap (tb ++ rest)) (T : Top p loose mean mg mb h₀) (hk : cs.kind = .function) (hd : dp + 80 < recursionLimit) (hu : un + 1200 < cLine)
    (G : AllBare s.gens) (ht : Tabs tb) (far : ∀ q ∈ rest, @LT.lt Nat _ 249 q.1) (ha0 : 0 ≤ a) (ha1 : a ≤ 2 ^ 40) (hc : ∀ c ∈ lets, 0 ≤ Txt.count wd ⟨#[c]⟩ ∧ Txt.count wd ⟨#[c]⟩ ≤ 1000)
    (hret : ∀ s' T x dx lo lobj kvs kt tb' its n qs, Fr h₀ L s'.heap m → News h₀ L s'.heap ((T, { cls := .type "tuple", data := .seq #[.ref x, .ref lo] }) :: (x, accObj 143 dx its n) :: (dx, initObj w.params a ta kt) :: (lo, lobj) :: ((qs.map pqObj).reverse ++ (tb' ++ rest))) → Tabs tb' →
      (∀ q ∈ rest, q.1 < dx) → dx < x → x < lo → 112 < dx → (∀ q ∈ qs, lo < q.1) → (∀ q ∈ qs, q.1 < T) → lo < T → its.toList = qs.map (fun q => Value.ref q.1) → PQsAre wd lets qs → lobj.IsDictOf (strKind rw.prog w) kvs → LowIs (fun c => Txt.count wd ⟨#[c]⟩) a lets kvs → AllBare s'.gens → s'.os = s.os → Q (.ref T) s') :
    wpAny (model rw.prog w) (ktrTop dp un gd cn cs L a₀ ccd cl outer) (call (.ref 230) [.str wd tw, .int a ta]) Q E s := by
  obtain ⟨pl, os, hmem, hok, hoff, hback⟩ := tabs_105 N ht
  obtain ⟨t5, t6, pl0, ps0, htb, _, _, _, _⟩ := id ht
  have h112 : ∃ o, (112, o) ∈ tb := ⟨tabObj ps0, by rw [htb]; simp⟩
  refine law_table dp un gd cn cs a₀ ccd cl outer A₀ base h₀ L m pl (os ++ rest) s Q E B F X (fun q hq => N q ?_) T hk hd hu G hok ?_ ha0 ha1 hc ?_
  · rcases List.mem_cons.mp hq with rfl | hq
    · exact List.mem_append_left _ ((hmem _).mpr (.inl rfl))
    · rcases List.mem_append.mp hq with hq | hq
      · exact List.mem_append_left _ ((hmem _).mpr (.inr hq))
      · exact List.mem_append_right _ hq
  · intro q hq
    rcases List.mem_append.mp hq with hq | hq
    · exact hoff q hq
    · exact Nat.ne_of_gt (Nat.lt_trans (by decide) (far q hq))
  · intro s' T x dx lo lobj kvs kt ps' its n qs F' N' l1 l2 l3 l4 l5 l6 l7 e1 e2 e3 e4 e5 e6 e7
    obtain ⟨tb', ht', hm'⟩ := hback ps' e5
    refine hret s' T x dx lo lobj kvs kt tb' its n qs F' (fun q hq => N' q ?_) ht' (fun q hq => l1 q (List.mem_append_right _ hq)) l2 l3 ?_ l5 l6 l7 e1 e2 e3 e4 e6 e7
    · simp only [List.mem_cons, List.mem_append] at hq ⊢
      rcases hq with hq | hq | hq | hq | hq | hq | hq
      · exact .inl hq
      · exact .inr (.inr (.inl hq))
      · exact .inr (.inr (.inr (.inl hq)))
      · exact .inr (.inr (.inr (.inr (.inl hq))))
      · exact .inr (.inr (.inr (.inr (.inr (.inl hq)))))
      · rcases (hm' q).mp hq with hq | hq
        · exact .inr (.inl hq)
        · exact .inr (.inr (.inr (.inr (.inr (.inr (.inl hq))))))
      · exact .inr (.inr (.inr (.inr (.inr (.inr (.inr hq))))))
    · obtain ⟨o, ho⟩ := h112
      rcases (hmem _).mp ho with e | ho
      · cases e
      · exact l1 (112, o) (List.mem_append_left _ ho)
/-- len of an accumulator, amid the tables -/
theorem acc_blenT {w : World} {p : Program} {loose : List Str} {mean : ExcName → Option Value} {mg mb : Str → Option Value} {x dx : Addr} {its : Array Value} {qs : List PQ} {n : Nat} {a : Int} {t1 kt : Tok}
  (hits : its.toList = qs.map fun q => Value.ref q.1)
  (dp un : Nat) (gd : Option (List Code)) (cn : Str) (cs : Scope) (a₀ : Addr) (ccd : Value) (cl : List (Str × Addr)) (outer : List Env) (A₀ : Around) (base h₀ : Heap) (L : Addr) (m : Str → Option Value) (tb rest : List (Addr × Obj)) (s : Shared)
    (Q E : Value → Shared → Prop) (B : Below A₀ base outer h₀) (F : Fr h₀ L s.heap m) (X : (K w.params).In h₀) (N : News h₀ L s.heap (tb ++ rest)) (ht : Tabs tb) (T : Top p loose mean mg mb h₀) (hk : cs.kind = .function) (hd : dp + 40 < recursionLimit) (hu : un + 600 < cLine)
    (hx : (x, accObj 143 dx its n) ∈ rest) (hdx : (dx, initObj w.params a t1 kt) ∈ rest) (far : ∀ q ∈ rest, @LT.lt Nat _ 249 q.1)
    (G : AllBare s.gens) (hqs : ∀ q ∈ qs, pqObj q ∈ rest) (hql : ∀ q ∈ qs, q.2.1.length ≤ 2 ^ 20 ∧ q.2.2.1.length ≤ 2 ^ 20) (ha0 : 0 ≤ a) (ha1 : a ≤ 2 ^ 40) (hqn : qs.length < 2 ^ 20)
    (hret : ∀ t s' tb', Tabs tb' → Fr h₀ L s'.heap m → News h₀ L s'.heap (tb' ++ rest) → AllBare s'.gens → s'.os = s.os → Q (.int (a + (qs.map lenq).sum) t) s') :
    wpAny (model rw.prog w) (ktrTop dp un gd cn cs L a₀ ccd cl outer) (call (.builtin "len") [.ref x]) Q E s := by
  obtain ⟨pl, os, hmem, hok, hoff, hback⟩ := tabs_105 N ht
  have fr : ∀ q ∈ rest, q.1 ≠ 105 := fun q hq => Nat.ne_of_gt (Nat.lt_trans (by decide) (far q hq))
  refine acc_blen (x := x) (dx := dx) (n := n) (a := a) (t1 := t1) (kt := kt) (qs := qs) hits hok dp un gd cn cs a₀ ccd cl outer A₀ base h₀ L m (os ++ rest) s Q E B F X (fun q hq => N q ?_) T hk hd hu G (fun q hq => List.mem_append_right _ (hqs q hq)) ?_ (fr _ hdx) hql ha0 ha1 hqn fun t s' ps' h1 h2 h3 h4 h5 => ?_
  · simp only [List.mem_cons, List.mem_append] at hq ⊢
    rcases hq with rfl | rfl | rfl | hq | hq
    · exact .inl ((hmem _).mpr (.inl rfl))
    · exact .inr hx
    · exact .inr hdx
    · exact .inl ((hmem _).mpr (.inr hq))
    · exact .inr hq
  · intro q hq
    rcases List.mem_append.mp hq with hq | hq
    · exact hoff q hq
    · exact fr q hq
  · obtain ⟨tb', ht', hm'⟩ := hback ps' h1
    refine hret t s' tb' ht' h2 (fun q hq => h3 q ?_) h4 h5
    simp only [List.mem_cons, List.mem_append] at hq ⊢
    rcases hq with hq | hq
    · rcases (hm' q).mp hq with hq | hq
      · exact .inl hq
      · exact .inr (.inr (.inr (.inl hq)))
    · exact .inr (.inr (.inr (.inr hq)))
/-- str of an accumulator, amid the tables -/
theorem acc_bstrT {w : World} {p : Program} {loose : List Str} {mean : ExcName → Option Value} {mg mb : Str → Option Value} {x dx : Addr} {its : Array Value} {qs : List PQ} {n : Nat} {a : Int} {t1 kt : Tok}
  (hits : its.toList = qs.map fun q => Value.ref q.1)
  (dp un : Nat) (gd : Option (List Code)) (cn : Str) (cs : Scope) (a₀ : Addr) (ccd : Value) (cl : List (Str × Addr)) (outer : List Env) (A₀ : Around) (base h₀ : Heap) (L : Addr) (m : Str → Option Value) (tb rest : List (Addr × Obj)) (s : Shared)
    (Q E : Value → Shared → Prop) (B : Below A₀ base outer h₀) (F : Fr h₀ L s.heap m) (X : (K w.params).In h₀) (N : News h₀ L s.heap (tb ++ rest)) (ht : Tabs tb) (T : Top p loose mean mg mb h₀) (hk : cs.kind = .function) (hd : dp + 40 < recursionLimit) (hu : un + 600 < cLine)
    (hx : (x, accObj 143 dx its n) ∈ rest) (hdx : (dx, initObj w.params a t1 kt) ∈ rest) (far : ∀ q ∈ rest, @LT.lt Nat _ 249 q.1)
    (G : AllBare s.gens) (hqs : ∀ q ∈ qs, pqObj q ∈ rest) (hql : ∀ q ∈ qs, q.2.1.length ≤ 2 ^ 20 ∧ q.2.2.1.length ≤ 2 ^ 20) (hqn : qs.length < 2 ^ 20) (hjoin : JoinOk (Str.ofString "") (qs.map strq) = true)
    (hret : ∀ t s' tb', Tabs tb' → Fr h₀ L s'.heap m → News h₀ L s'.heap (tb' ++ rest) → AllBare s'.gens → s'.os = s.os → Q (.str (Txt.join (Str.ofString "") (qs.map strq)) t) s') :
    wpAny (model rw.prog w) (ktrTop dp un gd cn cs L a₀ ccd cl outer) (call (.type "str") [.ref x]) Q E s := by
  obtain ⟨pl, os, hmem, hok, hoff, hback⟩ := tabs_112 N ht
  have fr : ∀ q ∈ rest, q.1 ≠ 112 := fun q hq => Nat.ne_of_gt (Nat.lt_trans (by decide) (far q hq))
  refine acc_bstr (x := x) (dx := dx) (n := n) (a := a) (t1 := t1) (kt := kt) (qs := qs) hits hok dp un gd cn cs a₀ ccd cl outer A₀ base h₀ L m (os ++ rest) s Q E B F X (fun q hq => N q ?_) T hk hd hu G (fun q hq => List.mem_append_right _ (hqs q hq)) ?_ (fr _ hdx) hql hqn hjoin fun t s' ps' h1 h2 h3 h4 h5 => ?_
  · simp only [List.mem_cons, List.mem_append] at hq ⊢
    rcases hq with rfl | rfl | rfl | hq | hq
    · exact .inl ((hmem _).mpr (.inl rfl))
    · exact .inr hx
    · exact .inr hdx
    · exact .inl ((hmem _).mpr (.inr hq))
    · exact .inr hq
  · intro q hq
    rcases List.mem_append.mp hq with hq | hq
    · exact hoff q hq
    · exact fr q hq
  · obtain ⟨tb', ht', hm'⟩ := hback ps' h1
    refine hret t s' tb' ht' h2 (fun q hq => h3 q ?_) h4 h5
    simp only [List.mem_cons, List.mem_append] at hq ⊢
    rcases hq with hq | hq
    · rcases (hm' q).mp hq with hq | hq
      · exact .inl hq
      · exact .inr (.inr (.inr (.inl hq)))
    · exact .inr (.inr (.inr (.inr hq)))
end
section
open PySem PySem.W PySem.Calls PyProof.Rows PyProof.Rows.LCg
set_option maxRecDepth 100000
set_option linter.unusedVariables false
/-- a state that differs from s in its heap alone, the frame and the ledger as said -/
noncomputable def Same (h₀ : Heap) (L : Addr) (m : Str → Option Value) (s : Shared) (news : List (Addr × Obj)) (s' : Shared) : Prop :=
  ∃ h tk, s' = { s with heap := h, toks := tk } ∧ Fr h₀ L h m ∧ News h₀ L h news
section
variable {prog : Program} {w : World} {A : Around} {E : Value → Shared → Prop} {s : Shared} {h₀ : Heap} {L : Addr} {m : Str → Option Value} {env : Env}
set_option maxHeartbeats 4000000 in
/-- [elt for a, b in pairs if c], over a list of pairs of texts; a turn leaves nothing -/
theorem comp_pt {elt iter c : Expr} {a b : Str} {pa pb tp : Pos} {kk : Nat} {scope : Scope} {cl : List (Str × Addr)} {pos : Pos} {Q : Value → Shared → Prop} {qs : List PQ} {keep : PQ → Bool} {val : PQ → Str} {ax : Addr} {its : Array Value} {kn : Nat} {news : List (Addr × Obj)}
    (hh : A.handled = none) (hclos : closureFor scope env = pure cl) (hcell : ∀ y ∈ scope.names, y.2 ≠ .cell) (hkind : scope.kind = .function)
    (hnames : ∀ y ∈ scope.names, y.2 = .local → scope.names.lookup y.1 = some .local) (hxa : scope.names.lookup a = some .local) (hxb : scope.names.lookup b = some .local) (hab : a ≠ b)
    (hs : ∀ x, foldedSetIterable iter env x = pure x) (hiter : wpAny (model prog w) A (eval iter env) (fun v s₁ => v = .ref ax ∧ s₁ = s) E s)
    (F : Fr h₀ L s.heap m) (N : News h₀ L s.heap news) (hax : (ax, ({ cls := .type "list", data := .seq its kn } : Obj)) ∈ news) (hits : its.toList = qs.map fun q => Value.ref q.1) (hqs : ∀ q ∈ qs, pqObj q ∈ news) (hlen : qs.length ≤ 1000)
    (turn : ∀ q ∈ qs, ∀ I oI C oC D oD m₂ h tk (E' : Value → Shared → Prop), NsObj oC m₂ → m₂ a = some (.str q.2.1 q.2.2.2.1) → m₂ b = some (.str q.2.2.1 q.2.2.2.2) → Fr h₀ L h m → News h₀ L h ((I, oI) :: (C, oC) :: (D, oD) :: news) →
      wpAny (model prog w) A (isTrue c (compEnvC scope cl C env) (eval c (compEnvC scope cl C env))) (fun okb s₃ => okb = keep q ∧ (if okb = true then
        wpAny (model prog w) A (eval elt (compEnvC scope cl C env)) (fun y s₄ => (∃ t, y = .str (val q) t) ∧ Same h₀ L m s ((I, oI) :: (C, oC) :: (D, oD) :: news) s₄) E' s₃
        else Same h₀ L m s ((I, oI) :: (C, oC) :: (D, oD) :: news) s₃)) E' { s with heap := h, toks := tk })
    (fin : ∀ D l h tk n, l.map (·.1) = (qs.filter keep).map val → Fr h₀ L h m → News h₀ L h ((D, W.listOf (strValues l).toArray n) :: news) → (∀ q ∈ news, q.1 < D) → Q (.ref D) { s with heap := h, toks := tk }) :
    wpAny (model prog w) A (eval (.ListComp elt [⟨.Tuple [.Name a pa, .Name b pb] kk tp, iter, [c], 0⟩] scope pos) env) Q E s := by
  have hlsz : its.size = qs.length := by rw [← Array.length_toList, hits, List.length_map]
  have hl : s.heap.IsList ax its := ⟨_, (N _ hax).1, rfl, _, rfl⟩
  have nlt : ∀ q ∈ news, q.1 < s.heap.objs.size := fun q hq => Heap.lt_size (N q hq).1
  have hLlt : L < s.heap.objs.size := F.ns.lt
  have none₀ : ∀ x, s.heap.objs.size ≤ x → h₀.get? x = none := fun x hx => Heap.get?_none_of_le (Nat.le_trans (Nat.le_trans F.above (Nat.le_of_lt hLlt)) hx)
  rw [eval_ListComp]
  refine wpAny_comprehension_free (use := none) rfl hs hclos hkind hnames (wpAny_mono hiter (fun xv s₁ e12 => ?_) fun _ _ e => e)
  obtain ⟨rfl, rfl⟩ := e12
  refine wpAny_pyIter_list hl ?_
  -- the three new objects
  generalize hI : s₁.heap.objs.size = I at *
  refine wpAny_newObj_type (wpAny_newFunctionEnv hcell (by intro y hy; simp at hy) (fun h₁ hns sb => ?_) hkind)
  dsimp only at hns sb ⊢
  have sz1 : (s₁.heap.push { cls := .type "list_iterator", data := .fields #[.ref ax, .int 0 0] }).objs.size = I + 1 := by rw [Heap.size_push, hI]
  have sz2 : ((s₁.heap.push { cls := .type "list_iterator", data := .fields #[.ref ax, .int 0 0] }).push { cls := .type "list", dict := none, data := .seq ([] : List Value).toArray }).objs.size = I + 2 := by rw [Heap.size_push, sz1]
  rw [sz1]
  rw [sz2] at hns sb ⊢
  have hLn : @LT.lt Nat _ L I := hLlt
  have nIC : I ≠ I + 2 := by omega
  have nID : I ≠ I + 1 := by omega
  have nDC : I + 1 ≠ I + 2 := by omega
  have nL : L ≠ I ∧ L ≠ I + 1 ∧ L ≠ I + 2 := ⟨Nat.ne_of_lt hLn, Nat.ne_of_lt (Nat.lt_succ_of_lt hLn), Nat.ne_of_lt (Nat.lt_succ_of_lt (Nat.lt_succ_of_lt hLn))⟩
  have szI : s₁.heap.objs.size = I := hI
  have up : ∀ x o, s₁.heap.get? x = some o → h₁.get? x = some o := fun x o e => sb.extBut x o (Nat.ne_of_lt (Nat.lt_succ_of_lt (Nat.lt_succ_of_lt (hI ▸ Heap.lt_size e)))) (Heap.get?_push_of_some _ (Heap.get?_push_of_some _ (Heap.get?_push_of_some _ e)))
  have gI : h₁.get? I = some { cls := .type "list_iterator", data := .fields #[.ref ax, .int 0 0] } := sb.extBut I _ nIC (Heap.get?_push_of_some _ (Heap.get?_push_of_some _ (by rw [← hI]; exact Heap.get?_push_size _ rfl)))
  have gD : h₁.get? (I + 1) = some (lst []) := sb.extBut (I + 1) _ nDC (Heap.get?_push_of_some _ (by rw [← sz1]; exact Heap.get?_push_size _ rfl))
  have axI : ax ≠ I := Nat.ne_of_lt (nlt _ hax)
  have Wk := Walks.list (prog := prog) (w := w) hh I ax axI its
  have nn : ∀ q ∈ news, q.1 ≠ I ∧ q.1 ≠ I + 1 ∧ q.1 ≠ I + 2 := fun q hq => by
    have h1 : q.1 < I := nlt q hq
    refine ⟨Nat.ne_of_lt h1, Nat.ne_of_lt (Nat.lt_succ_of_lt h1), Nat.ne_of_lt (Nat.lt_succ_of_lt (Nat.lt_succ_of_lt h1))⟩
  let J : Nat → Shared → Prop := fun k s' => ∃ h tk i l m', s' = { s₁ with heap := h, toks := tk } ∧ i ≤ qs.length ∧ k = qs.length + 1 - i ∧ l.length ≤ i ∧ l.map (·.1) = ((qs.take i).filter keep).map val ∧ (h.IsListIter I ax i ∧ h.IsList ax its) ∧ Fr h₀ L h m ∧ h.Ns (I + 2) m' ∧
    News h₀ L h ((I + 1, lst (strValues l)) :: news)
  have loop : ∀ s₃ : Shared, s₃ = { s₁ with heap := h₁, toks := s₁.toks + ([] : List (Str × Value)).length } →
      codeAny (model prog w) A (.compLoop (.ListComp elt [⟨.Tuple [.Name a pa, .Name b pb] kk tp, iter, [c], 0⟩] scope pos) 0 (.ref I) (.ref (I + 1)) (compEnvC scope cl (I + 2) env)) (compPost (model prog w) A E none Q (.ref (I + 1)) (I + 2)) s₃ := by
    rintro s₃ rfl
    refine kct_loop J ?_ (qs.length + 1) ⟨h₁, _, 0, [], _, rfl, Nat.zero_le _, rfl, Nat.le_refl _, rfl, ⟨⟨_, gI, rfl, rfl⟩, ⟨_, up _ _ (N _ hax).1, rfl, _, rfl⟩⟩, F.keeps up, hns, fun q hq => ?_⟩
    · rintro k s' ⟨h, tk, i, l, m', rfl, hi, rfl, hll, hlv, hst, F1, hn1, N1⟩
      by_cases hlt : i < qs.length
      · refine Wk.item i _ _ _ (hlsz ▸ hlt) hst fun v h2 tk2 hv hst2 k2 => ?_
        have hq1 : its[i]? = some (Value.ref (qs[i]'hlt).1) := by rw [← Array.getElem?_toList, hits, List.getElem?_map, List.getElem?_eq_getElem hlt]; rfl
        obtain rfl : Value.ref (qs[i]'hlt).1 = v := Option.some.inj (hq1.symm.trans hv)
        generalize hqe : qs[i]'hlt = q
        have hqm : q ∈ qs := hqe ▸ List.getElem_mem hlt
        have keep2 : ∀ x o, x ≠ I → h.get? x = some o → h2.get? x = some o := fun x o hx e => k2 x o (by simpa using hx) e
        have F2 : Fr h₀ L h2 m := ⟨F1.ns.at' fun o e => keep2 L o nL.1 e, fun x o e => keep2 x o (fun hx => by rw [hx, none₀ I (Nat.le_refl _)] at e; cases e) (F1.keep x o e), F1.above⟩
        have N2 : News h₀ L h2 ((I + 1, lst (strValues l)) :: news) := fun p hp => ⟨keep2 _ _ (by
          rcases List.mem_cons.mp hp with rfl | hp
          · exact Ne.symm nID
          · exact (nn p hp).1) (N1 p hp).1, (N1 p hp).2⟩
        have tq : h2.IsTuple q.1 #[.str q.2.1 q.2.2.2.1, .str q.2.2.1 q.2.2.2.2] := ⟨_, (N2 (pqObj q) (List.mem_cons_of_mem _ (hqs q hqm))).1, rfl, _, rfl⟩
        refine wpAny_letOwnedTupleGo_listiter hst2.1 ?_
        refine kcp_assign (env := compEnvC scope cl (I + 2) env) hh tq (lookup_relabel_local hxa) (lookup_relabel_local hxb) (by simp [compEnvC, relabel, hkind]) (hn1.at' fun o e => keep2 _ o (Ne.symm nIC) e) fun h3 tk3 hn3 k3 => ?_
        have k3' : ∀ x o, x ≠ I + 2 → h2.get? x = some o → h3.get? x = some o := fun x o hx e => k3 x o hx e
        obtain ⟨oC, gC, hC⟩ := ns_obj hn3
        have F3 : Fr h₀ L h3 m := ⟨F2.ns.at' fun o e => k3' L o nL.2.2 e, fun x o e => k3' x o (fun hx => by rw [hx, none₀ (I + 2) (by omega)] at e; cases e) (F2.keep x o e), F2.above⟩
        obtain ⟨⟨oI, gI2, cI, dI⟩, hl2⟩ := hst2
        have gI3 : h3.get? I = some oI := k3' I _ nIC gI2
        have N3 : News h₀ L h3 ((I, oI) :: (I + 2, oC) :: (I + 1, lst (strValues l)) :: news) := fun p hp => by
          rcases List.mem_cons.mp hp with rfl | hp
          · exact ⟨gI3, Ne.symm nL.1, none₀ _ (Nat.le_refl _)⟩
          rcases List.mem_cons.mp hp with rfl | hp
          · exact ⟨gC, Ne.symm nL.2.2, none₀ _ (by omega)⟩
          · refine ⟨k3' _ _ ?_ (N2 p hp).1, (N2 p hp).2⟩
            rcases List.mem_cons.mp hp with rfl | hp
            · exact nDC
            · exact (nn p hp).2.2
        have htake : qs.take (i + 1) = qs.take i ++ [q] := by rw [List.take_add_one, List.getElem?_eq_getElem hlt, hqe]; rfl
        -- a turn's end
        have close : ∀ (l' : List (Str × Tok)) (h4 : Heap) (tk4 : Nat), l'.length ≤ i + 1 → l'.map (·.1) = ((qs.take (i + 1)).filter keep).map val → Fr h₀ L h4 m → News h₀ L h4 ((I, oI) :: (I + 2, oC) :: (I + 1, lst (strValues l')) :: news) →
            ∃ j, j < qs.length + 1 - i ∧ J j { s₁ with heap := h4, toks := tk4 } := fun l' h4 tk4 e1 e2 F4 N4 => by
          refine ⟨qs.length + 1 - (i + 1), by omega, h4, tk4, i + 1, l', _, rfl, hlt, rfl, e1, e2, ⟨⟨oI, (N4 (I, oI) (List.mem_cons_self ..)).1, cI, dI⟩, ⟨_, (N4 _ (List.mem_cons_of_mem _ (List.mem_cons_of_mem _ (List.mem_cons_of_mem _ hax)))).1, rfl, _, rfl⟩⟩, F4, hC.ns (N4 (I + 2, oC) (List.mem_cons_of_mem _ (List.mem_cons_self ..))).1, fun p hp => N4 p (List.mem_cons_of_mem _ (List.mem_cons_of_mem _ hp))⟩
        refine wpAny_mono (turn q hqm I oI (I + 2) oC (I + 1) _ _ h3 _ _ hC ((if_neg hab).trans (if_pos rfl)) (if_pos rfl) F3 N3) (fun okb s5 hok => ?_) fun _ _ e => e
        obtain ⟨rfl, hok⟩ := hok
        cases hkq : keep q with
        | false =>
          rw [hkq] at hok
          simp only [Bool.false_eq_true, if_false] at hok ⊢
          obtain ⟨h4, tk4, rfl, F4, N4⟩ := hok
          refine close l h4 tk4 (by omega) ?_ F4 N4
          rw [htake, List.filter_append, List.map_append, hlv]; simp [hkq]
        | true =>
          rw [hkq] at hok
          simp only [if_true] at hok ⊢
          refine wpAny_mono hok (fun y s6 hy => ?_) fun _ _ e => e
          obtain ⟨⟨t, rfl⟩, h4, tk4, rfl, F4, N4⟩ := hy
          have gD4 := (N4 (I + 1, lst (strValues l)) (List.mem_cons_of_mem _ (List.mem_cons_of_mem _ (List.mem_cons_self ..)))).1
          refine append_at (hsz := by
            have e : (strValues l).toArray.size = l.length := by simp [strValues]
            rw [e]; exact Nat.le_trans (show l.length ≤ 1000 by omega) (by rw [sizeLine_eq]; decide)) gD4 fun h5 sb5 gD5 => ?_
          have eD : ({ cls := .type "list", data := .seq ((strValues l).toArray.push (.str (val q) t)) ((strValues l).length + 1) } : Obj) = lst (strValues (l ++ [(val q, t)])) := by
            rw [lst_snoc]; simp [strValues]
          refine close (l ++ [(val q, t)]) h5 _ (by simp; omega) ?_ (F4.change sb5 (Ne.symm nL.2.1) (none₀ _ (by omega))) fun p hp => ?_
          · rw [htake, List.filter_append, List.map_append, List.map_append, hlv]; simp [hkq]
          · rcases List.mem_cons.mp hp with rfl | hp
            · exact ⟨sb5.extBut I oI nID (N4 (I, oI) (List.mem_cons_self ..)).1, (N4 (I, oI) (List.mem_cons_self ..)).2⟩
            rcases List.mem_cons.mp hp with rfl | hp
            · have z := N4 (I + 2, oC) (List.mem_cons_of_mem _ (List.mem_cons_self ..))
              exact ⟨sb5.extBut _ oC (Ne.symm nDC) z.1, z.2⟩
            rcases List.mem_cons.mp hp with rfl | hp
            · exact ⟨gD5.trans (congrArg some eD), Ne.symm nL.2.1, none₀ _ (by omega)⟩
            · have z := N4 p (List.mem_cons_of_mem _ (List.mem_cons_of_mem _ (List.mem_cons_of_mem _ hp)))
              exact ⟨sb5.extBut _ _ (nn p hp).2.1 z.1, z.2⟩
      · obtain rfl : i = qs.length := Nat.le_antisymm hi (Nat.not_lt.mp hlt)
        rw [List.take_length] at hlv
        refine Wk.done _ _ _ (hlsz ▸ hst) fun h2 tk2 k2 => ?_
        have keep2 : ∀ x o, x ≠ I → h.get? x = some o → h2.get? x = some o := fun x o hx e => k2 x o (by simpa using hx) e
        have F2 : Fr h₀ L h2 m := ⟨F1.ns.at' fun o e => keep2 L o nL.1 e, fun x o e => keep2 x o (fun hx => by rw [hx, none₀ I (Nat.le_refl _)] at e; cases e) (F1.keep x o e), F1.above⟩
        refine ⟨_, hn1.at' fun o e => keep2 _ o (Ne.symm nIC) e, fun h3 sb3 => ?_⟩
        refine fin (I + 1) l h3 tk2 (strValues l).length hlv (F2.change sb3 (Ne.symm nL.2.2) (none₀ _ (by omega))) (fun p hp => ?_) fun q hq => Nat.lt_succ_of_lt (nlt q hq)
        rcases List.mem_cons.mp hp with rfl | hp
        · have z := N1 (I + 1, lst (strValues l)) (List.mem_cons_self ..)
          exact ⟨sb3.extBut _ _ nDC (keep2 _ _ (Ne.symm nID) z.1), z.2⟩
        · have z := N1 p (List.mem_cons_of_mem _ hp)
          exact ⟨sb3.extBut _ _ (nn p hp).2.2 (keep2 _ _ (nn p hp).1 z.1), z.2⟩
    · rcases List.mem_cons.mp hq with rfl | hq
      · exact ⟨gD, Ne.symm nL.2.1, none₀ _ (by omega)⟩
      · exact ⟨up _ _ (N q hq).1, (N q hq).2⟩
  exact codeAny_compStart_list (loop _ rfl) (Wk.self 0 _ _ _ ⟨⟨_, gI, rfl, rfl⟩, ⟨_, up _ _ (N _ hax).1, rfl, _, rfl⟩⟩ (loop _ rfl))
end
end
section
open PySem PySem.W PySem.Calls PyProof.Rows PyProof.Rows.LCg
set_option maxRecDepth 100000
set_option linter.unusedVariables false
section
variable {prog : Program} {w : World} {A : Around} {E : Value → Shared → Prop} {s : Shared} {h₀ : Heap} {L : Addr} {m : Str → Option Value} {env : Env}
/-- the loop of [elt for x in text if c], whatever iterator walks the text -/
theorem comp_walk {elt iter c : Expr} {x : Str} {px : Pos} {scope : Scope} {cl : List (Str × Addr)} {pos : Pos} {Q : Value → Shared → Prop} {y : Str} {keep : Nat → Bool} {val : Nat → Str} {oI0 : Obj} {St : Nat → Heap → Prop} {news : List (Addr × Obj)}
    (hcell : ∀ y ∈ scope.names, y.2 ≠ .cell) (hkind : scope.kind = .function) (hx : scope.names.lookup x = some .local) (hfr : oI0.isFreed = false)
    (F : Fr h₀ L s.heap m) (N : News h₀ L s.heap news) (hlen : y.cps.size ≤ 1000)
    (Wk : Walks prog w A s.heap.objs.size [s.heap.objs.size] [s.heap.objs.size] y.cps.size (SignAt y) St) (hst : ∀ h : Heap, h.get? s.heap.objs.size = some oI0 → St 0 h) (live : ∀ i h, St i h → ∃ o, h.get? s.heap.objs.size = some o)
    (turn : ∀ ch ∈ y.cps.toList, ∀ I oI C oC D oD m₂ h tk u (E' : Value → Shared → Prop), NsObj oC m₂ → m₂ x = some (.str ⟨#[ch]⟩ u) → Fr h₀ L h m → News h₀ L h ((I, oI) :: (C, oC) :: (D, oD) :: news) →
      wpAny (model prog w) A (isTrue c (compEnvC scope cl C env) (eval c (compEnvC scope cl C env))) (fun okb s₃ => okb = keep ch ∧ (if okb = true then
        wpAny (model prog w) A (eval elt (compEnvC scope cl C env)) (fun y s₄ => (∃ t, y = .str (val ch) t) ∧ Same h₀ L m s ((I, oI) :: (C, oC) :: (D, oD) :: news) s₄) E' s₃
        else Same h₀ L m s ((I, oI) :: (C, oC) :: (D, oD) :: news) s₃)) E' { s with heap := h, toks := tk })
    (fin : ∀ D l h tk n, l.map (·.1) = (y.cps.toList.filter keep).map val → Fr h₀ L h m → News h₀ L h ((D, W.listOf (strValues l).toArray n) :: news) → (∀ q ∈ news, q.1 < D) → Q (.ref D) { s with heap := h, toks := tk }) :
    wpAny (model prog w) A (newList []) (fun acc s₃ => wpAny (model prog w) A (newFunctionEnv scope env.globals cl [] env.qual none .none (some env)) (fun cenv s₄ =>
      codeAny (model prog w) A (.compStart (.ListComp elt [⟨.Name x px, iter, [c], 0⟩] scope pos) 0 (.ref s.heap.objs.size) acc { cenv with scope := relabel scope env }) (compPost (model prog w) A E none Q acc cenv.locals) s₄) E s₃) E { s with heap := s.heap.push oI0 } := by
  have nlt : ∀ q ∈ news, q.1 < s.heap.objs.size := fun q hq => Heap.lt_size (N q hq).1
  have hLlt : L < s.heap.objs.size := F.ns.lt
  have none₀ : ∀ x, s.heap.objs.size ≤ x → h₀.get? x = none := fun x hx => Heap.get?_none_of_le (Nat.le_trans (Nat.le_trans F.above (Nat.le_of_lt hLlt)) hx)
  generalize hI : s.heap.objs.size = I at *
  refine wpAny_newObj_type (wpAny_newFunctionEnv hcell (by intro y hy; simp at hy) (fun h₁ hns sb => ?_) hkind)
  dsimp only at hns sb ⊢
  have sz1 : (s.heap.push oI0).objs.size = I + 1 := by rw [Heap.size_push, hI]
  have sz2 : ((s.heap.push oI0).push { cls := .type "list", dict := none, data := .seq ([] : List Value).toArray }).objs.size = I + 2 := by rw [Heap.size_push, sz1]
  rw [sz1]
  rw [sz2] at hns sb ⊢
  have hLn : @LT.lt Nat _ L I := hLlt
  have nIC : I ≠ I + 2 := by omega
  have nID : I ≠ I + 1 := by omega
  have nDC : I + 1 ≠ I + 2 := by omega
  have nL : L ≠ I ∧ L ≠ I + 1 ∧ L ≠ I + 2 := ⟨Nat.ne_of_lt hLn, Nat.ne_of_lt (Nat.lt_succ_of_lt hLn), Nat.ne_of_lt (Nat.lt_succ_of_lt (Nat.lt_succ_of_lt hLn))⟩
  have up : ∀ x o, s.heap.get? x = some o → h₁.get? x = some o := fun x o e => sb.extBut x o (Nat.ne_of_lt (Nat.lt_succ_of_lt (Nat.lt_succ_of_lt (hI ▸ Heap.lt_size e)))) (Heap.get?_push_of_some _ (Heap.get?_push_of_some _ (Heap.get?_push_of_some _ e)))
  have gI : h₁.get? I = some oI0 := sb.extBut I _ nIC (Heap.get?_push_of_some _ (Heap.get?_push_of_some _ (by rw [← hI]; exact Heap.get?_push_size _ hfr)))
  have gD : h₁.get? (I + 1) = some (lst []) := sb.extBut (I + 1) _ nDC (Heap.get?_push_of_some _ (by rw [← sz1]; exact Heap.get?_push_size _ rfl))
  have nn : ∀ q ∈ news, q.1 ≠ I ∧ q.1 ≠ I + 1 ∧ q.1 ≠ I + 2 := fun q hq => by
    have h1 : q.1 < I := nlt q hq
    refine ⟨Nat.ne_of_lt h1, Nat.ne_of_lt (Nat.lt_succ_of_lt h1), Nat.ne_of_lt (Nat.lt_succ_of_lt (Nat.lt_succ_of_lt h1))⟩
  let J : Nat → Shared → Prop := fun k s' => ∃ h tk i l m', s' = { s with heap := h, toks := tk } ∧ i ≤ y.cps.size ∧ k = y.cps.size + 1 - i ∧ l.length ≤ i ∧ l.map (·.1) = ((y.cps.toList.take i).filter keep).map val ∧ St i h ∧ Fr h₀ L h m ∧ h.Ns (I + 2) m' ∧
    News h₀ L h ((I + 1, lst (strValues l)) :: news)
  have loop : ∀ s₃ : Shared, s₃ = { s with heap := h₁, toks := s.toks + ([] : List (Str × Value)).length } →
      codeAny (model prog w) A (.compLoop (.ListComp elt [⟨.Name x px, iter, [c], 0⟩] scope pos) 0 (.ref I) (.ref (I + 1)) (compEnvC scope cl (I + 2) env)) (compPost (model prog w) A E none Q (.ref (I + 1)) (I + 2)) s₃ := by
    rintro s₃ rfl
    refine kct_loop J ?_ (y.cps.size + 1) ⟨h₁, _, 0, [], _, rfl, Nat.zero_le _, rfl, Nat.le_refl _, rfl, hst _ gI, F.keeps up, hns, fun q hq => ?_⟩
    · rintro k s' ⟨h, tk, i, l, m', rfl, hi, rfl, hll, hlv, hsti, F1, hn1, N1⟩
      by_cases hlt : i < y.cps.size
      · refine Wk.item i _ _ _ hlt hsti fun v h2 tk2 hv hst2 k2 => ?_
        obtain ⟨ch, u, hch, rfl⟩ := hv
        have hchl : y.cps.toList[i]? = some ch := by rw [Array.getElem?_toList]; exact hch
        have hcm : ch ∈ y.cps.toList := List.mem_of_getElem? hchl
        have keep2 : ∀ x o, x ≠ I → h.get? x = some o → h2.get? x = some o := fun x o hx e => k2 x o (by simpa using hx) e
        have F2 : Fr h₀ L h2 m := ⟨F1.ns.at' fun o e => keep2 L o nL.1 e, fun x o e => keep2 x o (fun hx => by rw [hx, none₀ I (Nat.le_refl _)] at e; cases e) (F1.keep x o e), F1.above⟩
        have N2 : News h₀ L h2 ((I + 1, lst (strValues l)) :: news) := fun p hp => ⟨keep2 _ _ (by
          rcases List.mem_cons.mp hp with rfl | hp
          · exact Ne.symm nID
          · exact (nn p hp).1) (N1 p hp).1, (N1 p hp).2⟩
        refine wpAny_pure ?_
        refine wpAny_assign_Name (wpAny_storeName_local (lookup_relabel_local hx) (hn1.at' fun o e => keep2 _ o (Ne.symm nIC) e) (fun h3 hn3 hs3 => ?_) (by simp [compEnvC, relabel, hkind]))
        have k3' : ∀ x o, x ≠ I + 2 → h2.get? x = some o → h3.get? x = some o := fun x o hx e => hs3.extBut x o hx e
        obtain ⟨oC, gC, hC⟩ := ns_obj hn3
        have F3 : Fr h₀ L h3 m := ⟨F2.ns.at' fun o e => k3' L o nL.2.2 e, fun x o e => k3' x o (fun hx => by rw [hx, none₀ (I + 2) (by omega)] at e; cases e) (F2.keep x o e), F2.above⟩
        have hst3 : St (i + 1) h3 := Wk.frame _ _ _ hst2 fun b hb o e => by
          rw [List.mem_singleton.mp hb] at e ⊢
          exact k3' I _ nIC e
        obtain ⟨oI, gI3⟩ := live _ _ hst3
        have N3 : News h₀ L h3 ((I, oI) :: (I + 2, oC) :: (I + 1, lst (strValues l)) :: news) := fun p hp => by
          rcases List.mem_cons.mp hp with rfl | hp
          · exact ⟨gI3, Ne.symm nL.1, none₀ _ (Nat.le_refl _)⟩
          rcases List.mem_cons.mp hp with rfl | hp
          · exact ⟨gC, Ne.symm nL.2.2, none₀ _ (by omega)⟩
          · refine ⟨k3' _ _ ?_ (N2 p hp).1, (N2 p hp).2⟩
            rcases List.mem_cons.mp hp with rfl | hp
            · exact nDC
            · exact (nn p hp).2.2
        have htake : y.cps.toList.take (i + 1) = y.cps.toList.take i ++ [ch] := by rw [List.take_add_one, hchl]; rfl
        have close : ∀ (l' : List (Str × Tok)) (h4 : Heap) (tk4 : Nat), l'.length ≤ i + 1 → l'.map (·.1) = ((y.cps.toList.take (i + 1)).filter keep).map val → Fr h₀ L h4 m → News h₀ L h4 ((I, oI) :: (I + 2, oC) :: (I + 1, lst (strValues l')) :: news) →
            ∃ j, j < y.cps.size + 1 - i ∧ J j { s with heap := h4, toks := tk4 } := fun l' h4 tk4 e1 e2 F4 N4 => by
          refine ⟨y.cps.size + 1 - (i + 1), by omega, h4, tk4, i + 1, l', _, rfl, hlt, rfl, e1, e2, ?_, F4, hC.ns (N4 (I + 2, oC) (List.mem_cons_of_mem _ (List.mem_cons_self ..))).1, fun p hp => N4 p (List.mem_cons_of_mem _ (List.mem_cons_of_mem _ hp))⟩
          refine Wk.frame _ _ _ hst3 fun b hb o e => ?_
          rw [List.mem_singleton.mp hb] at e ⊢
          rw [gI3] at e
          rw [← e]
          exact (N4 (I, oI) (List.mem_cons_self ..)).1
        refine wpAny_mono (turn ch hcm I oI (I + 2) oC (I + 1) _ _ h3 _ u _ hC (if_pos rfl) F3 N3) (fun okb s5 hok => ?_) fun _ _ e => e
        obtain ⟨rfl, hok⟩ := hok
        cases hkq : keep ch with
        | false =>
          rw [hkq] at hok
          simp only [Bool.false_eq_true, if_false] at hok ⊢
          obtain ⟨h4, tk4, rfl, F4, N4⟩ := hok
          refine close l h4 tk4 (by omega) ?_ F4 N4
          rw [htake, List.filter_append, List.map_append, hlv]; simp [hkq]
        | true =>
          rw [hkq] at hok
          simp only [if_true] at hok ⊢
          refine wpAny_mono hok (fun y' s6 hy => ?_) fun _ _ e => e
          obtain ⟨⟨t, rfl⟩, h4, tk4, rfl, F4, N4⟩ := hy
          have gD4 := (N4 (I + 1, lst (strValues l)) (List.mem_cons_of_mem _ (List.mem_cons_of_mem _ (List.mem_cons_self ..)))).1
          refine append_at (hsz := by
            have e : (strValues l).toArray.size = l.length := by simp [strValues]
            rw [e]; exact Nat.le_trans (show l.length ≤ 1000 by omega) (by rw [sizeLine_eq]; decide)) gD4 fun h5 sb5 gD5 => ?_
          have eD : ({ cls := .type "list", data := .seq ((strValues l).toArray.push (.str (val ch) t)) ((strValues l).length + 1) } : Obj) = lst (strValues (l ++ [(val ch, t)])) := by
            rw [lst_snoc]; simp [strValues]
          refine close (l ++ [(val ch, t)]) h5 _ (by simp; omega) ?_ (F4.change sb5 (Ne.symm nL.2.1) (none₀ _ (by omega))) fun p hp => ?_
          · rw [htake, List.filter_append, List.map_append, List.map_append, hlv]; simp [hkq]
          · rcases List.mem_cons.mp hp with rfl | hp
            · exact ⟨sb5.extBut I oI nID (N4 (I, oI) (List.mem_cons_self ..)).1, (N4 (I, oI) (List.mem_cons_self ..)).2⟩
            rcases List.mem_cons.mp hp with rfl | hp
            · have z := N4 (I + 2, oC) (List.mem_cons_of_mem _ (List.mem_cons_self ..))
              exact ⟨sb5.extBut _ oC (Ne.symm nDC) z.1, z.2⟩
            rcases List.mem_cons.mp hp with rfl | hp
            · exact ⟨gD5.trans (congrArg some eD), Ne.symm nL.2.1, none₀ _ (by omega)⟩
            · have z := N4 p (List.mem_cons_of_mem _ (List.mem_cons_of_mem _ (List.mem_cons_of_mem _ hp)))
              exact ⟨sb5.extBut _ _ (nn p hp).2.1 z.1, z.2⟩
      · have hin : i = y.cps.size := Nat.le_antisymm hi (Nat.not_lt.mp hlt)
        subst hin
        rw [← Array.length_toList, List.take_length] at hlv
        refine Wk.done _ _ _ hsti fun h2 tk2 k2 => ?_
        have keep2 : ∀ x o, x ≠ I → h.get? x = some o → h2.get? x = some o := fun x o hx e => k2 x o (by simpa using hx) e
        have F2 : Fr h₀ L h2 m := ⟨F1.ns.at' fun o e => keep2 L o nL.1 e, fun x o e => keep2 x o (fun hx => by rw [hx, none₀ I (Nat.le_refl _)] at e; cases e) (F1.keep x o e), F1.above⟩
        refine ⟨_, hn1.at' fun o e => keep2 _ o (Ne.symm nIC) e, fun h3 sb3 => ?_⟩
        refine fin (I + 1) l h3 tk2 (strValues l).length hlv (F2.change sb3 (Ne.symm nL.2.2) (none₀ _ (by omega))) (fun p hp => ?_) fun q hq => Nat.lt_succ_of_lt (nlt q hq)
        rcases List.mem_cons.mp hp with rfl | hp
        · have z := N1 (I + 1, lst (strValues l)) (List.mem_cons_self ..)
          exact ⟨sb3.extBut _ _ nDC (keep2 _ _ (Ne.symm nID) z.1), z.2⟩
        · have z := N1 p (List.mem_cons_of_mem _ hp)
          exact ⟨sb3.extBut _ _ (nn p hp).2.2 (keep2 _ _ (nn p hp).1 z.1), z.2⟩
    · rcases List.mem_cons.mp hq with rfl | hq
      · exact ⟨gD, Ne.symm nL.2.1, none₀ _ (by omega)⟩
      · exact ⟨up _ _ (N q hq).1, (N q hq).2⟩
  exact codeAny_compStart_list (loop _ rfl) (Wk.self 0 _ _ _ (hst _ gI) (loop _ rfl))
/-- [elt for x in text if c]; a turn leaves nothing -/
theorem comp_str {elt iter c : Expr} {x : Str} {px : Pos} {scope : Scope} {cl : List (Str × Addr)} {pos : Pos} {Q : Value → Shared → Prop} {y : Str} {ty : Tok} {keep : Nat → Bool} {val : Nat → Str} {news : List (Addr × Obj)}
    (hh : A.handled = none) (hclos : closureFor scope env = pure cl) (hcell : ∀ y ∈ scope.names, y.2 ≠ .cell) (hkind : scope.kind = .function)
    (hnames : ∀ y ∈ scope.names, y.2 = .local → scope.names.lookup y.1 = some .local) (hx : scope.names.lookup x = some .local)
    (hs : ∀ x, foldedSetIterable iter env x = pure x) (hiter : wpAny (model prog w) A (eval iter env) (fun v s₁ => v = .str y ty ∧ s₁ = s) E s)
    (F : Fr h₀ L s.heap m) (N : News h₀ L s.heap news) (hlen : y.cps.size ≤ 1000)
    (turn : ∀ ch ∈ y.cps.toList, ∀ I oI C oC D oD m₂ h tk u (E' : Value → Shared → Prop), NsObj oC m₂ → m₂ x = some (.str ⟨#[ch]⟩ u) → Fr h₀ L h m → News h₀ L h ((I, oI) :: (C, oC) :: (D, oD) :: news) →
      wpAny (model prog w) A (isTrue c (compEnvC scope cl C env) (eval c (compEnvC scope cl C env))) (fun okb s₃ => okb = keep ch ∧ (if okb = true then
        wpAny (model prog w) A (eval elt (compEnvC scope cl C env)) (fun y s₄ => (∃ t, y = .str (val ch) t) ∧ Same h₀ L m s ((I, oI) :: (C, oC) :: (D, oD) :: news) s₄) E' s₃
        else Same h₀ L m s ((I, oI) :: (C, oC) :: (D, oD) :: news) s₃)) E' { s with heap := h, toks := tk })
    (fin : ∀ D l h tk n, l.map (·.1) = (y.cps.toList.filter keep).map val → Fr h₀ L h m → News h₀ L h ((D, W.listOf (strValues l).toArray n) :: news) → (∀ q ∈ news, q.1 < D) → Q (.ref D) { s with heap := h, toks := tk }) :
    wpAny (model prog w) A (eval (.ListComp elt [⟨.Name x px, iter, [c], 0⟩] scope pos) env) Q E s := by
  rw [eval_ListComp]
  refine wpAny_comprehension_free (use := none) rfl hs hclos hkind hnames (wpAny_mono hiter (fun xv s₁ e12 => ?_) fun _ _ e => e)
  obtain ⟨rfl, rfl⟩ := e12
  cases ha : y.cps.all (· < 128)
  · exact wpAny_pyIter_wide ha (comp_walk hcell hkind hx rfl F N hlen (Walks.strWide hh _ y ty) (fun h e => ⟨_, e, rfl, rfl⟩) (fun i h st => let ⟨o, ho, _⟩ := st; ⟨o, ho⟩) turn fin)
  · exact wpAny_pyIter_ascii ha (comp_walk hcell hkind hx rfl F N hlen (Walks.strAscii hh _ y ty) (fun h e => ⟨_, e, rfl, rfl⟩) (fun i h st => let ⟨o, ho, _⟩ := st; ⟨o, ho⟩) turn fin)
end
end
section
open PySem PySem.W PySem.Calls PyProof.Rows PySem.Spec
set_option maxRecDepth 100000
set_option linter.unusedVariables false
section
variable {prog : Program} {w : World} {A : Around} {E : Value → Shared → Prop} {s : Shared}
theorem seqIndex_in {i : Int} {n : Nat} (h0 : 0 ≤ i) (h1 : i < n) : seqIndex? i n = some i.toNat := by
  unfold seqIndex?
  simp only [show ¬ i < 0 by omega, if_false]
  rw [if_pos (by simp only [Bool.and_eq_true, decide_eq_true_eq]; omega)]
theorem item_text {value slice : Expr} {cs : List Nat} {i : Int} {c : Nat} {t u : Tok} {Q : Value → Shared → Prop} (h0 : 0 ≤ i) (h1 : cs.length ≤ 1000) (hx : cs[i.toNat]? = some c) (h : ∀ t' k, Q (.str ⟨#[c]⟩ t') { s with toks := k })
    (hs : subscripted slice false (.str ⟨cs.toArray⟩ t) (.int i u) = operate [.str ⟨cs.toArray⟩ t, .int i u] (getItem (.str ⟨cs.toArray⟩ t) (.int i u)) := by with_unfolding_all rfl) :
    wpAny (model prog w) A (subscriptTail value slice (.str ⟨cs.toArray⟩ t) (.int i u)) Q E s := by
  have hi : i.toNat < cs.length := by
    rcases Nat.lt_or_ge i.toNat cs.length with h | h
    · exact h
    · rw [List.getElem?_eq_none h] at hx; cases hx
  refine tail_any (typeIs_str s _ t) F.slot_str_getitem.lookup (P.getItem_str ?_ ?_ (h _ _)) hs
  · simp; omega
  · have hl : (⟨cs.toArray⟩ : Str).length = cs.length := by show cs.toArray.size = _; simp
    rw [hl, seqIndex_in h0 (by omega)]
    show cs.toArray[i.toNat]? = some c
    rw [List.getElem?_toArray]; exact hx
theorem item_news {value slice : Expr} {l : Addr} {vs : List Value} {v : Value} {n : Nat} {i : Int} {u : Tok} {Q : Value → Shared → Prop} {h₀ : Heap} {L : Addr} {news : List (Addr × Obj)} (N : News h₀ L s.heap news) (hm : (l, W.listOf vs.toArray n) ∈ news) (h0 : 0 ≤ i) (h1 : vs.length ≤ 1000) (hx : vs[i.toNat]? = some v) (h : Q v s)
    (hs : subscripted slice false (.ref l) (.int i u) = operate [.ref l, .int i u] (getItem (.ref l) (.int i u)) := by with_unfolding_all rfl) :
    wpAny (model prog w) A (subscriptTail value slice (.ref l) (.int i u)) Q E s := by
  have hl : s.heap.IsList l vs.toArray := ⟨_, (N _ hm).1, rfl, _, rfl⟩
  have hi : i.toNat < vs.length := by
    rcases Nat.lt_or_ge i.toNat vs.length with h | h
    · exact h
    · rw [List.getElem?_eq_none h] at hx; cases hx
  exact tail_any hl.typeIs slot_list_getitem.lookup (wpAny_getItem_list hl h0 (by omega) (by simpa using hx) h) hs
end
end
section
open PySem PySem.W PySem.Calls PyProof.Rows PyProof.Rows.LCg
set_option maxRecDepth 100000
set_option linter.unusedVariables false
section
variable {prog : Program} {w : World} {A : Around} {E : Value → Shared → Prop} {env : Env} {h₀ : Heap} {v : Str} {body : List Stmt} {Q : Flow → Shared → Prop}
/-- a for over a range of n turns, by an invariant of the whole state -/
theorem for_range {r : Addr} {a b : Int} {t u z : Tok} {n : Nat} {s : Shared} {m : Str → Option Value} {news : List (Addr × Obj)} (hh : A.handled = none) (hn64 : n < 64) (hr : IsRange s.heap r a b 1 t u z) (hsm : Builtin.Range.small a b 1 = true) (hrz : Builtin.Range.rangeSize a b 1 = ((n : Nat) : Int))
    (F : Fr h₀ env.locals s.heap m) (N : News h₀ env.locals s.heap news)
    (Inv : Nat → (Str → Option Value) → List (Addr × Obj) → Shared → Prop) (hInv : ∀ i m news s h tk, Inv i m news s → Inv i m news { s with heap := h, toks := tk }) (h0 : Inv 0 m news s)
    (step : ∀ I i tk m news s' own rest, i < n → Inv i m news s' → (∀ q ∈ news, q.1 ≠ I) → (∀ q ∈ own, q.1 = I) → (∃ o, (I, o) ∈ own) → h₀.get? I = none → Fr h₀ env.locals s'.heap m → News h₀ env.locals s'.heap (own ++ news) →
      (∀ m' news' s'', Fr h₀ env.locals s''.heap m' → News h₀ env.locals s''.heap (own ++ news') → (∀ q ∈ news', q.1 ≠ I) → Inv (i + 1) m' news' s'' → rest s'') →
      wpAny (model prog w) A (storeName env v (.int (a + (i : Int)) tk)) (fun _ s₂ => wpAny (model prog w) A (execs body env) (OwitFlow Q rest) E s₂) E s')
    (fin : ∀ m news s', Fr h₀ env.locals s'.heap m → News h₀ env.locals s'.heap news → Inv n m news s' → Q .next s') :
    wpAny (model prog w) A (pyIter (.ref r)) (OwitAt prog w A E env v body Q) E s := by
  have hlt : ∀ b ob, s.heap.get? b = some ob → b < s.heap.objs.size := fun b ob e => Heap.lt_size e
  refine wpAny_pyIter_range hr hsm (OwitAt.intro ?_)
  generalize hI : s.heap.objs.size = I at *
  have hI0 : h₀.get? I = none := by
    cases e : h₀.get? I with
    | none => rfl
    | some ob => exact absurd (hlt _ _ (F.keep _ _ e)) (Nat.lt_irrefl _)
  have hLI : env.locals ≠ I := by
    obtain ⟨ob, _, _, ho, _⟩ := F.ns
    exact Nat.ne_of_lt (hlt _ _ ho)
  have W := range_walks (prog := prog) (w := w) (A := A) (I := I) hh a n
  have old : ∀ b o, h₀.get? b = some o → b ∉ [I] := fun b o e hb => by rw [List.mem_singleton.mp hb, hI0] at e; cases e
  have next : ∀ (h h' : Heap) m news, Fr h₀ env.locals h m → News h₀ env.locals h news → (∀ q ∈ news, q.1 ≠ I) → (∀ b o, b ∉ [I] → h.get? b = some o → h'.get? b = some o) → Fr h₀ env.locals h' m ∧ News h₀ env.locals h' news := fun h h' m news F N hn hk =>
    ⟨⟨F.ns.at' fun o e => hk _ o (by simpa using hLI) e, fun b o e => hk b o (old b o e) (F.keep b o e), F.above⟩, fun p hp => ⟨hk _ _ (by simpa using hn p hp) (N p hp).1, (N p hp).2⟩⟩
  have main : ∀ k i f s, i + k = n → k < f → StrAt h₀ env.locals I (fun i h => IsRangeIter h I (a + (i : Nat) * 1) ((n : Int) - (i : Nat)) 1) Inv i s → OwitRest prog w A E env v body Q I f s := by
    intro k
    induction k with
    | zero =>
      intro i f s hi hf ⟨m, news, hst, F, N, hn, hI⟩
      obtain ⟨f, rfl⟩ : ∃ g, f = g + 1 := ⟨f - 1, by omega⟩
      obtain rfl : i = n := by omega
      refine OwitRest.succ (W.done _ _ _ hst fun h' tk hk => ?_)
      obtain ⟨F1, N1⟩ := next s.heap h' m news F N hn hk
      exact fin m news _ F1 N1 (hInv _ _ _ _ _ _ hI)
    | succ k ih =>
      intro i f s hi hf ⟨m, news, hst, F, N, hn, hIv⟩
      obtain ⟨f, rfl⟩ : ∃ g, f = g + 1 := ⟨f - 1, by omega⟩
      refine OwitRest.succ (W.item i _ _ _ (by omega) hst fun y h' tk hy hst' hk => ?_)
      obtain ⟨F1, N1⟩ := next s.heap h' m news F N hn hk
      obtain ⟨t1, rfl⟩ := hy
      have hLf : env.locals ∉ [I] := by simpa using hLI
      have Nown : News h₀ env.locals h' (PyProof.Rows.ownOf h₀ [I] h') := news_ownOf hLf
      have live : ∃ o, h'.get? I = some o := ⟨_, hst'⟩
      refine step I i t1 m news { s with heap := h', toks := tk } (PyProof.Rows.ownOf h₀ [I] h') _ (by omega) (hInv _ _ _ _ _ _ hIv) hn (fun q hq => by simpa using ownOf_sub q hq) (by obtain ⟨o, ho⟩ := live; exact ⟨o, mem_ownOf (List.mem_singleton.mpr rfl) hI0 ho⟩) hI0 F1 (Nown.append N1) fun m' news' s'' F2 N2 hn2 hI2 => ?_
      refine ih (i + 1) f s'' (by omega) (by omega) ⟨m', news', ?_, F2, N2.right, hn2, hI2⟩
      refine W.frame _ _ _ hst' fun b hb o e => ?_
      rw [List.mem_singleton.mp hb] at e ⊢
      exact (N2 _ (List.mem_append_left _ (mem_ownOf (List.mem_singleton.mpr rfl) hI0 e))).1
  refine main n 0 64 _ (by omega) hn64 ⟨m, news, ?_, F.push _, fun p hp => ⟨Heap.get?_push_of_some _ (N p hp).1, (N p hp).2⟩, fun q hq => Nat.ne_of_lt (hlt _ _ (N q hq).1), hInv _ _ _ _ _ _ h0⟩
  show (s.heap.push _).get? I = some _
  rw [← hI, Heap.get?_push_size _ rfl, hrz]
  simp
end
end
section
open PySem PySem.W PySem.Calls PyProof.Rows PySem.Spec
set_option maxRecDepth 100000
set_option linter.unusedVariables false
noncomputable abbrev cod (y : Str) : Nat := y.cps.getD 0 0
/-- what becomes of one sign -/
noncomputable def fate (c : Nat) : List Nat := if b1has c then [] else (mapB3 b3 c).cps.toList
noncomputable def fateT : List (Nat × List Nat) :=
  [(102, [102]), (105, [105]), (108, [108]), (115, [115]), (116, [116]), (70, [102]), (73, [105]), (76, [108]), (83, [115]), (84, [116]),
   (64256, [102, 102]), (64257, [102, 105]), (64258, [102, 108]), (64259, [102, 102, 105]), (64260, [102, 102, 108]), (64261, [115, 116]), (64262, [115, 116])] ++
  (caps.flatMap fun a => smalls.map fun b => ((a + b - 97).toNat, [b.toNat])) ++ (nothings.map fun a => (a.toNat, []))
set_option maxHeartbeats 4000000 in
theorem fate_all : (fateT.all fun p => fate p.1 == p.2) = true := by decide +kernel
noncomputable def okS (p : Str × Str) : Bool := p.1 == ⟨#[cod p.1]⟩ && decide (cod p.1 < 0x110000) && decide (p.2.cps.size ≤ 3) && p.2.cps.toList.all (fun c => [102, 105, 108, 115, 116].contains c) && fateT.any fun q => q.1 == cod p.1 && q.2 == p.2.cps.toList
theorem ok0 : ∀ i : Nat, i < 5 → okS (Txt.item (Str.ofString "filst") (i : Int), Txt.item (Str.ofString "filst") (i : Int)) = true := by decide +kernel
theorem ok1 : ∀ i : Nat, i < 5 → okS (Txt.item (Str.ofString "FILST") (i : Int), Txt.item (Str.ofString "filst") (i : Int)) = true := by decide +kernel
theorem ok2 : ∀ k : Nat, k < 10 → ∀ i : Nat, i < 5 → okS (⟨#[(caps.getD k 0 + smalls.getD i 0 - 97).toNat]⟩, Txt.item (Str.ofString "filst") (i : Int)) = true := by decide +kernel
theorem ok3 : ∀ i : Nat, i < 7 → okS (⟨#[(64256 + (i : Int)).toNat]⟩, ligs.getD i (Str.ofString "")) = true := by decide +kernel
theorem ok4 : ∀ i : Nat, i < 27 → okS (⟨#[(nothings.getD i 0).toNat]⟩, Str.ofString "") = true := by decide +kernel
theorem nat_of (a : Int) (b : Nat) (hb : 0 < b) : ∃ i : Nat, i < b ∧ a.fmod b = (i : Int) := by
  have h0 := Int.fmod_nonneg_of_pos a (b := b) (by omega)
  have h1 := Int.fmod_lt_of_pos a (b := b) (by omega)
  exact ⟨(a.fmod b).toNat, by omega, by omega⟩
theorem okS_sgn (x : Int) : okS (sgn x, ltr x) = true := by
  obtain ⟨k, hk, ek⟩ := nat_of x 5 (by decide)
  obtain ⟨i, hi, ei⟩ := nat_of (x.fdiv 5) 5 (by decide)
  obtain ⟨c, hc, ec⟩ := nat_of ((x.fdiv 5).fdiv 5) 10 (by decide)
  obtain ⟨j, hj, ej⟩ := nat_of (x.fdiv 5) 7 (by decide)
  obtain ⟨n, hn, en⟩ := nat_of (x.fdiv 5) 27 (by decide)
  have ek' : x.fmod 5 = (k : Int) := ek
  have ei' : (x.fdiv 5).fmod 5 = (i : Int) := ei
  have ec' : ((x.fdiv 5).fdiv 5).fmod 10 = (c : Int) := ec
  have ej' : (x.fdiv 5).fmod 7 = (j : Int) := ej
  have en' : (x.fdiv 5).fmod 27 = (n : Int) := en
  unfold sgn ltr
  rw [ek', ei', ec', ej', en', Int.toNat_natCast, Int.toNat_natCast, Int.toNat_natCast, Int.toNat_natCast]
  have : k = 0 ∨ k = 1 ∨ k = 2 ∨ k = 3 ∨ k = 4 := by omega
  rcases this with rfl | rfl | rfl | rfl | rfl
  · exact ok0 i hi
  · exact ok1 i hi
  · exact ok2 c hc i hi
  · exact ok3 j hj
  · exact ok4 n hn
theorem okS_st : okS (⟨#[64262]⟩, Str.ofString "st") = true := by decide +kernel
theorem okS_fate {p : Str × Str} (h : okS p = true) : p.1 = ⟨#[cod p.1]⟩ ∧ cod p.1 < 0x110000 ∧ p.2.cps.size ≤ 3 ∧ (∀ c ∈ p.2.cps.toList, c ∈ [102, 105, 108, 115, 116]) ∧ fate (cod p.1) = p.2.cps.toList := by
  unfold okS at h
  simp only [Bool.and_eq_true, beq_iff_eq, decide_eq_true_eq, List.all_eq_true, List.any_eq_true] at h
  obtain ⟨⟨⟨⟨h1, h2⟩, h3⟩, h4⟩, q, hq, h5, h6⟩ := h
  refine ⟨h1, h2, h3, fun c hc => by simpa using h4 c hc, ?_⟩
  have := List.all_eq_true.mp fate_all q hq
  rw [beq_iff_eq] at this
  rw [← h5, this, h6]
theorem glue_flat : ∀ (xs : List Str) (a : Array Nat), xs.foldl (fun acc (p : Str) => acc ++ (Str.ofString "").cps ++ p.cps) a = a ++ (xs.flatMap fun y => y.cps.toList).toArray
  | [], a => by simp
  | x :: r, a => by
    have e : (Str.ofString "").cps = #[] := by decide
    rw [List.foldl_cons, glue_flat r, e]
    apply Array.ext'
    simp
theorem join_flat (xs : List Str) : Txt.join (Str.ofString "") xs = ⟨(xs.flatMap fun y => y.cps.toList).toArray⟩ := by
  unfold Txt.join Builtin.Str.glued
  rw [glue_flat]
  cases xs with
  | nil => rfl
  | cons x r =>
    congr 1
    apply Array.ext'
    simp
end
section
open PySem PySem.W PySem.Calls PyProof.Rows PySem.Spec
set_option maxRecDepth 100000
set_option linter.unusedVariables false
theorem cnt_count (c : Nat) : ∀ cs : List Nat, cnt c cs = (cs.count c : Int) := by
  intro cs
  induction cs with
  | nil => rfl
  | cons d cs ih =>
    have e : cnt c (d :: cs) = (if Spec.same (.str ⟨#[d]⟩) (.str ⟨#[c]⟩) then 1 else 0) + cnt c cs := rfl
    rw [e, ih, PyProof.V.same_str, List.count_cons]
    by_cases h : d = c
    · subst h; simp; omega
    · have h2 : (d == c) = false := by simpa using h
      simp [h]
theorem count_is' (cs : List Nat) (c : Nat) : Txt.count ⟨cs.toArray⟩ ⟨#[c]⟩ = (cs.count c : Int) := by
  rw [count_cnt, List.toList_toArray, cnt_count]
theorem cnt_more (d : Nat) (cs : List Nat) (l : List Nat) : (l.map fun c => ((d :: cs).count c : Int)).sum = (l.map fun c => (cs.count c : Int)).sum + (l.count d : Int) := by
  induction l with
  | nil => rfl
  | cons x l ih =>
    rw [List.map_cons, List.sum_cons, ih, List.map_cons, List.sum_cons, List.count_cons, List.count_cons, BEq.comm (a := d), Int.natCast_add, Int.natCast_add, Int.add_assoc, Int.add_assoc, Int.add_left_comm (ite _ _ _ : Nat)]
    rw [Int.add_comm (ite _ _ _ : Nat)]
/-- the sum over the alphabet is the length -/
theorem sum_lets (cs : List Nat) (h : ∀ c ∈ cs, c ∈ lets) : (lets.map fun c => (cs.count c : Int)).sum = (cs.length : Int) := by
  induction cs with
  | nil => rfl
  | cons d cs ih =>
    have e : ∀ d ∈ lets, lets.count d = 1 := by decide
    rw [cnt_more, ih fun c hc => h c (.tail _ hc), e d (h d (.head _))]
    rfl
/-- what stands ahead of a letter -/
noncomputable def lowOf (head : Int) (cs : List Nat) (c : Nat) : Int := head + ((lets.takeWhile (fun y => y != c)).map fun c => (cs.count c : Int)).sum
theorem low_filter (cs : List Nat) (h : ∀ d ∈ cs, d ∈ lets) (c : Nat) (hc : c ∈ lets) : ((lets.takeWhile (fun y => y != c)).map fun c => (cs.count c : Int)).sum = ((cs.filter fun d => decide (d < c)).length : Int) := by
  induction cs with
  | nil =>
    have e : ∀ c ∈ lets, ((lets.takeWhile (fun y => y != c)).map fun c => (([] : List Nat).count c : Int)).sum = 0 := by decide
    exact e c hc
  | cons d cs ih =>
    have e : ∀ d ∈ lets, ∀ c ∈ lets, (lets.takeWhile (fun y => y != c)).count d = if d < c then 1 else 0 := by decide
    rw [cnt_more, ih fun c hc => h c (.tail _ hc), e d (h d (.head _)) c hc, List.filter_cons]
    by_cases hl : d < c
    · rw [if_pos hl, if_pos (decide_eq_true hl)]; rfl
    · rw [if_neg hl, if_neg (fun q => hl (of_decide_eq_true q))]; exact Int.add_zero _
theorem low_eq (head : Int) {cs : List Nat} (h : ∀ d ∈ cs, d ∈ lets) {c : Nat} (hc : c ∈ lets) : lowOf head cs c = head + ((cs.filter fun d => decide (d < c)).length : Int) := by
  unfold lowOf
  rw [low_filter cs h c hc]
theorem low_count {cs : List Nat} (c : Nat) : ((cs.filter fun d => decide (d < c)).length : Int) + (cs.count c : Int) ≤ (cs.length : Int) := by
  induction cs with
  | nil => simp
  | cons d cs ih =>
    rw [List.filter_cons, List.count_cons, List.length_cons]
    by_cases h1 : d < c
    · have h2 : ¬ d = c := by omega
      simp [h1, h2]; omega
    · by_cases h2 : d = c
      · subst h2; simp; omega
      · simp [h1, h2]; omega
end
section
open PySem PySem.W PySem.Calls PyProof.Rows PySem.Spec
set_option maxRecDepth 100000
set_option linter.unusedVariables false
/-- one letter is laid: what the ring makes of the new number -/
theorem lay_ring {size unit x : Int} {cnt low : Nat → Int} {c : Nat} (hu : 0 < unit) (hc : 1 ≤ cnt c) (hl : 0 ≤ low c) (hs : low c + cnt c ≤ size) :
    (lay size unit cnt low x c).fdiv (size * unit) = x.fdiv (cnt c * unit) ∧ (lay size unit cnt low x c).fmod (size * unit) = low c * unit + x.fmod (cnt c * unit) := by
  have hcu : 0 < cnt c * unit := Int.mul_pos (by omega) hu
  have hsu : 0 < size * unit := Int.mul_pos (by omega) hu
  have r0 := Int.fmod_nonneg_of_pos x hcu
  have r1 := Int.fmod_lt_of_pos x hcu
  have l0 : 0 ≤ low c * unit := Int.mul_nonneg hl (by omega)
  have hle : (low c + cnt c) * unit ≤ size * unit := Int.mul_le_mul_of_nonneg_right hs (by omega)
  have he : (low c + cnt c) * unit = low c * unit + cnt c * unit := by grind
  refine fdiv_is hsu ?_ (by omega) (by omega)
  unfold lay
  generalize x.fdiv (cnt c * unit) = q
  generalize x.fmod (cnt c * unit) = r
  grind
theorem lay_ahead {size unit x : Int} {cnt low : Nat → Int} {c : Nat} (hu : 0 < unit) (hc : 1 ≤ cnt c) (hl : 0 ≤ low c) (hs : low c + cnt c ≤ size) :
    ahead (lay size unit cnt low x c) (size * unit) (low c * unit) (cnt c * unit) = x := by
  have hcu : 0 < cnt c * unit := Int.mul_pos (by omega) hu
  obtain ⟨h1, h2⟩ := lay_ring (x := x) hu hc hl hs
  have r0 := Int.fmod_nonneg_of_pos x hcu
  have r1 := Int.fmod_lt_of_pos x hcu
  have e := Int.mul_fdiv_add_fmod x (cnt c * unit)
  unfold ahead
  rw [h1, h2]
  generalize hr : x.fmod (cnt c * unit) = r at *
  have e2 : low c * unit + r - low c * unit = r := by omega
  rw [e2, if_neg (show ¬ (0 : Int) > r by omega), if_neg (by omega)]
  generalize x.fdiv (cnt c * unit) = q at *
  grind
/-- the number behind the letters ds -/
noncomputable def valD (f : Int → Nat → Int) (start : Int) : List Nat → Int
  | [] => start
  | c :: ds => f (valD f start ds) c
noncomputable def lastOf : Int → List Int → Int
  | x, [] => x
  | _, y :: ys => lastOf y ys
theorem lastOf_snoc (y : Int) : ∀ (l : List Int) (x : Int), lastOf x (l ++ [y]) = y
  | [], _ => rfl
  | z :: l, x => lastOf_snoc y l z
theorem laid_snoc (f : Int → Nat → Int) : ∀ (cs : List Nat) (c : Nat) (x : Int), laid f x (cs ++ [c]) = laid f x cs ++ [f (lastOf x (laid f x cs)) c]
  | [], _, _ => rfl
  | d :: cs, c, x => by
    rw [List.cons_append, laid, laid_snoc f cs c (f x d), laid]
    rfl
theorem laid_last (f : Int → Nat → Int) (start : Int) : ∀ ds : List Nat, lastOf start (laid f start ds.reverse) = valD f start ds
  | [] => rfl
  | c :: ds => by
    have ih := laid_last f start ds
    rw [List.reverse_cons, laid_snoc, lastOf_snoc, ih]; rfl
theorem laid_length (f : Int → Nat → Int) : ∀ (cs : List Nat) (x : Int), (laid f x cs).length = cs.length
  | [], _ => rfl
  | c :: cs, x => by rw [laid, List.length_cons, List.length_cons, laid_length f cs]
theorem laid_get (f : Int → Nat → Int) (start : Int) : ∀ (cs : List Nat) (k : Nat), k ≤ cs.length → (start :: laid f start cs.reverse)[k]? = some (valD f start (cs.drop (cs.length - k)))
  | [], k, h => by
    obtain rfl : k = 0 := by simpa using h
    rfl
  | c :: cs, k, h => by
    by_cases hk : k ≤ cs.length
    · have ih := laid_get f start cs k hk
      have e1 : (c :: cs).drop ((c :: cs).length - k) = cs.drop (cs.length - k) := by
        rw [List.length_cons, show cs.length + 1 - k = (cs.length - k) + 1 by omega, List.drop_succ_cons]
      rw [e1, ← ih, List.reverse_cons, laid_snoc]
      cases k with
      | zero => rfl
      | succ k =>
        rw [List.getElem?_cons_succ, List.getElem?_cons_succ, List.getElem?_append_left]
        rw [laid_length, List.length_reverse]; omega
    · obtain rfl : k = cs.length + 1 := by rw [List.length_cons] at h; omega
      rw [List.length_cons, Nat.sub_self, List.drop_zero, List.reverse_cons, laid_snoc, List.getElem?_cons_succ, List.getElem?_append_right (by rw [laid_length, List.length_reverse]; omega), laid_length, List.length_reverse, Nat.sub_self]
      rw [laid_last]
      rfl
/-- the bits of a number behind letters -/
theorem valD_bits {size unit start : Int} {cnt low : Nat → Int} (hun : bits unit ≤ 5000) (hu : 0 < unit) (s0 : 0 ≤ size) (s1 : size ≤ 30) (hst : bits start ≤ 12000) :
    ∀ ds : List Nat, (∀ c ∈ ds, 0 ≤ low c ∧ low c ≤ 30 ∧ 1 ≤ cnt c ∧ cnt c ≤ 30) → bits (valD (lay size unit cnt low) start ds) ≤ 12000 + 10 * ds.length
  | [], _ => hst
  | c :: ds, h => by
    have ih := valD_bits hun hu s0 s1 hst ds fun d hd => h d (List.mem_cons_of_mem _ hd)
    obtain ⟨h1, h2, h3, h4⟩ := h c (List.mem_cons_self ..)
    have := lay_bits (size := size) (x := valD (lay size unit cnt low) start ds) (cn := cnt c) (low := low c) (k := 12000 + 10 * ds.length) (by omega) ih hu s0 s1 h1 h2 h3 h4
    rw [List.length_cons]
    exact Nat.le_trans this (by omega)
/-- the row of the table -/
noncomputable def rowL (cs : List Nat) : List Nat := lets.flatMap fun c => List.replicate (cs.count c) c
theorem lows_flat (cs : List Nat) (l : List Nat) : (((l.map fun c => (cs.count c : Int)).sum : Int)) = ((l.flatMap fun c => List.replicate (cs.count c) c).length : Int) := by
  induction l with
  | nil => rfl
  | cons c l ih => rw [List.map_cons, List.sum_cons, ih, List.flatMap_cons, List.length_append, List.length_replicate]; omega
theorem row_split {c : Nat} (cs : List Nat) (hc : c ∈ lets) : ∃ post, rowL cs = ((lets.takeWhile (fun y => y != c)).flatMap fun c => List.replicate (cs.count c) c) ++ (List.replicate (cs.count c) c ++ post) ∧ c ∉ ((lets.takeWhile (fun y => y != c)).flatMap fun c => List.replicate (cs.count c) c) ∧ c ∉ post := by
  unfold rowL
  simp only [lets, List.mem_cons, List.not_mem_nil, or_false] at hc
  rcases hc with rfl | rfl | rfl | rfl | rfl
  · exact ⟨List.replicate (cs.count 105) 105 ++ (List.replicate (cs.count 108) 108 ++ (List.replicate (cs.count 115) 115 ++ List.replicate (cs.count 116) 116)), by simp [lets, List.takeWhile, List.flatMap_cons], by simp [lets, List.takeWhile], by simp⟩
  · exact ⟨List.replicate (cs.count 108) 108 ++ (List.replicate (cs.count 115) 115 ++ List.replicate (cs.count 116) 116), by simp [lets, List.takeWhile, List.flatMap_cons], by simp [lets, List.takeWhile], by simp⟩
  · exact ⟨List.replicate (cs.count 115) 115 ++ List.replicate (cs.count 116) 116, by simp [lets, List.takeWhile, List.flatMap_cons], by simp [lets, List.takeWhile], by simp⟩
  · exact ⟨List.replicate (cs.count 116) 116, by simp [lets, List.takeWhile, List.flatMap_cons], by simp [lets, List.takeWhile], by simp⟩
  · exact ⟨[], by simp [lets, List.takeWhile, List.flatMap_cons], by simp [lets, List.takeWhile], by simp⟩
end
section
open PySem PySem.W PySem.Calls PyProof.Rows PySem.Spec
set_option maxRecDepth 100000
set_option linter.unusedVariables false
/-- where a letter first stands -/
theorem find_at {pre post : List Nat} {c : Nat} (h : c ∉ pre) : Txt.find ⟨(pre ++ c :: post).toArray⟩ ⟨#[c]⟩ = (pre.length : Int) := by
  have hl : (⟨(pre ++ c :: post).toArray⟩ : Str).cps.toList = pre ++ c :: post := by simp
  have at0 : (pre ++ c :: post)[pre.length]? = some c := by simp
  rcases find_whole ⟨(pre ++ c :: post).toArray⟩ ⟨#[c]⟩ with ⟨_, h2⟩ | ⟨i, h1, h2, h3⟩
  · exact absurd ((StrLaws.subAt_one _ c pre.length).mpr (by rw [hl]; exact at0)) (h2 pre.length)
  · rw [h1]
    have hi := (StrLaws.subAt_one _ c i).mp h2
    rw [hl] at hi
    have hle : ¬ i < pre.length := fun hlt => by
      rw [List.getElem?_append_left hlt] at hi
      exact h (List.mem_of_getElem? hi)
    have hge : ¬ pre.length < i := fun hlt => h3 pre.length hlt ((StrLaws.subAt_one _ c pre.length).mpr (by rw [hl]; exact at0))
    omega
theorem index_at {prog : Program} {w : World} {A : Around} {E : Value → Shared → Prop} {s : Shared} {pre post : List Nat} {c : Nat} {t u : Tok} {Q : Value → Shared → Prop} (h : c ∉ pre) (hq : ∀ t' k, Q (.int (pre.length : Int) t') { s with toks := k }) (hA : A.handled = none) :
    wpAny (model prog w) A (call (.builtin "str.index") [.str ⟨(pre ++ c :: post).toArray⟩ t, .str ⟨#[c]⟩ u]) Q E s := by
  refine index_or hA (fun hf => ?_) fun _ _ => ?_
  · rw [find_at h] at hf; omega
  · rw [find_at h]; exact hq _ _
theorem index_is {prog : Program} {w : World} {A : Around} {E : Value → Shared → Prop} {s : Shared} {l : List Nat} {c : Nat} {i : Int} {t u : Tok} {Q : Value → Shared → Prop} (h : ∃ pre post, l = pre ++ c :: post ∧ c ∉ pre ∧ (pre.length : Int) = i) (hq : ∀ t' k, Q (.int i t') { s with toks := k }) (hA : A.handled = none) :
    wpAny (model prog w) A (call (.builtin "str.index") [.str ⟨l.toArray⟩ t, .str ⟨#[c]⟩ u]) Q E s := by
  obtain ⟨pre, post, rfl, hn, rfl⟩ := h
  exact index_at hn hq hA
theorem row_index (cs : List Nat) {c : Nat} (head : Int) (hc : c ∈ lets) (h1 : 1 ≤ cs.count c) : ∃ pre post, rowL cs = pre ++ c :: post ∧ c ∉ pre ∧ (pre.length : Int) = lowOf head cs c - head := by
  obtain ⟨post, e, n1, n2⟩ := row_split cs hc
  obtain ⟨k, hk⟩ : ∃ k, cs.count c = k + 1 := ⟨cs.count c - 1, by omega⟩
  rw [hk, List.replicate_succ] at e
  refine ⟨_, _, e, n1, ?_⟩
  rw [← lows_flat]
  unfold lowOf
  omega
theorem row_count (cs : List Nat) {c : Nat} (hc : c ∈ lets) : (rowL cs).count c = cs.count c := by
  obtain ⟨post, e, n1, n2⟩ := row_split cs hc
  rw [e, List.count_append, List.count_append, List.count_replicate_self, List.count_eq_zero.mpr n1, List.count_eq_zero.mpr n2]
  omega
theorem row_item (cs : List Nat) {c : Nat} (head j : Int) (hc : c ∈ lets) (h0 : lowOf head cs c ≤ j) (h1 : j < lowOf head cs c + (cs.count c : Int)) : 0 ≤ j - head ∧ (rowL cs)[(j - head).toNat]? = some c := by
  obtain ⟨post, e, n1, n2⟩ := row_split cs hc
  have hl := lows_flat cs (lets.takeWhile (fun y => y != c))
  generalize (lets.takeWhile (fun y => y != c)).flatMap (fun c => List.replicate (cs.count c) c) = pre at *
  unfold lowOf at h0 h1
  rw [hl] at h0 h1
  refine ⟨by omega, ?_⟩
  rw [e, List.getElem?_append_right (by omega), List.getElem?_append_left (by rw [List.length_replicate]; omega), List.getElem?_replicate]
  rw [if_pos (by omega)]
theorem row_len (cs : List Nat) (h : ∀ c ∈ cs, c ∈ lets) : (rowL cs).length = cs.length := by
  have := lows_flat cs lets
  rw [sum_lets cs h] at this
  unfold rowL
  omega
/-- what is left of the place: one step of reading -/
theorem read_ring {size unit x : Int} {cnt low : Nat → Int} {c : Nat} (hu : 0 < unit) (hc : 1 ≤ cnt c) (hl : 0 ≤ low c) (hs : low c + cnt c ≤ size) :
    low c ≤ ((lay size unit cnt low x c).fmod (size * unit)).fdiv unit ∧ ((lay size unit cnt low x c).fmod (size * unit)).fdiv unit < low c + cnt c ∧
    (lay size unit cnt low x c).fdiv (size * unit) * cnt c * unit + (lay size unit cnt low x c).fmod (size * unit) - low c * unit = x := by
  have hcu : 0 < cnt c * unit := Int.mul_pos (by omega) hu
  obtain ⟨h1, h2⟩ := lay_ring (x := x) hu hc hl hs
  have r0 := Int.fmod_nonneg_of_pos x hcu
  have r1 := Int.fmod_lt_of_pos x hcu
  have e := Int.mul_fdiv_add_fmod x (cnt c * unit)
  rw [h1, h2]
  generalize x.fmod (cnt c * unit) = r at *
  generalize x.fdiv (cnt c * unit) = q at *
  have d : (low c * unit + r).fdiv unit = low c + r.fdiv unit := by
    rw [Int.fdiv_eq_ediv_of_nonneg _ (by omega), Int.fdiv_eq_ediv_of_nonneg _ (by omega), Int.add_comm (low c * unit), Int.add_mul_ediv_right _ _ (by omega)]
    omega
  rw [d, Int.fdiv_eq_ediv_of_nonneg _ (by omega)]
  have q0 : 0 ≤ r / unit := Int.ediv_nonneg r0 (by omega)
  have q1 : r / unit < cnt c := Int.ediv_lt_of_lt_mul hu r1
  refine ⟨by omega, by omega, ?_⟩
  grind
theorem mul_one_text (c : Nat) (k : Nat) : (Txt.mul ⟨#[c]⟩ (k : Int)).cps.toList = List.replicate k c := by
  have key : ∀ (j : Nat) (acc : Array Nat), ((List.replicate j (#[c] : Array Nat)).foldl (· ++ ·) acc).toList = acc.toList ++ List.replicate j c := by
    intro j
    induction j with
    | zero => simp
    | succ j ih => intro acc; rw [List.replicate_succ, List.foldl_cons, ih]; simp [List.replicate_succ]
  unfold Txt.mul
  by_cases h1 : (k : Int) < 1
  · have : k = 0 := by omega
    subst this; rfl
  · rw [if_neg h1]
    by_cases h2 : k = 1
    · subst h2; rfl
    · have e : ((k : Int) == 1 || (⟨#[c]⟩ : Str).length == 0) = false := by
        have : (⟨#[c]⟩ : Str).length = 1 := rfl
        rw [this]; simp; omega
      rw [e]
      simp only [Bool.false_eq_true, if_false]
      have := key k #[]
      simpa using this
end
section
open PySem PySem.W PySem.Calls PyProof.Rows PySem.Spec
set_option maxRecDepth 100000
set_option linter.unusedVariables false
noncomputable abbrev lawE (L a : Addr) (ccd : Value) : Env := envOfC (Str.ofString "law") scope_s23 L a ccd
noncomputable abbrev lawA (L a : Addr) (ccd : Value) : Around := callerA.deeper (lawE L a ccd)
noncomputable def asgV : Stmt → Expr
  | .Assign _ v _ => v
  | _ => .Name Str.empty ⟨0, 0, 0, 0⟩
noncomputable def binL : Expr → Expr
  | .BinOp a _ _ _ => a
  | e => e
noncomputable def lcE : Expr → Expr
  | .ListComp e _ _ _ => e
  | e => e
noncomputable def lcS : Expr → Scope
  | .ListComp _ _ s _ => s
  | _ => ⟨.function, [], false, false, []⟩
@[reducible] noncomputable def elt_3 : Expr := lit (show lcE (binL (asgV (nst 23 3))) = _ by conv => lhs; whnf)
@[reducible] noncomputable def scp_3 : Scope := lit (show lcS (binL (asgV (nst 23 3))) = _ by conv => lhs; whnf)
/-- a sign's pair -/
noncomputable abbrev signS (x : Int) (u v : Tok) : Obj := { cls := .type "tuple", data := .seq #[.str (sgn x) u, .str (ltr x) v] }
local macro_rules | `(tactic| walk_at "CompEnd") => `(tactic| (refine stop_intro ?_))
set_option maxHeartbeats 4000000 in
theorem elt_sign {w : World} {p : Program} {loose : List Str} {mean : ExcName → Option Value} {mg mb : Str → Option Value} {a L : Addr} {ccd : Value} {h₀ : Heap} {m m₂ : Str → Option Value} {s : Shared} {I C D : Addr} {oI oC oD : Obj} {news : List (Addr × Obj)} {x : Int} {t : Tok} (hx0 : 0 ≤ x) (hxb : bits x ≤ 9000)
    (Q : Value → Shared → Prop) (E : Value → Shared → Prop) (B : Below callerA h₀ [] h₀) (F : Fr h₀ L s.heap m) (X : (K w.params).In h₀) (N : News h₀ L s.heap ((I, oI) :: (C, oC) :: (D, oD) :: news)) (T : Top p loose mean mg mb h₀) (hC : LCg.NsObj oC m₂) (hm : m₂ (Str.ofString "x") = some (.int x t))
    (hret : ∀ T u v h' tk', Fr h₀ L h' m → News h₀ L h' ((T, signS x u v) :: (I, oI) :: (C, oC) :: (D, oD) :: news) → (∀ q ∈ (I, oI) :: (C, oC) :: (D, oD) :: news, q.1 < T) → Q (.ref T) { s with heap := h', toks := tk' }) :
    wpAny (model rw.prog w) (lawA L a ccd) (eval elt_3 (compEnvC scp_3 [] C (lawE L a ccd))) Q E s := by
  revert X
  k_fill
  intro X
  dsimp only [elt_3, scope_s23, scp_3, lit, lawE, lawA]
  (repeat' (first | (k_here; (with_reducible show wpAny _ _ (call (Value.ref 223) [Value.int _ _]) _ _ _); k_dflt (refine law_sign (by assumption) (by assumption) _ _ _ _ _ _ _ _ _ _ _ _ _ _ _ _ _ _ (by k_asm) (by k_asm) (by k_asm) (by k_asm) (by k_asm) (by first | exact rfl | assumption) (by ktr_room) (by ktr_units) ?_); intro _ _ _ _ _ _ _ _) | (k_unfold; (try dsimp only)) | (k_end; kc_close) | walk1 | (dsimp only; walk1) | (leave1; walk_say "STEP leave1"; (try dsimp only))))
  exact hret _ _ _ _ _ (by assumption) (by assumption) (by assumption)
noncomputable abbrev SQ := Addr × Int × Tok × Tok
noncomputable abbrev sqObj (q : SQ) : Addr × Obj := (q.1, signS q.2.1 q.2.2.1 q.2.2.2)
theorem ints_at : ∀ {vs : List Value} {xs : List Int}, IntsAre vs xs → ∀ {i : Nat} {v : Value}, vs[i]? = some v → ∃ x t, xs[i]? = some x ∧ v = .int x t
  | _, _, .nil, i, v, h => by simp at h
  | _, _, .cons x t r, 0, v, h => ⟨x, t, rfl, by simpa using h.symm⟩
  | _, _, .cons _ _ r, i + 1, v, h => by
    obtain ⟨x, t, h1, h2⟩ := ints_at r (i := i) (v := v) (by simpa using h)
    exact ⟨x, t, by simpa using h1, h2⟩
theorem rest_sign {w : World} {p : Program} {loose : List Str} {mean : ExcName → Option Value} {mg mb : Str → Option Value} {a L sl : Addr} {ccd : Value} {h₀ : Heap} {m : Str → Option Value} {s : Shared} {news0 : List (Addr × Obj)} {xs : List Int} {vsx : List Value} {so : Obj}
    (ivx : IntsAre vsx xs) (hxs : ∀ x ∈ xs, 0 ≤ x ∧ bits x ≤ 9000) (hsm : (sl, so) ∈ news0) (hso : so.cls = .type "list" ∧ ∃ n, so.data = .seq vsx.toArray n)
    (B : Below callerA h₀ [] h₀) (X : (K w.params).In h₀) (T : Top p loose mean mg mb h₀) (Fin : List Value → List (Addr × Obj) → Prop)
    (fin : ∀ tups : List SQ, tups.map (fun q => q.2.1) = xs → Fin (tups.map fun q => Value.ref q.1) ((tups.map sqObj).reverse ++ news0)) :
    ∀ (k i : Nat) (tups : List SQ), i + k = xs.length → tups.map (fun q => q.2.1) = xs.take i →
      LCg.CompRest rw.prog w (lawA L a ccd) h₀ L m (lawE L a ccd) elt_3 (Str.ofString "x") scp_3 [] s (LCg.SrcAt h₀ sl vsx.toArray) (fun i v => vsx.toArray[i]? = some v) Fin k i (tups.map fun q => Value.ref q.1) ((tups.map sqObj).reverse ++ news0) := by
  intro k
  induction k with
  | zero =>
    intro i tups hi ht
    refine LCg.CompRest.zero (fin tups ?_)
    rw [ht]; exact List.take_of_length_le (by omega)
  | succ k ih =>
    intro i tups hi ht
    refine LCg.CompRest.succ fun v I oI C oC D m₂ h tk E' hP hC hm F N off ne => ?_
    obtain ⟨x, t, hx, rfl⟩ := ints_at ivx (i := i) (v := v) (by simpa using hP)
    have hxm := hxs x (List.mem_of_getElem? hx)
    refine elt_sign hxm.1 hxm.2 _ _ B F X N T hC hm fun TT u v h' tk' F' N' l' => ?_
    have hoff := off.mem
    refine LCg.CompEnd.intro (news' := ((tups ++ [(TT, x, u, v)]).map sqObj).reverse ++ news0) F' N' ?_ ?_ ?_ ?_
    · intro q hq
      simp only [List.map_append, List.map_cons, List.map_nil, List.reverse_append, List.reverse_cons, List.reverse_nil, List.nil_append, List.cons_append, List.mem_cons, List.mem_append] at hq ⊢
      grind
    · refine LCg.Off3.of fun q hq => ?_
      simp only [List.map_append, List.map_cons, List.map_nil, List.reverse_append, List.reverse_cons, List.reverse_nil, List.nil_append, List.cons_append, List.mem_cons] at hq
      rcases hq with rfl | hq
      · exact ⟨Nat.ne_of_gt (l' (I, oI) (by repeat (first | exact .head _ | apply List.Mem.tail))), Nat.ne_of_gt (l' (C, oC) (by repeat (first | exact .head _ | apply List.Mem.tail))), Nat.ne_of_gt (l' (D, LCg.lst (tups.map fun q => Value.ref q.1)) (by repeat (first | exact .head _ | apply List.Mem.tail)))⟩
      · exact hoff q hq
    · exact .inr ⟨so, List.mem_append_right _ hsm, hso⟩
    · have e : (tups.map fun q => Value.ref q.1) ++ [Value.ref TT] = (tups ++ [(TT, x, u, v)]).map fun q => Value.ref q.1 := by simp
      rw [e]
      refine ih (i + 1) _ (by omega) ?_
      rw [List.map_append, ht, List.take_add_one, hx]; rfl
noncomputable abbrev m3 (sa dl : Addr) (unit head : Int) (tu th : Tok) : List (Str × Value) := [(Str.ofString "head", .int head th), (Str.ofString "unit", .int unit tu), (Str.ofString "drawn", .ref dl), (Str.ofString "script", .ref sa)]
noncomputable abbrev lk (l : List (Str × Value)) : Str → Option Value := fun y => List.lookup y l
theorem lk_cons (n : Str) (v : Value) (l : List (Str × Value)) : (fun y => if y = n then some v else lk l y) = lk ((n, v) :: l) := by
  funext y
  unfold lk
  rw [List.lookup_cons]
  by_cases h : y = n
  · subst h; simp
  · have : (y == n) = false := by simpa using h
    rw [this, if_neg h]
theorem five_ok {a b c d e : Value} : (#[a, b, c, d, e] : Array Value).size ≤ sizeLine := by
  rw [sizeLine_eq]; exact (by decide : 5 ≤ 16777216)
theorem list5 {α : Type} {l : List α} (h : l.length = 5) : ∃ a b c d e, l = [a, b, c, d, e] := by
  match l, h with
  | [a, b, c, d, e], _ => exact ⟨a, b, c, d, e, rfl⟩
theorem news_3 {h₀ h : Heap} {L : Addr} {a b c d e1 e2 e3 e4 e5 f g : Addr × Obj} {r : List (Addr × Obj)} (N : News h₀ L h (a :: b :: c :: d :: e5 :: e4 :: e3 :: e2 :: e1 :: f :: g :: r)) : News h₀ L h (a :: c :: (e5 :: e4 :: e3 :: e2 :: e1 :: g :: r)) := fun q hq => by
  refine N q ?_
  simp only [List.mem_cons] at hq ⊢
  grind
noncomputable def lsl (i n : Nat) : List Stmt := (body_s23.drop i).take n
@[reducible] noncomputable def b_3 : List Stmt := lit (show lsl 3 1 = _ by conv => lhs; whnf)
local macro_rules | `(tactic| walk_at "CompSrc") => `(tactic| (refine stop_intro ?_))
set_option maxHeartbeats 4000000 in
theorem st_3 {w : World} {p : Program} {loose : List Str} {mean : ExcName → Option Value} {mg mb : Str → Option Value} {a L dl : Addr} {ccd : Value} {h₀ : Heap} {sa : Addr} {head unit : Int} {th tu : Tok} {s : Shared} {news : List (Addr × Obj)} {d0 d1 d2 d3 d4 d5 d6 d7 : Int} {t0 t1 t2 t3 t4 t5 t6 t7 : Tok} {nn : Nat}
    (hxs : ∀ x ∈ [d3, d4, d5, d6, d7], 0 ≤ x ∧ bits x ≤ 9000) 
    (Q : Flow → Shared → Prop) (E : Value → Shared → Prop) (B : Below callerA h₀ [] h₀) (F : Fr h₀ L s.heap (lk (m3 sa dl unit head tu th))) (X : (K w.params).In h₀) (N : News h₀ L s.heap ((dl, W.listOf #[Value.int d0 t0, Value.int d1 t1, Value.int d2 t2, Value.int d3 t3, Value.int d4 t4, Value.int d5 t5, Value.int d6 t6, Value.int d7 t7] nn) :: news)) (T : Top p loose mean mg mb h₀)
    (hret : ∀ (sgl : Addr) (tups : List SQ) (c : Addr) u v tk' h' n, tups.map (fun q : SQ => q.2.1) = [d3, d4, d5, d6, d7] → Fr h₀ L h' (lk ((Str.ofString "signs", .ref sgl) :: m3 sa dl unit head tu th)) → News h₀ L h' ((sgl, W.listOf ((tups.map fun q : SQ => Value.ref q.1) ++ [Value.ref c]).toArray n) :: (c, tupS ⟨#[64262]⟩ (Str.ofString "st") u v) :: ((tups.map sqObj).reverse ++ (dl, W.listOf #[Value.int d0 t0, Value.int d1 t1, Value.int d2 t2, Value.int d3 t3, Value.int d4 t4, Value.int d5 t5, Value.int d6 t6, Value.int d7 t7] nn) :: news)) → Q .next { s with heap := h', toks := tk' }) :
    wpAny (model rw.prog w) (lawA L a ccd) (execs b_3 (lawE L a ccd)) Q E s := by
  revert X
  k_fill
  intro X
  dsimp only [b_3, scope_s23, lit, lawE, lawA]
  unfold lk m3 at F
  (repeat' (first | ((with_reducible show wpAny _ _ (eval (Expr.ListComp ..) _) _ _ _); refine stop_intro ?_) | (k_unfold; (try dsimp only)) | (k_end; kc_close) | walk1 | (dsimp only; walk1) | (leave1; walk_say "STEP leave1"; (try dsimp only))))
  unfold Stop
  k_dflt (refine LCg.ListComp_U (F₀ := F) (by rfl) (by decide) (by rfl) (by decide) (by rfl) ?_)
  k_steps
  unfold Stop
  rename Fr _ _ _ _ => F2
  rename News _ _ _ _ => N2
  rename_i D1 h1 l1
  refine LCg.CompSrc.ledger (by rfl) F2 N2 (by k_mem) five_ok fun g => ?_
  refine rest_sign (vsx := [Value.int d3 t3, Value.int d4 t4, Value.int d5 t5, Value.int d6 t6, Value.int d7 t7]) (so := W.listOf #[Value.int d3 t3, Value.int d4 t4, Value.int d5 t5, Value.int d6 t6, Value.int d7 t7] 0) (.cons _ _ (.cons _ _ (.cons _ _ (.cons _ _ (.cons _ _ .nil))))) hxs (by k_mem) ⟨rfl, _, rfl⟩ B X T _ (fun tups ht => ?_) 5 0 [] rfl rfl
  intro D2 h2 tk2 F3 N3 off1
  obtain ⟨q1, q2, q3, q4, q5, rfl⟩ := list5 (l := tups) (by have := congrArg List.length ht; simpa using this)
  simp only [List.map_cons, List.map_nil, List.reverse_cons, List.reverse_nil, List.nil_append, List.cons_append, LCg.lst] at N3
  dsimp only
  k_steps
  rename Fr _ _ _ _ => F9
  rename News _ _ _ _ => N9
  try dsimp only
  refine wpAny_execs_nil ?_
  dsimp +zetaDelta only at F9
  rw [lk_cons] at F9
  exact hret _ [q1, q2, q3, q4, q5] _ _ _ _ _ _ ht F9 (news_3 N9)
end
section
open PySem PySem.W PySem.Calls PyProof.Rows PySem.Spec
set_option maxRecDepth 100000
set_option linter.unusedVariables false
noncomputable abbrev m4 (sa dl sgl : Addr) (unit head : Int) (tu th : Tok) : List (Str × Value) := (Str.ofString "signs", .ref sgl) :: m3 sa dl unit head tu th
/-- the told letters -/
noncomputable def letters (xs : List Int) : List Nat := (xs.flatMap fun x => (ltr x).cps.toList) ++ [115, 116]
noncomputable def keepW (q : PQ) : Bool := !(b1has (cod q.2.1))
noncomputable def valW (q : PQ) : Str := mapB3 b3 (cod q.2.1)
theorem fate_q {q : PQ} (h : okS (q.2.1, q.2.2.1) = true) : (if keepW q = true then (valW q).cps.toList else []) = q.2.2.1.cps.toList := by
  have := (okS_fate h).2.2.2.2
  unfold fate at this
  unfold keepW valW
  rw [← this]
  cases b1has (cod q.2.1) <;> simp
theorem fate_qs : ∀ qs : List PQ, (∀ q ∈ qs, okS (q.2.1, q.2.2.1) = true) → ((qs.filter keepW).map valW).flatMap (fun y => y.cps.toList) = qs.flatMap fun q => q.2.2.1.cps.toList
  | [], _ => rfl
  | q :: qs, h => by
    have ih := fate_qs qs fun x hx => h x (List.mem_cons_of_mem _ hx)
    have hq := fate_q (h q (List.mem_cons_self ..))
    rw [List.filter_cons, List.flatMap_cons, ← hq, ← ih]
    cases keepW q <;> simp
theorem len_flat : ∀ ys : List Str, (ys.map (·.length)).sum = (ys.flatMap fun y => y.cps.toList).length
  | [] => rfl
  | y :: ys => by
    rw [List.map_cons, List.sum_cons, len_flat ys, List.flatMap_cons, List.length_append, Array.length_toList]; rfl
theorem join_ok {ys : List Str} (h : (ys.flatMap fun y => y.cps.toList).length ≤ 1000) : JoinOk (Str.ofString "") ys = true := by
  refine PyProof.Rows.joinOk_of ?_
  have e : (Str.ofString "").length = 0 := by decide
  rw [len_flat, e]
  omega
theorem letters_len : ∀ xs : List Int, (letters xs).length ≤ 3 * xs.length + 2
  | [] => by simp [letters]
  | x :: xs => by
    have ih := letters_len xs
    have h := (okS_fate (okS_sgn x)).2.2.1
    unfold letters at ih ⊢
    simp only [List.flatMap_cons, List.length_append, List.length_cons, List.length_nil, Array.length_toList] at ih ⊢
    dsimp only at h
    omega
theorem letters_in (xs : List Int) : ∀ c ∈ letters xs, c ∈ lets := by
  intro c hc
  rcases List.mem_append.mp hc with hc | hc
  · obtain ⟨x, hx, hm⟩ := List.mem_flatMap.mp hc
    exact (okS_fate (okS_sgn x)).2.2.2.1 c hm
  · simp at hc
    rcases hc with rfl | rfl <;> decide
@[reducible] noncomputable def b_4 : List Stmt := lit (show lsl 4 1 = _ by conv => lhs; whnf)
theorem compEnd_same {h₀ : Heap} {L I C D : Addr} {m : Str → Option Value} {s₁ : Shared} {oI oC oD : Obj} {S : List (Addr × Obj) → Prop} {rest : Value → List (Addr × Obj) → Prop} {y : Value} {h' : Heap} {tk : Nat} {news : List (Addr × Obj)}
    (F : Fr h₀ L h' m) (N : News h₀ L h' ((I, oI) :: (C, oC) :: (D, oD) :: news)) (off : LCg.Off3 I C D news) (hS : S news) (r : rest y news) : LCg.CompEnd h₀ L m s₁ I oI C oC D oD S rest y { s₁ with heap := h', toks := tk } := LCg.CompEnd.intro F N news (fun _ h => h) off hS r
theorem succ_snd {prog : Program} {w : World} {A : Around} {s : Shared} {h₀ : Heap} {L : Addr} {m : Str → Option Value} {env : Env} {x x₂ : Str} {pos : Pos} {scope : Scope} {cl : List (Str × Addr)} {S : List (Addr × Obj) → Prop} {P : Nat → Value → Prop}
    {Fin : List Value → List (Addr × Obj) → Prop} {k i : Nat} {ys : List Value} {news : List (Addr × Obj)} {t : Addr} {v₁ v₂ : Value} {nt : Nat} (hP : ∀ v, P i v → v = .ref t) (hm : (t, ({ cls := .type "tuple", data := .seq #[v₁, v₂] nt } : Obj)) ∈ news) (hS : S news)
    (hk : ∀ C, (compEnvC scope cl C env).scope.kind = .function) (hl : ∀ C, (compEnvC scope cl C env).kindOf x₂ = some .local) (hd : (x₂ == ("__debug__" : Str)) = false)
    (r : LCp.CompRestP prog w A h₀ L m env (.Name x₂ pos) x x₂ scope cl s S P Fin k (i + 1) (ys ++ [v₂]) news) : LCp.CompRestP prog w A h₀ L m env (.Name x₂ pos) x x₂ scope cl s S P Fin (k + 1) i ys news :=
  LCp.CompRestP.succ fun v hv => ⟨t, _, v₁, v₂, nt, hP v hv, hm, rfl, rfl, fun I oI C oC D m₂ h tk E' hC hx hy F N off ne =>
    PySem.W.LCgL.ld_own N (List.mem_cons_of_mem _ (List.mem_cons_self ..)) hC hy (compEnd_same F N off hS r) (hk C) (hl C) hd⟩
local macro_rules | `(tactic| walk_at "CompRestP") => `(tactic| (k_dflt (refine succ_snd (by (intro v hv; exact (Option.some.inj hv).symm)) (by k_mem) (by lcg_src) (fun _ => rfl) (fun _ => rfl) (by rfl) ?_)))
theorem told_is (x1 x2 x3 x4 x5 : Int) : Txt.join (Str.ofString "") [ltr x1, ltr x2, ltr x3, ltr x4, ltr x5, Str.ofString "st"] = ⟨(letters [x1, x2, x3, x4, x5]).toArray⟩ := by
  rw [join_flat]
  have e : (Str.ofString "st").cps.toList = [115, 116] := by decide
  simp [letters, e]
theorem told_ok (x1 x2 x3 x4 x5 : Int) : JoinOk (Str.ofString "") [ltr x1, ltr x2, ltr x3, ltr x4, ltr x5, Str.ofString "st"] = true := by
  refine join_ok ?_
  have h := letters_len [x1, x2, x3, x4, x5]
  have e : (Str.ofString "st").cps.toList = [115, 116] := by decide
  simp only [letters, List.flatMap_cons, List.flatMap_nil, List.append_nil, List.length_append, List.length_cons, List.length_nil, e] at h ⊢
  omega
set_option maxHeartbeats 4000000 in
theorem st_4 {w : World} {p : Program} {loose : List Str} {mean : ExcName → Option Value} {mg mb : Str → Option Value} {a L dl sgl c : Addr} {ccd : Value} {h₀ : Heap} {sa : Addr} {head unit : Int} {th tu : Tok} {s : Shared} {news : List (Addr × Obj)} {q1 q2 q3 q4 q5 : SQ} {u v : Tok} {n : Nat}
    (Q : Flow → Shared → Prop) (E : Value → Shared → Prop) (B : Below callerA h₀ [] h₀) (F : Fr h₀ L s.heap (lk (m4 sa dl sgl unit head tu th))) (X : (K w.params).In h₀)
    (N : News h₀ L s.heap ((sgl, W.listOf #[.ref q1.1, .ref q2.1, .ref q3.1, .ref q4.1, .ref q5.1, .ref c] n) :: (c, tupS ⟨#[64262]⟩ (Str.ofString "st") u v) :: sqObj q5 :: sqObj q4 :: sqObj q3 :: sqObj q2 :: sqObj q1 :: news)) (T : Top p loose mean mg mb h₀)
    (hret : ∀ t tk' h', Fr h₀ L h' (lk ((Str.ofString "told", .str ⟨(letters [q1.2.1, q2.2.1, q3.2.1, q4.2.1, q5.2.1]).toArray⟩ t) :: m4 sa dl sgl unit head tu th)) → News h₀ L h' ((sgl, W.listOf #[.ref q1.1, .ref q2.1, .ref q3.1, .ref q4.1, .ref q5.1, .ref c] n) :: (c, tupS ⟨#[64262]⟩ (Str.ofString "st") u v) :: sqObj q5 :: sqObj q4 :: sqObj q3 :: sqObj q2 :: sqObj q1 :: news) → Q .next { s with heap := h', toks := tk' }) :
    wpAny (model rw.prog w) (lawA L a ccd) (execs b_4 (lawE L a ccd)) Q E s := by
  obtain ⟨a1, x1, u1, v1⟩ := q1
  obtain ⟨a2, x2, u2, v2⟩ := q2
  obtain ⟨a3, x3, u3, v3⟩ := q3
  obtain ⟨a4, x4, u4, v4⟩ := q4
  obtain ⟨a5, x5, u5, v5⟩ := q5
  revert X
  k_fill
  intro X
  dsimp only [b_4, scope_s23, lit, lawE, lawA, sqObj] at N hret ⊢
  unfold lk m4 m3 at F
  (repeat' (first | ((with_reducible show wpAny _ _ (call (Value.builtin "str.join") _ _) _ _ _); refine stop_intro ?_) | (k_unfold; (try dsimp only)) | (k_end; kc_close) | walk1 | (dsimp only; walk1) | (leave1; walk_say "STEP leave1"; (try dsimp only))))
  unfold Stop
  rename News _ _ _ _ => N2
  refine SC.join (l := [(ltr x1, v1), (ltr x2, v2), (ltr x3, v3), (ltr x4, v4), (ltr x5, v5), (Str.ofString "st", v)]) (texts := [ltr x1, ltr x2, ltr x3, ltr x4, ltr x5, Str.ofString "st"]) ⟨_, (N2 _ (List.mem_cons_self ..)).1, rfl, _, rfl⟩ rfl (told_ok x1 x2 x3 x4 x5) fun t' k' => ?_
  rw [told_is]
  k_steps
  rename Fr _ _ _ _ => F9
  rename News _ _ _ _ => N9
  refine wpAny_execs_nil ?_
  have F8 : Fr _ _ _ (fun y => if y = Str.ofString "told" then _ else lk (m4 sa dl sgl unit head tu th) y) := F9
  rw [lk_cons] at F8
  exact hret _ _ _ F8 (fun q hq => N9 q (List.mem_cons_of_mem _ hq))
/-- one sign, folded or left out -/
@[reducible] noncomputable def b_5 : List Stmt := lit (show lsl 5 1 = _ by conv => lhs; whnf)
noncomputable def callA : Expr → Expr
  | .Call _ (a :: _) _ _ => a
  | e => e
noncomputable def lcT : Expr → Expr
  | .ListComp _ [⟨_, _, [c], _⟩] _ _ => c
  | e => e
@[reducible] noncomputable def elt_5 : Expr := lit (show lcE (callA (asgV (nst 23 5))) = _ by conv => lhs; whnf)
@[reducible] noncomputable def tst_5 : Expr := lit (show lcT (callA (asgV (nst 23 5))) = _ by conv => lhs; whnf)
@[reducible] noncomputable def scp_5 : Scope := lit (show lcS (callA (asgV (nst 23 5))) = _ by conv => lhs; whnf)
set_option maxHeartbeats 4000000 in
theorem turn_5 {w : World} {p : Program} {loose : List Str} {mean : ExcName → Option Value} {mg mb : Str → Option Value} {a L : Addr} {ccd : Value} {h₀ : Heap} {m m₂ : Str → Option Value} {s : Shared} {I C D : Addr} {oI oC oD : Obj} {news : List (Addr × Obj)} {c : Nat} {u : Tok} (hc : c < 0x110000)
    (E : Value → Shared → Prop) (B : Below callerA h₀ [] h₀) (F : Fr h₀ L s.heap m) (X : (K w.params).In h₀) (N : News h₀ L s.heap ((I, oI) :: (C, oC) :: (D, oD) :: news)) (T : Top p loose mean mg mb h₀) (hC : LCg.NsObj oC m₂) (hm : m₂ (Str.ofString "sign") = some (.str ⟨#[c]⟩ u)) (D3 : IntTab rw.prog w h₀ 166 (tabD b3)) :
    wpAny (model rw.prog w) (lawA L a ccd) (isTrue tst_5 (compEnvC scp_5 [] C (lawE L a ccd)) (eval tst_5 (compEnvC scp_5 [] C (lawE L a ccd)))) (fun okb s₃ => okb = !(b1has c) ∧ (if okb = true then
        wpAny (model rw.prog w) (lawA L a ccd) (eval elt_5 (compEnvC scp_5 [] C (lawE L a ccd))) (fun y s₄ => (∃ t, y = .str (mapB3 b3 c) t) ∧ Same h₀ L m s ((I, oI) :: (C, oC) :: (D, oD) :: news) s₄) E s₃
        else Same h₀ L m s ((I, oI) :: (C, oC) :: (D, oD) :: news) s₃)) E s := by
  revert X
  k_fill
  intro X
  dsimp only [elt_5, tst_5, scope_s23, scp_5, lit, lawE, lawA]
  (repeat' (first | ((with_reducible show wpAny _ _ (call (Value.ref _) _ _) _ _ _); k_here; k_dflt (apply map_b3; walk_at "cc"); intro _ _ _ _ _) | ((with_reducible show wpAny _ _ (call (Value.ref _) _ _) _ _ _); k_here; k_dflt (apply in_b1; walk_at "cc"); intro _ _ _ _) | (k_unfold; (try dsimp only)) | (k_end; kc_close) | walk1 | (dsimp only; walk1) | (leave1; walk_say "STEP leave1"; (try dsimp only))))
  all_goals exact ⟨_, _, rfl, by assumption, by assumption⟩
end
section
open PySem PySem.W PySem.Calls PyProof.Rows PySem.Spec
set_option maxRecDepth 100000
set_option linter.unusedVariables false
noncomputable abbrev pqOf (q : SQ) : PQ := (q.1, sgn q.2.1, ltr q.2.1, q.2.2.1, q.2.2.2)
theorem letters_flat (xs : List Int) : (xs.map ltr ++ [Str.ofString "st"]).flatMap (fun y => y.cps.toList) = letters xs := by
  have e : (Str.ofString "st").cps.toList = [115, 116] := by decide
  simp [letters, List.flatMap_map, e]
set_option maxHeartbeats 4000000 in
theorem st_5 {w : World} {p : Program} {loose : List Str} {mean : ExcName → Option Value} {mg mb : Str → Option Value} {a L dl sgl c : Addr} {ccd : Value} {h₀ : Heap} {sa : Addr} {head unit : Int} {th tu tt : Tok} {told : Str} {s : Shared} {news : List (Addr × Obj)} {tups : List SQ} {its : Array Value} {u v : Tok} {n : Nat}
    (Q : Flow → Shared → Prop) (E : Value → Shared → Prop) (B : Below callerA h₀ [] h₀) (F : Fr h₀ L s.heap (lk ((Str.ofString "told", .str told tt) :: m4 sa dl sgl unit head tu th))) (X : (K w.params).In h₀)
    (N : News h₀ L s.heap ((sgl, W.listOf its n) :: (c, tupS ⟨#[64262]⟩ (Str.ofString "st") u v) :: ((tups.map sqObj).reverse ++ news))) (hits : its.toList = (tups.map fun q : SQ => Value.ref q.1) ++ [.ref c]) (hlen : tups.length ≤ 5) (T : Top p loose mean mg mb h₀) (D3 : IntTab rw.prog w h₀ 166 (tabD b3))
    (hret : ∀ t tk' h', Fr h₀ L h' (lk ((Str.ofString "word", .str ⟨(letters (tups.map fun q => q.2.1)).toArray⟩ t) :: (Str.ofString "told", .str told tt) :: m4 sa dl sgl unit head tu th)) → News h₀ L h' ((sgl, W.listOf its n) :: (c, tupS ⟨#[64262]⟩ (Str.ofString "st") u v) :: ((tups.map sqObj).reverse ++ news)) → Q .next { s with heap := h', toks := tk' }) :
    wpAny (model rw.prog w) (lawA L a ccd) (execs b_5 (lawE L a ccd)) Q E s := by
  revert X
  k_fill
  intro X
  dsimp only [b_5, scope_s23, lit, lawE, lawA] at hret ⊢
  unfold lk m4 m3 at F
  (repeat' (first | ((with_reducible show wpAny _ _ (eval (Expr.ListComp ..) _) _ _ _); refine stop_intro ?_) | (k_unfold; (try dsimp only)) | (k_end; kc_close) | walk1 | (dsimp only; walk1) | (leave1; walk_say "STEP leave1"; (try dsimp only))))
  unfold Stop
  have hok : ∀ q ∈ tups.map pqOf ++ [(c, (⟨#[64262]⟩ : Str), Str.ofString "st", u, v)], okS (q.2.1, q.2.2.1) = true := by
    intro q hq
    rcases List.mem_append.mp hq with hq | hq
    · obtain ⟨y, hy, rfl⟩ := List.mem_map.mp hq
      exact okS_sgn _
    · rw [List.mem_singleton.mp hq]; exact okS_st
  refine comp_pt (qs := tups.map pqOf ++ [(c, (⟨#[64262]⟩ : Str), Str.ofString "st", u, v)]) (keep := keepW) (val := valW) (ax := sgl) (its := its) (kn := n) (cl := []) rfl (by rfl) (by decide) (by rfl) (by decide) (by rfl) (by rfl) (by decide) (fun _ => rfl) ?ziter F N (List.mem_cons_self ..) ?zits ?zqs ?zlen ?zturn ?zfin
  case ziter => k_steps
  case zits => rw [hits]; simp
  case zqs =>
    intro q hq
    rcases List.mem_append.mp hq with hq | hq
    · obtain ⟨y, hy, rfl⟩ := List.mem_map.mp hq
      refine List.mem_cons_of_mem _ (List.mem_cons_of_mem _ (List.mem_append_left _ (List.mem_reverse.mpr ?_)))
      exact List.mem_map.mpr ⟨y, hy, rfl⟩
    · rw [List.mem_singleton.mp hq]; exact List.mem_cons_of_mem _ (List.mem_cons_self ..)
  case zlen => simp; omega
  case zturn =>
    intro q hq I oI C oC D oD m₂ h tk E' hC hma hmb F' N'
    have hs := okS_fate (hok q hq)
    dsimp only at hs
    rw [hs.1] at hma
    exact turn_5 hs.2.1 E' B F' X N' T hC hma D3
  case zfin =>
    intro D l h tk nn hl F2 N2 hD
    have hflat : (l.map (·.1)).flatMap (fun y => y.cps.toList) = letters (tups.map fun q => q.2.1) := by
      rw [hl, fate_qs _ hok, ← letters_flat]
      simp [List.flatMap_map, List.map_map]
    have hll := letters_len (tups.map fun q => q.2.1)
    rw [List.length_map] at hll
    (repeat' (first | ((with_reducible show wpAny _ _ (call (Value.builtin "str.join") _ _) _ _ _); refine stop_intro ?_) | (k_unfold; (try dsimp only)) | (k_end; kc_close) | walk1 | (dsimp only; walk1) | (leave1; walk_say "STEP leave1"; (try dsimp only))))
    unfold Stop
    rename News _ _ _ _ => N3
    refine SC.join (l := l) (texts := l.map (·.1)) ⟨_, (N3 _ (List.mem_cons_self ..)).1, rfl, _, rfl⟩ rfl (join_ok (by rw [hflat]; omega)) fun t' k' => ?_
    rw [join_flat, hflat]
    k_steps
    rename Fr _ _ _ _ => F9
    rename News _ _ _ _ => N9
    refine wpAny_execs_nil ?_
    have F8 : Fr _ _ _ (fun y => if y = Str.ofString "word" then _ else lk ((Str.ofString "told", .str told tt) :: m4 sa dl sgl unit head tu th) y) := F9
    rw [lk_cons] at F8
    exact hret _ _ _ F8 (fun q hq => N9 q (List.mem_cons_of_mem _ hq))
end
section
open PySem PySem.W PySem.Calls PyProof.Rows PySem.Spec
set_option maxRecDepth 100000
set_option linter.unusedVariables false
@[reducible] noncomputable def b_6 : List Stmt := lit (show lsl 6 5 = _ by conv => lhs; whnf)
noncomputable abbrev m6 (sa dl sgl : Addr) (unit head : Int) (tu th tt tw : Tok) (told : Str) : List (Str × Value) := (Str.ofString "word", .str told tw) :: (Str.ofString "told", .str told tt) :: m4 sa dl sgl unit head tu th
theorem fr_6 {g h : Heap} {L : Addr} {a b c d : Value} {l : List (Str × Value)} (F : Fr g L h (fun y => if y = Str.ofString "start" then some a else if y = Str.ofString "turns" then some b else if y = Str.ofString "turns" then some c else if y = Str.ofString "whole" then some d else lk l y)) :
    Fr g L h (lk ((Str.ofString "start", a) :: (Str.ofString "turns", b) :: (Str.ofString "whole", d) :: l)) := by
  have e : (fun y => if y = Str.ofString "start" then some a else if y = Str.ofString "turns" then some b else if y = Str.ofString "turns" then some c else if y = Str.ofString "whole" then some d else lk l y) = lk ((Str.ofString "start", a) :: (Str.ofString "turns", b) :: (Str.ofString "whole", d) :: l) := by
    rw [← lk_cons, ← lk_cons, ← lk_cons]
    funext y
    by_cases h : y = Str.ofString "turns"
    · simp [h]
    · simp [h]
  rw [← e]; exact F
set_option maxHeartbeats 4000000 in
theorem st_6 {w : World} {p : Program} {loose : List Str} {mean : ExcName → Option Value} {mg mb : Str → Option Value} {a L dl sgl : Addr} {ccd : Value} {h₀ : Heap} {sa : Addr} {head unit : Int} {th tu tt tw : Tok} {told : Str} {s : Shared} {news : List (Addr × Obj)} {d0 d1 d2 : Int} {t0 t1 t2 : Tok} {dr : List Value} {nn : Nat}
    (Q : Flow → Shared → Prop) (E : Value → Shared → Prop) (B : Below callerA h₀ [] h₀) (F : Fr h₀ L s.heap (lk (m6 sa dl sgl unit head tu th tt tw told))) (X : (K w.params).In h₀)
    (N : News h₀ L s.heap ((dl, W.listOf (.int d0 t0 :: .int d1 t1 :: .int d2 t2 :: dr).toArray nn) :: news)) (T : Top p loose mean mg mb h₀) (hlt : told.length ≤ 20) (h1 : 1 ≤ head) (h3 : head ≤ 3) (hun : bits unit ≤ 4990) (hu18 : 10 ^ 18 ≤ unit) (z1 : bits d1 ≤ 4983) (z2 : bits d2 ≤ 4983)
    (hret : ∀ tn st r ta tb tc tk' h', st = tn * ((head + (told.length : Int)) * unit) + r → 0 ≤ r → r < head * unit → bits st ≤ 12000 →
      Fr h₀ L h' (lk ((Str.ofString "start", .int st ta) :: (Str.ofString "turns", .int tn tb) :: (Str.ofString "whole", .int ((head + (told.length : Int)) * unit) tc) :: m6 sa dl sgl unit head tu th tt tw told)) → News h₀ L h' ((dl, W.listOf (.int d0 t0 :: .int d1 t1 :: .int d2 t2 :: dr).toArray nn) :: news) → Q .next { s with heap := h', toks := tk' }) :
    wpAny (model rw.prog w) (lawA L a ccd) (execs b_6 (lawE L a ccd)) Q E s := by
  revert X
  k_fill
  intro X
  dsimp only [b_6, scope_s23, lit, lawE, lawA]
  unfold lk m6 m4 m3 at F
  have hu0 : 0 < unit := by omega
  have bh : bits (head + (told.length : Int)) ≤ 5 := bits_small (by omega) (by omega)
  have bh2 : bits head ≤ 5 := bits_small (by omega) (by omega)
  have k1 : IntMulOk (head + (told.length : Int)) unit := mul_ok (by omega)
  have k2 : IntMulOk (10 ^ Int.toNat 40) unit := mul_ok (by have : bits (10 ^ Int.toNat 40) ≤ 200 := by decide +kernel
                                                            omega)
  have hp40 : (0 : Int) < 10 ^ Int.toNat 40 * unit := Int.mul_pos (by decide) hu0
  have b40 : bits (10 ^ Int.toNat 40) ≤ 200 := by decide +kernel
  have bT := bits_fmod (a := d1) hp40
  have bm := bits_mul (10 ^ Int.toNat 40) unit
  have bT2 := bits_fdiv (a := d1.fmod (10 ^ Int.toNat 40 * unit)) (b := 2) (by decide)
  have bT3 : bits (-1 - (d1.fmod (10 ^ Int.toNat 40 * unit)).fdiv 2) ≤ 5193 := by
    have e : -1 - (d1.fmod (10 ^ Int.toNat 40 * unit)).fdiv 2 = -1 + -((d1.fmod (10 ^ Int.toNat 40 * unit)).fdiv 2) := by omega
    rw [e]
    have hn : bits (-((d1.fmod (10 ^ Int.toNat 40 * unit)).fdiv 2)) ≤ 5192 := Nat.le_trans (bits_mono (by omega)) (show bits ((d1.fmod (10 ^ Int.toNat 40 * unit)).fdiv 2) ≤ 5192 by omega)
    exact bits_add _ _ 5192 (by decide) hn
  have bw := bits_mul (head + (told.length : Int)) unit
  have k4 : IntMulOk ((d1.fmod (10 ^ Int.toNat 40 * unit)).fdiv 2) ((head + (told.length : Int)) * unit) := mul_ok (by omega)
  have k5 : IntMulOk (-1 - (d1.fmod (10 ^ Int.toNat 40 * unit)).fdiv 2) ((head + (told.length : Int)) * unit) := mul_ok (by omega)
  have k3 : IntMulOk head unit := mul_ok (by omega)
  have n2 : (10 : Int) ^ Int.toNat 40 * unit ≠ 0 := Int.mul_ne_zero (by decide) (by omega)
  have n3 : head * unit ≠ 0 := Int.mul_ne_zero (by omega) (by omega)
  have hhu : 0 < head * unit := Int.mul_pos (by omega) hu0
  have r0 := Int.fmod_nonneg_of_pos (d2.fdiv 3) hhu
  have r1 := Int.fmod_lt_of_pos (d2.fdiv 3) hhu
  have br := bits_fmod (a := d2.fdiv 3) hhu
  have bhu := bits_mul head unit
  have c1 : ∀ tn : Int, bits tn ≤ 5193 → bits (tn * ((head + (told.length : Int)) * unit) + (d2.fdiv 3).fmod (head * unit)) ≤ 12000 := fun tn ht => by
    have := bits_mul tn ((head + (told.length : Int)) * unit)
    have := bits_add (tn * ((head + (told.length : Int)) * unit)) ((d2.fdiv 3).fmod (head * unit)) 11000 (by omega) (by omega)
    omega
  (repeat' (first | ((with_reducible show wpAny _ _ (binaryOp Operator.Mult (Value.int _ _) (Value.int _ _)) _ _ _); k_here; (with_reducible refine mul_int ?_ (by assumption))) | ((with_reducible show wpAny _ _ (binaryOp Operator.Mod (Value.int _ _) (Value.int _ _)) _ _ _); k_here; (with_reducible refine mod_int' ?kbe ?_); (case kbe => first | assumption | omega)) | ((with_reducible show wpAny _ _ (binaryOp Operator.FloorDiv (Value.int _ _) (Value.int _ _)) _ _ _); k_here; (with_reducible refine floordiv_int ?kbe ?_ (Or.inl ?kbp)); (case kbe => first | assumption | omega); (case kbp => exact pylong_ok (by first | assumption | decide))) | (k_unfold; (try dsimp only)) | (k_end; kc_close) | walk1 | (dsimp only; walk1) | (leave1; walk_say "STEP leave1"; (try dsimp only))))
  all_goals first | (exfalso; rename (told != told) = true => hx; simp at hx; done) | skip
  all_goals (rename Fr _ _ _ _ => F9; rename News _ _ _ _ => N9)
  all_goals refine wpAny_execs_nil ?_
  · exact hret _ _ _ _ _ _ _ _ rfl r0 r1 (c1 _ (by omega)) (fr_6 F9) N9
  · exact hret _ _ _ _ _ _ _ _ rfl r0 r1 (c1 _ bT3) (fr_6 F9) N9
end
section
open PySem PySem.W PySem.Calls PyProof.Rows PySem.Spec
set_option maxRecDepth 100000
set_option linter.unusedVariables false
@[reducible] noncomputable def b_11 : List Stmt := lit (show lsl 11 3 = _ by conv => lhs; whnf)
noncomputable abbrev m11 (sa dl sgl : Addr) (unit head st tn wh : Int) (tu th tt tw ta tb tc : Tok) (told : Str) : List (Str × Value) := (Str.ofString "start", .int st ta) :: (Str.ofString "turns", .int tn tb) :: (Str.ofString "whole", .int wh tc) :: m6 sa dl sgl unit head tu th tt tw told
theorem news_lead {h₀ h : Heap} {L : Addr} {a b c : Addr × Obj} {r t r2 : List (Addr × Obj)} {T : Addr × Obj} (N : News h₀ L h (T :: a :: b :: c :: (r ++ (t ++ r2)))) : News h₀ L h (t ++ (a :: b :: c :: (r ++ r2))) := fun q hq => by
  refine N q ?_
  simp only [List.mem_cons, List.mem_append] at hq ⊢
  grind
set_option maxHeartbeats 4000000 in
theorem st_11 {w : World} {p : Program} {loose : List Str} {mean : ExcName → Option Value} {mg mb : Str → Option Value} {a L dl sgl : Addr} {ccd : Value} {h₀ : Heap} {sa : Addr} {head unit st tn wh : Int} {th tu tt tw ta tb tc : Tok} {cs : List Nat} {s : Shared} {tbs rest : List (Addr × Obj)}
    (Q : Flow → Shared → Prop) (E : Value → Shared → Prop) (B : Below callerA h₀ [] h₀) (F : Fr h₀ L s.heap (lk (m11 sa dl sgl unit head st tn wh tu th tt tw ta tb tc ⟨cs.toArray⟩))) (X : (K w.params).In h₀)
    (N : News h₀ L s.heap (tbs ++ rest)) (T : Top p loose mean mg mb h₀) (G : AllBare s.gens) (ht : Tabs tbs) (far : ∀ q ∈ rest, @LT.lt Nat _ 249 q.1) (hne : ∃ q, q ∈ rest) (hL : 249 < L) (C41 : CodeHd h₀ 41 37) (C48 : CodeHd h₀ 48 44)
    (hcs0 : cs ≠ []) (hcs1 : cs.length ≤ 20) (hin : ∀ c ∈ cs, c ∈ lets) (h1 : 1 ≤ head) (h3 : head ≤ 3) (hun : bits unit ≤ 4990) (hu18 : 10 ^ 18 ≤ unit) (hst : bits st ≤ 12000)
    (hret : ∀ s' nl vn nn x dx lo kt its n qs tb', Fr h₀ L s'.heap (lk ((Str.ofString "numbers", .ref nl) :: (Str.ofString "low", .ref lo) :: (Str.ofString "table", .ref x) :: m11 sa dl sgl unit head st tn wh tu th tt tw ta tb tc ⟨cs.toArray⟩)) →
      News h₀ L s'.heap ((nl, W.listOf vn.toArray nn) :: (tb' ++ ((x, accObj 143 dx its n) :: (dx, initObj w.params head th kt) :: ((qs.map pqObj).reverse ++ rest)))) → Tabs tb' → IntsAre vn (st :: laid (lay (head + cs.length) unit (fun c => (cs.count c : Int)) (lowOf head cs)) st cs.reverse) →
      (∀ q ∈ (x, accObj 143 dx its n) :: (dx, initObj w.params head th kt) :: ((qs.map pqObj).reverse ++ rest), @LT.lt Nat _ 249 q.1 ∧ q.1 ≠ nl) → @LT.lt Nat _ 249 nl → its.toList = qs.map (fun q => Value.ref q.1) → PQsAre ⟨cs.toArray⟩ lets qs → AllBare s'.gens → s'.os = s.os → Q .next s') :
    wpAny (model rw.prog w) (lawA L a ccd) (execs b_11 (lawE L a ccd)) Q E s := by
  have hcnt : ∀ c ∈ lets, 0 ≤ Txt.count ⟨cs.toArray⟩ ⟨#[c]⟩ ∧ Txt.count ⟨cs.toArray⟩ ⟨#[c]⟩ ≤ 1000 := fun c _ => by
    rw [count_is']
    have := List.count_le_length (a := c) (l := cs)
    omega
  revert X
  k_fill
  intro X
  dsimp only [b_11, scope_s23, lit, lawE, lawA]
  unfold lk m11 m6 m4 m3 at F
  (repeat' (first | ((with_reducible show wpAny _ _ (call (Value.ref 230) _) _ _ _); refine stop_intro ?_) | (k_unfold; (try dsimp only)) | (k_end; kc_close) | walk1 | (dsimp only; walk1) | (leave1; walk_say "STEP leave1"; (try dsimp only))))
  unfold Stop
  k_dflt (refine' law_tableT _ _ _ _ _ _ _ _ _ _ _ _ _ _ tbs rest _ _ _ ?zB F ?zX N ?zT ?zk ?zd ?zu G ht far (by omega) (by omega) hcnt ?_)
  case zB => k_asm
  case zX => k_asm
  case zT => k_asm
  case zk => first | exact rfl | assumption
  case zd => ktr_room
  case zu => ktr_units
  intro s2 TT x dx lo lobj kvs kt tb2 its n qs F2 N2 ht2 l1 l2 l3 l4 l5 l6 l7 e1 e2 e3 e4 G2 o2
  (repeat' (first | ((with_reducible show wpAny _ _ (call (Value.builtin "len") [Value.ref _]) _ _ _); refine stop_intro ?_) | (k_unfold; (try dsimp only)) | (k_end; kc_close) | walk1 | (dsimp only; walk1) | (leave1; walk_say "STEP leave1"; (try dsimp only))))
  unfold Stop
  rename News _ _ _ _ => N3
  rename Fr _ _ _ _ => F3
  have hcf : (fun c => Txt.count ⟨cs.toArray⟩ ⟨#[c]⟩) = fun c => (cs.count c : Int) := funext fun c => count_is' cs c
  have hsum : (qs.map lenq).sum = (cs.length : Int) := by
    rw [pqs_sum e2 fun c hc => (hcnt c hc).1, hcf, sum_lets cs hin]
  have hqmem : ∀ q ∈ qs, (q.2.1.length ≤ 2 ^ 20 ∧ q.2.2.1.length ≤ 2 ^ 20) := by
    intro q hq
    have hm : (q.2.1, q.2.2.1) ∈ lets.map fun c => (Str.ofString "", Txt.mul ⟨#[c]⟩ (Txt.count ⟨cs.toArray⟩ ⟨#[c]⟩)) := by
      rw [← show qs.map (fun q => (q.2.1, q.2.2.1)) = _ from e2]; exact List.mem_map.mpr ⟨q, hq, rfl⟩
    obtain ⟨c, hc, e⟩ := List.mem_map.mp hm
    have e1' := congrArg Prod.fst e
    have e2' := congrArg Prod.snd e
    dsimp only at e1' e2'
    rw [← e1', ← e2']
    refine ⟨show (Str.ofString "").length ≤ 2 ^ 20 by decide, ?_⟩
    have := len_mul_one (y := ⟨#[c]⟩) (n := Txt.count ⟨cs.toArray⟩ ⟨#[c]⟩) (N := 1000) rfl (hcnt c hc).2
    exact Nat.le_trans this (by decide)
  have hqlen : qs.length = 5 := by
    have := congrArg List.length e2
    simpa [PQsAre] using this
  obtain ⟨q0, hq0⟩ := hne
  have fdx : @LT.lt Nat _ 249 dx := Nat.lt_trans (far q0 hq0) (l1 q0 hq0)
  have flo : @LT.lt Nat _ 249 lo := Nat.lt_trans (Nat.lt_trans fdx l2) l3
  have far2 : ∀ q ∈ (x, accObj 143 dx its n) :: (dx, initObj w.params head th kt) :: (lo, lobj) :: ((qs.map pqObj).reverse ++ rest), @LT.lt Nat _ 249 q.1 := by
    intro q hq
    simp only [List.mem_cons, List.mem_append] at hq
    rcases hq with rfl | rfl | rfl | hq | hq
    · exact Nat.lt_trans fdx l2
    · exact fdx
    · exact flo
    · obtain ⟨y, hy, rfl⟩ := List.mem_map.mp (List.mem_reverse.mp hq)
      exact Nat.lt_trans flo (l5 y hy)
    · exact far q hq
  have hqm2 : ∀ q ∈ qs, pqObj q ∈ (x, accObj 143 dx its n) :: (dx, initObj w.params head th kt) :: (lo, lobj) :: ((qs.map pqObj).reverse ++ rest) := fun q hq =>
    List.mem_cons_of_mem _ (List.mem_cons_of_mem _ (List.mem_cons_of_mem _ (List.mem_append_left _ (List.mem_reverse.mpr (List.mem_map_of_mem hq)))))
  k_dflt (refine' acc_blenT (x := x) (dx := dx) (n := n) (a := head) (t1 := th) (kt := kt) (qs := qs) e1 _ _ _ _ _ _ _ _ _ _ _ _ _ _ tb2 _ _ _ _ ?zB F3 ?zX (news_lead N3) ht2 ?zT ?zk ?zd ?zu (List.mem_cons_self ..) (List.mem_cons_of_mem _ (List.mem_cons_self ..)) far2 ?zG hqm2 hqmem (by omega) (by omega) (by rw [hqlen]; decide) ?_)
  case zB => k_asm
  case zX => k_asm
  case zT => k_asm
  case zk => first | exact rfl | assumption
  case zd => ktr_room
  case zu => ktr_units
  case zG => exact G2
  intro t3 s3 tb3 ht3 F4 N4 G4 o4
  rw [hsum]
  (repeat' (first | ((with_reducible show wpAny _ _ (call (Value.ref 237) _) _ _ _); refine stop_intro ?_) | (k_unfold; (try dsimp only)) | (k_end; kc_close) | walk1 | (dsimp only; walk1) | (leave1; walk_say "STEP leave1"; (try dsimp only))))
  unfold Stop
  have hlow : ∀ c ∈ cs, (∃ t, valueAt kvs ⟨#[c]⟩ = some (.int (lowOf head cs c) t)) ∧ 0 ≤ lowOf head cs c ∧ lowOf head cs c ≤ 30 ∧ 1 ≤ Txt.count ⟨cs.toArray⟩ ⟨#[c]⟩ ∧ Txt.count ⟨cs.toArray⟩ ⟨#[c]⟩ ≤ 30 := by
    intro c hc
    have h1' := low_eq head hin (hin c hc)
    have h2' := low_count (cs := cs) c
    have h3' : 0 < cs.count c := List.count_pos_iff.mpr hc
    refine ⟨?_, by omega, by omega, by rw [count_is']; omega, by rw [count_is']; omega⟩
    obtain ⟨t, ht⟩ := LowIs.at e4 (hin c hc)
    refine ⟨t, ht.trans ?_⟩
    rw [hcf]; rfl
  k_dflt (refine' law_laid (lobj := lobj) (kvs := kvs) (low := lowOf head cs) _ _ _ _ _ _ _ _ _ _ _ _ _ _ tb3 ((x, accObj 143 dx its n) :: (dx, initObj w.params head th kt) :: (lo, lobj) :: ((qs.map pqObj).reverse ++ rest)) _ _ _ ?yB F4 ?yX N4 ?yT ?yk ?yd ?yu hL C41 C48 ht3 far2 (List.mem_cons_of_mem _ (List.mem_cons_of_mem _ (List.mem_cons_self ..))) e3 hcs0 (by omega) (by omega) hu18 (by omega) (by omega) hst hlow ?_)
  case yB => k_asm
  case yX => k_asm
  case yT => k_asm
  case yk => first | exact rfl | assumption
  case yd => ktr_room
  case yu => ktr_units
  intro nl vn nn tb4 h4 tk4 ht4 F5 I5 N5 l8
  rw [hcf] at I5
  have hvn : vn.length = cs.length + 1 := by rw [I5.length, List.length_cons, laid_length, List.length_reverse]
  have hsz : (⟨cs.toArray⟩ : Str).length = cs.length := by show cs.toArray.size = _; simp
  have hslt : (⟨cs.toArray⟩ : Str).length ≤ 20 := by rw [hsz]; exact hcs1
  (repeat' (first | ((with_reducible show wpAny _ _ (call (Value.builtin "len") [Value.ref _]) _ _ _); refine stop_intro ?_) | (k_unfold; (try dsimp only)) | (k_end; kc_close) | walk1 | (dsimp only; walk1) | (leave1; walk_say "STEP leave1"; (try dsimp only))))
  unfold Stop
  rename News _ _ _ _ => N6
  rename Fr _ _ _ _ => F6
  refine len_list ⟨_, (N6 (nl, W.listOf vn.toArray nn) (List.mem_cons_self ..)).1, rfl, _, rfl⟩ (by simp; omega) ?_
  have e9 : ((vn.toArray.size : Nat) : Int) = (cs.length : Int) + 1 := by simp [hvn]
  rw [e9]
  k_steps
  · refine wpAny_execs_nil ?_
    have F7 : Fr _ _ _ (fun y => if y = Str.ofString "numbers" then some (.ref nl) else (fun y => if y = Str.ofString "low" then some (.ref lo) else (fun y => if y = Str.ofString "table" then some (.ref x) else lk (m11 sa dl sgl unit head st tn wh tu th tt tw ta tb tc ⟨cs.toArray⟩) y) y) y) := F6
    rw [lk_cons, lk_cons, lk_cons] at F7
    refine hret _ nl vn nn x dx lo kt its n qs tb4 F7 (fun q hq => N6 q ?_) ht4 I5 (fun q hq => ?_) ?_ e1 e2 G4 (o4.trans o2)
    · simp only [List.mem_cons, List.mem_append] at hq ⊢
      grind
    · have hq2 : q ∈ (x, accObj 143 dx its n) :: (dx, initObj w.params head th kt) :: (lo, lobj) :: ((qs.map pqObj).reverse ++ rest) := by
        simp only [List.mem_cons, List.mem_append] at hq ⊢
        grind
      exact ⟨far2 q hq2, Nat.ne_of_lt (l8 q hq2)⟩
    · exact Nat.lt_trans fdx (l8 (dx, initObj w.params head th kt) (List.mem_cons_of_mem _ (List.mem_cons_self ..)))
end
section
open PySem PySem.W PySem.Calls PyProof.Rows PySem.Spec
set_option maxRecDepth 100000
set_option linter.unusedVariables false
@[reducible] noncomputable def b_14 : List Stmt := lit (show lsl 14 1 = _ by conv => lhs; whnf)
noncomputable abbrev m13 (sa dl sgl nl lo x : Addr) (unit head st tn wh : Int) (tu th tt tw ta tb tc : Tok) (told : Str) : List (Str × Value) := (Str.ofString "numbers", .ref nl) :: (Str.ofString "low", .ref lo) :: (Str.ofString "table", .ref x) :: m11 sa dl sgl unit head st tn wh tu th tt tw ta tb tc told
noncomputable def binR : Expr → Expr
  | .BinOp _ _ b _ => b
  | e => e
@[reducible] noncomputable def body_14 : List Stmt := lit (show forB (nst 23 14) = _ by conv => lhs; whnf)
noncomputable def bst (i : Nat) : Stmt := ((forB (nst 23 14))[i]?).getD (.Pass ⟨0, 0, 0, 0⟩)
@[reducible] noncomputable def elt_14 : Expr := lit (show lcE (callA (binR (binL (asgV (bst 1))))) = _ by conv => lhs; whnf)
@[reducible] noncomputable def tst_14 : Expr := lit (show lcT (callA (binR (binL (asgV (bst 1))))) = _ by conv => lhs; whnf)
@[reducible] noncomputable def scp_14 : Scope := lit (show lcS (callA (binR (binL (asgV (bst 1))))) = _ by conv => lhs; whnf)
noncomputable abbrev cellO (v : Value) : Obj := { cls := .type "cell", data := .cell (some v) }
theorem one_lt {a b : Nat} : ((⟨#[a]⟩ : Str).cps.toList < (⟨#[b]⟩ : Str).cps.toList) ↔ a < b := by
  show ([a] : List Nat) < [b] ↔ a < b
  constructor
  · intro h
    rcases List.cons_lt_cons_iff.mp h with h | ⟨_, h⟩
    · exact h
    · cases h
  · intro h
    exact List.cons_lt_cons_iff.mpr (.inl h)
set_option maxHeartbeats 4000000 in
theorem turn_c {w : World} {p : Program} {loose : List Str} {mean : ExcName → Option Value} {mg mb : Str → Option Value} {a L : Addr} {ccd : Value} {h₀ : Heap} {m m₂ : Str → Option Value} {s : Shared} {I C D : Addr} {oI oC oD : Obj} {news : List (Addr × Obj)} {ch lch : Nat} {u ul : Tok} {oc : Obj} (hdc : oc.data = .cell (some (.str ⟨#[lch]⟩ ul)))
    (E : Value → Shared → Prop) (B : Below callerA h₀ [] h₀) (F : Fr h₀ L s.heap m) (X : (K w.params).In h₀) (N : News h₀ L s.heap ((I, oI) :: (C, oC) :: (D, oD) :: (L + 1, oc) :: news)) (T : Top p loose mean mg mb h₀) (hC : LCg.NsObj oC m₂) (hm : m₂ (Str.ofString "c") = some (.str ⟨#[ch]⟩ u)) :
    wpAny (model rw.prog w) (lawA L a ccd) (isTrue tst_14 (compEnvC scp_14 [(Str.ofString "letter", L + 1)] C (lawE L a ccd)) (eval tst_14 (compEnvC scp_14 [(Str.ofString "letter", L + 1)] C (lawE L a ccd)))) (fun okb s₃ => okb = decide (ch < lch) ∧ (if okb = true then
        wpAny (model rw.prog w) (lawA L a ccd) (eval elt_14 (compEnvC scp_14 [(Str.ofString "letter", L + 1)] C (lawE L a ccd))) (fun y s₄ => (∃ t, y = .str ⟨#[ch]⟩ t) ∧ Same h₀ L m s ((I, oI) :: (C, oC) :: (D, oD) :: (L + 1, oc) :: news) s₄) E s₃
        else Same h₀ L m s ((I, oI) :: (C, oC) :: (D, oD) :: (L + 1, oc) :: news) s₃)) E s := by
  revert X
  k_fill
  intro X
  dsimp only [elt_14, tst_14, scope_s23, scp_14, lit, lawE, lawA]
  (repeat' (first | (k_here; (with_reducible show wpAny _ _ (eval (Expr.Name (Str.ofString "letter") _) (compEnvC _ _ _ _)) _ _ _); k_dflt (refine lcf_cell (by k_asm) (by rfl) (by k_mem) (by assumption) ?_ (by rfl) (by rfl); k_whole)) | (k_unfold; (try dsimp only)) | (k_end; kc_close) | walk1 | (dsimp only; walk1) | (leave1; walk_say "STEP leave1"; (try dsimp only))))
  all_goals first | exact ⟨_, _, rfl, F, N⟩ | exact decide_eq_decide.mpr one_lt
noncomputable def mK (kv bv wv : Option Value) (l : List (Str × Value)) : Str → Option Value := fun y => if y = Str.ofString "wide" then wv else if y = Str.ofString "begin" then bv else if y = Str.ofString "k" then kv else lk l y
theorem len_news {prog : Program} {w : World} {A : Around} {E : Value → Shared → Prop} {s : Shared} {l : Addr} {vs : List Value} {n : Nat} {Q : Value → Shared → Prop} {h₀ : Heap} {L : Addr} {news : List (Addr × Obj)} (N : News h₀ L s.heap news) (hm : (l, W.listOf vs.toArray n) ∈ news) (h1 : vs.length ≤ 1000) (h : ∀ t' k, Q (.int (vs.length : Int) t') { s with toks := k }) :
    wpAny (model prog w) A (call (.builtin "len") [.ref l]) Q E s := by
  refine len_list ⟨_, (N _ hm).1, rfl, _, rfl⟩ (by simp; omega) ?_
  have e : ((vs.toArray.size : Nat) : Int) = (vs.length : Int) := by simp
  rw [e]; exact h _ _
theorem fr_k {g h : Heap} {L : Addr} {l : List (Str × Value)} {a b : Value} {kv bv wv : Option Value} (F : Fr g L h (fun y => if y = Str.ofString "wide" then some a else if y = Str.ofString "begin" then some b else if y = Str.ofString "wide" then wv else if y = Str.ofString "begin" then bv else if y = Str.ofString "k" then kv else lk l y)) : Fr g L h (mK kv (some b) (some a) l) := by
  have e : (fun y => if y = Str.ofString "wide" then some a else if y = Str.ofString "begin" then some b else if y = Str.ofString "wide" then wv else if y = Str.ofString "begin" then bv else if y = Str.ofString "k" then kv else lk l y) = mK kv (some b) (some a) l := by
    funext y
    unfold mK
    by_cases a1 : y = Str.ofString "wide"
    · simp [a1]
    by_cases a2 : y = Str.ofString "begin"
    · simp [a2]
    simp [a1, a2]
  rw [← e]; exact F
set_option maxHeartbeats 4000000 in
theorem turn14 {w : World} {p : Program} {loose : List Str} {mean : ExcName → Option Value} {mg mb : Str → Option Value} {a L dl sgl nl lo x : Addr} {ccd : Value} {h₀ : Heap} {sa : Addr} {head unit st tn wh : Int} {th tu tt tw ta tb tc : Tok} {cs : List Nat} {s : Shared} {tail : List (Addr × Obj)} {co : Option Value} {oc : Obj} {vn : List Value} {nn : Nat} {i : Nat} {ki : Tok} {bv wv : Option Value} {c : Nat} {xX xY : Int} {tX tY : Tok}
    (Q : Flow → Shared → Prop) (E : Value → Shared → Prop) (B : Below callerA h₀ [] h₀) (F : Fr h₀ L s.heap (mK (some (.int (0 + (i : Int)) ki)) bv wv (m13 sa dl sgl nl lo x unit head st tn wh tu th tt tw ta tb tc ⟨cs.toArray⟩))) (X : (K w.params).In h₀)
    (N : News h₀ L s.heap ((L + 1, oc) :: (nl, W.listOf vn.toArray nn) :: tail)) (T : Top p loose mean mg mb h₀) (hE : PassesOwn (model rw.prog w) (lawA L a ccd) (lawE L a ccd) E)
    (hdc : oc.data = .cell co) (n12 : ∀ q ∈ (nl, W.listOf vn.toArray nn) :: tail, q.1 ≠ L + 1)
    (hsl : (⟨cs.toArray⟩ : Str).length ≤ 20) (hcl : cs.length ≤ 1000) (hvl : vn.length ≤ 1000) (hi0 : (0 : Int) ≤ ((⟨cs.toArray⟩ : Str).length : Int) - 1 - (0 + (i : Int))) (hcx : cs[(((⟨cs.toArray⟩ : Str).length : Int) - 1 - (0 + (i : Int))).toNat]? = some c)
    (k1 : IntMulOk (head + ((cs.filter fun d => decide (d < c)).length : Int)) unit) (k2 : IntMulOk (Txt.count ⟨cs.toArray⟩ ⟨#[c]⟩) unit) (hX : vn[((0 : Int) + (i : Int) + 1).toNat]? = some (.int xX tX)) (hY : vn[((0 : Int) + (i : Int)).toNat]? = some (.int xY tY))
    (w0 : 0 < wh) (w1 : bits wh ≤ 9000) (w2 : bits (Txt.count ⟨cs.toArray⟩ ⟨#[c]⟩ * unit) ≤ 9000) (w3 : bits xX ≤ 40000) 
    (c1 : (head + ((cs.filter fun d => decide (d < c)).length : Int)) * unit ≤ xX.fmod wh) (c2 : xX.fmod wh < (head + ((cs.filter fun d => decide (d < c)).length : Int)) * unit + Txt.count ⟨cs.toArray⟩ ⟨#[c]⟩ * unit)
    (c3 : ahead xX wh ((head + ((cs.filter fun d => decide (d < c)).length : Int)) * unit) (Txt.count ⟨cs.toArray⟩ ⟨#[c]⟩ * unit) = xY)
    (hret : ∀ oc' v' bv' wv' tk' h', oc'.data = .cell (some v') → Fr h₀ L h' (mK (some (.int (0 + (i : Int)) ki)) bv' wv' (m13 sa dl sgl nl lo x unit head st tn wh tu th tt tw ta tb tc ⟨cs.toArray⟩)) → News h₀ L h' ((L + 1, oc') :: (nl, W.listOf vn.toArray nn) :: tail) → Q .next { s with heap := h', toks := tk' }) :
    wpAny (model rw.prog w) (lawA L a ccd) (execs body_14 (lawE L a ccd)) Q E s := by
  revert X
  k_fill
  intro X
  dsimp only [body_14, scope_s23, lit, lawE, lawA] at hE ⊢
  unfold mK lk m13 m11 m6 m4 m3 at F
  (repeat' (first | (k_here; (with_reducible show wpAny _ _ (subscriptTail _ _ (Value.str _ _) (Value.int _ _)) _ _ _); (refine item_text (by assumption) (by assumption) (by assumption) ?_); intro _ _) | ((with_reducible show wpAny _ _ (eval (Expr.ListComp ..) _) _ _ _); refine stop_intro ?_) | (k_unfold; (try dsimp only)) | (k_end; kc_close) | walk1 | (dsimp only; walk1) | (leave1; walk_say "STEP leave1"; (try dsimp only))))
  unfold Stop
  rename Fr _ _ _ _ => F2
  rename News _ _ _ _ => N2
  rename (Obj.data _ = Data.cell (some (Value.str _ _))) => d2
  rename_i t2 kk2 h2 oc2
  have hkl : (⟨cs.toArray⟩ : Str).cps.toList = cs := by simp
  refine comp_str (y := ⟨cs.toArray⟩) (ty := tt) (keep := fun ch => decide (ch < c)) (val := fun ch => ⟨#[ch]⟩) (cl := [(Str.ofString "letter", L + 1)]) rfl (by with_unfolding_all rfl) (by decide) (by rfl) (by decide) (by rfl) (fun _ => rfl) ?ziter F2 N2 ?zlen ?zturn ?zfin
  case ziter => k_steps
  case zlen => exact Nat.le_trans hsl (by decide)
  case zturn =>
    intro ch hch I oI C oC D oD m₂ h3 tk3 u3 E' hC hm F3 N3
    exact turn_c d2 E' B F3 X N3 T hC hm
  case zfin =>
    intro D l h3 tk3 n3 hl F3 N3 hD
    rw [hkl] at hl
    have hll : ((strValues l).length : Int) = ((cs.filter fun d => decide (d < c)).length : Int) := by
      have := congrArg List.length hl
      rw [List.length_map, List.length_map] at this
      have e : (strValues l).length = l.length := by simp [strValues]
      omega
    have hll2 : (strValues l).length ≤ 1000 := by
      have := List.length_filter_le (fun d => decide (d < c)) cs
      omega
    (repeat' (first | ((with_reducible show wpAny _ _ (call (Value.builtin "len") [Value.ref _]) _ _ _); refine stop_intro ?_) | (k_unfold; (try dsimp only)) | (k_end; kc_close) | walk1 | (dsimp only; walk1) | (leave1; walk_say "STEP leave1"; (try dsimp only))))
    unfold Stop
    rename News _ _ _ _ => N4
    refine len_news N4 (List.mem_cons_self ..) hll2 fun t5 k5 => ?_
    rw [hll]
    (repeat' (first | (k_here; (with_reducible show wpAny _ _ (subscriptTail _ _ (Value.ref _) (Value.int _ _)) _ _ _); (refine item_news (by k_asm) (by k_mem) (by omega) (by assumption) (by assumption) ?_)) | ((with_reducible show wpAny _ _ (call (Value.ref _) _ _) _ _ _); k_here; k_dflt (apply law_ahead; walk_at "cc"); intro _ _ _ _ _) | ((with_reducible show wpAny _ _ (binaryOp Operator.Mult (Value.int _ _) (Value.int _ _)) _ _ _); k_here; (with_reducible refine mul_int ?_ (by assumption))) | ((with_reducible show wpAny _ _ (binaryOp Operator.Mod (Value.int _ _) (Value.int _ _)) _ _ _); k_here; (with_reducible refine mod_int' ?kbe ?_); (case kbe => first | assumption | omega)) | (k_unfold; (try dsimp only)) | (k_end; kc_close) | walk1 | (dsimp only; walk1) | (leave1; walk_say "STEP leave1"; (try dsimp only))))
    · rename Fr _ _ _ _ => F9
      rename News _ _ _ _ => N9
      exact hret _ _ _ _ _ _ d2 (fr_k F9) (fun q hq => N9 q (List.mem_cons_of_mem _ hq))
end
section
open PySem PySem.W PySem.Calls PyProof.Rows PySem.Spec
set_option maxRecDepth 100000
set_option linter.unusedVariables false
theorem ints_get : ∀ {vs : List Value} {xs : List Int}, IntsAre vs xs → ∀ {i : Nat} {x : Int}, xs[i]? = some x → ∃ t, vs[i]? = some (.int x t)
  | _, _, .nil, i, v, h => by simp at h
  | _, _, .cons x t r, 0, v, h => ⟨t, by simp at h; subst h; rfl⟩
  | _, _, .cons _ _ r, i + 1, v, h => by
    obtain ⟨t, h1⟩ := ints_get r (i := i) (x := v) (by simpa using h)
    exact ⟨t, by simpa using h1⟩
theorem size_range (n : Nat) : Builtin.Range.rangeSize 0 (n : Int) 1 = (n : Int) := by
  unfold Builtin.Range.rangeSize
  simp
  omega
noncomputable def Inv14 (l : List (Str × Value)) (L nl : Addr) (no : Obj) (tail : List (Addr × Obj)) (gs : Array GenState) (os : OsState) (_ : Nat) (m : Str → Option Value) (news : List (Addr × Obj)) (s : Shared) : Prop :=
  ∃ (oc : Obj) (co : Option Value) (kv bv wv : Option Value), oc.data = .cell co ∧ m = mK kv bv wv l ∧ news = (L + 1, oc) :: (nl, no) :: tail ∧ s.gens = gs ∧ s.os = os
theorem mK_none {l : List (Str × Value)} (h1 : lk l (Str.ofString "wide") = none) (h2 : lk l (Str.ofString "begin") = none) (h3 : lk l (Str.ofString "k") = none) : lk l = mK none none none l := by
  funext y
  unfold mK
  by_cases a1 : y = Str.ofString "wide"
  · subst a1; simp [h1]
  by_cases a2 : y = Str.ofString "begin"
  · subst a2; simp [h2]
  by_cases a3 : y = Str.ofString "k"
  · subst a3; simp [h3]
  simp [a1, a2, a3]
theorem mK_k {l : List (Str × Value)} {kv bv wv : Option Value} {v : Value} : (fun y => if y = Str.ofString "k" then some v else mK kv bv wv l y) = mK (some v) bv wv l := by
  funext y
  unfold mK
  by_cases a3 : y = Str.ofString "k"
  · subst a3; rfl
  simp [a3]
set_option maxHeartbeats 4000000 in
theorem st_14 {w : World} {p : Program} {loose : List Str} {mean : ExcName → Option Value} {mg mb : Str → Option Value} {a L dl sgl nl lo x : Addr} {ccd : Value} {h₀ : Heap} {sa : Addr} {head unit st tn wh : Int} {th tu tt tw ta tb tc : Tok} {cs : List Nat} {s : Shared} {tail : List (Addr × Obj)} {co : Option Value} {oc : Obj} {vn : List Value} {nn : Nat}
    (Q : Flow → Shared → Prop) (E : Value → Shared → Prop) (B : Below callerA h₀ [] h₀) (F : Fr h₀ L s.heap (lk (m13 sa dl sgl nl lo x unit head st tn wh tu th tt tw ta tb tc ⟨cs.toArray⟩))) (X : (K w.params).In h₀)
    (N : News h₀ L s.heap ((L + 1, oc) :: (nl, W.listOf vn.toArray nn) :: tail)) (T : Top p loose mean mg mb h₀) (hE : PassesOwn (model rw.prog w) (lawA L a ccd) (lawE L a ccd) E)
    (hdc : oc.data = .cell co) (n12 : ∀ q ∈ (nl, W.listOf vn.toArray nn) :: tail, q.1 ≠ L + 1)
    (hcs0 : cs ≠ []) (hcs1 : cs.length ≤ 20) (hin : ∀ c ∈ cs, c ∈ lets) (h1 : 1 ≤ head) (h3 : head ≤ 3) (hun : bits unit ≤ 4990) (hu18 : 10 ^ 18 ≤ unit) (hst : bits st ≤ 12000) (hwh : wh = (head + cs.length) * unit)
    (iv : IntsAre vn (st :: laid (lay (head + cs.length) unit (fun c => (cs.count c : Int)) (lowOf head cs)) st cs.reverse))
    (hret : ∀ s' oc' co' kv' bv' wv', s'.gens = s.gens → s'.os = s.os → oc'.data = .cell co' → Fr h₀ L s'.heap (mK kv' bv' wv' (m13 sa dl sgl nl lo x unit head st tn wh tu th tt tw ta tb tc ⟨cs.toArray⟩)) → News h₀ L s'.heap ((L + 1, oc') :: (nl, W.listOf vn.toArray nn) :: tail) → Q .next s') :
    wpAny (model rw.prog w) (lawA L a ccd) (execs b_14 (lawE L a ccd)) Q E s := by
  have hsz : (⟨cs.toArray⟩ : Str).length = cs.length := by show cs.toArray.size = _; simp
  have hslt : (⟨cs.toArray⟩ : Str).length ≤ 20 := by rw [hsz]; exact hcs1
  revert X
  k_fill
  intro X
  dsimp only [b_14, scope_s23, lit, lawE, lawA] at hE ⊢
  unfold lk m13 m11 m6 m4 m3 at F
  (repeat' (first | ((with_reducible show wpAny _ _ (exec (Stmt.For ..) _) _ _ _); k_here; refine owit_for ?_ (fun _ => rfl) (by assumption)) | ((with_reducible show wpAny _ _ (pyIter (Value.ref _)) _ _ _); refine stop_intro ?_) | (k_unfold; (try dsimp only)) | (k_end; kc_close) | walk1 | (dsimp only; walk1) | (leave1; walk_say "STEP leave1"; (try dsimp only))))
  unfold Stop
  rename IsRange _ _ _ _ _ _ _ _ => R2
  rename Fr _ _ _ _ => F2
  rename News _ _ _ _ => N2
  rw [hsz] at R2
  -- the plain facts
  have hu0 : 0 < unit := by omega
  have hpos : 0 < cs.length := List.length_pos_iff.mpr hcs0
  have hfc : ∀ c ∈ cs, 0 ≤ lowOf head cs c ∧ lowOf head cs c + (cs.count c : Int) ≤ head + cs.length ∧ 1 ≤ (cs.count c : Int) ∧ lowOf head cs c = head + ((cs.filter fun d => decide (d < c)).length : Int) := fun c hc => by
    have h1' := low_eq head hin (hin c hc)
    have h2' := low_count (cs := cs) c
    have h3' : 0 < cs.count c := List.count_pos_iff.mpr hc
    exact ⟨by omega, by omega, by omega, h1'⟩
  have hbits : ∀ ds : List Nat, (∀ c ∈ ds, c ∈ cs) → ds.length ≤ 20 → bits (valD (lay (head + cs.length) unit (fun c => (cs.count c : Int)) (lowOf head cs)) st ds) ≤ 12200 := fun ds hds hl => by
    have := valD_bits (size := head + cs.length) (cnt := fun c => (cs.count c : Int)) (low := lowOf head cs) (by omega) hu0 (by omega) (by omega) hst ds fun c hc => by
      obtain ⟨g1, g2, g3, g4⟩ := hfc c (hds c hc)
      exact ⟨g1, by omega, g3, by omega⟩
    omega
  have hvl : vn.length ≤ 1000 := by rw [iv.length, List.length_cons, laid_length, List.length_reverse]; omega
  have bwh : bits wh ≤ 9000 := by
    rw [hwh]
    have := bits_mul (head + (cs.length : Int)) unit
    have := bits_small (x := head + (cs.length : Int)) (by omega) (by omega)
    omega
  have wh0 : 0 < wh := by rw [hwh]; exact Int.mul_pos (by omega) hu0
  k_dflt (refine' for_range (prog := rw.prog) (w := w) (A := lawA L a ccd) (env := lawE L a ccd) (a := 0) (n := cs.length) (by exact rfl) (by omega) ?yR (PySem.small_one (by decide) (by decide) (by omega) (by omega)) (size_range _) ?yF ?yN (Inv14 (m13 sa dl sgl nl lo x unit head st tn wh tu th tt tw ta tb tc ⟨cs.toArray⟩) L nl (W.listOf vn.toArray nn) tail s.gens s.os) (fun i m news s h tk h => h) ?y0 ?step ?fin)
  case yR => exact R2
  case yF => exact F2
  case yN => exact N2
  case y0 => exact ⟨oc, co, none, none, none, hdc, mK_none rfl rfl rfl, rfl, rfl, rfl⟩
  case step =>
    intro I i tk m news s' own rest hi hI hn ho ho2 hI0 F3 N3 hre
    obtain ⟨oc', co', kv, bv, wv, hdc', rfl, rfl, hG, hos⟩ := hI
    walk_at "storeName"
    rename Fr _ _ _ _ => F4
    rename News _ _ _ _ => N4
    have hkn : cs.length - (i + 1) < cs.length := by omega
    have hdrop : cs.drop (cs.length - (i + 1)) = cs[cs.length - (i + 1)] :: cs.drop (cs.length - i) := by
      rw [List.drop_eq_getElem_cons hkn]
      congr 2
      omega
    generalize hc : cs[cs.length - (i + 1)] = c at hdrop
    have hcm : c ∈ cs := hc ▸ List.getElem_mem hkn
    obtain ⟨g1, g2, g3, g4⟩ := hfc c hcm
    have gX := laid_get (lay (head + cs.length) unit (fun c => (cs.count c : Int)) (lowOf head cs)) st cs (i + 1) (by omega)
    have gY := laid_get (lay (head + cs.length) unit (fun c => (cs.count c : Int)) (lowOf head cs)) st cs i (by omega)
    rw [hdrop, valD] at gX
    obtain ⟨tX, hX⟩ := ints_get iv gX
    obtain ⟨tY, hY⟩ := ints_get iv gY
    have bX := hbits (c :: cs.drop (cs.length - i)) (fun d hd => by
      rcases List.mem_cons.mp hd with rfl | hd
      · exact hcm
      · exact List.mem_of_mem_drop hd) (by rw [List.length_cons, List.length_drop]; omega)
    rw [valD] at bX
    generalize valD (lay (head + cs.length) unit (fun c => (cs.count c : Int)) (lowOf head cs)) st (cs.drop (cs.length - i)) = Y at *
    have e1 : (((⟨cs.toArray⟩ : Str).length : Int) - 1 - (0 + (i : Int))) = ((cs.length - (i + 1) : Nat) : Int) := by rw [hsz]; omega
    have hlr := lay_ring (x := Y) (cnt := fun c => (cs.count c : Int)) (low := lowOf head cs) (size := head + cs.length) (c := c) hu0 g3 g1 g2
    have hla := lay_ahead (x := Y) (cnt := fun c => (cs.count c : Int)) (low := lowOf head cs) (size := head + cs.length) (c := c) hu0 g3 g1 g2
    have r0 := Int.fmod_nonneg_of_pos Y (b := (cs.count c : Int) * unit) (Int.mul_pos (by omega) hu0)
    have r1 := Int.fmod_lt_of_pos Y (b := (cs.count c : Int) * unit) (Int.mul_pos (by omega) hu0)
    have bcnt := bits_small (x := (cs.count c : Int)) (by omega) (by omega)
    have bcu := bits_mul (cs.count c : Int) unit
    have blow := bits_small (x := lowOf head cs c) (by omega) (by omega)
    refine turn14 (dl := dl) (sgl := sgl) (nl := nl) (lo := lo) (x := x) (sa := sa) (head := head) (unit := unit) (st := st) (tn := tn) (th := th) (tu := tu) (tt := tt) (tw := tw) (ta := ta) (tb := tb) (tc := tc) (nn := nn) (ki := ?zki) (tX := tX) (tY := tY) (co := co') (oc := oc') (c := c) (xX := lay (head + cs.length) unit (fun c => (cs.count c : Int)) (lowOf head cs) Y c) (xY := Y) (tail := own ++ tail) (bv := bv) (wv := wv) _ _ B ?fF X ?fN T hE hdc' ?fn hslt (by omega) hvl (by rw [e1]; omega) ?fc ?fk1 ?fk2 ?fX ?fY wh0 bwh ?fw2 (by omega) ?fc1 ?fc2 ?fc3 ?fret
    case fF => rw [← mK_k]; exact F4
    case fN =>
      intro q hq
      refine N4 q ?_
      simp only [List.mem_cons, List.mem_append] at hq ⊢
      grind
    case fn =>
      intro q hq
      have hI1 : I ≠ L + 1 := (hn (L + 1, oc') (List.mem_cons_self ..)).symm
      simp only [List.mem_cons, List.mem_append] at hq
      rcases hq with rfl | hq | hq
      · exact n12 _ (List.mem_cons_self ..)
      · rw [ho q hq]; exact hI1
      · exact n12 q (List.mem_cons_of_mem _ hq)
    case fc => rw [e1, Int.toNat_natCast, List.getElem?_eq_getElem hkn, hc]
    case fk1 => rw [← g4]; exact mul_ok (by omega)
    case fk2 => rw [count_is']; exact mul_ok (by omega)
    case fX =>
      have : ((0 : Int) + (i : Int) + 1).toNat = i + 1 := by omega
      rw [this]; exact hX
    case fY =>
      have : ((0 : Int) + (i : Int)).toNat = i := by omega
      rw [this]; exact hY
    case fw2 => rw [count_is']; omega
    case fc1 => rw [← g4, hwh, hlr.2]; omega
    case fc2 => rw [← g4, hwh, hlr.2, count_is']; omega
    case fc3 => rw [← g4, hwh, count_is']; exact hla
    case fret =>
      intro oc2 v2 bv2 wv2 tk2 h2 hd2 F5 N5
      have hnI : ∀ q ∈ (L + 1, oc2) :: (nl, W.listOf vn.toArray nn) :: tail, q.1 ≠ I := by
        intro q hq
        rcases List.mem_cons.mp hq with rfl | hq
        · exact hn (L + 1, oc') (List.mem_cons_self ..)
        · exact hn q (List.mem_cons_of_mem _ hq)
      refine hre _ ((L + 1, oc2) :: (nl, W.listOf vn.toArray nn) :: tail) _ F5 (fun q hq => N5 q ?_) hnI ⟨oc2, some v2, _, bv2, wv2, hd2, rfl, rfl, hG, hos⟩
      simp only [List.mem_cons, List.mem_append] at hq ⊢
      grind
  case fin =>
    intro m news s' F3 N3 hI
    obtain ⟨oc', co', kv, bv, wv, hdc', rfl, rfl, hG, hos⟩ := hI
    refine wpAny_execs_nil ?_
    exact hret s' oc' co' kv bv wv hG hos hdc' F3 N3
end
section
open PySem PySem.W PySem.Calls PyProof.Rows PySem.Spec
set_option maxRecDepth 100000
set_option linter.unusedVariables false
@[reducible] noncomputable def b_15 : List Stmt := lit (show lsl 15 5 = _ by conv => lhs; whnf)
/-- the names while the word is read -/
noncomputable def mR (_ : Option Value) (t1 t2 t3 t4 t5 t6 : Tok) (num many rst : Int) (read : Str) (rl : List Nat) (ring : Int) (z : Str → Option Value) : Str → Option Value := fun y =>
  if y = Str.ofString "rest" then some (.int rst t1) else if y = Str.ofString "many" then some (.int many t2) else if y = Str.ofString "number" then some (.int num t3) else if y = Str.ofString "read" then some (.str read t4) else if y = Str.ofString "row" then some (.str ⟨rl.toArray⟩ t5) else if y = Str.ofString "ring" then some (.int ring t6) else z y
set_option maxHeartbeats 4000000 in
theorem st_15 {w : World} {p : Program} {loose : List Str} {mean : ExcName → Option Value} {mg mb : Str → Option Value} {a L dl sgl nl lo x dx : Addr} {ccd : Value} {h₀ : Heap} {sa : Addr} {head unit st tn wh : Int} {th tu tt tw ta tb tc kt : Tok} {cs : List Nat} {s : Shared} {tbs rest : List (Addr × Obj)} {oc : Obj} {vs : List Value} {num : Int} {tnum : Tok} {nn n : Nat} {kv bv wv : Option Value} {its : Array Value} {qs : List PQ}
    (Q : Flow → Shared → Prop) (E : Value → Shared → Prop) (B : Below callerA h₀ [] h₀) (F : Fr h₀ L s.heap (mK kv bv wv (m13 sa dl sgl nl lo x unit head st tn wh tu th tt tw ta tb tc ⟨cs.toArray⟩))) (X : (K w.params).In h₀)
    (N : News h₀ L s.heap (tbs ++ ((L + 1, oc) :: (nl, W.listOf (vs ++ [Value.int num tnum]).toArray nn) :: (x, accObj 143 dx its n) :: (dx, initObj w.params head th kt) :: ((qs.map pqObj).reverse ++ rest)))) (T : Top p loose mean mg mb h₀)
    (G : AllBare s.gens) (ht : Tabs tbs) (far : ∀ q ∈ (L + 1, oc) :: (nl, W.listOf (vs ++ [Value.int num tnum]).toArray nn) :: (x, accObj 143 dx its n) :: (dx, initObj w.params head th kt) :: ((qs.map pqObj).reverse ++ rest), @LT.lt Nat _ 249 q.1) (hL : 249 < L) (C41 : CodeHd h₀ 41 37) (C48 : CodeHd h₀ 48 44)
    (hcs1 : cs.length ≤ 20) (hin : ∀ c ∈ cs, c ∈ lets) (h1 : 1 ≤ head) (h3 : head ≤ 3) (hun : bits unit ≤ 4990) (hu18 : 10 ^ 18 ≤ unit) (hnum : bits num ≤ 12200)
    (hits : its.toList = qs.map (fun q => Value.ref q.1)) (hqs : PQsAre ⟨cs.toArray⟩ lets qs)
    (hret : ∀ s' tb' t1 t2 t3 t4 t5 t6, AllBare s'.gens → s'.os = s.os → Tabs tb' → Fr h₀ L s'.heap (mR none t1 t2 t3 t4 t5 t6 num (num.fdiv ((head + cs.length) * unit)) (num.fmod ((head + cs.length) * unit)) (Str.ofString "") (rowL cs) ((head + cs.length) * unit) (mK kv bv wv (m13 sa dl sgl nl lo x unit head st tn wh tu th tt tw ta tb tc ⟨cs.toArray⟩))) →
      News h₀ L s'.heap (tb' ++ ((L + 1, oc) :: (nl, W.listOf (vs ++ [Value.int num tnum]).toArray nn) :: (x, accObj 143 dx its n) :: (dx, initObj w.params head th kt) :: ((qs.map pqObj).reverse ++ rest))) → Q .next s') :
    wpAny (model rw.prog w) (lawA L a ccd) (execs b_15 (lawE L a ccd)) Q E s := by
  have hcnt : ∀ c ∈ lets, 0 ≤ Txt.count ⟨cs.toArray⟩ ⟨#[c]⟩ ∧ Txt.count ⟨cs.toArray⟩ ⟨#[c]⟩ ≤ 1000 := fun c _ => by
    rw [count_is']
    have := List.count_le_length (a := c) (l := cs)
    omega
  have hcf : (fun c => Txt.count ⟨cs.toArray⟩ ⟨#[c]⟩) = fun c => (cs.count c : Int) := funext fun c => count_is' cs c
  have hsum : (qs.map lenq).sum = (cs.length : Int) := by
    rw [pqs_sum hqs fun c hc => (hcnt c hc).1, hcf, sum_lets cs hin]
  have hq0 : ∀ q ∈ qs, ∃ c ∈ lets, q.2.1 = Str.ofString "" ∧ q.2.2.1 = Txt.mul ⟨#[c]⟩ (Txt.count ⟨cs.toArray⟩ ⟨#[c]⟩) := by
    intro q hq
    have hm : (q.2.1, q.2.2.1) ∈ lets.map fun c => (Str.ofString "", Txt.mul ⟨#[c]⟩ (Txt.count ⟨cs.toArray⟩ ⟨#[c]⟩)) := by
      rw [← show qs.map (fun q => (q.2.1, q.2.2.1)) = _ from hqs]; exact List.mem_map.mpr ⟨q, hq, rfl⟩
    obtain ⟨c, hc, e⟩ := List.mem_map.mp hm
    exact ⟨c, hc, (congrArg Prod.fst e).symm, (congrArg Prod.snd e).symm⟩
  have hqmem : ∀ q ∈ qs, (q.2.1.length ≤ 2 ^ 20 ∧ q.2.2.1.length ≤ 2 ^ 20) := by
    intro q hq
    obtain ⟨c, hc, e1, e2⟩ := hq0 q hq
    rw [e1, e2]
    refine ⟨show (Str.ofString "").length ≤ 2 ^ 20 by decide, ?_⟩
    have := len_mul_one (y := ⟨#[c]⟩) (n := Txt.count ⟨cs.toArray⟩ ⟨#[c]⟩) (N := 1000) rfl (hcnt c hc).2
    exact Nat.le_trans this (by decide)
  have hqlen : qs.length = 5 := by
    have := congrArg List.length hqs
    simpa [PQsAre] using this
  have hrow : (qs.map strq).flatMap (fun y => y.cps.toList) = rowL cs := by
    have e1 : (qs.map strq).flatMap (fun y => y.cps.toList) = (qs.map fun q => (q.2.1, q.2.2.1)).flatMap fun p : Str × Str => p.1.cps.toList ++ p.2.cps.toList := by
      rw [List.flatMap_map, List.flatMap_map]
      congr 1
      funext q
      unfold strq
      rw [join_flat]
      simp
    rw [e1, show qs.map (fun q => (q.2.1, q.2.2.1)) = _ from hqs, List.flatMap_map]
    unfold rowL
    congr 1
    funext c
    rw [count_is', mul_one_text]
    have e0 : (Str.ofString "").cps = #[] := by decide
    simp [e0]
  have hqm2 : ∀ q ∈ qs, pqObj q ∈ (L + 1, oc) :: (nl, W.listOf (vs ++ [Value.int num tnum]).toArray nn) :: (x, accObj 143 dx its n) :: (dx, initObj w.params head th kt) :: ((qs.map pqObj).reverse ++ rest) := fun q hq =>
    List.mem_cons_of_mem _ (List.mem_cons_of_mem _ (List.mem_cons_of_mem _ (List.mem_cons_of_mem _ (List.mem_append_left _ (List.mem_reverse.mpr (List.mem_map_of_mem hq))))))
  have bsz := bits_small (x := head + (cs.length : Int)) (by omega) (by omega)
  have k1 : IntMulOk (head + (cs.length : Int)) unit := mul_ok (by omega)
  have bring := bits_mul (head + (cs.length : Int)) unit
  have hpr : unit ≤ (head + (cs.length : Int)) * unit := by
    have := Int.mul_le_mul_of_nonneg_right (show 1 ≤ head + (cs.length : Int) by omega) (show 0 ≤ unit by omega)
    omega
  have b60 := bits_unit (show 10 ^ 18 ≤ (head + (cs.length : Int)) * unit by omega)
  revert X
  k_fill
  intro X
  dsimp only [b_15, scope_s23, lit, lawE, lawA]
  unfold mK lk m13 m11 m6 m4 m3 at F
  (repeat' (first | ((with_reducible show wpAny _ _ (call (Value.builtin "len") [Value.ref _]) _ _ _); refine stop_intro ?_) | (k_unfold; (try dsimp only)) | (k_end; kc_close) | walk1 | (dsimp only; walk1) | (leave1; walk_say "STEP leave1"; (try dsimp only))))
  unfold Stop
  k_dflt (refine' acc_blenT (x := x) (dx := dx) (n := n) (a := head) (t1 := th) (kt := kt) (qs := qs) hits _ _ _ _ _ _ _ _ _ _ _ _ _ _ tbs _ _ _ _ ?zB F ?zX N ht ?zT ?zk ?zd ?zu (by first | (solve | repeat (first | exact .head _ | apply List.Mem.tail)) | simp) (by first | (solve | repeat (first | exact .head _ | apply List.Mem.tail)) | simp) far ?zG hqm2 hqmem (by omega) (by omega) (by rw [hqlen]; decide) ?_)
  case zB => k_asm
  case zX => k_asm
  case zT => k_asm
  case zk => first | exact rfl | assumption
  case zd => ktr_room
  case zu => ktr_units
  case zG => exact G
  intro t3 s3 tb3 ht3 F4 N4 G4 o4
  rw [hsum]
  (repeat' (first | ((with_reducible show wpAny _ _ (call (Value.type "str") [Value.ref _]) _ _ _); refine stop_intro ?_) | ((with_reducible show wpAny _ _ (binaryOp Operator.Mult (Value.int _ _) (Value.int _ _)) _ _ _); k_here; (with_reducible refine mul_int ?_ (by assumption))) | (k_unfold; (try dsimp only)) | (k_end; kc_close) | walk1 | (dsimp only; walk1) | (leave1; walk_say "STEP leave1"; (try dsimp only))))
  unfold Stop
  rename News _ _ _ _ => N5
  rename Fr _ _ _ _ => F5
  k_dflt (refine' acc_bstrT (x := x) (dx := dx) (n := n) (a := head) (t1 := th) (kt := kt) (qs := qs) hits _ _ _ _ _ _ _ _ _ _ _ _ _ _ tb3 _ _ _ _ ?yB F5 ?yX N5 ht3 ?yT ?yk ?yd ?yu (by first | (solve | repeat (first | exact .head _ | apply List.Mem.tail)) | simp) (by first | (solve | repeat (first | exact .head _ | apply List.Mem.tail)) | simp) far ?yG hqm2 hqmem (by rw [hqlen]; decide) (join_ok (by rw [hrow, row_len cs hin]; omega)) ?_)
  case yB => k_asm
  case yX => k_asm
  case yT => k_asm
  case yk => first | exact rfl | assumption
  case yd => ktr_room
  case yu => ktr_units
  case yG => exact G4
  intro t6 s6 tb6 ht6 F6 N6 G6 o6
  rw [join_flat, hrow]
  (repeat' (first | ((with_reducible show wpAny _ _ (call (Value.ref 63) _) _ _ _); refine stop_intro ?_) | (k_here; (with_reducible show wpAny _ _ (subscriptTail _ _ (Value.ref _) (Value.int (-1) _)) _ _ _); k_dflt (refine item_last (by k_asm) (by k_mem) ?_)) | (k_unfold; (try dsimp only)) | (k_end; kc_close) | walk1 | (dsimp only; walk1) | (leave1; walk_say "STEP leave1"; (try dsimp only))))
  unfold Stop
  rename News _ _ _ _ => N7
  rename Fr _ _ _ _ => F7
  k_dflt (refine' idmT (by omega) (by omega) (by omega) (by omega) _ _ _ _ _ _ _ _ _ _ _ _ _ _ tb6 _ _ _ _ ?xB F7 ?xX N7 ?xT ?xk ?xd ?xu hL C41 C48 ht6 far ?_)
  case xB => k_asm
  case xX => k_asm
  case xT => k_asm
  case xk => first | exact rfl | assumption
  case xd => ktr_room
  case xu => ktr_units
  intro TT u8 v8 tb8 h8 tk8 ht8 F8 N8 l8
  k_steps
  rename News _ _ _ _ => N9
  rename Fr _ _ _ _ => F9
  refine wpAny_execs_nil ?_
  exact hret _ tb8 _ _ _ _ _ _ G6 (o6.trans o4) ht8 F9 (fun q hq => N9 q (List.mem_cons_of_mem _ hq))
end
section
open PySem PySem.W PySem.Calls PyProof.Rows PySem.Spec
set_option maxRecDepth 100000
set_option linter.unusedVariables false
@[reducible] noncomputable def body_20 : List Stmt := lit (show whB (nst 23 20) = _ by conv => lhs; whnf)
@[reducible] noncomputable def test_20 : Expr := lit (show whT (nst 23 20) = _ by conv => lhs; whnf)
noncomputable abbrev mZ (sa dl sgl nl lo x : Addr) (unit head st tn wh : Int) (tu th tt tw ta tb tc : Tok) (told : Str) (kv bv wv : Option Value) (t1 t2 t3 t4 t5 t6 : Tok) (num many rst : Int) (read : Str) (rl : List Nat) (ring : Int) : Str → Option Value :=
  mR none t1 t2 t3 t4 t5 t6 num many rst read rl ring (mK kv bv wv (m13 sa dl sgl nl lo x unit head st tn wh tu th tt tw ta tb tc told))
theorem news_mid {h₀ h : Heap} {L : Addr} {a : Addr × Obj} {t r : List (Addr × Obj)} (N : News h₀ L h (a :: (t ++ r))) : News h₀ L h (t ++ (a :: r)) := fun q hq => by
  refine N q ?_
  simp only [List.mem_cons, List.mem_append] at hq ⊢
  grind
theorem news_mid2 {h₀ h : Heap} {L : Addr} {T a : Addr × Obj} {t r : List (Addr × Obj)} (N : News h₀ L h (T :: (t ++ (a :: r)))) : News h₀ L h (a :: (t ++ r)) := fun q hq => by
  refine N q ?_
  simp only [List.mem_cons, List.mem_append] at hq ⊢
  grind
theorem fr_r {g h : Heap} {L : Addr} {z : Str → Option Value} {t1 t2 t3 t4 t5 t6 u1 u2 u3 u4 : Tok} {num many rst ring num' many' rst' : Int} {read read' : Str} {rl : List Nat}
    (F : Fr g L h (fun y => if y = Str.ofString "rest" then some (.int rst' u1) else if y = Str.ofString "many" then some (.int many' u2) else if y = Str.ofString "number" then some (.int num' u3) else if y = Str.ofString "read" then some (.str read' u4) else if y = Str.ofString "rest" then some (.int rst t1) else if y = Str.ofString "many" then some (.int many t2) else if y = Str.ofString "number" then some (.int num t3) else if y = Str.ofString "read" then some (.str read t4) else if y = Str.ofString "row" then some (.str ⟨rl.toArray⟩ t5) else if y = Str.ofString "ring" then some (.int ring t6) else z y)) :
    Fr g L h (mR none u1 u2 u3 u4 t5 t6 num' many' rst' read' rl ring z) := by
  have e : (fun y => if y = Str.ofString "rest" then some (.int rst' u1) else if y = Str.ofString "many" then some (.int many' u2) else if y = Str.ofString "number" then some (.int num' u3) else if y = Str.ofString "read" then some (.str read' u4) else if y = Str.ofString "rest" then some (.int rst t1) else if y = Str.ofString "many" then some (.int many t2) else if y = Str.ofString "number" then some (.int num t3) else if y = Str.ofString "read" then some (.str read t4) else if y = Str.ofString "row" then some (.str ⟨rl.toArray⟩ t5) else if y = Str.ofString "ring" then some (.int ring t6) else z y) = mR none u1 u2 u3 u4 t5 t6 num' many' rst' read' rl ring z := by
    funext y
    unfold mR
    by_cases a1 : y = Str.ofString "rest"
    · simp [a1]
    by_cases a2 : y = Str.ofString "many"
    · simp [a2]
    by_cases a3 : y = Str.ofString "number"
    · simp [a3]
    by_cases a4 : y = Str.ofString "read"
    · simp [a4]
    simp [a1, a2, a3, a4]
  rw [← e]; exact F
set_option maxHeartbeats 4000000 in
theorem turn20w {w : World} {p : Program} {loose : List Str} {mean : ExcName → Option Value} {mg mb : Str → Option Value} {a L dl sgl nl lo x : Addr} {ccd : Value} {h₀ : Heap} {sa : Addr} {head unit st tn wh : Int} {th tu tt tw ta tb tc : Tok} {cs : List Nat} {s : Shared} {tbs rest : List (Addr × Obj)} {oc : Obj} {co kv bv wv : Option Value} {t1 t2 t3 t4 t5 t6 : Tok} {num many rst ring num' iv : Int} {read : Str} {rl : List Nat} {c : Nat} {k : Nat}
    (Q : Flow → Shared → Prop) (E : Value → Shared → Prop) (B : Below callerA h₀ [] h₀) (F : Fr h₀ L s.heap (mZ sa dl sgl nl lo x unit head st tn wh tu th tt tw ta tb tc ⟨cs.toArray⟩ kv bv wv t1 t2 t3 t4 t5 t6 num many rst read rl ring)) (X : (K w.params).In h₀)
    (N : News h₀ L s.heap ((L + 1, oc) :: (tbs ++ rest))) (T : Top p loose mean mg mb h₀) (hE : PassesOwn (model rw.prog w) (lawA L a ccd) (lawE L a ccd) E)
    (hdc : oc.data = .cell co) (n12 : ∀ q ∈ rest, q.1 ≠ L + 1) (ht : Tabs tbs) (far : ∀ q ∈ rest, @LT.lt Nat _ 249 q.1) (hL : 249 < L) (C41 : CodeHd h₀ 41 37) (C48 : CodeHd h₀ 48 44)
    (hsl : (⟨cs.toArray⟩ : Str).length ≤ 20) (hrl : rl.length ≤ 1000) (hun0 : unit ≠ 0) (hunb : bits unit ≤ 9000)
    (q1 : IntMulOk head unit) (q2 : IntMulOk many (Txt.count ⟨rl.toArray⟩ ⟨#[c]⟩)) (q3 : IntMulOk (many * Txt.count ⟨rl.toArray⟩ ⟨#[c]⟩) unit) (q4 : IntMulOk (head + iv) unit)
    (c1 : head * unit ≤ rst) (c2 : read.length < (⟨cs.toArray⟩ : Str).length) (hi0 : 0 ≤ rst.fdiv unit - head) (hix : rl[(rst.fdiv unit - head).toNat]? = some c) (hsz : read.length + (⟨#[c]⟩ : Str).length ≤ sizeLine)
    (hidx : ∃ pre post, rl = pre ++ c :: post ∧ c ∉ pre ∧ (pre.length : Int) = iv) (hnum : many * Txt.count ⟨rl.toArray⟩ ⟨#[c]⟩ * unit + rst - (head + iv) * unit = num')
    (hb : ring ≠ 0) (hbb : bits ring ≤ 7999) (hab : bits num' + bits ring ≤ 40000) (hkk : bits num' ≤ 255 * bits ring)
    (hret : ∀ oc' v' tb' h' tk' u1 u2 u3 u4, oc'.data = .cell (some v') → Tabs tb' → Fr h₀ L h' (mZ sa dl sgl nl lo x unit head st tn wh tu th tt tw ta tb tc ⟨cs.toArray⟩ kv bv wv u1 u2 u3 u4 t5 t6 num' (num'.fdiv ring) (num'.fmod ring) (read ++ ⟨#[c]⟩) rl ring) → News h₀ L h' ((L + 1, oc') :: (tb' ++ rest)) →
      WhlRest rw.prog w (lawA L a ccd) E (lawE L a ccd) test_20 body_20 [] Q k { s with heap := h', toks := tk' }) :
    WhlRest rw.prog w (lawA L a ccd) E (lawE L a ccd) test_20 body_20 [] Q (k + 1) s := by
  have ap := tabs_apart (a := L + 1) (o := oc) N (fun q hq => by simp [hq]) ht (by first | (solve | repeat (first | exact .head _ | apply List.Mem.tail)) | simp) (fun vs e => by rw [hdc] at e; cases e)
  have n13 : ∀ q ∈ tbs ++ rest, q.1 ≠ L + 1 := fun q hq => by
    rcases List.mem_append.mp hq with hq | hq
    · exact ap q hq
    · exact n12 q hq
  revert X
  k_fill
  intro X
  refine whl_turn hE ?_
  dsimp only [body_20, test_20, scope_s23, lit, lawE, lawA] at hE ⊢
  unfold mZ mR mK lk m13 m11 m6 m4 m3 at F
  (repeat' (first | (k_here; (with_reducible show wpAny _ _ (subscriptTail _ _ (Value.str _ _) (Value.int _ _)) _ _ _); (refine item_text (by assumption) (by assumption) (by assumption) ?_); intro _ _) | (k_here; (with_reducible show wpAny _ _ (inplaceOp Operator.Add (Value.str _ _) (Value.str _ _)) _ _ _); (refine SB.iadd ?_ (by assumption)); intro _ _) | (k_here; (with_reducible show wpAny _ _ (call (Value.builtin "str.index") [Value.str _ _, Value.str _ _]) _ _ _); (refine index_is (by assumption) ?_ (by exact rfl)); intro _ _) | ((with_reducible show wpAny _ _ (call (Value.ref 63) _) _ _ _); refine stop_intro ?_) | ((with_reducible show wpAny _ _ (binaryOp Operator.FloorDiv (Value.int _ _) (Value.int _ _)) _ _ _); k_here; (with_reducible refine floordiv_int ?kbe ?_ (Or.inl ?kbp)); (case kbe => first | assumption | omega); (case kbp => exact pylong_ok (by first | assumption | decide))) | ((with_reducible show wpAny _ _ (binaryOp Operator.Mult (Value.int _ _) (Value.int _ _)) _ _ _); k_here; (with_reducible refine mul_int ?_ (by assumption))) | (k_unfold; (try dsimp only)) | (k_end; kc_close) | walk1 | (dsimp only; walk1) | (leave1; walk_say "STEP leave1"; (try dsimp only))))
  unfold Stop
  rename News _ _ _ _ => N2
  rename Fr _ _ _ _ => F2
  rename (Obj.data _ = Data.cell (some (Value.str _ _))) => d2
  rename Obj => oc2
  rw [hnum]
  have far2 : ∀ q ∈ (L + 1, oc2) :: rest, @LT.lt Nat _ 249 q.1 := fun q hq => by
    rcases List.mem_cons.mp hq with rfl | hq
    · exact Nat.lt_succ_of_lt hL
    · exact far q hq
  k_dflt (refine' idmT hb hbb hab hkk _ _ _ _ _ _ _ _ _ _ _ _ _ _ tbs ((L + 1, oc2) :: rest) _ _ _ ?xB F2 ?xX (news_mid N2) ?xT ?xk ?xd ?xu hL C41 C48 ht far2 ?_)
  case xB => k_asm
  case xX => k_asm
  case xT => k_asm
  case xk => first | exact rfl | assumption
  case xd => ktr_room
  case xu => ktr_units
  intro TT u8 v8 tb8 h8 tk8 ht8 F8 N8 l8
  (repeat' (first | ((with_reducible show WhlPost ..); refine stop_intro ?_) | (k_unfold; (try dsimp only)) | (k_end; kc_close) | walk1 | (dsimp only; walk1) | (leave1; walk_say "STEP leave1"; (try dsimp only))))
  unfold Stop
  rename News _ _ _ _ => N9
  rename Fr _ _ _ _ => F9
  dsimp +zetaDelta only at F9
  rw [hnum] at F9
  exact hret _ _ tb8 _ _ _ _ _ _ d2 ht8 (fr_r F9) (news_mid2 N9)
end
section
open PySem PySem.W PySem.Calls PyProof.Rows PySem.Spec
set_option maxRecDepth 100000
set_option linter.unusedVariables false
set_option maxHeartbeats 4000000 in
theorem end20w {w : World} {p : Program} {loose : List Str} {mean : ExcName → Option Value} {mg mb : Str → Option Value} {a L dl sgl nl lo x : Addr} {ccd : Value} {h₀ : Heap} {sa : Addr} {head unit st tn wh : Int} {th tu tt tw ta tb tc : Tok} {cs : List Nat} {s : Shared} {news : List (Addr × Obj)} {kv bv wv : Option Value} {t1 t2 t3 t4 t5 t6 : Tok} {num many rst ring : Int} {read : Str} {rl : List Nat} {k : Nat}
    (Q : Flow → Shared → Prop) (E : Value → Shared → Prop) (B : Below callerA h₀ [] h₀) (F : Fr h₀ L s.heap (mZ sa dl sgl nl lo x unit head st tn wh tu th tt tw ta tb tc ⟨cs.toArray⟩ kv bv wv t1 t2 t3 t4 t5 t6 num many rst read rl ring)) (X : (K w.params).In h₀)
    (N : News h₀ L s.heap news) (T : Top p loose mean mg mb h₀) (hE : PassesOwn (model rw.prog w) (lawA L a ccd) (lawE L a ccd) E)
    (q1 : IntMulOk head unit) (c1 : rst < head * unit)
    (hret : ∀ h' tk', Fr h₀ L h' (mZ sa dl sgl nl lo x unit head st tn wh tu th tt tw ta tb tc ⟨cs.toArray⟩ kv bv wv t1 t2 t3 t4 t5 t6 num many rst read rl ring) → News h₀ L h' news → Q .next { s with heap := h', toks := tk' }) :
    WhlRest rw.prog w (lawA L a ccd) E (lawE L a ccd) test_20 body_20 [] Q (k + 1) s := by
  revert X
  k_fill
  intro X
  refine whl_turn hE ?_
  dsimp only [body_20, test_20, scope_s23, lit, lawE, lawA] at hE ⊢
  unfold mZ mR mK lk m13 m11 m6 m4 m3 at F
  k_steps
  rename Fr _ _ _ _ => F2
  rename News _ _ _ _ => N2
  exact hret _ _ F2 N2
@[reducible] noncomputable def b_21 : List Stmt := lit (show lsl 21 1 = _ by conv => lhs; whnf)
set_option maxHeartbeats 4000000 in
theorem st_21 {w : World} {p : Program} {loose : List Str} {mean : ExcName → Option Value} {mg mb : Str → Option Value} {a L dl sgl nl lo x : Addr} {ccd : Value} {h₀ : Heap} {sa : Addr} {head unit st tn wh : Int} {th tu tt tw ta tb tc : Tok} {cs : List Nat} {s : Shared} {news : List (Addr × Obj)} {kv bv wv : Option Value} {t1 t2 t3 t4 t5 t6 : Tok} {many rst ring : Int} {rl : List Nat} {k : Nat}
    (Q : Flow → Shared → Prop) (E : Value → Shared → Prop) (B : Below callerA h₀ [] h₀) (F : Fr h₀ L s.heap (mZ sa dl sgl nl lo x unit head st tn wh tu th tt tw ta tb tc ⟨cs.toArray⟩ kv bv wv t1 t2 t3 t4 t5 t6 st many rst ⟨cs.toArray⟩ rl ring)) (X : (K w.params).In h₀)
    (N : News h₀ L s.heap news) (T : Top p loose mean mg mb h₀)
    (q1 : IntMulOk head unit) (c1 : rst < head * unit)
    (hret : ∀ h' tk', Fr h₀ L h' (mZ sa dl sgl nl lo x unit head st tn wh tu th tt tw ta tb tc ⟨cs.toArray⟩ kv bv wv t1 t2 t3 t4 t5 t6 st many rst ⟨cs.toArray⟩ rl ring) → News h₀ L h' news → Q (.ret (.bool true)) { s with heap := h', toks := tk' }) :
    wpAny (model rw.prog w) (lawA L a ccd) (execs b_21 (lawE L a ccd)) Q E s := by
  revert X
  k_fill
  intro X
  dsimp only [b_21, scope_s23, lit, lawE, lawA]
  unfold mZ mR mK lk m13 m11 m6 m4 m3 at F
  k_steps
  · rw [decide_eq_true c1]
    exact hret _ _ F N
  · exact absurd rfl (by assumption)
  · rename (_ == _) = false => hx
    simp at hx
end
section
open PySem PySem.W PySem.Calls PyProof.Rows PySem.Spec
set_option maxRecDepth 100000
set_option linter.unusedVariables false
theorem str_snoc (l : List Nat) (c : Nat) : (⟨l.toArray⟩ : Str) ++ ⟨#[c]⟩ = ⟨(l ++ [c]).toArray⟩ := by
  show (⟨l.toArray ++ #[c]⟩ : Str) = _
  congr 1
  apply Array.ext'
  simp
noncomputable abbrev fL (head unit : Int) (cs : List Nat) : Int → Nat → Int := lay (head + cs.length) unit (fun c => (cs.count c : Int)) (lowOf head cs)
theorem loop20 {w : World} {p : Program} {loose : List Str} {mean : ExcName → Option Value} {mg mb : Str → Option Value} {a L dl sgl nl lo x : Addr} {ccd : Value} {h₀ : Heap} {sa : Addr} {head unit st tn wh : Int} {th tu tt tw ta tb tc : Tok} {cs : List Nat} {rest : List (Addr × Obj)} {kv bv wv : Option Value} {t5 t6 : Tok} {ring : Int}
    (Q : Flow → Shared → Prop) (E : Value → Shared → Prop) (B : Below callerA h₀ [] h₀) (X : (K w.params).In h₀) (T : Top p loose mean mg mb h₀) (hE : PassesOwn (model rw.prog w) (lawA L a ccd) (lawE L a ccd) E)
    (n12 : ∀ q ∈ rest, q.1 ≠ L + 1) (far : ∀ q ∈ rest, @LT.lt Nat _ 249 q.1) (hL : 249 < L) (C41 : CodeHd h₀ 41 37) (C48 : CodeHd h₀ 48 44)
    (hcs1 : cs.length ≤ 20) (hin : ∀ c ∈ cs, c ∈ lets) (h1 : 1 ≤ head) (h3 : head ≤ 3) (hun : bits unit ≤ 4990) (hu18 : 10 ^ 18 ≤ unit) (hst : bits st ≤ 12000) (hring : ring = (head + cs.length) * unit) (hst1 : st.fmod ring < head * unit) :
    ∀ (ds pre : List Nat), cs = pre ++ ds → ∀ (s : Shared) (k : Nat) (tbs : List (Addr × Obj)) (oc : Obj) (co : Option Value) (t1 t2 t3 t4 : Tok), ds.length + 1 ≤ k → oc.data = .cell co → Tabs tbs →
      Fr h₀ L s.heap (mZ sa dl sgl nl lo x unit head st tn wh tu th tt tw ta tb tc ⟨cs.toArray⟩ kv bv wv t1 t2 t3 t4 t5 t6 (valD (fL head unit cs) st ds) ((valD (fL head unit cs) st ds).fdiv ring) ((valD (fL head unit cs) st ds).fmod ring) ⟨pre.toArray⟩ (rowL cs) ring) →
      News h₀ L s.heap ((L + 1, oc) :: (tbs ++ rest)) →
      (∀ h' tk' u1 u2 u3 u4 oc' co' tb', oc'.data = .cell co' → Tabs tb' → Fr h₀ L h' (mZ sa dl sgl nl lo x unit head st tn wh tu th tt tw ta tb tc ⟨cs.toArray⟩ kv bv wv u1 u2 u3 u4 t5 t6 st (st.fdiv ring) (st.fmod ring) ⟨cs.toArray⟩ (rowL cs) ring) → News h₀ L h' ((L + 1, oc') :: (tb' ++ rest)) → Q .next { s with heap := h', toks := tk' }) →
      WhlRest rw.prog w (lawA L a ccd) E (lawE L a ccd) test_20 body_20 [] Q k s := by
  have hu0 : 0 < unit := by omega
  have hsz : (⟨cs.toArray⟩ : Str).length = cs.length := by show cs.toArray.size = _; simp
  have bh := bits_small (x := head) (by omega) (by omega)
  have q1 : IntMulOk head unit := mul_ok (by omega)
  have bsz := bits_small (x := head + (cs.length : Int)) (by omega) (by omega)
  have bring := bits_mul (head + (cs.length : Int)) unit
  have hpr : unit ≤ (head + (cs.length : Int)) * unit := by
    have := Int.mul_le_mul_of_nonneg_right (show 1 ≤ head + (cs.length : Int) by omega) (show 0 ≤ unit by omega)
    omega
  have b60 := bits_unit (show 10 ^ 18 ≤ (head + (cs.length : Int)) * unit by omega)
  rw [← hring] at bring hpr b60
  intro ds
  induction ds with
  | nil =>
    intro pre hpre s k tbs oc co t1 t2 t3 t4 hk hdc ht F N fin
    rw [List.append_nil] at hpre
    subst hpre
    obtain ⟨k, rfl⟩ : ∃ j, k = j + 1 := ⟨k - 1, by simp at hk; omega⟩
    exact end20w Q E B F X N T hE q1 hst1 fun h' tk' F' N' => fin h' tk' _ _ _ _ oc co tbs hdc ht F' N'
  | cons c ds ih =>
    intro pre hpre s k tbs oc co t1 t2 t3 t4 hk hdc ht F N fin
    obtain ⟨k, rfl⟩ : ∃ j, k = j + 1 := ⟨k - 1, by simp at hk; omega⟩
    have hmem : ∀ d ∈ c :: ds, d ∈ cs := fun d hd => by rw [hpre]; exact List.mem_append_right _ hd
    have hcm := hmem c (List.mem_cons_self ..)
    have hcl := hin c hcm
    have hfc : ∀ c ∈ cs, 0 ≤ lowOf head cs c ∧ lowOf head cs c + (cs.count c : Int) ≤ head + cs.length ∧ 1 ≤ (cs.count c : Int) ∧ head ≤ lowOf head cs c := fun c hc => by
      have h1' := low_eq head hin (hin c hc)
      have h2' := low_count (cs := cs) c
      have h3' : 0 < cs.count c := List.count_pos_iff.mpr hc
      exact ⟨by omega, by omega, by omega, by omega⟩
    obtain ⟨g1, g2, g3, g4⟩ := hfc c hcm
    have hlen : ds.length + 1 + pre.length = cs.length := by rw [hpre, List.length_append, List.length_cons]; omega
    have hbits : ∀ es : List Nat, (∀ d ∈ es, d ∈ cs) → es.length ≤ 20 → bits (valD (fL head unit cs) st es) ≤ 12200 := fun es hes hl => by
      have : bits (valD (fL head unit cs) st es) ≤ 12000 + 10 * es.length := valD_bits (size := head + cs.length) (cnt := fun c => (cs.count c : Int)) (low := lowOf head cs) (by omega) hu0 (by omega) (by omega) hst es fun c hc => by
        obtain ⟨g1, g2, g3, g4⟩ := hfc c (hes c hc)
        exact ⟨g1, by omega, g3, by omega⟩
      omega
    have bX := hbits (c :: ds) hmem (by simp; omega)
    have bY := hbits ds (fun d hd => hmem d (List.mem_cons_of_mem _ hd)) (by omega)
    rw [valD] at F bX
    have hrr := read_ring (x := valD (fL head unit cs) st ds) (cnt := fun c => (cs.count c : Int)) (low := lowOf head cs) (size := head + cs.length) (c := c) hu0 g3 g1 g2
    have hlr := lay_ring (x := valD (fL head unit cs) st ds) (cnt := fun c => (cs.count c : Int)) (low := lowOf head cs) (size := head + cs.length) (c := c) hu0 g3 g1 g2
    rw [← hring] at hrr hlr
    obtain ⟨i1, i2, i3⟩ := hrr
    have r0 := Int.fmod_nonneg_of_pos (valD (fL head unit cs) st ds) (b := (cs.count c : Int) * unit) (Int.mul_pos (by omega) hu0)
    obtain ⟨hi0, hix⟩ := row_item cs head _ hcl i1 i2
    have bcnt := bits_small (x := (cs.count c : Int)) (by omega) (by omega)
    have blow := bits_small (x := lowOf head cs c) (by omega) (by omega)
    have bq := bits_fdiv (a := fL head unit cs (valD (fL head unit cs) st ds) c) (b := ring) (by omega)
    have bqc := bits_mul ((fL head unit cs (valD (fL head unit cs) st ds) c).fdiv ring) (cs.count c : Int)
    have hcr : Txt.count ⟨(rowL cs).toArray⟩ ⟨#[c]⟩ = (cs.count c : Int) := by rw [count_is', row_count cs hcl]
    have hll : head * unit ≤ lowOf head cs c * unit := Int.mul_le_mul_of_nonneg_right g4 (by omega)
    refine turn20w (num' := valD (fL head unit cs) st ds) (iv := lowOf head cs c - head) (c := c) (co := co) (oc := oc) Q E B F X N T hE hdc n12 ht far hL C41 C48 (by rw [hsz]; exact hcs1) (by rw [row_len cs hin]; omega) (by omega) (by omega) q1 ?e2 ?e3 ?e4 ?ec1 ?ec2 hi0 hix ?esz (row_index cs head hcl (by omega)) ?enum (by omega) (by omega) (by omega) (by omega) ?eret
    case e2 => rw [hcr]; exact mul_ok (by omega)
    case e3 => rw [hcr]; exact mul_ok (by omega)
    case e4 =>
      have e : head + (lowOf head cs c - head) = lowOf head cs c := by omega
      rw [e]; exact mul_ok (by omega)
    case ec1 => rw [hlr.2]; omega
    case ec2 =>
      have e : (⟨pre.toArray⟩ : Str).length = pre.length := by show pre.toArray.size = _; simp
      rw [e, hsz]; omega
    case esz =>
      have e : (⟨pre.toArray⟩ : Str).length = pre.length := by show pre.toArray.size = _; simp
      have e2 : (⟨#[c]⟩ : Str).length = 1 := rfl
      rw [e, e2]
      exact Nat.le_trans (show pre.length + 1 ≤ 1000 by omega) (by rw [sizeLine_eq]; decide)
    case enum =>
      have e : head + (lowOf head cs c - head) = lowOf head cs c := by omega
      rw [hcr, e]; exact i3
    case eret =>
      intro oc' v' tb' h' tk' u1 u2 u3 u4 hd' ht' F' N'
      rw [str_snoc] at F'
      exact ih (pre ++ [c]) (by rw [hpre]; simp) _ k tb' oc' (some v') u1 u2 u3 u4 (by simp at hk; omega) hd' ht' F' N' fin
@[reducible] noncomputable def b_20 : List Stmt := lit (show lsl 20 1 = _ by conv => lhs; whnf)
set_option maxHeartbeats 4000000 in
theorem st_20 {w : World} {p : Program} {loose : List Str} {mean : ExcName → Option Value} {mg mb : Str → Option Value} {a L dl sgl nl lo x : Addr} {ccd : Value} {h₀ : Heap} {sa : Addr} {head unit st tn wh : Int} {th tu tt tw ta tb tc : Tok} {cs : List Nat} {rest tbs : List (Addr × Obj)} {kv bv wv co : Option Value} {t1 t2 t3 t4 t5 t6 : Tok} {ring : Int} {s : Shared} {oc : Obj}
    (Q : Flow → Shared → Prop) (E : Value → Shared → Prop) (B : Below callerA h₀ [] h₀) (X : (K w.params).In h₀) (T : Top p loose mean mg mb h₀) (hE : PassesOwn (model rw.prog w) (lawA L a ccd) (lawE L a ccd) E)
    (n12 : ∀ q ∈ rest, q.1 ≠ L + 1) (far : ∀ q ∈ rest, @LT.lt Nat _ 249 q.1) (hL : 249 < L) (C41 : CodeHd h₀ 41 37) (C48 : CodeHd h₀ 48 44)
    (hcs1 : cs.length ≤ 20) (hin : ∀ c ∈ cs, c ∈ lets) (h1 : 1 ≤ head) (h3 : head ≤ 3) (hun : bits unit ≤ 4990) (hu18 : 10 ^ 18 ≤ unit) (hst : bits st ≤ 12000) (hring : ring = (head + cs.length) * unit) (hst1 : st.fmod ring < head * unit)
    (hdc : oc.data = .cell co) (ht : Tabs tbs)
    (F : Fr h₀ L s.heap (mZ sa dl sgl nl lo x unit head st tn wh tu th tt tw ta tb tc ⟨cs.toArray⟩ kv bv wv t1 t2 t3 t4 t5 t6 (valD (fL head unit cs) st cs) ((valD (fL head unit cs) st cs).fdiv ring) ((valD (fL head unit cs) st cs).fmod ring) (Str.ofString "") (rowL cs) ring))
    (N : News h₀ L s.heap ((L + 1, oc) :: (tbs ++ rest)))
    (hret : ∀ h' tk' u1 u2 u3 u4 oc' co' tb', oc'.data = .cell co' → Tabs tb' → Fr h₀ L h' (mZ sa dl sgl nl lo x unit head st tn wh tu th tt tw ta tb tc ⟨cs.toArray⟩ kv bv wv u1 u2 u3 u4 t5 t6 st (st.fdiv ring) (st.fmod ring) ⟨cs.toArray⟩ (rowL cs) ring) → News h₀ L h' ((L + 1, oc') :: (tb' ++ rest)) → Q .next { s with heap := h', toks := tk' }) :
    wpAny (model rw.prog w) (lawA L a ccd) (execs b_20 (lawE L a ccd)) Q E s := by
  revert X
  k_fill
  intro X
  dsimp only [b_20]
  (repeat' (first | ((with_reducible show wpAny _ _ (exec (Stmt.While ..) _) _ _ _); k_here; k_dflt (refine whl_start 100 ?_)) | ((with_reducible show WhlRest ..); refine stop_intro ?_) | (k_unfold; (try dsimp only)) | (k_end; kc_close) | walk1 | (dsimp only; walk1) | (leave1; walk_say "STEP leave1"; (try dsimp only))))
  unfold Stop
  refine loop20 _ E B X T hE n12 far hL C41 C48 hcs1 hin h1 h3 hun hu18 hst hring hst1 cs [] rfl s 100 tbs oc co t1 t2 t3 t4 (by omega) hdc ht F N fun h' tk' u1 u2 u3 u4 oc' co' tb' e1 e2 F' N' => ?_
  refine wpAny_execs_nil ?_
  exact hret h' tk' u1 u2 u3 u4 oc' co' tb' e1 e2 F' N'
end
section
open PySem PySem.W PySem.Calls PyProof.Rows PySem.Spec
set_option maxRecDepth 100000
set_option linter.unusedVariables false
theorem list8 {ds : List Int} (h : ds.length = 8) : ∃ d0 d1 d2 d3 d4 d5 d6 d7, ds = [d0, d1, d2, d3, d4, d5, d6, d7] := by
  match ds, h with
  | [d0, d1, d2, d3, d4, d5, d6, d7], _ => exact ⟨d0, d1, d2, d3, d4, d5, d6, d7, rfl⟩
theorem all8 {P : Int → Prop} {d0 d1 d2 d3 d4 d5 d6 d7 : Int} (h : ∀ d ∈ [d0, d1, d2, d3, d4, d5, d6, d7], P d) : P d0 ∧ P d1 ∧ P d2 ∧ P d3 ∧ P d4 ∧ P d5 ∧ P d6 ∧ P d7 := by
  refine ⟨h _ ?_, h _ ?_, h _ ?_, h _ ?_, h _ ?_, h _ ?_, h _ ?_, h _ ?_⟩ <;> simp
theorem fr_0 {g h : Heap} {L sa dl : Addr} {unit head : Int} {tu th : Tok} (F : Fr g L h (fun y => if y = Str.ofString "head" then some (.int head th) else if y = Str.ofString "unit" then some (.int unit tu) else if y = Str.ofString "drawn" then some (.ref dl) else List.lookup y [(Str.ofString "script", .ref sa)])) : Fr g L h (lk (m3 sa dl unit head tu th)) := by
  have e : (fun y => if y = Str.ofString "head" then some (Value.int head th) else if y = Str.ofString "unit" then some (.int unit tu) else if y = Str.ofString "drawn" then some (.ref dl) else List.lookup y [(Str.ofString "script", .ref sa)]) = lk (m3 sa dl unit head tu th) := by
    unfold m3
    rw [← lk_cons, ← lk_cons, ← lk_cons]
  rw [← e]; exact F
@[reducible] noncomputable def b_0 : List Stmt := lit (show lsl 0 3 = _ by conv => lhs; whnf)
set_option maxHeartbeats 4000000 in
theorem st_0 {w : World} {p : Program} {loose : List Str} {mean : ExcName → Option Value} {mg mb : Str → Option Value} {sa a L : Addr} {ccd : Value} {vs : List Value} {ns : List Int} {h₀ : Heap} {news : List (Addr × Obj)} {s : Shared}
    (Q : Flow → Shared → Prop) (E : Value → Shared → Prop) (B : Below callerA h₀ [] h₀) (F : Fr h₀ L s.heap (lk [(Str.ofString "script", .ref sa)])) (X : (K w.params).In h₀) (N : News h₀ L s.heap news) (T : Top p loose mean mg mb h₀)
    (hl : h₀.IsList sa vs.toArray) (iv : IntsAre vs ns) (hlen : ns.length ≤ 63)
    (hret : ∀ dl d0 d1 d2 d3 d4 d5 d6 d7 t0 t1 t2 t3 t4 t5 t6 t7 nn unit head tu th tk' h', 10 ^ 18 ≤ unit → bits unit ≤ 4990 → 1 ≤ head → head ≤ 3 → (∀ x ∈ [d0, d1, d2, d3, d4, d5, d6, d7], 0 ≤ x ∧ bits x ≤ 4983) → Fr h₀ L h' (lk (m3 sa dl unit head tu th)) →
      News h₀ L h' ((dl, W.listOf #[Value.int d0 t0, Value.int d1 t1, Value.int d2 t2, Value.int d3 t3, Value.int d4 t4, Value.int d5 t5, Value.int d6 t6, Value.int d7 t7] nn) :: news) → Q .next { s with heap := h', toks := tk' }) :
    wpAny (model rw.prog w) (lawA L a ccd) (execs b_0 (lawE L a ccd)) Q E s := by
  revert X
  k_fill
  intro X
  dsimp only [b_0, scope_s23, lit, lawE, lawA]
  unfold lk at F
  (repeat' (first | ((with_reducible show wpAny _ _ (call (Value.ref 216) _) _ _ _); refine stop_intro ?_) | (k_unfold; (try dsimp only)) | (k_end; kc_close) | walk1 | (dsimp only; walk1) | (leave1; walk_say "STEP leave1"; (try dsimp only))))
  unfold Stop
  k_dflt (refine' law_drawn _ _ _ _ _ _ _ _ _ _ _ _ _ _ _ _ _ _ ?cB F ?cX ?cN ?cT ?ck ?cd ?cu hl iv hlen ?_)
  case cB => k_asm
  case cX => k_asm
  case cN => k_asm
  case cT => k_asm
  case ck => first | exact rfl | assumption
  case cd => ktr_room
  case cu => ktr_units
  intro nl vn nn ds h1 tk1 F1 N1 I1 l8 hds
  obtain ⟨d0, d1, d2, d3, d4, d5, d6, d7, rfl⟩ := list8 l8
  cases I1 with | cons _ t0 I1 => ?_
  cases I1 with | cons _ t1 I1 => ?_
  cases I1 with | cons _ t2 I1 => ?_
  cases I1 with | cons _ t3 I1 => ?_
  cases I1 with | cons _ t4 I1 => ?_
  cases I1 with | cons _ t5 I1 => ?_
  cases I1 with | cons _ t6 I1 => ?_
  cases I1 with | cons _ t7 I1 => ?_
  cases I1 with | nil => ?_
  obtain ⟨⟨p0, q0⟩, ⟨p1, q1⟩, ⟨p2, q2⟩, ⟨p3, q3⟩, ⟨p4, q4⟩, ⟨p5, q5⟩, ⟨p6, q6⟩, ⟨p7, q7⟩⟩ := all8 hds
  have hp18 : (10 : Int) ^ Int.toNat 18 = 10 ^ 18 := rfl
  have b18 : bits (10 ^ 18) ≤ 4983 := by decide +kernel
  have bu := bits_add (10 ^ 18) d0 4983 b18 q0
  have m0 := Int.fmod_nonneg_of_pos d2 (b := 3) (by decide)
  have m1 := Int.fmod_lt_of_pos d2 (b := 3) (by decide)
  have e1 : 10 ^ 18 ≤ 10 ^ Int.toNat 18 + d0 := by rw [hp18]; omega
  have e2 : bits (10 ^ Int.toNat 18 + d0) ≤ 4990 := by rw [hp18]; omega
  have e3 : 1 ≤ 1 + d2.fmod 3 := by omega
  have e4 : 1 + d2.fmod 3 ≤ 3 := by omega
  k_steps
  rename Fr _ _ _ _ => F9
  rename News _ _ _ _ => N9
  refine wpAny_execs_nil ?_
  exact hret nl d0 d1 d2 d3 d4 d5 d6 d7 t0 t1 t2 t3 t4 t5 t6 t7 nn (10 ^ Int.toNat 18 + d0) (1 + d2.fmod 3) _ _ _ _ e1 e2 e3 e4 hds (fr_0 F9) N9
theorem execs_append_wp {M : Model} {Γ : PySem.Ctx} {env : Env} {Q : Flow → Pos → Shared → Prop} {E : Value → Pos → Shared → Prop} {r : List Stmt} : ∀ (l : List Stmt) (p : Pos) (s : Shared),
    Sem.wp M Γ (execs l env) (fun f p' s' => match f with | .next => Sem.wp M Γ (execs r env) Q E p' s' | f => Q f p' s') E p s → Sem.wp M Γ (execs (l ++ r) env) Q E p s
  | [], p, s, h => h
  | a :: l, p, s, h => by
    rw [execs_cons, Sem.wp_bind'] at h
    rw [List.cons_append, execs_cons, Sem.wp_bind']
    refine Sem.wp_mono M Γ _ (fun f p' s' h' => ?_) (fun _ _ _ h' => h') _ _ h
    cases f with
    | next => exact execs_append_wp l p' s' h'
    | cont => exact h'
    | brk => exact h'
    | ret v => exact h'
theorem execs_append {M : Model} {A : Around} {E : Value → Shared → Prop} {env : Env} {Q : Flow → Shared → Prop} {l r : List Stmt} {s : Shared} (h : wpAny M A (execs l env) (fun f s' => match f with | .next => wpAny M A (execs r env) Q E s' | f => Q f s') E s) : wpAny M A (execs (l ++ r) env) Q E s := fun Γ p hΓ => by
  refine execs_append_wp l p s (Sem.wp_mono M Γ _ (fun f p' s' h' => ?_) (fun _ _ _ h' => h') _ _ (h Γ p hΓ))
  cases f with
  | next => exact h' Γ p' hΓ
  | cont => exact h'
  | brk => exact h'
  | ret v => exact h'
end
section
open PySem PySem.W PySem.Calls PyProof.Rows PySem.Spec
set_option maxRecDepth 100000
set_option linter.unusedVariables false
theorem cell_apart {h₀ h : Heap} {L : Addr} {news : List (Addr × Obj)} {c : Addr} {oc : Obj} {co : Option Value} (N : News h₀ L h news) (hm : (c, oc) ∈ news) (hd : oc.data = .cell co) {q : Addr × Obj} (hq : q ∈ news) (hn : ∀ v, q.2.data ≠ .cell v) : q.1 ≠ c := by
  obtain ⟨b, o⟩ := q
  rintro rfl
  exact hn co (news_same N hm hq ▸ hd)
theorem tabs_cell {tb : List (Addr × Obj)} (ht : Tabs tb) : ∀ q ∈ tb, ∀ v, q.2.data ≠ .cell v := fun q hq v e => by
  obtain ⟨vs, e2⟩ := tabs_fields ht q hq
  rw [e2] at e; cases e
theorem last_split {α : Type} {l : List α} {n : Nat} {v : α} (hl : l.length = n + 1) (hv : l[n]? = some v) : l = l.take n ++ [v] := by
  have h := List.take_append_drop n l
  have e : l.drop n = [v] := by
    rw [List.drop_eq_getElem_cons (by omega)]
    have : l[n]'(by omega) = v := by
      rw [List.getElem?_eq_getElem (by omega)] at hv
      exact Option.some.inj hv
    rw [this, List.drop_eq_nil_of_le (by omega)]
  rw [e] at h
  exact h.symm
theorem law_split : body_s23 = b_0 ++ (b_3 ++ (b_4 ++ (b_5 ++ (b_6 ++ (b_11 ++ (b_14 ++ (b_15 ++ (b_20 ++ b_21)))))))) := rfl
theorem law_body {w : World} {p : Program} {loose : List Str} {mean : ExcName → Option Value} {mg mb : Str → Option Value} {sa a L : Addr} {ccd : Value} {vs : List Value} {ns : List Int} {h₀ : Heap} {tbs : List (Addr × Obj)} {s : Shared} {oc : Obj} {co : Option Value}
    (Q : Flow → Shared → Prop) (E : Value → Shared → Prop) (B : Below callerA h₀ [] h₀) (F : Fr h₀ L s.heap (lk [(Str.ofString "script", .ref sa)])) (X : (K w.params).In h₀) (N : News h₀ L s.heap ((L + 1, oc) :: tbs)) (hdc : oc.data = .cell co) (T : Top p loose mean mg mb h₀) (hE : PassesOwn (model rw.prog w) (lawA L a ccd) (lawE L a ccd) E)
    (hl : h₀.IsList sa vs.toArray) (iv : IntsAre vs ns) (hlen : ns.length ≤ 63) (G : AllBare s.gens) (ht : Tabs tbs) (hL : 249 < L) (C41 : CodeHd h₀ 41 37) (C48 : CodeHd h₀ 48 44) (D3 : IntTab rw.prog w h₀ 166 (tabD b3))
    (hret : ∀ s' tb' m', Fr h₀ L s'.heap m' → News h₀ L s'.heap tb' → Tabs tb' → AllBare s'.gens → s'.os = s.os → Q (.ret (.bool true)) s') :
    wpAny (model rw.prog w) (lawA L a ccd) (execs body_s23 (lawE L a ccd)) Q E s := by
  rw [law_split]
  refine execs_append (st_0 _ _ B F X N T hl iv hlen ?_)
  intro dl d0 d1 d2 d3 d4 d5 d6 d7 t0 t1 t2 t3 t4 t5 t6 t7 nn unit head tu th tk1 h1 hu18 hun hh1 hh3 hds F1 N1
  refine execs_append (st_3 (fun x hx => ?_) _ _ B F1 X N1 T ?_)
  · have := hds x (by simp only [List.mem_cons, List.not_mem_nil, or_false] at hx ⊢; grind)
    exact ⟨this.1, Nat.le_trans this.2 (by decide)⟩
  intro sgl tups c u v tk2 h2 n htups F2 N2
  obtain ⟨q1, q2, q3, q4, q5, rfl⟩ := list5 (l := tups) (by have := congrArg List.length htups; simpa using this)
  refine execs_append (st_4 (q1 := q1) (q2 := q2) (q3 := q3) (q4 := q4) (q5 := q5) (u := u) (v := v) (c := c) (n := n) _ _ B F2 X N2 T ?_)
  intro tt tk3 h3 F3 N3
  refine execs_append (st_5 (tups := [q1, q2, q3, q4, q5]) (u := u) (v := v) (c := c) (n := n) _ _ B F3 X N3 rfl (by simp) T D3 ?_)
  intro tw tk4 h4 F4 N4
  have hmap : [q1, q2, q3, q4, q5].map (fun q : SQ => q.2.1) = [q1.2.1, q2.2.1, q3.2.1, q4.2.1, q5.2.1] := rfl
  rw [hmap] at F4
  have hll := letters_len [q1.2.1, q2.2.1, q3.2.1, q4.2.1, q5.2.1]
  have hin := letters_in [q1.2.1, q2.2.1, q3.2.1, q4.2.1, q5.2.1]
  have hcs0 : letters [q1.2.1, q2.2.1, q3.2.1, q4.2.1, q5.2.1] ≠ [] := by simp [letters]
  generalize letters [q1.2.1, q2.2.1, q3.2.1, q4.2.1, q5.2.1] = cs at *
  have hcs1 : cs.length ≤ 20 := Nat.le_trans hll (by simp)
  have hsz : (⟨cs.toArray⟩ : Str).length = cs.length := by show cs.toArray.size = _; simp
  refine execs_append (st_6 (d0 := d0) (d1 := d1) (d2 := d2) (t0 := t0) (t1 := t1) (t2 := t2) (dr := [Value.int d3 t3, Value.int d4 t4, Value.int d5 t5, Value.int d6 t6, Value.int d7 t7]) (nn := nn) (news := (L + 1, oc) :: tbs) _ _ B F4 X (fun q hq => N4 q ?_) T (by rw [hsz]; exact hcs1) hh1 hh3 hun hu18 (hds d1 (by simp)).2 (hds d2 (by simp)).2 ?_)
  · simp only [List.mem_cons, List.mem_append] at hq ⊢
    grind
  intro tn st r ta tb tc tk5 h5 hst r0 r1 bst F5 N5
  rw [hsz] at F5 hst
  have hN5 : News h₀ L h5 (tbs ++ [(L + 1, oc)]) := fun q hq => N5 q (by
    simp only [List.mem_cons, List.mem_append, List.not_mem_nil, or_false] at hq ⊢
    grind)
  have hring : st.fmod ((head + cs.length) * unit) < head * unit := by
    have hu0 : 0 < unit := by omega
    have hp : 0 < (head + (cs.length : Int)) * unit := Int.mul_pos (by omega) hu0
    have hle : head * unit ≤ (head + (cs.length : Int)) * unit := Int.mul_le_mul_of_nonneg_right (by omega) (by omega)
    rw [(fdiv_is hp hst r0 (by omega)).2]
    exact r1
  refine execs_append (st_11 _ _ B F5 X hN5 T G ht (fun q hq => ?_) ⟨(L + 1, oc), by simp⟩ hL C41 C48 hcs0 hcs1 hin hh1 hh3 hun hu18 bst ?_)
  · rw [List.mem_singleton.mp hq]; exact Nat.lt_succ_of_lt hL
  intro s6 nl vn nn6 x dx lo kt its n6 qs tb6 F6 N6 ht6 I6 far6 fnl hits hqs G6 o6
  have hN6 : News h₀ L s6.heap ((L + 1, oc) :: (nl, W.listOf vn.toArray nn6) :: (tb6 ++ ((x, accObj 143 dx its n6) :: (dx, initObj w.params head th kt) :: (qs.map pqObj).reverse))) := fun q hq => N6 q (by
    simp only [List.mem_cons, List.mem_append, List.not_mem_nil, or_false] at hq ⊢
    grind)
  have ncell : ∀ q ∈ (x, accObj 143 dx its n6) :: (dx, initObj w.params head th kt) :: (qs.map pqObj).reverse, ∀ v, q.2.data ≠ .cell v := by
    intro q hq v e
    simp only [List.mem_cons] at hq
    rcases hq with rfl | rfl | hq
    · cases e
    · cases e
    · obtain ⟨y, hy, rfl⟩ := List.mem_map.mp (List.mem_reverse.mp hq)
      cases e
  have n12 : ∀ q ∈ (nl, W.listOf vn.toArray nn6) :: (tb6 ++ ((x, accObj 143 dx its n6) :: (dx, initObj w.params head th kt) :: (qs.map pqObj).reverse)), q.1 ≠ L + 1 := by
    intro q hq
    refine cell_apart hN6 (List.mem_cons_self ..) hdc (List.mem_cons_of_mem _ hq) ?_
    rcases List.mem_cons.mp hq with rfl | hq
    · intro v e; cases e
    rcases List.mem_append.mp hq with hq | hq
    · exact tabs_cell ht6 q hq
    · exact ncell q hq
  refine execs_append (st_14 _ _ B F6 X hN6 T hE hdc n12 hcs0 hcs1 hin hh1 hh3 hun hu18 bst rfl I6 ?_)
  intro s7 oc7 co7 kv bv wv g7 o7 hdc7 F7 N7
  have hvl : vn.length = cs.length + 1 := by rw [I6.length, List.length_cons, laid_length, List.length_reverse]
  obtain ⟨tnum, hnum⟩ := ints_get I6 (laid_get (lay (head + cs.length) unit (fun c => (cs.count c : Int)) (lowOf head cs)) st cs cs.length (Nat.le_refl _))
  rw [Nat.sub_self, List.drop_zero] at hnum
  have hvs := last_split hvl hnum
  have hu0 : 0 < unit := by omega
  have bnum : bits (valD (fL head unit cs) st cs) ≤ 12200 := by
    have : bits (valD (fL head unit cs) st cs) ≤ 12000 + 10 * cs.length := valD_bits (size := head + cs.length) (cnt := fun c => (cs.count c : Int)) (low := lowOf head cs) (by omega) hu0 (by omega) (by omega) bst cs fun c hc => by
      have h1' := low_eq head hin (hin c hc)
      have h2' := low_count (cs := cs) c
      have h3' : 0 < cs.count c := List.count_pos_iff.mpr hc
      exact ⟨by omega, by omega, by omega, by omega⟩
    omega
  rw [hvs] at N7
  refine execs_append (st_15 (x := x) (dx := dx) (n := n6) (its := its) (qs := qs) (kt := kt) (vs := vn.take cs.length) (num := valD (fL head unit cs) st cs) (tnum := tnum) (nn := nn6) (oc := oc7) (tbs := tb6) (rest := []) _ _ B F7 X (fun q hq => N7 q ?_) T (g7 ▸ G6) ht6 (fun q hq => ?_) hL C41 C48 hcs1 hin hh1 hh3 hun hu18 bnum hits hqs ?_)
  · simp only [List.mem_cons, List.mem_append, List.append_nil] at hq ⊢
    grind
  · simp only [List.mem_cons, List.append_nil] at hq
    rcases hq with rfl | rfl | hq
    · exact Nat.lt_succ_of_lt hL
    · exact fnl
    · refine (far6 q ?_).1
      simp only [List.mem_cons, List.mem_append]
      grind
  intro s8 tb8 z1 z2 z3 z4 z5 z6 G8 o8 ht8 F8 N8
  have hN8 : News h₀ L s8.heap ((L + 1, oc7) :: (tb8 ++ ((nl, W.listOf (vn.take cs.length ++ [Value.int (valD (fL head unit cs) st cs) tnum]).toArray nn6) :: (x, accObj 143 dx its n6) :: (dx, initObj w.params head th kt) :: (qs.map pqObj).reverse))) := fun q hq => N8 q (by
    simp only [List.mem_cons, List.mem_append, List.append_nil] at hq ⊢
    grind)
  have n12b : ∀ q ∈ (nl, W.listOf (vn.take cs.length ++ [Value.int (valD (fL head unit cs) st cs) tnum]).toArray nn6) :: (x, accObj 143 dx its n6) :: (dx, initObj w.params head th kt) :: (qs.map pqObj).reverse, q.1 ≠ L + 1 := by
    intro q hq
    refine cell_apart hN8 (List.mem_cons_self ..) hdc7 (List.mem_cons_of_mem _ (List.mem_append_right _ hq)) ?_
    rcases List.mem_cons.mp hq with rfl | hq
    · intro v e; cases e
    · exact ncell q hq
  have farb : ∀ q ∈ (nl, W.listOf (vn.take cs.length ++ [Value.int (valD (fL head unit cs) st cs) tnum]).toArray nn6) :: (x, accObj 143 dx its n6) :: (dx, initObj w.params head th kt) :: (qs.map pqObj).reverse, @LT.lt Nat _ 249 q.1 := by
    intro q hq
    rcases List.mem_cons.mp hq with rfl | hq
    · exact fnl
    · refine (far6 q ?_).1
      simp only [List.mem_cons, List.mem_append] at hq ⊢
      grind
  refine execs_append (st_20 (ring := (head + cs.length) * unit) _ _ B X T hE n12b farb hL C41 C48 hcs1 hin hh1 hh3 hun hu18 bst rfl hring hdc7 ht8 F8 hN8 ?_)
  intro h9 tk9 u1 u2 u3 u4 oc9 co9 tb9 hdc9 ht9 F9 N9
  have bh := bits_small (x := head) (by omega) (by omega)
  refine st_21 (k := 0) _ _ B F9 X N9 T (mul_ok (by omega)) hring ?_
  intro h10 tk10 F10 N10
  exact hret _ tb9 _ F10 (fun q hq => N10 q (List.mem_cons_of_mem _ (List.mem_append_left _ hq))) ht9 G8 (o8.trans (o7.trans o6))
end
section
open PySem PySem.W PySem.Calls PyProof.Rows
set_option maxRecDepth 100000
noncomputable def tabsL : List (Addr × Addr) := [(41, 37), (48, 44), (109, 105), (116, 112)]
theorem tabs_at {w : World} {h : Heap} (X : (K w.params).In h) (y : ∀ P ∈ tabsP, h.get? P = some (tabObj #[])) : TabsAt tabsL h := by
  have e41 : h.get? 41 = some (o41 w.params) := X 41 _ (by kernel_rfl)
  have e48 : h.get? 48 = some (o48 w.params) := X 48 _ (by kernel_rfl)
  have e109 : h.get? 109 = some (o109 w.params) := X 109 _ (by kernel_rfl)
  have e116 : h.get? 116 = some (o116 w.params) := X 116 _ (by kernel_rfl)
  intro q hq
  simp only [tabsL, List.mem_cons, List.not_mem_nil, or_false] at hq
  rcases hq with rfl | rfl | rfl | rfl
  · exact ⟨⟨_, _, _, _, _, _, _, _, _, e41, rfl, rfl, rfl, rfl, rfl, rfl, rfl, rfl, by decide⟩, y 37 (by decide)⟩
  · exact ⟨⟨_, _, _, _, _, _, _, _, _, e48, rfl, rfl, rfl, rfl, rfl, rfl, rfl, rfl, by decide⟩, y 44 (by decide)⟩
  · exact ⟨⟨_, _, _, _, _, _, _, _, _, e109, rfl, rfl, rfl, rfl, rfl, rfl, rfl, rfl, by decide⟩, y 105 (by decide)⟩
  · exact ⟨⟨_, _, _, _, _, _, _, _, _, e116, rfl, rfl, rfl, rfl, rfl, rfl, rfl, rfl, by decide⟩, y 112 (by decide)⟩
/-- the law came back True, the tables alone grown -/
noncomputable def GoodB (s₁ : Shared) (tabs : List (Addr × Addr)) (r : Result) (s' : Shared) : Prop :=
  r = .ok (.ret (.bool true)) ∧ (∀ b o, (ghostOf s₁.heap tabs).get? b = some o → s'.heap.get? b = some o) ∧ s'.os = s₁.os ∧ AllBare s'.gens ∧ GrownAll tabs s'.heap
theorem good_post {M : Model} {A : Around} {cd : Code} {s s₁ : Shared} {cw : ClaimW} {cl : Str → Option Addr} {mean : ExcName → Option Value} {args : List WData} {tabs : List (Addr × Addr)} (hT : TabsAt tabs s₁.heap) (hr : ∀ a x, cw.raises a x = false) (hp : cw.post args (.bool true) args = true)
    (h : codeAny M A cd (GoodB s₁ tabs) s) : codeAny M A cd (GoodWG cw cl mean args s₁) s := by
  refine codeAny_mono h fun r s' ⟨hres, hk, hos, hg, hgr⟩ => ?_
  have one : ∀ b o, s₁.heap.get? b = some o → (b ∉ tabs.map (·.2) ∧ s'.heap.get? b = some o) ∨ (isCodeTable s₁.heap b ∧ o = tabObj #[] ∧ ∃ ps, s'.heap.get? b = some (tabObj ps)) := fun b o e => by
    by_cases hb : b ∈ tabs.map (·.2)
    · obtain ⟨q, hq, rfl⟩ := List.mem_map.mp hb
      have e2 := (hT q hq).2
      rw [e] at e2
      exact .inr ⟨((hT q hq).1.tab (hT q hq).2).isCodeTable, Option.some.inj e2, hgr.get q hq⟩
    · exact .inl ⟨hb, hk b o (ghost_ne e hb)⟩
  refine ⟨.inl ⟨.bool true, .bool true, [], hres, hr args, .bool true, hp, fun _ => ⟨.nil, fun _ ha => nomatch ha⟩⟩, ⟨fun b o e => ?_, fun b o e => ?_⟩, hos, hg⟩
  · rcases one b o e with ⟨_, e'⟩ | ⟨ht, rfl, ps, e'⟩
    · exact .inl e'
    · exact .inr (.inl ⟨ht, rfl, #[], ps, rfl, by rw [Array.empty_append]; exact e'⟩)
  · rcases one b o e with ⟨_, e'⟩ | ⟨_, _, ps, e'⟩
    · exact ⟨o, e'⟩
    · exact ⟨_, e'⟩
theorem grown_tabs {h₀ h : Heap} {L : Addr} {tb : List (Addr × Obj)} (N : News h₀ L h tb) (ht : Tabs tb) : GrownAll tabsL h := by
  obtain ⟨t5, t6, pl, ps, rfl, h5, h6, _, _⟩ := ht
  have g37 : GrownAt 37 h := by
    rcases h5 with rfl | ⟨c', oc, vc, tc, rfl, _, _⟩
    · exact .of N (List.mem_append_left _ (List.mem_cons_self ..))
    · exact .of N (List.mem_append_left _ (List.mem_cons_self ..))
  have g44 : GrownAt 44 h := by
    rcases h6 with rfl | ⟨c', oc, vc, tc, rfl, _, _⟩
    · exact .of N (List.mem_append_right _ (List.mem_append_left _ (List.mem_cons_self ..)))
    · exact .of N (List.mem_append_right _ (List.mem_append_left _ (List.mem_cons_self ..)))
  exact ⟨g37, g44, .of N (List.mem_append_right _ (List.mem_append_right _ (List.mem_cons_self ..))), .of N (List.mem_append_right _ (List.mem_append_right _ (List.mem_cons_of_mem _ (List.mem_cons_self ..)))), trivial⟩
theorem flat_b3 : ∀ (kvs : List (Int × Value)) (es : List (Int × Str)), SameKV kvs es → PyProof.V.FlatPairs PyData.int kvs (tabD es)
  | [], [], _ => .nil
  | [], _ :: _, h => by simp [SameKV] at h
  | _ :: _, [], h => by simp [SameKV] at h
  | (k, v) :: kvs, (k', x) :: es, h => by
    unfold SameKV at h
    rw [List.map_cons, List.map_cons] at h
    have h1 := List.cons.inj h
    have e1 : k = k' := congrArg Prod.fst h1.1
    have e2 : txt v = some x := congrArg Prod.snd h1.1
    subst e1
    have hv : ∃ t, v = .str x t := by
      unfold txt at e2
      split at e2
      · rename_i y t
        obtain rfl : y = x := Option.some.inj e2
        exact ⟨t, rfl⟩
      · cases e2
    obtain ⟨t, rfl⟩ := hv
    exact .cons (.str x t) (flat_b3 kvs es h1.2)
theorem tab_b3 {w : World} {h : Heap} {kvs : List (Int × Value)} (hT : TabsAt tabsL h) (h1 : SameKV kvs b3) (h2 : h.DictOf (intKind pg w) 166 kvs) : IntTab rw.prog w (ghostOf h tabsL) 166 (tabD b3) := by
  refine ⟨by decide, kvs, ?_, flat_b3 _ _ h1⟩
  obtain ⟨o, es, ep, ho, hx, r⟩ := h2
  refine ⟨o, es, ep, ghost_get hT ho (fun q => ?_), hx, r⟩
  subst q
  obtain ⟨hd, _⟩ := hx
  cases hd
theorem lk_one {v : Value} : (fun y => if y = Str.ofString "script" then some v else none) = lk [(Str.ofString "script", v)] := by
  rw [← lk_cons]; rfl
set_option maxHeartbeats 4000000 in
theorem said9 : rw.wellSaid = true := by
  rw [PySem.W.Fast.te9446332074065402090]
  delta PySem.W.Fast.tw9446332074065402090
  with_reducible repeat' (refine look_both ?_ ?_)
  all_goals kernel_rfl
theorem cw : rw.Holds := by
  w_on
  refine holds_law said9 fun said => ?_
  refine holds_tops (N := 600) boot_0 size_0 tops_all ypn_keeps (fun s e => xl_of s e) XL.keeps (by rfl) (by rfl) (by rfl) rfl (by assumption) (by decide +kernel) ⟨rfl, rfl, rfl, rfl, rfl, by decide +kernel⟩ ?hw ?hc
  case hw => w_witness2
  case hc =>
    intro w s₀ s₁ mg mb G Y fa o pm cd doc dV kV ho hd hcd hD hmg hg args vals as hpre hlay hrd hwl hlo
    obtain ⟨KX, YT, kvs3, kv1, kv2⟩ := Y
    revert KX
    k_fill
    intro KX
    have hT9 := tabs_at KX YT
    have X := (Ground.X G).1
    have V := (Ground.X G).2
    refine Ground.open G ?_
    intro T B D TE TW
    try (refine guard_noD D (by decide +kernel) ?_; clear D)
    clear hmg
    wrow_args hpre hlay hrd hwl hlo
    refine enter_call ?_
    w_top on
    refine good_post hT9 (fun _ _ => rfl) (by wrow_post) ?_
    w_call any ho hd hcd hD T F
    clear hd
    rename News _ _ _ _ => N
    have l0 := ghost_lt hT9 F
    have C' := ghost_code hT9
    have X' := ghost_K hT9 KX (by kernel_rfl)
    have T' := ghost_top hT9 T
    have K' := ghost_below hT9
    have N' := ghost_news hT9 F N
    have F' := ghost_fr hT9 F
    have F2 : Fr _ _ _ (fun y => if y = Str.ofString "script" then some (.ref _) else none) := F'
    rename IntsAre _ _ => iv9
    rename Heap.IsList s₁.heap _ _ => hl9
    have hsz : 249 < s₁.heap.objs.size := by
      have e : s₁.heap.get? 249 = some (o249 w.params) := KX 249 _ (by kernel_rfl)
      exact Heap.lt_size e
    rename (¬ _ < _) => hc9
    k_dflt (refine' law_body (tbs := tabNews tabsL) _ _ K' ?zF X' ?zN ?zc T' ?zE (ghost_list hT9 hl9) iv9 ?zlen ?zG ?zt hsz ?zC1 ?zC2 ?zD ?zret)
    case zF => rw [← lk_one]; exact F2
    case zN => exact N'
    case zc => assumption
    case zE => passes_own
    case zlen => omega
    case zG => exact .of_eq hg
    case zt => exact ⟨[(37, tabObj #[])], [(44, tabObj #[])], #[], #[], rfl, .inl rfl, .inl rfl, ⟨trivial, .inl rfl⟩, ⟨trivial, .inl rfl⟩⟩
    case zC1 => exact C'.1
    case zC2 => exact C'.2.1
    case zD => exact tab_b3 hT9 kv1 kv2
    case zret =>
      intro s' tb' m' F9 N9 ht9 G9 o9
      exact ⟨rfl, F9.keep, o9, G9, grown_tabs N9 ht9⟩
end
end
end
end
end Mine
end
open PySem PySem.W PyProof.Rows
theorem PySem.Challenge.cw_un0040_01_holds : PySem.Challenge.rw_un0040_01.Holds := by
  exact Mine.cw
