import PyProof.Rows.All
import Wide.All
import OpenK.AllK
import Wide.FinOn
import PySem.Challenge.RW_sc0083_01
set_option Elab.async false
section
open PySem PySem.W PyProof.Rows
set_option Elab.async false
set_option maxRecDepth 100000
set_option maxHeartbeats 0
namespace Mine
set_option linter.unusedVariables false
noncomputable section
@[reducible] noncomputable def pw : Program := PySem.Challenge.pw_sc0083_01
noncomputable def stm (i : Nat) : Stmt := pw.main.body.getD i (.Pass ⟨0, 0, 0, 0⟩)
noncomputable def mth (j : Nat) : Stmt := match stm 1 with
  | .ClassDef _ _ _ b _ _ _ _ _ _ _ => b.getD j (.Pass ⟨0, 0, 0, 0⟩)
  | s => s
noncomputable def fArgs : Stmt → Arguments
  | .FunctionDef _ a _ _ _ _ _ _ _ _ => a
  | _ => ⟨[], [], none, [], [], none, []⟩
noncomputable def fBody : Stmt → List Stmt
  | .FunctionDef _ _ b _ _ _ _ _ _ _ => b
  | _ => []
noncomputable def fScope : Stmt → Scope
  | .FunctionDef _ _ _ _ _ _ s _ _ _ => s
  | _ => default
noncomputable def b3pair : Option PySem.Expr × PySem.Expr → Int × Str
  | (some (.Constant (.int i) _ _), .Constant (.str s) _ _) => (i, s)
  | _ => (0, Str.empty)
noncomputable def b3k : Stmt → List (Int × Str)
  | .Assign _ (.Dict ks vs _) _ => (ks.zip vs).map b3pair
  | _ => []
noncomputable def b3ent (base : Nat) : List (Int × Str) → List DictEntry
  | [] => []
  | (k, v) :: r => ⟨k, .int k base, .str v (base + 1)⟩ :: b3ent (base + 3) r
noncomputable def b3ent2 (base : Nat) : List (Int × Str) → List DictEntry
  | [] => []
  | (k, v) :: r => ⟨k, .int k base, .str v (base + 1)⟩ :: b3ent2 (base + 2) r
noncomputable def b3all : List DictEntry := b3ent 328 ((b3k (stm 7)).take 646) ++ b3ent2 2266 ((b3k (stm 7)).drop 646)
noncomputable def b3sub (i : Nat) : List DictEntry := if i == 38 then b3ent2 2266 ((b3k (stm 7)).drop 646) else b3ent (328 + 51 * i) (((b3k (stm 7)).drop (17 * i)).take 17)
noncomputable def b3o (i : Nat) (_ : Params) : Obj := ⟨.type "dict", none, .dict (if i == 82 then b3all else b3sub (i - 82)).toArray (if i == 82 then 650 else if i == 120 then 4 else 17), #[]⟩
noncomputable def ao11 (P : Params) : Obj := ⟨(.type "tuple"), none, (.seq #[] 0), #[]⟩
noncomputable def ao12 (P : Params) : Obj := ⟨.none, none, (.fields #[]), #[]⟩
noncomputable def ao13 (P : Params) : Obj := ⟨(.type "code"), none, (.fields #[(.str (Str.ofString "<module>") 182), (.str (Str.ofString "<module>") 183), (.str (Str.ofString "/claim/cut.py") 184), (.int 1 0), (.int 0 0), (.int 0 0), (.int 0 0), (.int 0 0), (.ref 11), (.bool false), (.int 181 0), (.ref 12), .none, .none, .none, .none, (.int 185 0), (.int 1 0), (.str (Str.ofString "/claim/cut.py") 186)]), #[]⟩
noncomputable def ao14 (P : Params) : Obj := ⟨(.type "frame"), none, .plain, #[(some (.ref 13)), (some (.ref 3)), (some (.ref 3)), none, (some (.str (Str.ofString "__main__") 164)), none, (some (.ref 0))]⟩
noncomputable def Ha (P : Params) : Heap := ⟨#[boot_o_0 P, boot_o_1 P, boot_o_2 P, boot_o_3 P, boot_o_4 P, boot_o_5 P, boot_o_6 P, boot_o_7 P, boot_o_8 P, boot_o_9 P, boot_o_10 P, ao11 P, ao12 P, ao13 P, ao14 P], {}⟩
noncomputable def T0 (P : Params) : BT := (.node (boot_o_0 P) (.node (boot_o_1 P) (.node (boot_o_3 P) (.node (boot_o_7 P) .nil .nil) (.node (ao11 P) .nil .nil)) (.node (boot_o_5 P) (.node (boot_o_9 P) .nil .nil) (.node (ao13 P) .nil .nil))) (.node (boot_o_2 P) (.node (boot_o_4 P) (.node (boot_o_8 P) .nil .nil) (.node (ao12 P) .nil .nil)) (.node (boot_o_6 P) (.node (boot_o_10 P) .nil .nil) (.node (ao14 P) .nil .nil))))
noncomputable def p0o3 (P : Params) : Obj := ⟨(.type "dict"), none, (.dict #[⟨PyData.keyHash P (Str.ofString "__name__"), .str (Str.ofString "__name__") 165, (.str (Str.ofString "cpy313.netrc") 187)⟩, ⟨PyData.keyHash P (Str.ofString "__doc__"), .str (Str.ofString "__doc__") 166, .none⟩, ⟨PyData.keyHash P (Str.ofString "__package__"), .str (Str.ofString "__package__") 167, .none⟩, ⟨PyData.keyHash P (Str.ofString "__loader__"), .str (Str.ofString "__loader__") 168, (.builtin "__main__.__loader__#opaque")⟩, ⟨PyData.keyHash P (Str.ofString "__spec__"), .str (Str.ofString "__spec__") 169, .none⟩, ⟨PyData.keyHash P (Str.ofString "__annotations__"), .str (Str.ofString "__annotations__") 170, (.ref 6)⟩, ⟨PyData.keyHash P (Str.ofString "__builtins__"), .str (Str.ofString "__builtins__") 171, (.ref 4)⟩, ⟨PyData.keyHash P (Str.ofString "__file__"), .str (Str.ofString "__file__") 173, (.str (Str.ofString "/claim/cut.py") 172)⟩, ⟨PyData.keyHash P (Str.ofString "__cached__"), .str (Str.ofString "__cached__") 174, .none⟩] 9), #[]⟩
noncomputable def T1 (P : Params) : BT := (.node (boot_o_0 P) (.node (boot_o_1 P) (.node (p0o3 P) (.node (boot_o_7 P) .nil .nil) (.node (ao11 P) .nil .nil)) (.node (boot_o_5 P) (.node (boot_o_9 P) .nil .nil) (.node (ao13 P) .nil .nil))) (.node (boot_o_2 P) (.node (boot_o_4 P) (.node (boot_o_8 P) .nil .nil) (.node (ao12 P) .nil .nil)) (.node (boot_o_6 P) (.node (boot_o_10 P) .nil .nil) (.node (ao14 P) .nil .nil))))
noncomputable def p1o3 (P : Params) : Obj := ⟨(.type "dict"), none, (.dict #[⟨PyData.keyHash P (Str.ofString "__name__"), .str (Str.ofString "__name__") 165, (.str (Str.ofString "cpy313.netrc") 187)⟩, ⟨PyData.keyHash P (Str.ofString "__doc__"), .str (Str.ofString "__doc__") 166, .none⟩, ⟨PyData.keyHash P (Str.ofString "__package__"), .str (Str.ofString "__package__") 167, .none⟩, ⟨PyData.keyHash P (Str.ofString "__loader__"), .str (Str.ofString "__loader__") 168, (.builtin "__main__.__loader__#opaque")⟩, ⟨PyData.keyHash P (Str.ofString "__spec__"), .str (Str.ofString "__spec__") 169, .none⟩, ⟨PyData.keyHash P (Str.ofString "__annotations__"), .str (Str.ofString "__annotations__") 170, (.ref 6)⟩, ⟨PyData.keyHash P (Str.ofString "__builtins__"), .str (Str.ofString "__builtins__") 171, (.ref 4)⟩, ⟨PyData.keyHash P (Str.ofString "__file__"), .str (Str.ofString "__file__") 173, (.str (Str.ofString "/claim/cut.py") 172)⟩, ⟨PyData.keyHash P (Str.ofString "__cached__"), .str (Str.ofString "__cached__") 174, .none⟩, ⟨PyData.keyHash P (Str.ofString "_netrclex"), .str (Str.ofString "_netrclex") 246, (.ref 52)⟩] 10), #[]⟩
noncomputable def p1o12 (P : Params) : Obj := ⟨.none, none, (.fields #[(.int 2 0), (.int 0 0), (.ref 20)]), #[]⟩
noncomputable def p1o15 (P : Params) : Obj := ⟨(.type "tuple"), none, (.seq #[] 0), #[]⟩
noncomputable def p1o16 (P : Params) : Obj := ⟨(.type "builtin_function_or_method"), none, (.fields #[(.builtin "type.__prepare__"), (.type "type")]), #[]⟩
noncomputable def p1o17 (P : Params) : Obj := ⟨(.type "dict"), none, (.dict #[⟨PyData.keyHash P (Str.ofString "__module__"), .str (Str.ofString "__module__") 196, (.str (Str.ofString "cpy313.netrc") 187)⟩, ⟨PyData.keyHash P (Str.ofString "__qualname__"), .str (Str.ofString "__qualname__") 198, (.str (Str.ofString "_netrclex") 197)⟩, ⟨PyData.keyHash P (Str.ofString "__firstlineno__"), .str (Str.ofString "__firstlineno__") 200, (.int 2 199)⟩, ⟨PyData.keyHash P (Str.ofString "__init__"), .str (Str.ofString "__init__") 208, (.ref 28)⟩, ⟨PyData.keyHash P (Str.ofString "_read_char"), .str (Str.ofString "_read_char") 216, (.ref 35)⟩, ⟨PyData.keyHash P (Str.ofString "get_token"), .str (Str.ofString "get_token") 226, (.ref 42)⟩, ⟨PyData.keyHash P (Str.ofString "push_token"), .str (Str.ofString "push_token") 234, (.ref 49)⟩, ⟨PyData.keyHash P (Str.ofString "__static_attributes__"), .str (Str.ofString "__static_attributes__") 239, (.ref 50)⟩] 8), #[]⟩
noncomputable def p1o18 (P : Params) : Obj := ⟨(.type "tuple"), none, (.seq #[] 0), #[]⟩
noncomputable def p1o19 (P : Params) : Obj := ⟨.none, none, (.fields #[(.int 4 0), (.int 4 0), (.ref 27), (.int 10 0), (.int 4 0), (.ref 34), (.int 16 0), (.int 4 0), (.ref 41), (.int 43 0), (.int 4 0), (.ref 48)]), #[]⟩
noncomputable def p1o20 (P : Params) : Obj := ⟨(.type "code"), none, (.fields #[(.str (Str.ofString "_netrclex") 191), (.str (Str.ofString "_netrclex") 192), (.str (Str.ofString "/claim/cut.py") 193), (.int 2 0), (.int 0 0), (.int 0 0), (.int 0 0), (.int 0 0), (.ref 18), (.bool false), (.int 181 0), (.ref 19), .none, .none, .none, .none, (.int 194 0), (.int 2 0), (.str (Str.ofString "/claim/cut.py") 195)]), #[]⟩
noncomputable def p1o21 (P : Params) : Obj := ⟨(.type "frame"), none, .plain, #[(some (.ref 20)), (some (.ref 3)), (some (.ref 17)), none, (some (.str (Str.ofString "cpy313.netrc") 187)), none, (some (.ref 0))]⟩
noncomputable def p1o22 (P : Params) : Obj := ⟨(.type "tuple"), none, (.seq #[] 0), #[]⟩
noncomputable def p1o23 (P : Params) : Obj := ⟨.none, none, (.fields #[]), #[]⟩
noncomputable def p1o24 (P : Params) : Obj := ⟨(.type "tuple"), none, (.seq #[(.str (Str.ofString "self") 204), (.str (Str.ofString "fp") 205)] 0), #[]⟩
noncomputable def p1o25 (P : Params) : Obj := ⟨(.type "tuple"), none, (.seq #[] 0), #[]⟩
noncomputable def p1o26 (P : Params) : Obj := ⟨.none, none, (.func ⟨(Str.ofString "__init__"), (Str.ofString "_netrclex.__init__"), fArgs (mth 0), .stmts (fBody (mth 0)), fScope (mth 0), 0, [], .none, .none, .none, .none, none, .none, .none, 0⟩), #[]⟩
noncomputable def p1o27 (P : Params) : Obj := ⟨(.type "code"), none, (.fields #[(.str (Str.ofString "__init__") 201), (.str (Str.ofString "_netrclex.__init__") 202), (.str (Str.ofString "/claim/cut.py") 203), (.int 4 0), (.int 2 0), (.int 0 0), (.int 0 0), (.int 3 0), (.ref 22), (.bool true), (.int 181 0), (.ref 23), .none, (.ref 24), (.ref 25), (.ref 26), (.int 206 0), (.int 4 0), (.str (Str.ofString "/claim/cut.py") 207)]), #[]⟩
noncomputable def p1o28 (P : Params) : Obj := ⟨(.type "function"), none, (.func ⟨(Str.ofString "__init__"), (Str.ofString "_netrclex.__init__"), fArgs (mth 0), .stmts (fBody (mth 0)), fScope (mth 0), 3, [], .none, .none, .none, (.str (Str.ofString "cpy313.netrc") 187), none, (.ref 27), .none, 0⟩), #[]⟩
noncomputable def p1o29 (P : Params) : Obj := ⟨(.type "tuple"), none, (.seq #[] 0), #[]⟩
noncomputable def p1o30 (P : Params) : Obj := ⟨.none, none, (.fields #[]), #[]⟩
noncomputable def p1o31 (P : Params) : Obj := ⟨(.type "tuple"), none, (.seq #[(.str (Str.ofString "self") 212), (.str (Str.ofString "ch") 213)] 0), #[]⟩
noncomputable def p1o32 (P : Params) : Obj := ⟨(.type "tuple"), none, (.seq #[] 0), #[]⟩
noncomputable def p1o33 (P : Params) : Obj := ⟨.none, none, (.func ⟨(Str.ofString "_read_char"), (Str.ofString "_netrclex._read_char"), fArgs (mth 1), .stmts (fBody (mth 1)), fScope (mth 1), 0, [], .none, .none, .none, .none, none, .none, .none, 0⟩), #[]⟩
noncomputable def p1o34 (P : Params) : Obj := ⟨(.type "code"), none, (.fields #[(.str (Str.ofString "_read_char") 209), (.str (Str.ofString "_netrclex._read_char") 210), (.str (Str.ofString "/claim/cut.py") 211), (.int 10 0), (.int 1 0), (.int 0 0), (.int 0 0), (.int 3 0), (.ref 29), (.bool true), (.int 181 0), (.ref 30), .none, (.ref 31), (.ref 32), (.ref 33), (.int 214 0), (.int 10 0), (.str (Str.ofString "/claim/cut.py") 215)]), #[]⟩
noncomputable def p1o35 (P : Params) : Obj := ⟨(.type "function"), none, (.func ⟨(Str.ofString "_read_char"), (Str.ofString "_netrclex._read_char"), fArgs (mth 1), .stmts (fBody (mth 1)), fScope (mth 1), 3, [], .none, .none, .none, (.str (Str.ofString "cpy313.netrc") 187), none, (.ref 34), .none, 0⟩), #[]⟩
noncomputable def p1o36 (P : Params) : Obj := ⟨(.type "tuple"), none, (.seq #[] 0), #[]⟩
noncomputable def p1o37 (P : Params) : Obj := ⟨.none, none, (.fields #[]), #[]⟩
noncomputable def p1o38 (P : Params) : Obj := ⟨(.type "tuple"), none, (.seq #[(.str (Str.ofString "self") 220), (.str (Str.ofString "token") 221), (.str (Str.ofString "fiter") 222), (.str (Str.ofString "ch") 223)] 0), #[]⟩
noncomputable def p1o39 (P : Params) : Obj := ⟨(.type "tuple"), none, (.seq #[] 0), #[]⟩
noncomputable def p1o40 (P : Params) : Obj := ⟨.none, none, (.func ⟨(Str.ofString "get_token"), (Str.ofString "_netrclex.get_token"), fArgs (mth 2), .stmts (fBody (mth 2)), fScope (mth 2), 0, [], .none, .none, .none, .none, none, .none, .none, 0⟩), #[]⟩
noncomputable def p1o41 (P : Params) : Obj := ⟨(.type "code"), none, (.fields #[(.str (Str.ofString "get_token") 217), (.str (Str.ofString "_netrclex.get_token") 218), (.str (Str.ofString "/claim/cut.py") 219), (.int 16 0), (.int 1 0), (.int 0 0), (.int 0 0), (.int 3 0), (.ref 36), (.bool true), (.int 181 0), (.ref 37), .none, (.ref 38), (.ref 39), (.ref 40), (.int 224 0), (.int 16 0), (.str (Str.ofString "/claim/cut.py") 225)]), #[]⟩
noncomputable def p1o42 (P : Params) : Obj := ⟨(.type "function"), none, (.func ⟨(Str.ofString "get_token"), (Str.ofString "_netrclex.get_token"), fArgs (mth 2), .stmts (fBody (mth 2)), fScope (mth 2), 3, [], .none, .none, .none, (.str (Str.ofString "cpy313.netrc") 187), none, (.ref 41), .none, 0⟩), #[]⟩
noncomputable def p1o43 (P : Params) : Obj := ⟨(.type "tuple"), none, (.seq #[] 0), #[]⟩
noncomputable def p1o44 (P : Params) : Obj := ⟨.none, none, (.fields #[]), #[]⟩
noncomputable def p1o45 (P : Params) : Obj := ⟨(.type "tuple"), none, (.seq #[(.str (Str.ofString "self") 230), (.str (Str.ofString "token") 231)] 0), #[]⟩
noncomputable def p1o46 (P : Params) : Obj := ⟨(.type "tuple"), none, (.seq #[] 0), #[]⟩
noncomputable def p1o47 (P : Params) : Obj := ⟨.none, none, (.func ⟨(Str.ofString "push_token"), (Str.ofString "_netrclex.push_token"), fArgs (mth 3), .stmts (fBody (mth 3)), fScope (mth 3), 0, [], .none, .none, .none, .none, none, .none, .none, 0⟩), #[]⟩
noncomputable def p1o48 (P : Params) : Obj := ⟨(.type "code"), none, (.fields #[(.str (Str.ofString "push_token") 227), (.str (Str.ofString "_netrclex.push_token") 228), (.str (Str.ofString "/claim/cut.py") 229), (.int 43 0), (.int 2 0), (.int 0 0), (.int 0 0), (.int 3 0), (.ref 43), (.bool true), (.int 181 0), (.ref 44), .none, (.ref 45), (.ref 46), (.ref 47), (.int 232 0), (.int 43 0), (.str (Str.ofString "/claim/cut.py") 233)]), #[]⟩
noncomputable def p1o49 (P : Params) : Obj := ⟨(.type "function"), none, (.func ⟨(Str.ofString "push_token"), (Str.ofString "_netrclex.push_token"), fArgs (mth 3), .stmts (fBody (mth 3)), fScope (mth 3), 3, [], .none, .none, .none, (.str (Str.ofString "cpy313.netrc") 187), none, (.ref 48), .none, 0⟩), #[]⟩
noncomputable def p1o50 (P : Params) : Obj := ⟨(.type "tuple"), none, (.seq #[(.str (Str.ofString "instream") 235), (.str (Str.ofString "lineno") 236), (.str (Str.ofString "pushback") 237), (.str (Str.ofString "whitespace") 238)] 0), #[]⟩
noncomputable def p1o51 (P : Params) : Obj := ⟨(.type "dict"), none, (.dict #[⟨PyData.keyHash P (Str.ofString "__module__"), .str (Str.ofString "__module__") 196, (.str (Str.ofString "cpy313.netrc") 187)⟩, ⟨PyData.keyHash P (Str.ofString "__firstlineno__"), .str (Str.ofString "__firstlineno__") 200, (.int 2 199)⟩, ⟨PyData.keyHash P (Str.ofString "__init__"), .str (Str.ofString "__init__") 208, (.ref 28)⟩, ⟨PyData.keyHash P (Str.ofString "_read_char"), .str (Str.ofString "_read_char") 216, (.ref 35)⟩, ⟨PyData.keyHash P (Str.ofString "get_token"), .str (Str.ofString "get_token") 226, (.ref 42)⟩, ⟨PyData.keyHash P (Str.ofString "push_token"), .str (Str.ofString "push_token") 234, (.ref 49)⟩, ⟨PyData.keyHash P (Str.ofString "__static_attributes__"), .str (Str.ofString "__static_attributes__") 239, (.ref 50)⟩, ⟨PyData.keyHash P (Str.ofString "__dict__"), .str (Str.ofString "__dict__") 241, (.ref 53)⟩, ⟨PyData.keyHash P (Str.ofString "__weakref__"), .str (Str.ofString "__weakref__") 243, (.ref 54)⟩, ⟨PyData.keyHash P (Str.ofString "__doc__"), .str (Str.ofString "__doc__") 244, .none⟩] 4), #[]⟩
noncomputable def p1o52 (P : Params) : Obj := ⟨(.type "type"), none, (.cls ⟨(Str.ofString "_netrclex"), [(.type "object")], [(.ref 52), (.type "object")], 51, (Str.ofString "_netrclex"), true, [], [], false, none, false⟩), #[none, none, (some (.str (Str.ofString "_netrclex") 189)), (some (.str (Str.ofString "_netrclex") 197)), (some (.builtin "object.__new__")), (some (.bool true))]⟩
noncomputable def p1o53 (P : Params) : Obj := ⟨(.type "getset_descriptor"), none, (.fields #[(.str (Str.ofString "__dict__") 240), (.ref 52), (.builtin "function.__dict__"), (.builtin "function.__dict__#set")]), #[]⟩
noncomputable def p1o54 (P : Params) : Obj := ⟨(.type "getset_descriptor"), none, (.fields #[(.str (Str.ofString "__weakref__") 242), (.ref 52), (.builtin "ExceptionGroup.__weakref__"), .none]), #[]⟩
noncomputable def p1o55 (P : Params) : Obj := ⟨(.type "super"), none, (.fields #[(.ref 52), (.ref 52), (.ref 52)]), #[]⟩
noncomputable def p1o56 (P : Params) : Obj := ⟨(.type "builtin_function_or_method"), none, (.fields #[(.builtin "object.__init_subclass__"), (.ref 52)]), #[]⟩
noncomputable def T2 (P : Params) : BT := (.node (boot_o_0 P) (.node (boot_o_1 P) (.node (p1o3 P) (.node (boot_o_7 P) (.node (p1o15 P) (.node (p1o31 P) .nil .nil) (.node (p1o47 P) .nil .nil)) (.node (p1o23 P) (.node (p1o39 P) .nil .nil) (.node (p1o55 P) .nil .nil))) (.node (ao11 P) (.node (p1o19 P) (.node (p1o35 P) .nil .nil) (.node (p1o51 P) .nil .nil)) (.node (p1o27 P) (.node (p1o43 P) .nil .nil) .nil))) (.node (boot_o_5 P) (.node (boot_o_9 P) (.node (p1o17 P) (.node (p1o33 P) .nil .nil) (.node (p1o49 P) .nil .nil)) (.node (p1o25 P) (.node (p1o41 P) .nil .nil) .nil)) (.node (ao13 P) (.node (p1o21 P) (.node (p1o37 P) .nil .nil) (.node (p1o53 P) .nil .nil)) (.node (p1o29 P) (.node (p1o45 P) .nil .nil) .nil)))) (.node (boot_o_2 P) (.node (boot_o_4 P) (.node (boot_o_8 P) (.node (p1o16 P) (.node (p1o32 P) .nil .nil) (.node (p1o48 P) .nil .nil)) (.node (p1o24 P) (.node (p1o40 P) .nil .nil) (.node (p1o56 P) .nil .nil))) (.node (p1o12 P) (.node (p1o20 P) (.node (p1o36 P) .nil .nil) (.node (p1o52 P) .nil .nil)) (.node (p1o28 P) (.node (p1o44 P) .nil .nil) .nil))) (.node (boot_o_6 P) (.node (boot_o_10 P) (.node (p1o18 P) (.node (p1o34 P) .nil .nil) (.node (p1o50 P) .nil .nil)) (.node (p1o26 P) (.node (p1o42 P) .nil .nil) .nil)) (.node (ao14 P) (.node (p1o22 P) (.node (p1o38 P) .nil .nil) (.node (p1o54 P) .nil .nil)) (.node (p1o30 P) (.node (p1o46 P) .nil .nil) .nil)))))
noncomputable def p2o3 (P : Params) : Obj := ⟨(.type "dict"), none, (.dict #[⟨PyData.keyHash P (Str.ofString "__name__"), .str (Str.ofString "__name__") 165, (.str (Str.ofString "cpy313.doctest") 247)⟩, ⟨PyData.keyHash P (Str.ofString "__doc__"), .str (Str.ofString "__doc__") 166, .none⟩, ⟨PyData.keyHash P (Str.ofString "__package__"), .str (Str.ofString "__package__") 167, .none⟩, ⟨PyData.keyHash P (Str.ofString "__loader__"), .str (Str.ofString "__loader__") 168, (.builtin "__main__.__loader__#opaque")⟩, ⟨PyData.keyHash P (Str.ofString "__spec__"), .str (Str.ofString "__spec__") 169, .none⟩, ⟨PyData.keyHash P (Str.ofString "__annotations__"), .str (Str.ofString "__annotations__") 170, (.ref 6)⟩, ⟨PyData.keyHash P (Str.ofString "__builtins__"), .str (Str.ofString "__builtins__") 171, (.ref 4)⟩, ⟨PyData.keyHash P (Str.ofString "__file__"), .str (Str.ofString "__file__") 173, (.str (Str.ofString "/claim/cut.py") 172)⟩, ⟨PyData.keyHash P (Str.ofString "__cached__"), .str (Str.ofString "__cached__") 174, .none⟩, ⟨PyData.keyHash P (Str.ofString "_netrclex"), .str (Str.ofString "_netrclex") 246, (.ref 52)⟩] 10), #[]⟩
noncomputable def T3 (P : Params) : BT := (.node (boot_o_0 P) (.node (boot_o_1 P) (.node (p2o3 P) (.node (boot_o_7 P) (.node (p1o15 P) (.node (p1o31 P) .nil .nil) (.node (p1o47 P) .nil .nil)) (.node (p1o23 P) (.node (p1o39 P) .nil .nil) (.node (p1o55 P) .nil .nil))) (.node (ao11 P) (.node (p1o19 P) (.node (p1o35 P) .nil .nil) (.node (p1o51 P) .nil .nil)) (.node (p1o27 P) (.node (p1o43 P) .nil .nil) .nil))) (.node (boot_o_5 P) (.node (boot_o_9 P) (.node (p1o17 P) (.node (p1o33 P) .nil .nil) (.node (p1o49 P) .nil .nil)) (.node (p1o25 P) (.node (p1o41 P) .nil .nil) .nil)) (.node (ao13 P) (.node (p1o21 P) (.node (p1o37 P) .nil .nil) (.node (p1o53 P) .nil .nil)) (.node (p1o29 P) (.node (p1o45 P) .nil .nil) .nil)))) (.node (boot_o_2 P) (.node (boot_o_4 P) (.node (boot_o_8 P) (.node (p1o16 P) (.node (p1o32 P) .nil .nil) (.node (p1o48 P) .nil .nil)) (.node (p1o24 P) (.node (p1o40 P) .nil .nil) (.node (p1o56 P) .nil .nil))) (.node (p1o12 P) (.node (p1o20 P) (.node (p1o36 P) .nil .nil) (.node (p1o52 P) .nil .nil)) (.node (p1o28 P) (.node (p1o44 P) .nil .nil) .nil))) (.node (boot_o_6 P) (.node (boot_o_10 P) (.node (p1o18 P) (.node (p1o34 P) .nil .nil) (.node (p1o50 P) .nil .nil)) (.node (p1o26 P) (.node (p1o42 P) .nil .nil) .nil)) (.node (ao14 P) (.node (p1o22 P) (.node (p1o38 P) .nil .nil) (.node (p1o54 P) .nil .nil)) (.node (p1o30 P) (.node (p1o46 P) .nil .nil) .nil)))))
noncomputable def p3o3 (P : Params) : Obj := ⟨(.type "dict"), none, (.dict #[⟨PyData.keyHash P (Str.ofString "__name__"), .str (Str.ofString "__name__") 165, (.str (Str.ofString "cpy313.doctest") 247)⟩, ⟨PyData.keyHash P (Str.ofString "__doc__"), .str (Str.ofString "__doc__") 166, .none⟩, ⟨PyData.keyHash P (Str.ofString "__package__"), .str (Str.ofString "__package__") 167, .none⟩, ⟨PyData.keyHash P (Str.ofString "__loader__"), .str (Str.ofString "__loader__") 168, (.builtin "__main__.__loader__#opaque")⟩, ⟨PyData.keyHash P (Str.ofString "__spec__"), .str (Str.ofString "__spec__") 169, .none⟩, ⟨PyData.keyHash P (Str.ofString "__annotations__"), .str (Str.ofString "__annotations__") 170, (.ref 6)⟩, ⟨PyData.keyHash P (Str.ofString "__builtins__"), .str (Str.ofString "__builtins__") 171, (.ref 4)⟩, ⟨PyData.keyHash P (Str.ofString "__file__"), .str (Str.ofString "__file__") 173, (.str (Str.ofString "/claim/cut.py") 172)⟩, ⟨PyData.keyHash P (Str.ofString "__cached__"), .str (Str.ofString "__cached__") 174, .none⟩, ⟨PyData.keyHash P (Str.ofString "_netrclex"), .str (Str.ofString "_netrclex") 246, (.ref 52)⟩, ⟨PyData.keyHash P (Str.ofString "_strip_exception_details"), .str (Str.ofString "_strip_exception_details") 258, (.ref 63)⟩] 11), #[]⟩
noncomputable def p3o12 (P : Params) : Obj := ⟨.none, none, (.fields #[(.int 2 0), (.int 0 0), (.ref 20), (.int 46 0), (.int 0 0), (.ref 62)]), #[]⟩
noncomputable def p3o57 (P : Params) : Obj := ⟨(.type "tuple"), none, (.seq #[] 0), #[]⟩
noncomputable def p3o58 (P : Params) : Obj := ⟨.none, none, (.fields #[]), #[]⟩
noncomputable def p3o59 (P : Params) : Obj := ⟨(.type "tuple"), none, (.seq #[(.str (Str.ofString "msg") 252), (.str (Str.ofString "start") 253), (.str (Str.ofString "end") 254), (.str (Str.ofString "i") 255)] 0), #[]⟩
noncomputable def p3o60 (P : Params) : Obj := ⟨(.type "tuple"), none, (.seq #[] 0), #[]⟩
noncomputable def p3o61 (P : Params) : Obj := ⟨.none, none, (.func ⟨(Str.ofString "_strip_exception_details"), (Str.ofString "_strip_exception_details"), fArgs (stm 3), .stmts (fBody (stm 3)), fScope (stm 3), 0, [], .none, .none, .none, .none, none, .none, .none, 0⟩), #[]⟩
noncomputable def p3o62 (P : Params) : Obj := ⟨(.type "code"), none, (.fields #[(.str (Str.ofString "_strip_exception_details") 249), (.str (Str.ofString "_strip_exception_details") 250), (.str (Str.ofString "/claim/cut.py") 251), (.int 46 0), (.int 1 0), (.int 0 0), (.int 0 0), (.int 3 0), (.ref 57), (.bool true), (.int 181 0), (.ref 58), .none, (.ref 59), (.ref 60), (.ref 61), (.int 256 0), (.int 46 0), (.str (Str.ofString "/claim/cut.py") 257)]), #[]⟩
noncomputable def p3o63 (P : Params) : Obj := ⟨(.type "function"), none, (.func ⟨(Str.ofString "_strip_exception_details"), (Str.ofString "_strip_exception_details"), fArgs (stm 3), .stmts (fBody (stm 3)), fScope (stm 3), 3, [], .none, .none, .none, (.str (Str.ofString "cpy313.doctest") 247), none, (.ref 62), .none, 0⟩), #[]⟩
noncomputable def T4 (P : Params) : BT := (.node (boot_o_0 P) (.node (boot_o_1 P) (.node (p3o3 P) (.node (boot_o_7 P) (.node (p1o15 P) (.node (p1o31 P) (.node (p3o63 P) .nil .nil) .nil) (.node (p1o47 P) .nil .nil)) (.node (p1o23 P) (.node (p1o39 P) .nil .nil) (.node (p1o55 P) .nil .nil))) (.node (ao11 P) (.node (p1o19 P) (.node (p1o35 P) .nil .nil) (.node (p1o51 P) .nil .nil)) (.node (p1o27 P) (.node (p1o43 P) .nil .nil) (.node (p3o59 P) .nil .nil)))) (.node (boot_o_5 P) (.node (boot_o_9 P) (.node (p1o17 P) (.node (p1o33 P) .nil .nil) (.node (p1o49 P) .nil .nil)) (.node (p1o25 P) (.node (p1o41 P) .nil .nil) (.node (p3o57 P) .nil .nil))) (.node (ao13 P) (.node (p1o21 P) (.node (p1o37 P) .nil .nil) (.node (p1o53 P) .nil .nil)) (.node (p1o29 P) (.node (p1o45 P) .nil .nil) (.node (p3o61 P) .nil .nil))))) (.node (boot_o_2 P) (.node (boot_o_4 P) (.node (boot_o_8 P) (.node (p1o16 P) (.node (p1o32 P) .nil .nil) (.node (p1o48 P) .nil .nil)) (.node (p1o24 P) (.node (p1o40 P) .nil .nil) (.node (p1o56 P) .nil .nil))) (.node (p3o12 P) (.node (p1o20 P) (.node (p1o36 P) .nil .nil) (.node (p1o52 P) .nil .nil)) (.node (p1o28 P) (.node (p1o44 P) .nil .nil) (.node (p3o60 P) .nil .nil)))) (.node (boot_o_6 P) (.node (boot_o_10 P) (.node (p1o18 P) (.node (p1o34 P) .nil .nil) (.node (p1o50 P) .nil .nil)) (.node (p1o26 P) (.node (p1o42 P) .nil .nil) (.node (p3o58 P) .nil .nil))) (.node (ao14 P) (.node (p1o22 P) (.node (p1o38 P) .nil .nil) (.node (p1o54 P) .nil .nil)) (.node (p1o30 P) (.node (p1o46 P) .nil .nil) (.node (p3o62 P) .nil .nil))))))
noncomputable def p4o3 (P : Params) : Obj := ⟨(.type "dict"), none, (.dict #[⟨PyData.keyHash P (Str.ofString "__name__"), .str (Str.ofString "__name__") 165, (.str (Str.ofString "cpy313.stringprep") 259)⟩, ⟨PyData.keyHash P (Str.ofString "__doc__"), .str (Str.ofString "__doc__") 166, .none⟩, ⟨PyData.keyHash P (Str.ofString "__package__"), .str (Str.ofString "__package__") 167, .none⟩, ⟨PyData.keyHash P (Str.ofString "__loader__"), .str (Str.ofString "__loader__") 168, (.builtin "__main__.__loader__#opaque")⟩, ⟨PyData.keyHash P (Str.ofString "__spec__"), .str (Str.ofString "__spec__") 169, .none⟩, ⟨PyData.keyHash P (Str.ofString "__annotations__"), .str (Str.ofString "__annotations__") 170, (.ref 6)⟩, ⟨PyData.keyHash P (Str.ofString "__builtins__"), .str (Str.ofString "__builtins__") 171, (.ref 4)⟩, ⟨PyData.keyHash P (Str.ofString "__file__"), .str (Str.ofString "__file__") 173, (.str (Str.ofString "/claim/cut.py") 172)⟩, ⟨PyData.keyHash P (Str.ofString "__cached__"), .str (Str.ofString "__cached__") 174, .none⟩, ⟨PyData.keyHash P (Str.ofString "_netrclex"), .str (Str.ofString "_netrclex") 246, (.ref 52)⟩, ⟨PyData.keyHash P (Str.ofString "_strip_exception_details"), .str (Str.ofString "_strip_exception_details") 258, (.ref 63)⟩] 11), #[]⟩
noncomputable def T5 (P : Params) : BT := (.node (boot_o_0 P) (.node (boot_o_1 P) (.node (p4o3 P) (.node (boot_o_7 P) (.node (p1o15 P) (.node (p1o31 P) (.node (p3o63 P) .nil .nil) .nil) (.node (p1o47 P) .nil .nil)) (.node (p1o23 P) (.node (p1o39 P) .nil .nil) (.node (p1o55 P) .nil .nil))) (.node (ao11 P) (.node (p1o19 P) (.node (p1o35 P) .nil .nil) (.node (p1o51 P) .nil .nil)) (.node (p1o27 P) (.node (p1o43 P) .nil .nil) (.node (p3o59 P) .nil .nil)))) (.node (boot_o_5 P) (.node (boot_o_9 P) (.node (p1o17 P) (.node (p1o33 P) .nil .nil) (.node (p1o49 P) .nil .nil)) (.node (p1o25 P) (.node (p1o41 P) .nil .nil) (.node (p3o57 P) .nil .nil))) (.node (ao13 P) (.node (p1o21 P) (.node (p1o37 P) .nil .nil) (.node (p1o53 P) .nil .nil)) (.node (p1o29 P) (.node (p1o45 P) .nil .nil) (.node (p3o61 P) .nil .nil))))) (.node (boot_o_2 P) (.node (boot_o_4 P) (.node (boot_o_8 P) (.node (p1o16 P) (.node (p1o32 P) .nil .nil) (.node (p1o48 P) .nil .nil)) (.node (p1o24 P) (.node (p1o40 P) .nil .nil) (.node (p1o56 P) .nil .nil))) (.node (p3o12 P) (.node (p1o20 P) (.node (p1o36 P) .nil .nil) (.node (p1o52 P) .nil .nil)) (.node (p1o28 P) (.node (p1o44 P) .nil .nil) (.node (p3o60 P) .nil .nil)))) (.node (boot_o_6 P) (.node (boot_o_10 P) (.node (p1o18 P) (.node (p1o34 P) .nil .nil) (.node (p1o50 P) .nil .nil)) (.node (p1o26 P) (.node (p1o42 P) .nil .nil) (.node (p3o58 P) .nil .nil))) (.node (ao14 P) (.node (p1o22 P) (.node (p1o38 P) .nil .nil) (.node (p1o54 P) .nil .nil)) (.node (p1o30 P) (.node (p1o46 P) .nil .nil) (.node (p3o62 P) .nil .nil))))))
noncomputable def p5o3 (P : Params) : Obj := ⟨(.type "dict"), none, (.dict #[⟨PyData.keyHash P (Str.ofString "__name__"), .str (Str.ofString "__name__") 165, (.str (Str.ofString "cpy313.stringprep") 259)⟩, ⟨PyData.keyHash P (Str.ofString "__doc__"), .str (Str.ofString "__doc__") 166, .none⟩, ⟨PyData.keyHash P (Str.ofString "__package__"), .str (Str.ofString "__package__") 167, .none⟩, ⟨PyData.keyHash P (Str.ofString "__loader__"), .str (Str.ofString "__loader__") 168, (.builtin "__main__.__loader__#opaque")⟩, ⟨PyData.keyHash P (Str.ofString "__spec__"), .str (Str.ofString "__spec__") 169, .none⟩, ⟨PyData.keyHash P (Str.ofString "__annotations__"), .str (Str.ofString "__annotations__") 170, (.ref 6)⟩, ⟨PyData.keyHash P (Str.ofString "__builtins__"), .str (Str.ofString "__builtins__") 171, (.ref 4)⟩, ⟨PyData.keyHash P (Str.ofString "__file__"), .str (Str.ofString "__file__") 173, (.str (Str.ofString "/claim/cut.py") 172)⟩, ⟨PyData.keyHash P (Str.ofString "__cached__"), .str (Str.ofString "__cached__") 174, .none⟩, ⟨PyData.keyHash P (Str.ofString "_netrclex"), .str (Str.ofString "_netrclex") 246, (.ref 52)⟩, ⟨PyData.keyHash P (Str.ofString "_strip_exception_details"), .str (Str.ofString "_strip_exception_details") 258, (.ref 63)⟩, ⟨PyData.keyHash P (Str.ofString "b1_set"), .str (Str.ofString "b1_set") 320, (.ref 71)⟩] 12), #[]⟩
noncomputable def p5o64 (P : Params) : Obj := ⟨(.type "list"), none, (.seq #[(.int 173 261), (.int 847 262), (.int 6150 263), (.int 6155 264), (.int 6156 265), (.int 6157 266), (.int 8203 267), (.int 8204 268), (.int 8205 269), (.int 8288 270), (.int 65279 271)] 0), #[]⟩
noncomputable def p5o65 (P : Params) : Obj := ⟨(.type "range"), none, (.fields #[(.int 65024 272), (.int 65040 273), (.int 1 274)]), #[]⟩
noncomputable def p5o66 (P : Params) : Obj := ⟨(.type "list"), none, (.seq #[(.int 65024 277), (.int 65025 278), (.int 65026 279), (.int 65027 280), (.int 65028 281), (.int 65029 282), (.int 65030 283), (.int 65031 284), (.int 65032 285), (.int 65033 286), (.int 65034 287), (.int 65035 288), (.int 65036 289), (.int 65037 290), (.int 65038 291), (.int 65039 292)] 18), #[]⟩
noncomputable def p5o67 (P : Params) : Obj := ⟨(.type "range_iterator"), none, (.fields #[(.int 65040 0), (.int 0 0), (.int 1 0)]), #[]⟩
noncomputable def p5o68 (P : Params) : Obj := ⟨(.type "tuple"), none, (.seq #[] 0), #[]⟩
noncomputable def p5o69 (P : Params) : Obj := ⟨(.type "StopIteration"), none, (.fields #[(.ref 68), .none, .none, .none, (.bool false), .none]), #[]⟩
noncomputable def p5o70 (P : Params) : Obj := ⟨(.type "list"), none, (.seq #[(.int 173 261), (.int 847 262), (.int 6150 263), (.int 6155 264), (.int 6156 265), (.int 6157 266), (.int 8203 267), (.int 8204 268), (.int 8205 269), (.int 8288 270), (.int 65279 271), (.int 65024 277), (.int 65025 278), (.int 65026 279), (.int 65027 280), (.int 65028 281), (.int 65029 282), (.int 65030 283), (.int 65031 284), (.int 65032 285), (.int 65033 286), (.int 65034 287), (.int 65035 288), (.int 65036 289), (.int 65037 290), (.int 65038 291), (.int 65039 292)] 0), #[]⟩
noncomputable def p5o71 (P : Params) : Obj := ⟨(.type "set"), none, (.set #[(65024, (.int 65024 277)), (65025, (.int 65025 278)), (65026, (.int 65026 279)), (65027, (.int 65027 280)), (65028, (.int 65028 281)), (65029, (.int 65029 282)), (6150, (.int 6150 263)), (65030, (.int 65030 283)), (65031, (.int 65031 284)), (65032, (.int 65032 285)), (65033, (.int 65033 286)), (6155, (.int 6155 264)), (6156, (.int 6156 265)), (6157, (.int 6157 266)), (8203, (.int 8203 267)), (8204, (.int 8204 268)), (8205, (.int 8205 269)), (65034, (.int 65034 287)), (65035, (.int 65035 288)), (65036, (.int 65036 289)), (65037, (.int 65037 290)), (65038, (.int 65038 291)), (65039, (.int 65039 292)), (173, (.int 173 261)), (847, (.int 847 262)), (8288, (.int 8288 270)), (65279, (.int 65279 271))] 29 ⟨127, #[0, 1, 2, 3, 4, 5, 6, 7, 8, 9, 10, 11, 12, 13, 14, 15, 16, 17, 18, 19, 20, 21, 22, 45, 79, 96, 127], #[], 0, !P.followText "set-order", 2, true⟩), #[]⟩
noncomputable def p5o72 (P : Params) : Obj := ⟨(.type "list_iterator"), none, (.fields #[.none, (.int 27 0)]), #[]⟩
noncomputable def p5o73 (P : Params) : Obj := ⟨(.type "tuple"), none, (.seq #[] 0), #[]⟩
noncomputable def p5o74 (P : Params) : Obj := ⟨(.type "StopIteration"), none, (.fields #[(.ref 73), .none, .none, .none, (.bool false), .none]), #[]⟩
noncomputable def T6 (P : Params) : BT := (.node (boot_o_0 P) (.node (boot_o_1 P) (.node (p5o3 P) (.node (boot_o_7 P) (.node (p1o15 P) (.node (p1o31 P) (.node (p3o63 P) .nil .nil) .nil) (.node (p1o47 P) .nil .nil)) (.node (p1o23 P) (.node (p1o39 P) (.node (p5o71 P) .nil .nil) .nil) (.node (p1o55 P) .nil .nil))) (.node (ao11 P) (.node (p1o19 P) (.node (p1o35 P) (.node (p5o67 P) .nil .nil) .nil) (.node (p1o51 P) .nil .nil)) (.node (p1o27 P) (.node (p1o43 P) .nil .nil) (.node (p3o59 P) .nil .nil)))) (.node (boot_o_5 P) (.node (boot_o_9 P) (.node (p1o17 P) (.node (p1o33 P) (.node (p5o65 P) .nil .nil) .nil) (.node (p1o49 P) .nil .nil)) (.node (p1o25 P) (.node (p1o41 P) (.node (p5o73 P) .nil .nil) .nil) (.node (p3o57 P) .nil .nil))) (.node (ao13 P) (.node (p1o21 P) (.node (p1o37 P) (.node (p5o69 P) .nil .nil) .nil) (.node (p1o53 P) .nil .nil)) (.node (p1o29 P) (.node (p1o45 P) .nil .nil) (.node (p3o61 P) .nil .nil))))) (.node (boot_o_2 P) (.node (boot_o_4 P) (.node (boot_o_8 P) (.node (p1o16 P) (.node (p1o32 P) (.node (p5o64 P) .nil .nil) .nil) (.node (p1o48 P) .nil .nil)) (.node (p1o24 P) (.node (p1o40 P) (.node (p5o72 P) .nil .nil) .nil) (.node (p1o56 P) .nil .nil))) (.node (p3o12 P) (.node (p1o20 P) (.node (p1o36 P) (.node (p5o68 P) .nil .nil) .nil) (.node (p1o52 P) .nil .nil)) (.node (p1o28 P) (.node (p1o44 P) .nil .nil) (.node (p3o60 P) .nil .nil)))) (.node (boot_o_6 P) (.node (boot_o_10 P) (.node (p1o18 P) (.node (p1o34 P) (.node (p5o66 P) .nil .nil) .nil) (.node (p1o50 P) .nil .nil)) (.node (p1o26 P) (.node (p1o42 P) (.node (p5o74 P) .nil .nil) .nil) (.node (p3o58 P) .nil .nil))) (.node (ao14 P) (.node (p1o22 P) (.node (p1o38 P) (.node (p5o70 P) .nil .nil) .nil) (.node (p1o54 P) .nil .nil)) (.node (p1o30 P) (.node (p1o46 P) .nil .nil) (.node (p3o62 P) .nil .nil))))))
noncomputable def p6o3 (P : Params) : Obj := ⟨(.type "dict"), none, (.dict #[⟨PyData.keyHash P (Str.ofString "__name__"), .str (Str.ofString "__name__") 165, (.str (Str.ofString "cpy313.stringprep") 259)⟩, ⟨PyData.keyHash P (Str.ofString "__doc__"), .str (Str.ofString "__doc__") 166, .none⟩, ⟨PyData.keyHash P (Str.ofString "__package__"), .str (Str.ofString "__package__") 167, .none⟩, ⟨PyData.keyHash P (Str.ofString "__loader__"), .str (Str.ofString "__loader__") 168, (.builtin "__main__.__loader__#opaque")⟩, ⟨PyData.keyHash P (Str.ofString "__spec__"), .str (Str.ofString "__spec__") 169, .none⟩, ⟨PyData.keyHash P (Str.ofString "__annotations__"), .str (Str.ofString "__annotations__") 170, (.ref 6)⟩, ⟨PyData.keyHash P (Str.ofString "__builtins__"), .str (Str.ofString "__builtins__") 171, (.ref 4)⟩, ⟨PyData.keyHash P (Str.ofString "__file__"), .str (Str.ofString "__file__") 173, (.str (Str.ofString "/claim/cut.py") 172)⟩, ⟨PyData.keyHash P (Str.ofString "__cached__"), .str (Str.ofString "__cached__") 174, .none⟩, ⟨PyData.keyHash P (Str.ofString "_netrclex"), .str (Str.ofString "_netrclex") 246, (.ref 52)⟩, ⟨PyData.keyHash P (Str.ofString "_strip_exception_details"), .str (Str.ofString "_strip_exception_details") 258, (.ref 63)⟩, ⟨PyData.keyHash P (Str.ofString "b1_set"), .str (Str.ofString "b1_set") 320, (.ref 71)⟩, ⟨PyData.keyHash P (Str.ofString "in_table_b1"), .str (Str.ofString "in_table_b1") 327, (.ref 81)⟩] 13), #[]⟩
noncomputable def p6o12 (P : Params) : Obj := ⟨.none, none, (.fields #[(.int 2 0), (.int 0 0), (.ref 20), (.int 46 0), (.int 0 0), (.ref 62), (.int 60 0), (.int 0 0), (.ref 80)]), #[]⟩
noncomputable def p6o75 (P : Params) : Obj := ⟨(.type "tuple"), none, (.seq #[] 0), #[]⟩
noncomputable def p6o76 (P : Params) : Obj := ⟨.none, none, (.fields #[]), #[]⟩
noncomputable def p6o77 (P : Params) : Obj := ⟨(.type "tuple"), none, (.seq #[(.str (Str.ofString "code") 324)] 0), #[]⟩
noncomputable def p6o78 (P : Params) : Obj := ⟨(.type "tuple"), none, (.seq #[] 0), #[]⟩
noncomputable def p6o79 (P : Params) : Obj := ⟨.none, none, (.func ⟨(Str.ofString "in_table_b1"), (Str.ofString "in_table_b1"), fArgs (stm 6), .stmts (fBody (stm 6)), fScope (stm 6), 0, [], .none, .none, .none, .none, none, .none, .none, 0⟩), #[]⟩
noncomputable def p6o80 (P : Params) : Obj := ⟨(.type "code"), none, (.fields #[(.str (Str.ofString "in_table_b1") 321), (.str (Str.ofString "in_table_b1") 322), (.str (Str.ofString "/claim/cut.py") 323), (.int 60 0), (.int 1 0), (.int 0 0), (.int 0 0), (.int 3 0), (.ref 75), (.bool true), (.int 181 0), (.ref 76), .none, (.ref 77), (.ref 78), (.ref 79), (.int 325 0), (.int 60 0), (.str (Str.ofString "/claim/cut.py") 326)]), #[]⟩
noncomputable def p6o81 (P : Params) : Obj := ⟨(.type "function"), none, (.func ⟨(Str.ofString "in_table_b1"), (Str.ofString "in_table_b1"), fArgs (stm 6), .stmts (fBody (stm 6)), fScope (stm 6), 3, [], .none, .none, .none, (.str (Str.ofString "cpy313.stringprep") 259), none, (.ref 80), .none, 0⟩), #[]⟩
noncomputable def T7 (P : Params) : BT := (.node (boot_o_0 P) (.node (boot_o_1 P) (.node (p6o3 P) (.node (boot_o_7 P) (.node (p1o15 P) (.node (p1o31 P) (.node (p3o63 P) .nil .nil) .nil) (.node (p1o47 P) (.node (p6o79 P) .nil .nil) .nil)) (.node (p1o23 P) (.node (p1o39 P) (.node (p5o71 P) .nil .nil) .nil) (.node (p1o55 P) .nil .nil))) (.node (ao11 P) (.node (p1o19 P) (.node (p1o35 P) (.node (p5o67 P) .nil .nil) .nil) (.node (p1o51 P) .nil .nil)) (.node (p1o27 P) (.node (p1o43 P) (.node (p6o75 P) .nil .nil) .nil) (.node (p3o59 P) .nil .nil)))) (.node (boot_o_5 P) (.node (boot_o_9 P) (.node (p1o17 P) (.node (p1o33 P) (.node (p5o65 P) .nil .nil) .nil) (.node (p1o49 P) (.node (p6o81 P) .nil .nil) .nil)) (.node (p1o25 P) (.node (p1o41 P) (.node (p5o73 P) .nil .nil) .nil) (.node (p3o57 P) .nil .nil))) (.node (ao13 P) (.node (p1o21 P) (.node (p1o37 P) (.node (p5o69 P) .nil .nil) .nil) (.node (p1o53 P) .nil .nil)) (.node (p1o29 P) (.node (p1o45 P) (.node (p6o77 P) .nil .nil) .nil) (.node (p3o61 P) .nil .nil))))) (.node (boot_o_2 P) (.node (boot_o_4 P) (.node (boot_o_8 P) (.node (p1o16 P) (.node (p1o32 P) (.node (p5o64 P) .nil .nil) .nil) (.node (p1o48 P) (.node (p6o80 P) .nil .nil) .nil)) (.node (p1o24 P) (.node (p1o40 P) (.node (p5o72 P) .nil .nil) .nil) (.node (p1o56 P) .nil .nil))) (.node (p6o12 P) (.node (p1o20 P) (.node (p1o36 P) (.node (p5o68 P) .nil .nil) .nil) (.node (p1o52 P) .nil .nil)) (.node (p1o28 P) (.node (p1o44 P) (.node (p6o76 P) .nil .nil) .nil) (.node (p3o60 P) .nil .nil)))) (.node (boot_o_6 P) (.node (boot_o_10 P) (.node (p1o18 P) (.node (p1o34 P) (.node (p5o66 P) .nil .nil) .nil) (.node (p1o50 P) .nil .nil)) (.node (p1o26 P) (.node (p1o42 P) (.node (p5o74 P) .nil .nil) .nil) (.node (p3o58 P) .nil .nil))) (.node (ao14 P) (.node (p1o22 P) (.node (p1o38 P) (.node (p5o70 P) .nil .nil) .nil) (.node (p1o54 P) .nil .nil)) (.node (p1o30 P) (.node (p1o46 P) (.node (p6o78 P) .nil .nil) .nil) (.node (p3o62 P) .nil .nil))))))
noncomputable def p7o3 (P : Params) : Obj := ⟨(.type "dict"), none, (.dict #[⟨PyData.keyHash P (Str.ofString "__name__"), .str (Str.ofString "__name__") 165, (.str (Str.ofString "cpy313.stringprep") 259)⟩, ⟨PyData.keyHash P (Str.ofString "__doc__"), .str (Str.ofString "__doc__") 166, .none⟩, ⟨PyData.keyHash P (Str.ofString "__package__"), .str (Str.ofString "__package__") 167, .none⟩, ⟨PyData.keyHash P (Str.ofString "__loader__"), .str (Str.ofString "__loader__") 168, (.builtin "__main__.__loader__#opaque")⟩, ⟨PyData.keyHash P (Str.ofString "__spec__"), .str (Str.ofString "__spec__") 169, .none⟩, ⟨PyData.keyHash P (Str.ofString "__annotations__"), .str (Str.ofString "__annotations__") 170, (.ref 6)⟩, ⟨PyData.keyHash P (Str.ofString "__builtins__"), .str (Str.ofString "__builtins__") 171, (.ref 4)⟩, ⟨PyData.keyHash P (Str.ofString "__file__"), .str (Str.ofString "__file__") 173, (.str (Str.ofString "/claim/cut.py") 172)⟩, ⟨PyData.keyHash P (Str.ofString "__cached__"), .str (Str.ofString "__cached__") 174, .none⟩, ⟨PyData.keyHash P (Str.ofString "_netrclex"), .str (Str.ofString "_netrclex") 246, (.ref 52)⟩, ⟨PyData.keyHash P (Str.ofString "_strip_exception_details"), .str (Str.ofString "_strip_exception_details") 258, (.ref 63)⟩, ⟨PyData.keyHash P (Str.ofString "b1_set"), .str (Str.ofString "b1_set") 320, (.ref 71)⟩, ⟨PyData.keyHash P (Str.ofString "in_table_b1"), .str (Str.ofString "in_table_b1") 327, (.ref 81)⟩, ⟨PyData.keyHash P (Str.ofString "b3_exceptions"), .str (Str.ofString "b3_exceptions") 2278, (.ref 82)⟩] 14), #[]⟩
noncomputable def T8 (P : Params) : BT := (.node (boot_o_0 P) (.node (boot_o_1 P) (.node (p7o3 P) (.node (boot_o_7 P) (.node (p1o15 P) (.node (p1o31 P) (.node (p3o63 P) .nil .nil) (.node (b3o 95 P) .nil .nil)) (.node (p1o47 P) (.node (p6o79 P) .nil .nil) (.node (b3o 111 P) .nil .nil))) (.node (p1o23 P) (.node (p1o39 P) (.node (p5o71 P) .nil .nil) (.node (b3o 103 P) .nil .nil)) (.node (p1o55 P) (.node (b3o 87 P) .nil .nil) (.node (b3o 119 P) .nil .nil)))) (.node (ao11 P) (.node (p1o19 P) (.node (p1o35 P) (.node (p5o67 P) .nil .nil) (.node (b3o 99 P) .nil .nil)) (.node (p1o51 P) (.node (b3o 83 P) .nil .nil) (.node (b3o 115 P) .nil .nil))) (.node (p1o27 P) (.node (p1o43 P) (.node (p6o75 P) .nil .nil) (.node (b3o 107 P) .nil .nil)) (.node (p3o59 P) (.node (b3o 91 P) .nil .nil) .nil)))) (.node (boot_o_5 P) (.node (boot_o_9 P) (.node (p1o17 P) (.node (p1o33 P) (.node (p5o65 P) .nil .nil) (.node (b3o 97 P) .nil .nil)) (.node (p1o49 P) (.node (p6o81 P) .nil .nil) (.node (b3o 113 P) .nil .nil))) (.node (p1o25 P) (.node (p1o41 P) (.node (p5o73 P) .nil .nil) (.node (b3o 105 P) .nil .nil)) (.node (p3o57 P) (.node (b3o 89 P) .nil .nil) .nil))) (.node (ao13 P) (.node (p1o21 P) (.node (p1o37 P) (.node (p5o69 P) .nil .nil) (.node (b3o 101 P) .nil .nil)) (.node (p1o53 P) (.node (b3o 85 P) .nil .nil) (.node (b3o 117 P) .nil .nil))) (.node (p1o29 P) (.node (p1o45 P) (.node (p6o77 P) .nil .nil) (.node (b3o 109 P) .nil .nil)) (.node (p3o61 P) (.node (b3o 93 P) .nil .nil) .nil))))) (.node (boot_o_2 P) (.node (boot_o_4 P) (.node (boot_o_8 P) (.node (p1o16 P) (.node (p1o32 P) (.node (p5o64 P) .nil .nil) (.node (b3o 96 P) .nil .nil)) (.node (p1o48 P) (.node (p6o80 P) .nil .nil) (.node (b3o 112 P) .nil .nil))) (.node (p1o24 P) (.node (p1o40 P) (.node (p5o72 P) .nil .nil) (.node (b3o 104 P) .nil .nil)) (.node (p1o56 P) (.node (b3o 88 P) .nil .nil) (.node (b3o 120 P) .nil .nil)))) (.node (p6o12 P) (.node (p1o20 P) (.node (p1o36 P) (.node (p5o68 P) .nil .nil) (.node (b3o 100 P) .nil .nil)) (.node (p1o52 P) (.node (b3o 84 P) .nil .nil) (.node (b3o 116 P) .nil .nil))) (.node (p1o28 P) (.node (p1o44 P) (.node (p6o76 P) .nil .nil) (.node (b3o 108 P) .nil .nil)) (.node (p3o60 P) (.node (b3o 92 P) .nil .nil) .nil)))) (.node (boot_o_6 P) (.node (boot_o_10 P) (.node (p1o18 P) (.node (p1o34 P) (.node (p5o66 P) .nil .nil) (.node (b3o 98 P) .nil .nil)) (.node (p1o50 P) (.node (b3o 82 P) .nil .nil) (.node (b3o 114 P) .nil .nil))) (.node (p1o26 P) (.node (p1o42 P) (.node (p5o74 P) .nil .nil) (.node (b3o 106 P) .nil .nil)) (.node (p3o58 P) (.node (b3o 90 P) .nil .nil) .nil))) (.node (ao14 P) (.node (p1o22 P) (.node (p1o38 P) (.node (p5o70 P) .nil .nil) (.node (b3o 102 P) .nil .nil)) (.node (p1o54 P) (.node (b3o 86 P) .nil .nil) (.node (b3o 118 P) .nil .nil))) (.node (p1o30 P) (.node (p1o46 P) (.node (p6o78 P) .nil .nil) (.node (b3o 110 P) .nil .nil)) (.node (p3o62 P) (.node (b3o 94 P) .nil .nil) .nil))))))
noncomputable def p8o3 (P : Params) : Obj := ⟨(.type "dict"), none, (.dict #[⟨PyData.keyHash P (Str.ofString "__name__"), .str (Str.ofString "__name__") 165, (.str (Str.ofString "cpy313.stringprep") 259)⟩, ⟨PyData.keyHash P (Str.ofString "__doc__"), .str (Str.ofString "__doc__") 166, .none⟩, ⟨PyData.keyHash P (Str.ofString "__package__"), .str (Str.ofString "__package__") 167, .none⟩, ⟨PyData.keyHash P (Str.ofString "__loader__"), .str (Str.ofString "__loader__") 168, (.builtin "__main__.__loader__#opaque")⟩, ⟨PyData.keyHash P (Str.ofString "__spec__"), .str (Str.ofString "__spec__") 169, .none⟩, ⟨PyData.keyHash P (Str.ofString "__annotations__"), .str (Str.ofString "__annotations__") 170, (.ref 6)⟩, ⟨PyData.keyHash P (Str.ofString "__builtins__"), .str (Str.ofString "__builtins__") 171, (.ref 4)⟩, ⟨PyData.keyHash P (Str.ofString "__file__"), .str (Str.ofString "__file__") 173, (.str (Str.ofString "/claim/cut.py") 172)⟩, ⟨PyData.keyHash P (Str.ofString "__cached__"), .str (Str.ofString "__cached__") 174, .none⟩, ⟨PyData.keyHash P (Str.ofString "_netrclex"), .str (Str.ofString "_netrclex") 246, (.ref 52)⟩, ⟨PyData.keyHash P (Str.ofString "_strip_exception_details"), .str (Str.ofString "_strip_exception_details") 258, (.ref 63)⟩, ⟨PyData.keyHash P (Str.ofString "b1_set"), .str (Str.ofString "b1_set") 320, (.ref 71)⟩, ⟨PyData.keyHash P (Str.ofString "in_table_b1"), .str (Str.ofString "in_table_b1") 327, (.ref 81)⟩, ⟨PyData.keyHash P (Str.ofString "b3_exceptions"), .str (Str.ofString "b3_exceptions") 2278, (.ref 82)⟩, ⟨PyData.keyHash P (Str.ofString "map_table_b3"), .str (Str.ofString "map_table_b3") 2286, (.ref 127)⟩] 15), #[]⟩
noncomputable def p8o12 (P : Params) : Obj := ⟨.none, none, (.fields #[(.int 2 0), (.int 0 0), (.ref 20), (.int 46 0), (.int 0 0), (.ref 62), (.int 60 0), (.int 0 0), (.ref 80), (.int 63 0), (.int 0 0), (.ref 126)]), #[]⟩
noncomputable def p8o121 (P : Params) : Obj := ⟨(.type "tuple"), none, (.seq #[] 0), #[]⟩
noncomputable def p8o122 (P : Params) : Obj := ⟨.none, none, (.fields #[]), #[]⟩
noncomputable def p8o123 (P : Params) : Obj := ⟨(.type "tuple"), none, (.seq #[(.str (Str.ofString "code") 2282), (.str (Str.ofString "r") 2283)] 0), #[]⟩
noncomputable def p8o124 (P : Params) : Obj := ⟨(.type "tuple"), none, (.seq #[] 0), #[]⟩
noncomputable def p8o125 (P : Params) : Obj := ⟨.none, none, (.func ⟨(Str.ofString "map_table_b3"), (Str.ofString "map_table_b3"), fArgs (stm 8), .stmts (fBody (stm 8)), fScope (stm 8), 0, [], .none, .none, .none, .none, none, .none, .none, 0⟩), #[]⟩
noncomputable def p8o126 (P : Params) : Obj := ⟨(.type "code"), none, (.fields #[(.str (Str.ofString "map_table_b3") 2279), (.str (Str.ofString "map_table_b3") 2280), (.str (Str.ofString "/claim/cut.py") 2281), (.int 63 0), (.int 1 0), (.int 0 0), (.int 0 0), (.int 3 0), (.ref 121), (.bool true), (.int 181 0), (.ref 122), .none, (.ref 123), (.ref 124), (.ref 125), (.int 2284 0), (.int 63 0), (.str (Str.ofString "/claim/cut.py") 2285)]), #[]⟩
noncomputable def p8o127 (P : Params) : Obj := ⟨(.type "function"), none, (.func ⟨(Str.ofString "map_table_b3"), (Str.ofString "map_table_b3"), fArgs (stm 8), .stmts (fBody (stm 8)), fScope (stm 8), 3, [], .none, .none, .none, (.str (Str.ofString "cpy313.stringprep") 259), none, (.ref 126), .none, 0⟩), #[]⟩
noncomputable def T9 (P : Params) : BT := (.node (boot_o_0 P) (.node (boot_o_1 P) (.node (p8o3 P) (.node (boot_o_7 P) (.node (p1o15 P) (.node (p1o31 P) (.node (p3o63 P) (.node (p8o127 P) .nil .nil) .nil) (.node (b3o 95 P) .nil .nil)) (.node (p1o47 P) (.node (p6o79 P) .nil .nil) (.node (b3o 111 P) .nil .nil))) (.node (p1o23 P) (.node (p1o39 P) (.node (p5o71 P) .nil .nil) (.node (b3o 103 P) .nil .nil)) (.node (p1o55 P) (.node (b3o 87 P) .nil .nil) (.node (b3o 119 P) .nil .nil)))) (.node (ao11 P) (.node (p1o19 P) (.node (p1o35 P) (.node (p5o67 P) .nil .nil) (.node (b3o 99 P) .nil .nil)) (.node (p1o51 P) (.node (b3o 83 P) .nil .nil) (.node (b3o 115 P) .nil .nil))) (.node (p1o27 P) (.node (p1o43 P) (.node (p6o75 P) .nil .nil) (.node (b3o 107 P) .nil .nil)) (.node (p3o59 P) (.node (b3o 91 P) .nil .nil) (.node (p8o123 P) .nil .nil))))) (.node (boot_o_5 P) (.node (boot_o_9 P) (.node (p1o17 P) (.node (p1o33 P) (.node (p5o65 P) .nil .nil) (.node (b3o 97 P) .nil .nil)) (.node (p1o49 P) (.node (p6o81 P) .nil .nil) (.node (b3o 113 P) .nil .nil))) (.node (p1o25 P) (.node (p1o41 P) (.node (p5o73 P) .nil .nil) (.node (b3o 105 P) .nil .nil)) (.node (p3o57 P) (.node (b3o 89 P) .nil .nil) (.node (p8o121 P) .nil .nil)))) (.node (ao13 P) (.node (p1o21 P) (.node (p1o37 P) (.node (p5o69 P) .nil .nil) (.node (b3o 101 P) .nil .nil)) (.node (p1o53 P) (.node (b3o 85 P) .nil .nil) (.node (b3o 117 P) .nil .nil))) (.node (p1o29 P) (.node (p1o45 P) (.node (p6o77 P) .nil .nil) (.node (b3o 109 P) .nil .nil)) (.node (p3o61 P) (.node (b3o 93 P) .nil .nil) (.node (p8o125 P) .nil .nil)))))) (.node (boot_o_2 P) (.node (boot_o_4 P) (.node (boot_o_8 P) (.node (p1o16 P) (.node (p1o32 P) (.node (p5o64 P) .nil .nil) (.node (b3o 96 P) .nil .nil)) (.node (p1o48 P) (.node (p6o80 P) .nil .nil) (.node (b3o 112 P) .nil .nil))) (.node (p1o24 P) (.node (p1o40 P) (.node (p5o72 P) .nil .nil) (.node (b3o 104 P) .nil .nil)) (.node (p1o56 P) (.node (b3o 88 P) .nil .nil) (.node (b3o 120 P) .nil .nil)))) (.node (p8o12 P) (.node (p1o20 P) (.node (p1o36 P) (.node (p5o68 P) .nil .nil) (.node (b3o 100 P) .nil .nil)) (.node (p1o52 P) (.node (b3o 84 P) .nil .nil) (.node (b3o 116 P) .nil .nil))) (.node (p1o28 P) (.node (p1o44 P) (.node (p6o76 P) .nil .nil) (.node (b3o 108 P) .nil .nil)) (.node (p3o60 P) (.node (b3o 92 P) .nil .nil) (.node (p8o124 P) .nil .nil))))) (.node (boot_o_6 P) (.node (boot_o_10 P) (.node (p1o18 P) (.node (p1o34 P) (.node (p5o66 P) .nil .nil) (.node (b3o 98 P) .nil .nil)) (.node (p1o50 P) (.node (b3o 82 P) .nil .nil) (.node (b3o 114 P) .nil .nil))) (.node (p1o26 P) (.node (p1o42 P) (.node (p5o74 P) .nil .nil) (.node (b3o 106 P) .nil .nil)) (.node (p3o58 P) (.node (b3o 90 P) .nil .nil) (.node (p8o122 P) .nil .nil)))) (.node (ao14 P) (.node (p1o22 P) (.node (p1o38 P) (.node (p5o70 P) .nil .nil) (.node (b3o 102 P) .nil .nil)) (.node (p1o54 P) (.node (b3o 86 P) .nil .nil) (.node (b3o 118 P) .nil .nil))) (.node (p1o30 P) (.node (p1o46 P) (.node (p6o78 P) .nil .nil) (.node (b3o 110 P) .nil .nil)) (.node (p3o62 P) (.node (b3o 94 P) .nil .nil) (.node (p8o126 P) .nil .nil)))))))
noncomputable def p9o3 (P : Params) : Obj := ⟨(.type "dict"), none, (.dict #[⟨PyData.keyHash P (Str.ofString "__name__"), .str (Str.ofString "__name__") 165, (.str (Str.ofString "law_sc0083_01") 2287)⟩, ⟨PyData.keyHash P (Str.ofString "__doc__"), .str (Str.ofString "__doc__") 166, .none⟩, ⟨PyData.keyHash P (Str.ofString "__package__"), .str (Str.ofString "__package__") 167, .none⟩, ⟨PyData.keyHash P (Str.ofString "__loader__"), .str (Str.ofString "__loader__") 168, (.builtin "__main__.__loader__#opaque")⟩, ⟨PyData.keyHash P (Str.ofString "__spec__"), .str (Str.ofString "__spec__") 169, .none⟩, ⟨PyData.keyHash P (Str.ofString "__annotations__"), .str (Str.ofString "__annotations__") 170, (.ref 6)⟩, ⟨PyData.keyHash P (Str.ofString "__builtins__"), .str (Str.ofString "__builtins__") 171, (.ref 4)⟩, ⟨PyData.keyHash P (Str.ofString "__file__"), .str (Str.ofString "__file__") 173, (.str (Str.ofString "/claim/cut.py") 172)⟩, ⟨PyData.keyHash P (Str.ofString "__cached__"), .str (Str.ofString "__cached__") 174, .none⟩, ⟨PyData.keyHash P (Str.ofString "_netrclex"), .str (Str.ofString "_netrclex") 246, (.ref 52)⟩, ⟨PyData.keyHash P (Str.ofString "_strip_exception_details"), .str (Str.ofString "_strip_exception_details") 258, (.ref 63)⟩, ⟨PyData.keyHash P (Str.ofString "b1_set"), .str (Str.ofString "b1_set") 320, (.ref 71)⟩, ⟨PyData.keyHash P (Str.ofString "in_table_b1"), .str (Str.ofString "in_table_b1") 327, (.ref 81)⟩, ⟨PyData.keyHash P (Str.ofString "b3_exceptions"), .str (Str.ofString "b3_exceptions") 2278, (.ref 82)⟩, ⟨PyData.keyHash P (Str.ofString "map_table_b3"), .str (Str.ofString "map_table_b3") 2286, (.ref 127)⟩] 15), #[]⟩
noncomputable def T10 (P : Params) : BT := (.node (boot_o_0 P) (.node (boot_o_1 P) (.node (p9o3 P) (.node (boot_o_7 P) (.node (p1o15 P) (.node (p1o31 P) (.node (p3o63 P) (.node (p8o127 P) .nil .nil) .nil) (.node (b3o 95 P) .nil .nil)) (.node (p1o47 P) (.node (p6o79 P) .nil .nil) (.node (b3o 111 P) .nil .nil))) (.node (p1o23 P) (.node (p1o39 P) (.node (p5o71 P) .nil .nil) (.node (b3o 103 P) .nil .nil)) (.node (p1o55 P) (.node (b3o 87 P) .nil .nil) (.node (b3o 119 P) .nil .nil)))) (.node (ao11 P) (.node (p1o19 P) (.node (p1o35 P) (.node (p5o67 P) .nil .nil) (.node (b3o 99 P) .nil .nil)) (.node (p1o51 P) (.node (b3o 83 P) .nil .nil) (.node (b3o 115 P) .nil .nil))) (.node (p1o27 P) (.node (p1o43 P) (.node (p6o75 P) .nil .nil) (.node (b3o 107 P) .nil .nil)) (.node (p3o59 P) (.node (b3o 91 P) .nil .nil) (.node (p8o123 P) .nil .nil))))) (.node (boot_o_5 P) (.node (boot_o_9 P) (.node (p1o17 P) (.node (p1o33 P) (.node (p5o65 P) .nil .nil) (.node (b3o 97 P) .nil .nil)) (.node (p1o49 P) (.node (p6o81 P) .nil .nil) (.node (b3o 113 P) .nil .nil))) (.node (p1o25 P) (.node (p1o41 P) (.node (p5o73 P) .nil .nil) (.node (b3o 105 P) .nil .nil)) (.node (p3o57 P) (.node (b3o 89 P) .nil .nil) (.node (p8o121 P) .nil .nil)))) (.node (ao13 P) (.node (p1o21 P) (.node (p1o37 P) (.node (p5o69 P) .nil .nil) (.node (b3o 101 P) .nil .nil)) (.node (p1o53 P) (.node (b3o 85 P) .nil .nil) (.node (b3o 117 P) .nil .nil))) (.node (p1o29 P) (.node (p1o45 P) (.node (p6o77 P) .nil .nil) (.node (b3o 109 P) .nil .nil)) (.node (p3o61 P) (.node (b3o 93 P) .nil .nil) (.node (p8o125 P) .nil .nil)))))) (.node (boot_o_2 P) (.node (boot_o_4 P) (.node (boot_o_8 P) (.node (p1o16 P) (.node (p1o32 P) (.node (p5o64 P) .nil .nil) (.node (b3o 96 P) .nil .nil)) (.node (p1o48 P) (.node (p6o80 P) .nil .nil) (.node (b3o 112 P) .nil .nil))) (.node (p1o24 P) (.node (p1o40 P) (.node (p5o72 P) .nil .nil) (.node (b3o 104 P) .nil .nil)) (.node (p1o56 P) (.node (b3o 88 P) .nil .nil) (.node (b3o 120 P) .nil .nil)))) (.node (p8o12 P) (.node (p1o20 P) (.node (p1o36 P) (.node (p5o68 P) .nil .nil) (.node (b3o 100 P) .nil .nil)) (.node (p1o52 P) (.node (b3o 84 P) .nil .nil) (.node (b3o 116 P) .nil .nil))) (.node (p1o28 P) (.node (p1o44 P) (.node (p6o76 P) .nil .nil) (.node (b3o 108 P) .nil .nil)) (.node (p3o60 P) (.node (b3o 92 P) .nil .nil) (.node (p8o124 P) .nil .nil))))) (.node (boot_o_6 P) (.node (boot_o_10 P) (.node (p1o18 P) (.node (p1o34 P) (.node (p5o66 P) .nil .nil) (.node (b3o 98 P) .nil .nil)) (.node (p1o50 P) (.node (b3o 82 P) .nil .nil) (.node (b3o 114 P) .nil .nil))) (.node (p1o26 P) (.node (p1o42 P) (.node (p5o74 P) .nil .nil) (.node (b3o 106 P) .nil .nil)) (.node (p3o58 P) (.node (b3o 90 P) .nil .nil) (.node (p8o122 P) .nil .nil)))) (.node (ao14 P) (.node (p1o22 P) (.node (p1o38 P) (.node (p5o70 P) .nil .nil) (.node (b3o 102 P) .nil .nil)) (.node (p1o54 P) (.node (b3o 86 P) .nil .nil) (.node (b3o 118 P) .nil .nil))) (.node (p1o30 P) (.node (p1o46 P) (.node (p6o78 P) .nil .nil) (.node (b3o 110 P) .nil .nil)) (.node (p3o62 P) (.node (b3o 94 P) .nil .nil) (.node (p8o126 P) .nil .nil)))))))
noncomputable def p10o3 (P : Params) : Obj := ⟨(.type "dict"), none, (.dict #[⟨PyData.keyHash P (Str.ofString "__name__"), .str (Str.ofString "__name__") 165, (.str (Str.ofString "law_sc0083_01") 2287)⟩, ⟨PyData.keyHash P (Str.ofString "__doc__"), .str (Str.ofString "__doc__") 166, .none⟩, ⟨PyData.keyHash P (Str.ofString "__package__"), .str (Str.ofString "__package__") 167, .none⟩, ⟨PyData.keyHash P (Str.ofString "__loader__"), .str (Str.ofString "__loader__") 168, (.builtin "__main__.__loader__#opaque")⟩, ⟨PyData.keyHash P (Str.ofString "__spec__"), .str (Str.ofString "__spec__") 169, .none⟩, ⟨PyData.keyHash P (Str.ofString "__annotations__"), .str (Str.ofString "__annotations__") 170, (.ref 6)⟩, ⟨PyData.keyHash P (Str.ofString "__builtins__"), .str (Str.ofString "__builtins__") 171, (.ref 4)⟩, ⟨PyData.keyHash P (Str.ofString "__file__"), .str (Str.ofString "__file__") 173, (.str (Str.ofString "/claim/cut.py") 172)⟩, ⟨PyData.keyHash P (Str.ofString "__cached__"), .str (Str.ofString "__cached__") 174, .none⟩, ⟨PyData.keyHash P (Str.ofString "_netrclex"), .str (Str.ofString "_netrclex") 246, (.ref 52)⟩, ⟨PyData.keyHash P (Str.ofString "_strip_exception_details"), .str (Str.ofString "_strip_exception_details") 258, (.ref 63)⟩, ⟨PyData.keyHash P (Str.ofString "b1_set"), .str (Str.ofString "b1_set") 320, (.ref 71)⟩, ⟨PyData.keyHash P (Str.ofString "in_table_b1"), .str (Str.ofString "in_table_b1") 327, (.ref 81)⟩, ⟨PyData.keyHash P (Str.ofString "b3_exceptions"), .str (Str.ofString "b3_exceptions") 2278, (.ref 82)⟩, ⟨PyData.keyHash P (Str.ofString "map_table_b3"), .str (Str.ofString "map_table_b3") 2286, (.ref 127)⟩, ⟨PyData.keyHash P (Str.ofString "_law_drawn"), .str (Str.ofString "_law_drawn") 2303, (.ref 134)⟩] 16), #[]⟩
noncomputable def p10o12 (P : Params) : Obj := ⟨.none, none, (.fields #[(.int 2 0), (.int 0 0), (.ref 20), (.int 46 0), (.int 0 0), (.ref 62), (.int 60 0), (.int 0 0), (.ref 80), (.int 63 0), (.int 0 0), (.ref 126), (.int 69 0), (.int 0 0), (.ref 133)]), #[]⟩
noncomputable def p10o128 (P : Params) : Obj := ⟨(.type "tuple"), none, (.seq #[] 0), #[]⟩
noncomputable def p10o129 (P : Params) : Obj := ⟨.none, none, (.fields #[]), #[]⟩
noncomputable def p10o130 (P : Params) : Obj := ⟨(.type "tuple"), none, (.seq #[(.str (Str.ofString "number") 2292), (.str (Str.ofString "rest") 2293), (.str (Str.ofString "kind") 2294), (.str (Str.ofString "noise") 2295), (.str (Str.ofString "code") 2296), (.str (Str.ofString "one") 2297), (.str (Str.ofString "coat") 2298), (.str (Str.ofString "letter") 2299), (.str (Str.ofString "bases") 2300)] 0), #[]⟩
noncomputable def p10o131 (P : Params) : Obj := ⟨(.type "tuple"), none, (.seq #[] 0), #[]⟩
noncomputable def p10o132 (P : Params) : Obj := ⟨.none, none, (.func ⟨(Str.ofString "_law_drawn"), (Str.ofString "_law_drawn"), fArgs (stm 10), .stmts (fBody (stm 10)), fScope (stm 10), 0, [], .none, .none, .none, .none, none, .none, .none, 0⟩), #[]⟩
noncomputable def p10o133 (P : Params) : Obj := ⟨(.type "code"), none, (.fields #[(.str (Str.ofString "_law_drawn") 2289), (.str (Str.ofString "_law_drawn") 2290), (.str (Str.ofString "/claim/cut.py") 2291), (.int 69 0), (.int 1 0), (.int 0 0), (.int 0 0), (.int 3 0), (.ref 128), (.bool true), (.int 181 0), (.ref 129), .none, (.ref 130), (.ref 131), (.ref 132), (.int 2301 0), (.int 69 0), (.str (Str.ofString "/claim/cut.py") 2302)]), #[]⟩
noncomputable def p10o134 (P : Params) : Obj := ⟨(.type "function"), none, (.func ⟨(Str.ofString "_law_drawn"), (Str.ofString "_law_drawn"), fArgs (stm 10), .stmts (fBody (stm 10)), fScope (stm 10), 3, [], .none, .none, .none, (.str (Str.ofString "law_sc0083_01") 2287), none, (.ref 133), .none, 0⟩), #[]⟩
noncomputable def T11 (P : Params) : BT := (.node (boot_o_0 P) (.node (boot_o_1 P) (.node (p10o3 P) (.node (boot_o_7 P) (.node (p1o15 P) (.node (p1o31 P) (.node (p3o63 P) (.node (p8o127 P) .nil .nil) .nil) (.node (b3o 95 P) .nil .nil)) (.node (p1o47 P) (.node (p6o79 P) .nil .nil) (.node (b3o 111 P) .nil .nil))) (.node (p1o23 P) (.node (p1o39 P) (.node (p5o71 P) .nil .nil) (.node (b3o 103 P) .nil .nil)) (.node (p1o55 P) (.node (b3o 87 P) .nil .nil) (.node (b3o 119 P) .nil .nil)))) (.node (ao11 P) (.node (p1o19 P) (.node (p1o35 P) (.node (p5o67 P) (.node (p10o131 P) .nil .nil) .nil) (.node (b3o 99 P) .nil .nil)) (.node (p1o51 P) (.node (b3o 83 P) .nil .nil) (.node (b3o 115 P) .nil .nil))) (.node (p1o27 P) (.node (p1o43 P) (.node (p6o75 P) .nil .nil) (.node (b3o 107 P) .nil .nil)) (.node (p3o59 P) (.node (b3o 91 P) .nil .nil) (.node (p8o123 P) .nil .nil))))) (.node (boot_o_5 P) (.node (boot_o_9 P) (.node (p1o17 P) (.node (p1o33 P) (.node (p5o65 P) (.node (p10o129 P) .nil .nil) .nil) (.node (b3o 97 P) .nil .nil)) (.node (p1o49 P) (.node (p6o81 P) .nil .nil) (.node (b3o 113 P) .nil .nil))) (.node (p1o25 P) (.node (p1o41 P) (.node (p5o73 P) .nil .nil) (.node (b3o 105 P) .nil .nil)) (.node (p3o57 P) (.node (b3o 89 P) .nil .nil) (.node (p8o121 P) .nil .nil)))) (.node (ao13 P) (.node (p1o21 P) (.node (p1o37 P) (.node (p5o69 P) (.node (p10o133 P) .nil .nil) .nil) (.node (b3o 101 P) .nil .nil)) (.node (p1o53 P) (.node (b3o 85 P) .nil .nil) (.node (b3o 117 P) .nil .nil))) (.node (p1o29 P) (.node (p1o45 P) (.node (p6o77 P) .nil .nil) (.node (b3o 109 P) .nil .nil)) (.node (p3o61 P) (.node (b3o 93 P) .nil .nil) (.node (p8o125 P) .nil .nil)))))) (.node (boot_o_2 P) (.node (boot_o_4 P) (.node (boot_o_8 P) (.node (p1o16 P) (.node (p1o32 P) (.node (p5o64 P) (.node (p10o128 P) .nil .nil) .nil) (.node (b3o 96 P) .nil .nil)) (.node (p1o48 P) (.node (p6o80 P) .nil .nil) (.node (b3o 112 P) .nil .nil))) (.node (p1o24 P) (.node (p1o40 P) (.node (p5o72 P) .nil .nil) (.node (b3o 104 P) .nil .nil)) (.node (p1o56 P) (.node (b3o 88 P) .nil .nil) (.node (b3o 120 P) .nil .nil)))) (.node (p10o12 P) (.node (p1o20 P) (.node (p1o36 P) (.node (p5o68 P) (.node (p10o132 P) .nil .nil) .nil) (.node (b3o 100 P) .nil .nil)) (.node (p1o52 P) (.node (b3o 84 P) .nil .nil) (.node (b3o 116 P) .nil .nil))) (.node (p1o28 P) (.node (p1o44 P) (.node (p6o76 P) .nil .nil) (.node (b3o 108 P) .nil .nil)) (.node (p3o60 P) (.node (b3o 92 P) .nil .nil) (.node (p8o124 P) .nil .nil))))) (.node (boot_o_6 P) (.node (boot_o_10 P) (.node (p1o18 P) (.node (p1o34 P) (.node (p5o66 P) (.node (p10o130 P) .nil .nil) .nil) (.node (b3o 98 P) .nil .nil)) (.node (p1o50 P) (.node (b3o 82 P) .nil .nil) (.node (b3o 114 P) .nil .nil))) (.node (p1o26 P) (.node (p1o42 P) (.node (p5o74 P) .nil .nil) (.node (b3o 106 P) .nil .nil)) (.node (p3o58 P) (.node (b3o 90 P) .nil .nil) (.node (p8o122 P) .nil .nil)))) (.node (ao14 P) (.node (p1o22 P) (.node (p1o38 P) (.node (p5o70 P) (.node (p10o134 P) .nil .nil) .nil) (.node (b3o 102 P) .nil .nil)) (.node (p1o54 P) (.node (b3o 86 P) .nil .nil) (.node (b3o 118 P) .nil .nil))) (.node (p1o30 P) (.node (p1o46 P) (.node (p6o78 P) .nil .nil) (.node (b3o 110 P) .nil .nil)) (.node (p3o62 P) (.node (b3o 94 P) .nil .nil) (.node (p8o126 P) .nil .nil)))))))
noncomputable def p11o3 (P : Params) : Obj := ⟨(.type "dict"), none, (.dict #[⟨PyData.keyHash P (Str.ofString "__name__"), .str (Str.ofString "__name__") 165, (.str (Str.ofString "law_sc0083_01") 2287)⟩, ⟨PyData.keyHash P (Str.ofString "__doc__"), .str (Str.ofString "__doc__") 166, .none⟩, ⟨PyData.keyHash P (Str.ofString "__package__"), .str (Str.ofString "__package__") 167, .none⟩, ⟨PyData.keyHash P (Str.ofString "__loader__"), .str (Str.ofString "__loader__") 168, (.builtin "__main__.__loader__#opaque")⟩, ⟨PyData.keyHash P (Str.ofString "__spec__"), .str (Str.ofString "__spec__") 169, .none⟩, ⟨PyData.keyHash P (Str.ofString "__annotations__"), .str (Str.ofString "__annotations__") 170, (.ref 6)⟩, ⟨PyData.keyHash P (Str.ofString "__builtins__"), .str (Str.ofString "__builtins__") 171, (.ref 4)⟩, ⟨PyData.keyHash P (Str.ofString "__file__"), .str (Str.ofString "__file__") 173, (.str (Str.ofString "/claim/cut.py") 172)⟩, ⟨PyData.keyHash P (Str.ofString "__cached__"), .str (Str.ofString "__cached__") 174, .none⟩, ⟨PyData.keyHash P (Str.ofString "_netrclex"), .str (Str.ofString "_netrclex") 246, (.ref 52)⟩, ⟨PyData.keyHash P (Str.ofString "_strip_exception_details"), .str (Str.ofString "_strip_exception_details") 258, (.ref 63)⟩, ⟨PyData.keyHash P (Str.ofString "b1_set"), .str (Str.ofString "b1_set") 320, (.ref 71)⟩, ⟨PyData.keyHash P (Str.ofString "in_table_b1"), .str (Str.ofString "in_table_b1") 327, (.ref 81)⟩, ⟨PyData.keyHash P (Str.ofString "b3_exceptions"), .str (Str.ofString "b3_exceptions") 2278, (.ref 82)⟩, ⟨PyData.keyHash P (Str.ofString "map_table_b3"), .str (Str.ofString "map_table_b3") 2286, (.ref 127)⟩, ⟨PyData.keyHash P (Str.ofString "_law_drawn"), .str (Str.ofString "_law_drawn") 2303, (.ref 134)⟩, ⟨PyData.keyHash P (Str.ofString "_law_prepared"), .str (Str.ofString "_law_prepared") 2309, (.ref 139)⟩] 17), #[]⟩
noncomputable def p11o12 (P : Params) : Obj := ⟨.none, none, (.fields #[(.int 2 0), (.int 0 0), (.ref 20), (.int 46 0), (.int 0 0), (.ref 62), (.int 60 0), (.int 0 0), (.ref 80), (.int 63 0), (.int 0 0), (.ref 126), (.int 69 0), (.int 0 0), (.ref 133), (.int 85 0), (.int 0 0), (.ref 138)]), #[]⟩
noncomputable def p11o135 (P : Params) : Obj := ⟨(.type "tuple"), none, (.seq #[] 0), #[]⟩
noncomputable def p11o136 (P : Params) : Obj := ⟨.none, none, (.fields #[]), #[]⟩
noncomputable def p11o137 (P : Params) : Obj := ⟨.none, none, (.func ⟨(Str.ofString "_law_prepared"), (Str.ofString "_law_prepared"), fArgs (stm 11), .stmts (fBody (stm 11)), fScope (stm 11), 0, [], .none, .none, .none, .none, none, .none, .none, 0⟩), #[]⟩
noncomputable def p11o138 (P : Params) : Obj := ⟨(.type "code"), none, (.fields #[(.str (Str.ofString "_law_prepared") 2304), (.str (Str.ofString "_law_prepared") 2305), (.str (Str.ofString "/claim/cut.py") 2306), (.int 85 0), (.int 1 0), (.int 0 0), (.int 0 0), (.int 3 0), (.ref 135), (.bool true), (.int 181 0), (.ref 136), .none, .none, .none, (.ref 137), (.int 2307 0), (.int 85 0), (.str (Str.ofString "/claim/cut.py") 2308)]), #[]⟩
noncomputable def p11o139 (P : Params) : Obj := ⟨(.type "function"), none, (.func ⟨(Str.ofString "_law_prepared"), (Str.ofString "_law_prepared"), fArgs (stm 11), .stmts (fBody (stm 11)), fScope (stm 11), 3, [], .none, .none, .none, (.str (Str.ofString "law_sc0083_01") 2287), none, (.ref 138), .none, 0⟩), #[]⟩
noncomputable def T12 (P : Params) : BT := (.node (boot_o_0 P) (.node (boot_o_1 P) (.node (p11o3 P) (.node (boot_o_7 P) (.node (p1o15 P) (.node (p1o31 P) (.node (p3o63 P) (.node (p8o127 P) .nil .nil) .nil) (.node (b3o 95 P) .nil .nil)) (.node (p1o47 P) (.node (p6o79 P) .nil .nil) (.node (b3o 111 P) .nil .nil))) (.node (p1o23 P) (.node (p1o39 P) (.node (p5o71 P) (.node (p11o135 P) .nil .nil) .nil) (.node (b3o 103 P) .nil .nil)) (.node (p1o55 P) (.node (b3o 87 P) .nil .nil) (.node (b3o 119 P) .nil .nil)))) (.node (ao11 P) (.node (p1o19 P) (.node (p1o35 P) (.node (p5o67 P) (.node (p10o131 P) .nil .nil) .nil) (.node (b3o 99 P) .nil .nil)) (.node (p1o51 P) (.node (b3o 83 P) .nil .nil) (.node (b3o 115 P) .nil .nil))) (.node (p1o27 P) (.node (p1o43 P) (.node (p6o75 P) (.node (p11o139 P) .nil .nil) .nil) (.node (b3o 107 P) .nil .nil)) (.node (p3o59 P) (.node (b3o 91 P) .nil .nil) (.node (p8o123 P) .nil .nil))))) (.node (boot_o_5 P) (.node (boot_o_9 P) (.node (p1o17 P) (.node (p1o33 P) (.node (p5o65 P) (.node (p10o129 P) .nil .nil) .nil) (.node (b3o 97 P) .nil .nil)) (.node (p1o49 P) (.node (p6o81 P) .nil .nil) (.node (b3o 113 P) .nil .nil))) (.node (p1o25 P) (.node (p1o41 P) (.node (p5o73 P) (.node (p11o137 P) .nil .nil) .nil) (.node (b3o 105 P) .nil .nil)) (.node (p3o57 P) (.node (b3o 89 P) .nil .nil) (.node (p8o121 P) .nil .nil)))) (.node (ao13 P) (.node (p1o21 P) (.node (p1o37 P) (.node (p5o69 P) (.node (p10o133 P) .nil .nil) .nil) (.node (b3o 101 P) .nil .nil)) (.node (p1o53 P) (.node (b3o 85 P) .nil .nil) (.node (b3o 117 P) .nil .nil))) (.node (p1o29 P) (.node (p1o45 P) (.node (p6o77 P) .nil .nil) (.node (b3o 109 P) .nil .nil)) (.node (p3o61 P) (.node (b3o 93 P) .nil .nil) (.node (p8o125 P) .nil .nil)))))) (.node (boot_o_2 P) (.node (boot_o_4 P) (.node (boot_o_8 P) (.node (p1o16 P) (.node (p1o32 P) (.node (p5o64 P) (.node (p10o128 P) .nil .nil) .nil) (.node (b3o 96 P) .nil .nil)) (.node (p1o48 P) (.node (p6o80 P) .nil .nil) (.node (b3o 112 P) .nil .nil))) (.node (p1o24 P) (.node (p1o40 P) (.node (p5o72 P) (.node (p11o136 P) .nil .nil) .nil) (.node (b3o 104 P) .nil .nil)) (.node (p1o56 P) (.node (b3o 88 P) .nil .nil) (.node (b3o 120 P) .nil .nil)))) (.node (p11o12 P) (.node (p1o20 P) (.node (p1o36 P) (.node (p5o68 P) (.node (p10o132 P) .nil .nil) .nil) (.node (b3o 100 P) .nil .nil)) (.node (p1o52 P) (.node (b3o 84 P) .nil .nil) (.node (b3o 116 P) .nil .nil))) (.node (p1o28 P) (.node (p1o44 P) (.node (p6o76 P) .nil .nil) (.node (b3o 108 P) .nil .nil)) (.node (p3o60 P) (.node (b3o 92 P) .nil .nil) (.node (p8o124 P) .nil .nil))))) (.node (boot_o_6 P) (.node (boot_o_10 P) (.node (p1o18 P) (.node (p1o34 P) (.node (p5o66 P) (.node (p10o130 P) .nil .nil) .nil) (.node (b3o 98 P) .nil .nil)) (.node (p1o50 P) (.node (b3o 82 P) .nil .nil) (.node (b3o 114 P) .nil .nil))) (.node (p1o26 P) (.node (p1o42 P) (.node (p5o74 P) (.node (p11o138 P) .nil .nil) .nil) (.node (b3o 106 P) .nil .nil)) (.node (p3o58 P) (.node (b3o 90 P) .nil .nil) (.node (p8o122 P) .nil .nil)))) (.node (ao14 P) (.node (p1o22 P) (.node (p1o38 P) (.node (p5o70 P) (.node (p10o134 P) .nil .nil) .nil) (.node (b3o 102 P) .nil .nil)) (.node (p1o54 P) (.node (b3o 86 P) .nil .nil) (.node (b3o 118 P) .nil .nil))) (.node (p1o30 P) (.node (p1o46 P) (.node (p6o78 P) .nil .nil) (.node (b3o 110 P) .nil .nil)) (.node (p3o62 P) (.node (b3o 94 P) .nil .nil) (.node (p8o126 P) .nil .nil)))))))
noncomputable def p12o3 (P : Params) : Obj := ⟨(.type "dict"), none, (.dict #[⟨PyData.keyHash P (Str.ofString "__name__"), .str (Str.ofString "__name__") 165, (.str (Str.ofString "law_sc0083_01") 2287)⟩, ⟨PyData.keyHash P (Str.ofString "__doc__"), .str (Str.ofString "__doc__") 166, .none⟩, ⟨PyData.keyHash P (Str.ofString "__package__"), .str (Str.ofString "__package__") 167, .none⟩, ⟨PyData.keyHash P (Str.ofString "__loader__"), .str (Str.ofString "__loader__") 168, (.builtin "__main__.__loader__#opaque")⟩, ⟨PyData.keyHash P (Str.ofString "__spec__"), .str (Str.ofString "__spec__") 169, .none⟩, ⟨PyData.keyHash P (Str.ofString "__annotations__"), .str (Str.ofString "__annotations__") 170, (.ref 6)⟩, ⟨PyData.keyHash P (Str.ofString "__builtins__"), .str (Str.ofString "__builtins__") 171, (.ref 4)⟩, ⟨PyData.keyHash P (Str.ofString "__file__"), .str (Str.ofString "__file__") 173, (.str (Str.ofString "/claim/cut.py") 172)⟩, ⟨PyData.keyHash P (Str.ofString "__cached__"), .str (Str.ofString "__cached__") 174, .none⟩, ⟨PyData.keyHash P (Str.ofString "_netrclex"), .str (Str.ofString "_netrclex") 246, (.ref 52)⟩, ⟨PyData.keyHash P (Str.ofString "_strip_exception_details"), .str (Str.ofString "_strip_exception_details") 258, (.ref 63)⟩, ⟨PyData.keyHash P (Str.ofString "b1_set"), .str (Str.ofString "b1_set") 320, (.ref 71)⟩, ⟨PyData.keyHash P (Str.ofString "in_table_b1"), .str (Str.ofString "in_table_b1") 327, (.ref 81)⟩, ⟨PyData.keyHash P (Str.ofString "b3_exceptions"), .str (Str.ofString "b3_exceptions") 2278, (.ref 82)⟩, ⟨PyData.keyHash P (Str.ofString "map_table_b3"), .str (Str.ofString "map_table_b3") 2286, (.ref 127)⟩, ⟨PyData.keyHash P (Str.ofString "_law_drawn"), .str (Str.ofString "_law_drawn") 2303, (.ref 134)⟩, ⟨PyData.keyHash P (Str.ofString "_law_prepared"), .str (Str.ofString "_law_prepared") 2309, (.ref 139)⟩, ⟨PyData.keyHash P (Str.ofString "_law_lexer"), .str (Str.ofString "_law_lexer") 2318, (.ref 146)⟩] 18), #[]⟩
noncomputable def p12o12 (P : Params) : Obj := ⟨.none, none, (.fields #[(.int 2 0), (.int 0 0), (.ref 20), (.int 46 0), (.int 0 0), (.ref 62), (.int 60 0), (.int 0 0), (.ref 80), (.int 63 0), (.int 0 0), (.ref 126), (.int 69 0), (.int 0 0), (.ref 133), (.int 85 0), (.int 0 0), (.ref 138), (.int 87 0), (.int 0 0), (.ref 145)]), #[]⟩
noncomputable def p12o140 (P : Params) : Obj := ⟨(.type "tuple"), none, (.seq #[] 0), #[]⟩
noncomputable def p12o141 (P : Params) : Obj := ⟨.none, none, (.fields #[]), #[]⟩
noncomputable def p12o142 (P : Params) : Obj := ⟨(.type "tuple"), none, (.seq #[(.str (Str.ofString "signs") 2313), (.str (Str.ofString "stream") 2314)] 0), #[]⟩
noncomputable def p12o143 (P : Params) : Obj := ⟨(.type "tuple"), none, (.seq #[(.str (Str.ofString "signs") 2315)] 0), #[]⟩
noncomputable def p12o144 (P : Params) : Obj := ⟨.none, none, (.func ⟨(Str.ofString "_law_lexer"), (Str.ofString "_law_lexer"), fArgs (stm 12), .stmts (fBody (stm 12)), fScope (stm 12), 0, [], .none, .none, .none, .none, none, .none, .none, 0⟩), #[]⟩
noncomputable def p12o145 (P : Params) : Obj := ⟨(.type "code"), none, (.fields #[(.str (Str.ofString "_law_lexer") 2310), (.str (Str.ofString "_law_lexer") 2311), (.str (Str.ofString "/claim/cut.py") 2312), (.int 87 0), (.int 1 0), (.int 0 0), (.int 0 0), (.int 3 0), (.ref 140), (.bool true), (.int 181 0), (.ref 141), .none, (.ref 142), (.ref 143), (.ref 144), (.int 2316 0), (.int 87 0), (.str (Str.ofString "/claim/cut.py") 2317)]), #[]⟩
noncomputable def p12o146 (P : Params) : Obj := ⟨(.type "function"), none, (.func ⟨(Str.ofString "_law_lexer"), (Str.ofString "_law_lexer"), fArgs (stm 12), .stmts (fBody (stm 12)), fScope (stm 12), 3, [], .none, .none, .none, (.str (Str.ofString "law_sc0083_01") 2287), none, (.ref 145), .none, 0⟩), #[]⟩
noncomputable def T13 (P : Params) : BT := (.node (boot_o_0 P) (.node (boot_o_1 P) (.node (p12o3 P) (.node (boot_o_7 P) (.node (p1o15 P) (.node (p1o31 P) (.node (p3o63 P) (.node (p8o127 P) .nil .nil) .nil) (.node (b3o 95 P) .nil .nil)) (.node (p1o47 P) (.node (p6o79 P) (.node (p12o143 P) .nil .nil) .nil) (.node (b3o 111 P) .nil .nil))) (.node (p1o23 P) (.node (p1o39 P) (.node (p5o71 P) (.node (p11o135 P) .nil .nil) .nil) (.node (b3o 103 P) .nil .nil)) (.node (p1o55 P) (.node (b3o 87 P) .nil .nil) (.node (b3o 119 P) .nil .nil)))) (.node (ao11 P) (.node (p1o19 P) (.node (p1o35 P) (.node (p5o67 P) (.node (p10o131 P) .nil .nil) .nil) (.node (b3o 99 P) .nil .nil)) (.node (p1o51 P) (.node (b3o 83 P) .nil .nil) (.node (b3o 115 P) .nil .nil))) (.node (p1o27 P) (.node (p1o43 P) (.node (p6o75 P) (.node (p11o139 P) .nil .nil) .nil) (.node (b3o 107 P) .nil .nil)) (.node (p3o59 P) (.node (b3o 91 P) .nil .nil) (.node (p8o123 P) .nil .nil))))) (.node (boot_o_5 P) (.node (boot_o_9 P) (.node (p1o17 P) (.node (p1o33 P) (.node (p5o65 P) (.node (p10o129 P) .nil .nil) .nil) (.node (b3o 97 P) .nil .nil)) (.node (p1o49 P) (.node (p6o81 P) (.node (p12o145 P) .nil .nil) .nil) (.node (b3o 113 P) .nil .nil))) (.node (p1o25 P) (.node (p1o41 P) (.node (p5o73 P) (.node (p11o137 P) .nil .nil) .nil) (.node (b3o 105 P) .nil .nil)) (.node (p3o57 P) (.node (b3o 89 P) .nil .nil) (.node (p8o121 P) .nil .nil)))) (.node (ao13 P) (.node (p1o21 P) (.node (p1o37 P) (.node (p5o69 P) (.node (p10o133 P) .nil .nil) .nil) (.node (b3o 101 P) .nil .nil)) (.node (p1o53 P) (.node (b3o 85 P) .nil .nil) (.node (b3o 117 P) .nil .nil))) (.node (p1o29 P) (.node (p1o45 P) (.node (p6o77 P) (.node (p12o141 P) .nil .nil) .nil) (.node (b3o 109 P) .nil .nil)) (.node (p3o61 P) (.node (b3o 93 P) .nil .nil) (.node (p8o125 P) .nil .nil)))))) (.node (boot_o_2 P) (.node (boot_o_4 P) (.node (boot_o_8 P) (.node (p1o16 P) (.node (p1o32 P) (.node (p5o64 P) (.node (p10o128 P) .nil .nil) .nil) (.node (b3o 96 P) .nil .nil)) (.node (p1o48 P) (.node (p6o80 P) (.node (p12o144 P) .nil .nil) .nil) (.node (b3o 112 P) .nil .nil))) (.node (p1o24 P) (.node (p1o40 P) (.node (p5o72 P) (.node (p11o136 P) .nil .nil) .nil) (.node (b3o 104 P) .nil .nil)) (.node (p1o56 P) (.node (b3o 88 P) .nil .nil) (.node (b3o 120 P) .nil .nil)))) (.node (p12o12 P) (.node (p1o20 P) (.node (p1o36 P) (.node (p5o68 P) (.node (p10o132 P) .nil .nil) .nil) (.node (b3o 100 P) .nil .nil)) (.node (p1o52 P) (.node (b3o 84 P) .nil .nil) (.node (b3o 116 P) .nil .nil))) (.node (p1o28 P) (.node (p1o44 P) (.node (p6o76 P) (.node (p12o140 P) .nil .nil) .nil) (.node (b3o 108 P) .nil .nil)) (.node (p3o60 P) (.node (b3o 92 P) .nil .nil) (.node (p8o124 P) .nil .nil))))) (.node (boot_o_6 P) (.node (boot_o_10 P) (.node (p1o18 P) (.node (p1o34 P) (.node (p5o66 P) (.node (p10o130 P) .nil .nil) .nil) (.node (b3o 98 P) .nil .nil)) (.node (p1o50 P) (.node (b3o 82 P) (.node (p12o146 P) .nil .nil) .nil) (.node (b3o 114 P) .nil .nil))) (.node (p1o26 P) (.node (p1o42 P) (.node (p5o74 P) (.node (p11o138 P) .nil .nil) .nil) (.node (b3o 106 P) .nil .nil)) (.node (p3o58 P) (.node (b3o 90 P) .nil .nil) (.node (p8o122 P) .nil .nil)))) (.node (ao14 P) (.node (p1o22 P) (.node (p1o38 P) (.node (p5o70 P) (.node (p10o134 P) .nil .nil) .nil) (.node (b3o 102 P) .nil .nil)) (.node (p1o54 P) (.node (b3o 86 P) .nil .nil) (.node (b3o 118 P) .nil .nil))) (.node (p1o30 P) (.node (p1o46 P) (.node (p6o78 P) (.node (p12o142 P) .nil .nil) .nil) (.node (b3o 110 P) .nil .nil)) (.node (p3o62 P) (.node (b3o 94 P) .nil .nil) (.node (p8o126 P) .nil .nil)))))))
noncomputable def p13o3 (P : Params) : Obj := ⟨(.type "dict"), none, (.dict #[⟨PyData.keyHash P (Str.ofString "__name__"), .str (Str.ofString "__name__") 165, (.str (Str.ofString "law_sc0083_01") 2287)⟩, ⟨PyData.keyHash P (Str.ofString "__doc__"), .str (Str.ofString "__doc__") 166, .none⟩, ⟨PyData.keyHash P (Str.ofString "__package__"), .str (Str.ofString "__package__") 167, .none⟩, ⟨PyData.keyHash P (Str.ofString "__loader__"), .str (Str.ofString "__loader__") 168, (.builtin "__main__.__loader__#opaque")⟩, ⟨PyData.keyHash P (Str.ofString "__spec__"), .str (Str.ofString "__spec__") 169, .none⟩, ⟨PyData.keyHash P (Str.ofString "__annotations__"), .str (Str.ofString "__annotations__") 170, (.ref 6)⟩, ⟨PyData.keyHash P (Str.ofString "__builtins__"), .str (Str.ofString "__builtins__") 171, (.ref 4)⟩, ⟨PyData.keyHash P (Str.ofString "__file__"), .str (Str.ofString "__file__") 173, (.str (Str.ofString "/claim/cut.py") 172)⟩, ⟨PyData.keyHash P (Str.ofString "__cached__"), .str (Str.ofString "__cached__") 174, .none⟩, ⟨PyData.keyHash P (Str.ofString "_netrclex"), .str (Str.ofString "_netrclex") 246, (.ref 52)⟩, ⟨PyData.keyHash P (Str.ofString "_strip_exception_details"), .str (Str.ofString "_strip_exception_details") 258, (.ref 63)⟩, ⟨PyData.keyHash P (Str.ofString "b1_set"), .str (Str.ofString "b1_set") 320, (.ref 71)⟩, ⟨PyData.keyHash P (Str.ofString "in_table_b1"), .str (Str.ofString "in_table_b1") 327, (.ref 81)⟩, ⟨PyData.keyHash P (Str.ofString "b3_exceptions"), .str (Str.ofString "b3_exceptions") 2278, (.ref 82)⟩, ⟨PyData.keyHash P (Str.ofString "map_table_b3"), .str (Str.ofString "map_table_b3") 2286, (.ref 127)⟩, ⟨PyData.keyHash P (Str.ofString "_law_drawn"), .str (Str.ofString "_law_drawn") 2303, (.ref 134)⟩, ⟨PyData.keyHash P (Str.ofString "_law_prepared"), .str (Str.ofString "_law_prepared") 2309, (.ref 139)⟩, ⟨PyData.keyHash P (Str.ofString "_law_lexer"), .str (Str.ofString "_law_lexer") 2318, (.ref 146)⟩, ⟨PyData.keyHash P (Str.ofString "_law_read"), .str (Str.ofString "_law_read") 2325, (.ref 153)⟩] 19), #[]⟩
noncomputable def p13o12 (P : Params) : Obj := ⟨.none, none, (.fields #[(.int 2 0), (.int 0 0), (.ref 20), (.int 46 0), (.int 0 0), (.ref 62), (.int 60 0), (.int 0 0), (.ref 80), (.int 63 0), (.int 0 0), (.ref 126), (.int 69 0), (.int 0 0), (.ref 133), (.int 85 0), (.int 0 0), (.ref 138), (.int 87 0), (.int 0 0), (.ref 145), (.int 91 0), (.int 0 0), (.ref 152)]), #[]⟩
noncomputable def p13o147 (P : Params) : Obj := ⟨(.type "tuple"), none, (.seq #[] 0), #[]⟩
noncomputable def p13o148 (P : Params) : Obj := ⟨.none, none, (.fields #[]), #[]⟩
noncomputable def p13o149 (P : Params) : Obj := ⟨(.type "tuple"), none, (.seq #[(.str (Str.ofString "text") 2322)] 0), #[]⟩
noncomputable def p13o150 (P : Params) : Obj := ⟨(.type "tuple"), none, (.seq #[] 0), #[]⟩
noncomputable def p13o151 (P : Params) : Obj := ⟨.none, none, (.func ⟨(Str.ofString "_law_read"), (Str.ofString "_law_read"), fArgs (stm 13), .stmts (fBody (stm 13)), fScope (stm 13), 0, [], .none, .none, .none, .none, none, .none, .none, 0⟩), #[]⟩
noncomputable def p13o152 (P : Params) : Obj := ⟨(.type "code"), none, (.fields #[(.str (Str.ofString "_law_read") 2319), (.str (Str.ofString "_law_read") 2320), (.str (Str.ofString "/claim/cut.py") 2321), (.int 91 0), (.int 1 0), (.int 0 0), (.int 0 0), (.int 3 0), (.ref 147), (.bool true), (.int 181 0), (.ref 148), .none, (.ref 149), (.ref 150), (.ref 151), (.int 2323 0), (.int 91 0), (.str (Str.ofString "/claim/cut.py") 2324)]), #[]⟩
noncomputable def p13o153 (P : Params) : Obj := ⟨(.type "function"), none, (.func ⟨(Str.ofString "_law_read"), (Str.ofString "_law_read"), fArgs (stm 13), .stmts (fBody (stm 13)), fScope (stm 13), 3, [], .none, .none, .none, (.str (Str.ofString "law_sc0083_01") 2287), none, (.ref 152), .none, 0⟩), #[]⟩
noncomputable def T14 (P : Params) : BT := (.node (boot_o_0 P) (.node (boot_o_1 P) (.node (p13o3 P) (.node (boot_o_7 P) (.node (p1o15 P) (.node (p1o31 P) (.node (p3o63 P) (.node (p8o127 P) .nil .nil) .nil) (.node (b3o 95 P) .nil .nil)) (.node (p1o47 P) (.node (p6o79 P) (.node (p12o143 P) .nil .nil) .nil) (.node (b3o 111 P) .nil .nil))) (.node (p1o23 P) (.node (p1o39 P) (.node (p5o71 P) (.node (p11o135 P) .nil .nil) .nil) (.node (b3o 103 P) .nil .nil)) (.node (p1o55 P) (.node (b3o 87 P) (.node (p13o151 P) .nil .nil) .nil) (.node (b3o 119 P) .nil .nil)))) (.node (ao11 P) (.node (p1o19 P) (.node (p1o35 P) (.node (p5o67 P) (.node (p10o131 P) .nil .nil) .nil) (.node (b3o 99 P) .nil .nil)) (.node (p1o51 P) (.node (b3o 83 P) (.node (p13o147 P) .nil .nil) .nil) (.node (b3o 115 P) .nil .nil))) (.node (p1o27 P) (.node (p1o43 P) (.node (p6o75 P) (.node (p11o139 P) .nil .nil) .nil) (.node (b3o 107 P) .nil .nil)) (.node (p3o59 P) (.node (b3o 91 P) .nil .nil) (.node (p8o123 P) .nil .nil))))) (.node (boot_o_5 P) (.node (boot_o_9 P) (.node (p1o17 P) (.node (p1o33 P) (.node (p5o65 P) (.node (p10o129 P) .nil .nil) .nil) (.node (b3o 97 P) .nil .nil)) (.node (p1o49 P) (.node (p6o81 P) (.node (p12o145 P) .nil .nil) .nil) (.node (b3o 113 P) .nil .nil))) (.node (p1o25 P) (.node (p1o41 P) (.node (p5o73 P) (.node (p11o137 P) .nil .nil) .nil) (.node (b3o 105 P) .nil .nil)) (.node (p3o57 P) (.node (b3o 89 P) (.node (p13o153 P) .nil .nil) .nil) (.node (p8o121 P) .nil .nil)))) (.node (ao13 P) (.node (p1o21 P) (.node (p1o37 P) (.node (p5o69 P) (.node (p10o133 P) .nil .nil) .nil) (.node (b3o 101 P) .nil .nil)) (.node (p1o53 P) (.node (b3o 85 P) (.node (p13o149 P) .nil .nil) .nil) (.node (b3o 117 P) .nil .nil))) (.node (p1o29 P) (.node (p1o45 P) (.node (p6o77 P) (.node (p12o141 P) .nil .nil) .nil) (.node (b3o 109 P) .nil .nil)) (.node (p3o61 P) (.node (b3o 93 P) .nil .nil) (.node (p8o125 P) .nil .nil)))))) (.node (boot_o_2 P) (.node (boot_o_4 P) (.node (boot_o_8 P) (.node (p1o16 P) (.node (p1o32 P) (.node (p5o64 P) (.node (p10o128 P) .nil .nil) .nil) (.node (b3o 96 P) .nil .nil)) (.node (p1o48 P) (.node (p6o80 P) (.node (p12o144 P) .nil .nil) .nil) (.node (b3o 112 P) .nil .nil))) (.node (p1o24 P) (.node (p1o40 P) (.node (p5o72 P) (.node (p11o136 P) .nil .nil) .nil) (.node (b3o 104 P) .nil .nil)) (.node (p1o56 P) (.node (b3o 88 P) (.node (p13o152 P) .nil .nil) .nil) (.node (b3o 120 P) .nil .nil)))) (.node (p13o12 P) (.node (p1o20 P) (.node (p1o36 P) (.node (p5o68 P) (.node (p10o132 P) .nil .nil) .nil) (.node (b3o 100 P) .nil .nil)) (.node (p1o52 P) (.node (b3o 84 P) (.node (p13o148 P) .nil .nil) .nil) (.node (b3o 116 P) .nil .nil))) (.node (p1o28 P) (.node (p1o44 P) (.node (p6o76 P) (.node (p12o140 P) .nil .nil) .nil) (.node (b3o 108 P) .nil .nil)) (.node (p3o60 P) (.node (b3o 92 P) .nil .nil) (.node (p8o124 P) .nil .nil))))) (.node (boot_o_6 P) (.node (boot_o_10 P) (.node (p1o18 P) (.node (p1o34 P) (.node (p5o66 P) (.node (p10o130 P) .nil .nil) .nil) (.node (b3o 98 P) .nil .nil)) (.node (p1o50 P) (.node (b3o 82 P) (.node (p12o146 P) .nil .nil) .nil) (.node (b3o 114 P) .nil .nil))) (.node (p1o26 P) (.node (p1o42 P) (.node (p5o74 P) (.node (p11o138 P) .nil .nil) .nil) (.node (b3o 106 P) .nil .nil)) (.node (p3o58 P) (.node (b3o 90 P) .nil .nil) (.node (p8o122 P) .nil .nil)))) (.node (ao14 P) (.node (p1o22 P) (.node (p1o38 P) (.node (p5o70 P) (.node (p10o134 P) .nil .nil) .nil) (.node (b3o 102 P) .nil .nil)) (.node (p1o54 P) (.node (b3o 86 P) (.node (p13o150 P) .nil .nil) .nil) (.node (b3o 118 P) .nil .nil))) (.node (p1o30 P) (.node (p1o46 P) (.node (p6o78 P) (.node (p12o142 P) .nil .nil) .nil) (.node (b3o 110 P) .nil .nil)) (.node (p3o62 P) (.node (b3o 94 P) .nil .nil) (.node (p8o126 P) .nil .nil)))))))
noncomputable def p14o3 (P : Params) : Obj := ⟨(.type "dict"), none, (.dict #[⟨PyData.keyHash P (Str.ofString "__name__"), .str (Str.ofString "__name__") 165, (.str (Str.ofString "law_sc0083_01") 2287)⟩, ⟨PyData.keyHash P (Str.ofString "__doc__"), .str (Str.ofString "__doc__") 166, .none⟩, ⟨PyData.keyHash P (Str.ofString "__package__"), .str (Str.ofString "__package__") 167, .none⟩, ⟨PyData.keyHash P (Str.ofString "__loader__"), .str (Str.ofString "__loader__") 168, (.builtin "__main__.__loader__#opaque")⟩, ⟨PyData.keyHash P (Str.ofString "__spec__"), .str (Str.ofString "__spec__") 169, .none⟩, ⟨PyData.keyHash P (Str.ofString "__annotations__"), .str (Str.ofString "__annotations__") 170, (.ref 6)⟩, ⟨PyData.keyHash P (Str.ofString "__builtins__"), .str (Str.ofString "__builtins__") 171, (.ref 4)⟩, ⟨PyData.keyHash P (Str.ofString "__file__"), .str (Str.ofString "__file__") 173, (.str (Str.ofString "/claim/cut.py") 172)⟩, ⟨PyData.keyHash P (Str.ofString "__cached__"), .str (Str.ofString "__cached__") 174, .none⟩, ⟨PyData.keyHash P (Str.ofString "_netrclex"), .str (Str.ofString "_netrclex") 246, (.ref 52)⟩, ⟨PyData.keyHash P (Str.ofString "_strip_exception_details"), .str (Str.ofString "_strip_exception_details") 258, (.ref 63)⟩, ⟨PyData.keyHash P (Str.ofString "b1_set"), .str (Str.ofString "b1_set") 320, (.ref 71)⟩, ⟨PyData.keyHash P (Str.ofString "in_table_b1"), .str (Str.ofString "in_table_b1") 327, (.ref 81)⟩, ⟨PyData.keyHash P (Str.ofString "b3_exceptions"), .str (Str.ofString "b3_exceptions") 2278, (.ref 82)⟩, ⟨PyData.keyHash P (Str.ofString "map_table_b3"), .str (Str.ofString "map_table_b3") 2286, (.ref 127)⟩, ⟨PyData.keyHash P (Str.ofString "_law_drawn"), .str (Str.ofString "_law_drawn") 2303, (.ref 134)⟩, ⟨PyData.keyHash P (Str.ofString "_law_prepared"), .str (Str.ofString "_law_prepared") 2309, (.ref 139)⟩, ⟨PyData.keyHash P (Str.ofString "_law_lexer"), .str (Str.ofString "_law_lexer") 2318, (.ref 146)⟩, ⟨PyData.keyHash P (Str.ofString "_law_read"), .str (Str.ofString "_law_read") 2325, (.ref 153)⟩, ⟨PyData.keyHash P (Str.ofString "_law_written"), .str (Str.ofString "_law_written") 2337, (.ref 160)⟩] 20), #[]⟩
noncomputable def p14o12 (P : Params) : Obj := ⟨.none, none, (.fields #[(.int 2 0), (.int 0 0), (.ref 20), (.int 46 0), (.int 0 0), (.ref 62), (.int 60 0), (.int 0 0), (.ref 80), (.int 63 0), (.int 0 0), (.ref 126), (.int 69 0), (.int 0 0), (.ref 133), (.int 85 0), (.int 0 0), (.ref 138), (.int 87 0), (.int 0 0), (.ref 145), (.int 91 0), (.int 0 0), (.ref 152), (.int 93 0), (.int 0 0), (.ref 159)]), #[]⟩
noncomputable def p14o154 (P : Params) : Obj := ⟨(.type "tuple"), none, (.seq #[] 0), #[]⟩
noncomputable def p14o155 (P : Params) : Obj := ⟨.none, none, (.fields #[]), #[]⟩
noncomputable def p14o156 (P : Params) : Obj := ⟨(.type "tuple"), none, (.seq #[(.str (Str.ofString "items") 2329), (.str (Str.ofString "part") 2330), (.str (Str.ofString "bare") 2331), (.str (Str.ofString "text") 2332), (.str (Str.ofString "pair") 2333), (.str (Str.ofString "guard") 2334)] 0), #[]⟩
noncomputable def p14o157 (P : Params) : Obj := ⟨(.type "tuple"), none, (.seq #[] 0), #[]⟩
noncomputable def p14o158 (P : Params) : Obj := ⟨.none, none, (.func ⟨(Str.ofString "_law_written"), (Str.ofString "_law_written"), fArgs (stm 14), .stmts (fBody (stm 14)), fScope (stm 14), 0, [], .none, .none, .none, .none, none, .none, .none, 0⟩), #[]⟩
noncomputable def p14o159 (P : Params) : Obj := ⟨(.type "code"), none, (.fields #[(.str (Str.ofString "_law_written") 2326), (.str (Str.ofString "_law_written") 2327), (.str (Str.ofString "/claim/cut.py") 2328), (.int 93 0), (.int 3 0), (.int 0 0), (.int 0 0), (.int 3 0), (.ref 154), (.bool true), (.int 181 0), (.ref 155), .none, (.ref 156), (.ref 157), (.ref 158), (.int 2335 0), (.int 93 0), (.str (Str.ofString "/claim/cut.py") 2336)]), #[]⟩
noncomputable def p14o160 (P : Params) : Obj := ⟨(.type "function"), none, (.func ⟨(Str.ofString "_law_written"), (Str.ofString "_law_written"), fArgs (stm 14), .stmts (fBody (stm 14)), fScope (stm 14), 3, [], .none, .none, .none, (.str (Str.ofString "law_sc0083_01") 2287), none, (.ref 159), .none, 0⟩), #[]⟩
noncomputable def T15 (P : Params) : BT := (.node (boot_o_0 P) (.node (boot_o_1 P) (.node (p14o3 P) (.node (boot_o_7 P) (.node (p1o15 P) (.node (p1o31 P) (.node (p3o63 P) (.node (p8o127 P) .nil .nil) .nil) (.node (b3o 95 P) (.node (p14o159 P) .nil .nil) .nil)) (.node (p1o47 P) (.node (p6o79 P) (.node (p12o143 P) .nil .nil) .nil) (.node (b3o 111 P) .nil .nil))) (.node (p1o23 P) (.node (p1o39 P) (.node (p5o71 P) (.node (p11o135 P) .nil .nil) .nil) (.node (b3o 103 P) .nil .nil)) (.node (p1o55 P) (.node (b3o 87 P) (.node (p13o151 P) .nil .nil) .nil) (.node (b3o 119 P) .nil .nil)))) (.node (ao11 P) (.node (p1o19 P) (.node (p1o35 P) (.node (p5o67 P) (.node (p10o131 P) .nil .nil) .nil) (.node (b3o 99 P) .nil .nil)) (.node (p1o51 P) (.node (b3o 83 P) (.node (p13o147 P) .nil .nil) .nil) (.node (b3o 115 P) .nil .nil))) (.node (p1o27 P) (.node (p1o43 P) (.node (p6o75 P) (.node (p11o139 P) .nil .nil) .nil) (.node (b3o 107 P) .nil .nil)) (.node (p3o59 P) (.node (b3o 91 P) (.node (p14o155 P) .nil .nil) .nil) (.node (p8o123 P) .nil .nil))))) (.node (boot_o_5 P) (.node (boot_o_9 P) (.node (p1o17 P) (.node (p1o33 P) (.node (p5o65 P) (.node (p10o129 P) .nil .nil) .nil) (.node (b3o 97 P) .nil .nil)) (.node (p1o49 P) (.node (p6o81 P) (.node (p12o145 P) .nil .nil) .nil) (.node (b3o 113 P) .nil .nil))) (.node (p1o25 P) (.node (p1o41 P) (.node (p5o73 P) (.node (p11o137 P) .nil .nil) .nil) (.node (b3o 105 P) .nil .nil)) (.node (p3o57 P) (.node (b3o 89 P) (.node (p13o153 P) .nil .nil) .nil) (.node (p8o121 P) .nil .nil)))) (.node (ao13 P) (.node (p1o21 P) (.node (p1o37 P) (.node (p5o69 P) (.node (p10o133 P) .nil .nil) .nil) (.node (b3o 101 P) .nil .nil)) (.node (p1o53 P) (.node (b3o 85 P) (.node (p13o149 P) .nil .nil) .nil) (.node (b3o 117 P) .nil .nil))) (.node (p1o29 P) (.node (p1o45 P) (.node (p6o77 P) (.node (p12o141 P) .nil .nil) .nil) (.node (b3o 109 P) .nil .nil)) (.node (p3o61 P) (.node (b3o 93 P) (.node (p14o157 P) .nil .nil) .nil) (.node (p8o125 P) .nil .nil)))))) (.node (boot_o_2 P) (.node (boot_o_4 P) (.node (boot_o_8 P) (.node (p1o16 P) (.node (p1o32 P) (.node (p5o64 P) (.node (p10o128 P) .nil .nil) .nil) (.node (b3o 96 P) (.node (p14o160 P) .nil .nil) .nil)) (.node (p1o48 P) (.node (p6o80 P) (.node (p12o144 P) .nil .nil) .nil) (.node (b3o 112 P) .nil .nil))) (.node (p1o24 P) (.node (p1o40 P) (.node (p5o72 P) (.node (p11o136 P) .nil .nil) .nil) (.node (b3o 104 P) .nil .nil)) (.node (p1o56 P) (.node (b3o 88 P) (.node (p13o152 P) .nil .nil) .nil) (.node (b3o 120 P) .nil .nil)))) (.node (p14o12 P) (.node (p1o20 P) (.node (p1o36 P) (.node (p5o68 P) (.node (p10o132 P) .nil .nil) .nil) (.node (b3o 100 P) .nil .nil)) (.node (p1o52 P) (.node (b3o 84 P) (.node (p13o148 P) .nil .nil) .nil) (.node (b3o 116 P) .nil .nil))) (.node (p1o28 P) (.node (p1o44 P) (.node (p6o76 P) (.node (p12o140 P) .nil .nil) .nil) (.node (b3o 108 P) .nil .nil)) (.node (p3o60 P) (.node (b3o 92 P) (.node (p14o156 P) .nil .nil) .nil) (.node (p8o124 P) .nil .nil))))) (.node (boot_o_6 P) (.node (boot_o_10 P) (.node (p1o18 P) (.node (p1o34 P) (.node (p5o66 P) (.node (p10o130 P) .nil .nil) .nil) (.node (b3o 98 P) .nil .nil)) (.node (p1o50 P) (.node (b3o 82 P) (.node (p12o146 P) .nil .nil) .nil) (.node (b3o 114 P) .nil .nil))) (.node (p1o26 P) (.node (p1o42 P) (.node (p5o74 P) (.node (p11o138 P) .nil .nil) .nil) (.node (b3o 106 P) .nil .nil)) (.node (p3o58 P) (.node (b3o 90 P) (.node (p14o154 P) .nil .nil) .nil) (.node (p8o122 P) .nil .nil)))) (.node (ao14 P) (.node (p1o22 P) (.node (p1o38 P) (.node (p5o70 P) (.node (p10o134 P) .nil .nil) .nil) (.node (b3o 102 P) .nil .nil)) (.node (p1o54 P) (.node (b3o 86 P) (.node (p13o150 P) .nil .nil) .nil) (.node (b3o 118 P) .nil .nil))) (.node (p1o30 P) (.node (p1o46 P) (.node (p6o78 P) (.node (p12o142 P) .nil .nil) .nil) (.node (b3o 110 P) .nil .nil)) (.node (p3o62 P) (.node (b3o 94 P) (.node (p14o158 P) .nil .nil) .nil) (.node (p8o126 P) .nil .nil)))))))
noncomputable def p15o3 (P : Params) : Obj := ⟨(.type "dict"), none, (.dict #[⟨PyData.keyHash P (Str.ofString "__name__"), .str (Str.ofString "__name__") 165, (.str (Str.ofString "law_sc0083_01") 2287)⟩, ⟨PyData.keyHash P (Str.ofString "__doc__"), .str (Str.ofString "__doc__") 166, .none⟩, ⟨PyData.keyHash P (Str.ofString "__package__"), .str (Str.ofString "__package__") 167, .none⟩, ⟨PyData.keyHash P (Str.ofString "__loader__"), .str (Str.ofString "__loader__") 168, (.builtin "__main__.__loader__#opaque")⟩, ⟨PyData.keyHash P (Str.ofString "__spec__"), .str (Str.ofString "__spec__") 169, .none⟩, ⟨PyData.keyHash P (Str.ofString "__annotations__"), .str (Str.ofString "__annotations__") 170, (.ref 6)⟩, ⟨PyData.keyHash P (Str.ofString "__builtins__"), .str (Str.ofString "__builtins__") 171, (.ref 4)⟩, ⟨PyData.keyHash P (Str.ofString "__file__"), .str (Str.ofString "__file__") 173, (.str (Str.ofString "/claim/cut.py") 172)⟩, ⟨PyData.keyHash P (Str.ofString "__cached__"), .str (Str.ofString "__cached__") 174, .none⟩, ⟨PyData.keyHash P (Str.ofString "_netrclex"), .str (Str.ofString "_netrclex") 246, (.ref 52)⟩, ⟨PyData.keyHash P (Str.ofString "_strip_exception_details"), .str (Str.ofString "_strip_exception_details") 258, (.ref 63)⟩, ⟨PyData.keyHash P (Str.ofString "b1_set"), .str (Str.ofString "b1_set") 320, (.ref 71)⟩, ⟨PyData.keyHash P (Str.ofString "in_table_b1"), .str (Str.ofString "in_table_b1") 327, (.ref 81)⟩, ⟨PyData.keyHash P (Str.ofString "b3_exceptions"), .str (Str.ofString "b3_exceptions") 2278, (.ref 82)⟩, ⟨PyData.keyHash P (Str.ofString "map_table_b3"), .str (Str.ofString "map_table_b3") 2286, (.ref 127)⟩, ⟨PyData.keyHash P (Str.ofString "_law_drawn"), .str (Str.ofString "_law_drawn") 2303, (.ref 134)⟩, ⟨PyData.keyHash P (Str.ofString "_law_prepared"), .str (Str.ofString "_law_prepared") 2309, (.ref 139)⟩, ⟨PyData.keyHash P (Str.ofString "_law_lexer"), .str (Str.ofString "_law_lexer") 2318, (.ref 146)⟩, ⟨PyData.keyHash P (Str.ofString "_law_read"), .str (Str.ofString "_law_read") 2325, (.ref 153)⟩, ⟨PyData.keyHash P (Str.ofString "_law_written"), .str (Str.ofString "_law_written") 2337, (.ref 160)⟩, ⟨PyData.keyHash P (Str.ofString "_law_told"), .str (Str.ofString "_law_told") 2343, (.ref 165)⟩] 21), #[]⟩
noncomputable def p15o12 (P : Params) : Obj := ⟨.none, none, (.fields #[(.int 2 0), (.int 0 0), (.ref 20), (.int 46 0), (.int 0 0), (.ref 62), (.int 60 0), (.int 0 0), (.ref 80), (.int 63 0), (.int 0 0), (.ref 126), (.int 69 0), (.int 0 0), (.ref 133), (.int 85 0), (.int 0 0), (.ref 138), (.int 87 0), (.int 0 0), (.ref 145), (.int 91 0), (.int 0 0), (.ref 152), (.int 93 0), (.int 0 0), (.ref 159), (.int 99 0), (.int 0 0), (.ref 164)]), #[]⟩
noncomputable def p15o161 (P : Params) : Obj := ⟨(.type "tuple"), none, (.seq #[] 0), #[]⟩
noncomputable def p15o162 (P : Params) : Obj := ⟨.none, none, (.fields #[]), #[]⟩
noncomputable def p15o163 (P : Params) : Obj := ⟨.none, none, (.func ⟨(Str.ofString "_law_told"), (Str.ofString "_law_told"), fArgs (stm 15), .stmts (fBody (stm 15)), fScope (stm 15), 0, [], .none, .none, .none, .none, none, .none, .none, 0⟩), #[]⟩
noncomputable def p15o164 (P : Params) : Obj := ⟨(.type "code"), none, (.fields #[(.str (Str.ofString "_law_told") 2338), (.str (Str.ofString "_law_told") 2339), (.str (Str.ofString "/claim/cut.py") 2340), (.int 99 0), (.int 4 0), (.int 0 0), (.int 0 0), (.int 3 0), (.ref 161), (.bool true), (.int 181 0), (.ref 162), .none, .none, .none, (.ref 163), (.int 2341 0), (.int 99 0), (.str (Str.ofString "/claim/cut.py") 2342)]), #[]⟩
noncomputable def p15o165 (P : Params) : Obj := ⟨(.type "function"), none, (.func ⟨(Str.ofString "_law_told"), (Str.ofString "_law_told"), fArgs (stm 15), .stmts (fBody (stm 15)), fScope (stm 15), 3, [], .none, .none, .none, (.str (Str.ofString "law_sc0083_01") 2287), none, (.ref 164), .none, 0⟩), #[]⟩
noncomputable def T16 (P : Params) : BT := (.node (boot_o_0 P) (.node (boot_o_1 P) (.node (p15o3 P) (.node (boot_o_7 P) (.node (p1o15 P) (.node (p1o31 P) (.node (p3o63 P) (.node (p8o127 P) .nil .nil) .nil) (.node (b3o 95 P) (.node (p14o159 P) .nil .nil) .nil)) (.node (p1o47 P) (.node (p6o79 P) (.node (p12o143 P) .nil .nil) .nil) (.node (b3o 111 P) .nil .nil))) (.node (p1o23 P) (.node (p1o39 P) (.node (p5o71 P) (.node (p11o135 P) .nil .nil) .nil) (.node (b3o 103 P) .nil .nil)) (.node (p1o55 P) (.node (b3o 87 P) (.node (p13o151 P) .nil .nil) .nil) (.node (b3o 119 P) .nil .nil)))) (.node (ao11 P) (.node (p1o19 P) (.node (p1o35 P) (.node (p5o67 P) (.node (p10o131 P) .nil .nil) .nil) (.node (b3o 99 P) (.node (p15o163 P) .nil .nil) .nil)) (.node (p1o51 P) (.node (b3o 83 P) (.node (p13o147 P) .nil .nil) .nil) (.node (b3o 115 P) .nil .nil))) (.node (p1o27 P) (.node (p1o43 P) (.node (p6o75 P) (.node (p11o139 P) .nil .nil) .nil) (.node (b3o 107 P) .nil .nil)) (.node (p3o59 P) (.node (b3o 91 P) (.node (p14o155 P) .nil .nil) .nil) (.node (p8o123 P) .nil .nil))))) (.node (boot_o_5 P) (.node (boot_o_9 P) (.node (p1o17 P) (.node (p1o33 P) (.node (p5o65 P) (.node (p10o129 P) .nil .nil) .nil) (.node (b3o 97 P) (.node (p15o161 P) .nil .nil) .nil)) (.node (p1o49 P) (.node (p6o81 P) (.node (p12o145 P) .nil .nil) .nil) (.node (b3o 113 P) .nil .nil))) (.node (p1o25 P) (.node (p1o41 P) (.node (p5o73 P) (.node (p11o137 P) .nil .nil) .nil) (.node (b3o 105 P) .nil .nil)) (.node (p3o57 P) (.node (b3o 89 P) (.node (p13o153 P) .nil .nil) .nil) (.node (p8o121 P) .nil .nil)))) (.node (ao13 P) (.node (p1o21 P) (.node (p1o37 P) (.node (p5o69 P) (.node (p10o133 P) .nil .nil) .nil) (.node (b3o 101 P) (.node (p15o165 P) .nil .nil) .nil)) (.node (p1o53 P) (.node (b3o 85 P) (.node (p13o149 P) .nil .nil) .nil) (.node (b3o 117 P) .nil .nil))) (.node (p1o29 P) (.node (p1o45 P) (.node (p6o77 P) (.node (p12o141 P) .nil .nil) .nil) (.node (b3o 109 P) .nil .nil)) (.node (p3o61 P) (.node (b3o 93 P) (.node (p14o157 P) .nil .nil) .nil) (.node (p8o125 P) .nil .nil)))))) (.node (boot_o_2 P) (.node (boot_o_4 P) (.node (boot_o_8 P) (.node (p1o16 P) (.node (p1o32 P) (.node (p5o64 P) (.node (p10o128 P) .nil .nil) .nil) (.node (b3o 96 P) (.node (p14o160 P) .nil .nil) .nil)) (.node (p1o48 P) (.node (p6o80 P) (.node (p12o144 P) .nil .nil) .nil) (.node (b3o 112 P) .nil .nil))) (.node (p1o24 P) (.node (p1o40 P) (.node (p5o72 P) (.node (p11o136 P) .nil .nil) .nil) (.node (b3o 104 P) .nil .nil)) (.node (p1o56 P) (.node (b3o 88 P) (.node (p13o152 P) .nil .nil) .nil) (.node (b3o 120 P) .nil .nil)))) (.node (p15o12 P) (.node (p1o20 P) (.node (p1o36 P) (.node (p5o68 P) (.node (p10o132 P) .nil .nil) .nil) (.node (b3o 100 P) (.node (p15o164 P) .nil .nil) .nil)) (.node (p1o52 P) (.node (b3o 84 P) (.node (p13o148 P) .nil .nil) .nil) (.node (b3o 116 P) .nil .nil))) (.node (p1o28 P) (.node (p1o44 P) (.node (p6o76 P) (.node (p12o140 P) .nil .nil) .nil) (.node (b3o 108 P) .nil .nil)) (.node (p3o60 P) (.node (b3o 92 P) (.node (p14o156 P) .nil .nil) .nil) (.node (p8o124 P) .nil .nil))))) (.node (boot_o_6 P) (.node (boot_o_10 P) (.node (p1o18 P) (.node (p1o34 P) (.node (p5o66 P) (.node (p10o130 P) .nil .nil) .nil) (.node (b3o 98 P) (.node (p15o162 P) .nil .nil) .nil)) (.node (p1o50 P) (.node (b3o 82 P) (.node (p12o146 P) .nil .nil) .nil) (.node (b3o 114 P) .nil .nil))) (.node (p1o26 P) (.node (p1o42 P) (.node (p5o74 P) (.node (p11o138 P) .nil .nil) .nil) (.node (b3o 106 P) .nil .nil)) (.node (p3o58 P) (.node (b3o 90 P) (.node (p14o154 P) .nil .nil) .nil) (.node (p8o122 P) .nil .nil)))) (.node (ao14 P) (.node (p1o22 P) (.node (p1o38 P) (.node (p5o70 P) (.node (p10o134 P) .nil .nil) .nil) (.node (b3o 102 P) .nil .nil)) (.node (p1o54 P) (.node (b3o 86 P) (.node (p13o150 P) .nil .nil) .nil) (.node (b3o 118 P) .nil .nil))) (.node (p1o30 P) (.node (p1o46 P) (.node (p6o78 P) (.node (p12o142 P) .nil .nil) .nil) (.node (b3o 110 P) .nil .nil)) (.node (p3o62 P) (.node (b3o 94 P) (.node (p14o158 P) .nil .nil) .nil) (.node (p8o126 P) .nil .nil)))))))
noncomputable def p16o3 (P : Params) : Obj := ⟨(.type "dict"), none, (.dict #[⟨PyData.keyHash P (Str.ofString "__name__"), .str (Str.ofString "__name__") 165, (.str (Str.ofString "law_sc0083_01") 2287)⟩, ⟨PyData.keyHash P (Str.ofString "__doc__"), .str (Str.ofString "__doc__") 166, .none⟩, ⟨PyData.keyHash P (Str.ofString "__package__"), .str (Str.ofString "__package__") 167, .none⟩, ⟨PyData.keyHash P (Str.ofString "__loader__"), .str (Str.ofString "__loader__") 168, (.builtin "__main__.__loader__#opaque")⟩, ⟨PyData.keyHash P (Str.ofString "__spec__"), .str (Str.ofString "__spec__") 169, .none⟩, ⟨PyData.keyHash P (Str.ofString "__annotations__"), .str (Str.ofString "__annotations__") 170, (.ref 6)⟩, ⟨PyData.keyHash P (Str.ofString "__builtins__"), .str (Str.ofString "__builtins__") 171, (.ref 4)⟩, ⟨PyData.keyHash P (Str.ofString "__file__"), .str (Str.ofString "__file__") 173, (.str (Str.ofString "/claim/cut.py") 172)⟩, ⟨PyData.keyHash P (Str.ofString "__cached__"), .str (Str.ofString "__cached__") 174, .none⟩, ⟨PyData.keyHash P (Str.ofString "_netrclex"), .str (Str.ofString "_netrclex") 246, (.ref 52)⟩, ⟨PyData.keyHash P (Str.ofString "_strip_exception_details"), .str (Str.ofString "_strip_exception_details") 258, (.ref 63)⟩, ⟨PyData.keyHash P (Str.ofString "b1_set"), .str (Str.ofString "b1_set") 320, (.ref 71)⟩, ⟨PyData.keyHash P (Str.ofString "in_table_b1"), .str (Str.ofString "in_table_b1") 327, (.ref 81)⟩, ⟨PyData.keyHash P (Str.ofString "b3_exceptions"), .str (Str.ofString "b3_exceptions") 2278, (.ref 82)⟩, ⟨PyData.keyHash P (Str.ofString "map_table_b3"), .str (Str.ofString "map_table_b3") 2286, (.ref 127)⟩, ⟨PyData.keyHash P (Str.ofString "_law_drawn"), .str (Str.ofString "_law_drawn") 2303, (.ref 134)⟩, ⟨PyData.keyHash P (Str.ofString "_law_prepared"), .str (Str.ofString "_law_prepared") 2309, (.ref 139)⟩, ⟨PyData.keyHash P (Str.ofString "_law_lexer"), .str (Str.ofString "_law_lexer") 2318, (.ref 146)⟩, ⟨PyData.keyHash P (Str.ofString "_law_read"), .str (Str.ofString "_law_read") 2325, (.ref 153)⟩, ⟨PyData.keyHash P (Str.ofString "_law_written"), .str (Str.ofString "_law_written") 2337, (.ref 160)⟩, ⟨PyData.keyHash P (Str.ofString "_law_told"), .str (Str.ofString "_law_told") 2343, (.ref 165)⟩, ⟨PyData.keyHash P (Str.ofString "law"), .str (Str.ofString "law") 2349, (.ref 170)⟩] 22), #[]⟩
noncomputable def p16o12 (P : Params) : Obj := ⟨.none, none, (.fields #[(.int 2 0), (.int 0 0), (.ref 20), (.int 46 0), (.int 0 0), (.ref 62), (.int 60 0), (.int 0 0), (.ref 80), (.int 63 0), (.int 0 0), (.ref 126), (.int 69 0), (.int 0 0), (.ref 133), (.int 85 0), (.int 0 0), (.ref 138), (.int 87 0), (.int 0 0), (.ref 145), (.int 91 0), (.int 0 0), (.ref 152), (.int 93 0), (.int 0 0), (.ref 159), (.int 99 0), (.int 0 0), (.ref 164), (.int 125 0), (.int 0 0), (.ref 169)]), #[]⟩
noncomputable def p16o166 (P : Params) : Obj := ⟨(.type "tuple"), none, (.seq #[] 0), #[]⟩
noncomputable def p16o167 (P : Params) : Obj := ⟨.none, none, (.fields #[]), #[]⟩
noncomputable def p16o168 (P : Params) : Obj := ⟨.none, none, (.func ⟨(Str.ofString "law"), (Str.ofString "law"), fArgs (stm 16), .stmts (fBody (stm 16)), fScope (stm 16), 0, [], .none, .none, .none, .none, none, .none, .none, 0⟩), #[]⟩
noncomputable def p16o169 (P : Params) : Obj := ⟨(.type "code"), none, (.fields #[(.str (Str.ofString "law") 2344), (.str (Str.ofString "law") 2345), (.str (Str.ofString "/claim/cut.py") 2346), (.int 125 0), (.int 1 0), (.int 0 0), (.int 0 0), (.int 3 0), (.ref 166), (.bool true), (.int 181 0), (.ref 167), .none, .none, .none, (.ref 168), (.int 2347 0), (.int 125 0), (.str (Str.ofString "/claim/cut.py") 2348)]), #[]⟩
noncomputable def p16o170 (P : Params) : Obj := ⟨(.type "function"), none, (.func ⟨(Str.ofString "law"), (Str.ofString "law"), fArgs (stm 16), .stmts (fBody (stm 16)), fScope (stm 16), 3, [], .none, .none, .none, (.str (Str.ofString "law_sc0083_01") 2287), none, (.ref 169), .none, 0⟩), #[]⟩
noncomputable def T17 (P : Params) : BT := (.node (boot_o_0 P) (.node (boot_o_1 P) (.node (p16o3 P) (.node (boot_o_7 P) (.node (p1o15 P) (.node (p1o31 P) (.node (p3o63 P) (.node (p8o127 P) .nil .nil) .nil) (.node (b3o 95 P) (.node (p14o159 P) .nil .nil) .nil)) (.node (p1o47 P) (.node (p6o79 P) (.node (p12o143 P) .nil .nil) .nil) (.node (b3o 111 P) .nil .nil))) (.node (p1o23 P) (.node (p1o39 P) (.node (p5o71 P) (.node (p11o135 P) .nil .nil) .nil) (.node (b3o 103 P) (.node (p16o167 P) .nil .nil) .nil)) (.node (p1o55 P) (.node (b3o 87 P) (.node (p13o151 P) .nil .nil) .nil) (.node (b3o 119 P) .nil .nil)))) (.node (ao11 P) (.node (p1o19 P) (.node (p1o35 P) (.node (p5o67 P) (.node (p10o131 P) .nil .nil) .nil) (.node (b3o 99 P) (.node (p15o163 P) .nil .nil) .nil)) (.node (p1o51 P) (.node (b3o 83 P) (.node (p13o147 P) .nil .nil) .nil) (.node (b3o 115 P) .nil .nil))) (.node (p1o27 P) (.node (p1o43 P) (.node (p6o75 P) (.node (p11o139 P) .nil .nil) .nil) (.node (b3o 107 P) .nil .nil)) (.node (p3o59 P) (.node (b3o 91 P) (.node (p14o155 P) .nil .nil) .nil) (.node (p8o123 P) .nil .nil))))) (.node (boot_o_5 P) (.node (boot_o_9 P) (.node (p1o17 P) (.node (p1o33 P) (.node (p5o65 P) (.node (p10o129 P) .nil .nil) .nil) (.node (b3o 97 P) (.node (p15o161 P) .nil .nil) .nil)) (.node (p1o49 P) (.node (p6o81 P) (.node (p12o145 P) .nil .nil) .nil) (.node (b3o 113 P) .nil .nil))) (.node (p1o25 P) (.node (p1o41 P) (.node (p5o73 P) (.node (p11o137 P) .nil .nil) .nil) (.node (b3o 105 P) (.node (p16o169 P) .nil .nil) .nil)) (.node (p3o57 P) (.node (b3o 89 P) (.node (p13o153 P) .nil .nil) .nil) (.node (p8o121 P) .nil .nil)))) (.node (ao13 P) (.node (p1o21 P) (.node (p1o37 P) (.node (p5o69 P) (.node (p10o133 P) .nil .nil) .nil) (.node (b3o 101 P) (.node (p15o165 P) .nil .nil) .nil)) (.node (p1o53 P) (.node (b3o 85 P) (.node (p13o149 P) .nil .nil) .nil) (.node (b3o 117 P) .nil .nil))) (.node (p1o29 P) (.node (p1o45 P) (.node (p6o77 P) (.node (p12o141 P) .nil .nil) .nil) (.node (b3o 109 P) .nil .nil)) (.node (p3o61 P) (.node (b3o 93 P) (.node (p14o157 P) .nil .nil) .nil) (.node (p8o125 P) .nil .nil)))))) (.node (boot_o_2 P) (.node (boot_o_4 P) (.node (boot_o_8 P) (.node (p1o16 P) (.node (p1o32 P) (.node (p5o64 P) (.node (p10o128 P) .nil .nil) .nil) (.node (b3o 96 P) (.node (p14o160 P) .nil .nil) .nil)) (.node (p1o48 P) (.node (p6o80 P) (.node (p12o144 P) .nil .nil) .nil) (.node (b3o 112 P) .nil .nil))) (.node (p1o24 P) (.node (p1o40 P) (.node (p5o72 P) (.node (p11o136 P) .nil .nil) .nil) (.node (b3o 104 P) (.node (p16o168 P) .nil .nil) .nil)) (.node (p1o56 P) (.node (b3o 88 P) (.node (p13o152 P) .nil .nil) .nil) (.node (b3o 120 P) .nil .nil)))) (.node (p16o12 P) (.node (p1o20 P) (.node (p1o36 P) (.node (p5o68 P) (.node (p10o132 P) .nil .nil) .nil) (.node (b3o 100 P) (.node (p15o164 P) .nil .nil) .nil)) (.node (p1o52 P) (.node (b3o 84 P) (.node (p13o148 P) .nil .nil) .nil) (.node (b3o 116 P) .nil .nil))) (.node (p1o28 P) (.node (p1o44 P) (.node (p6o76 P) (.node (p12o140 P) .nil .nil) .nil) (.node (b3o 108 P) .nil .nil)) (.node (p3o60 P) (.node (b3o 92 P) (.node (p14o156 P) .nil .nil) .nil) (.node (p8o124 P) .nil .nil))))) (.node (boot_o_6 P) (.node (boot_o_10 P) (.node (p1o18 P) (.node (p1o34 P) (.node (p5o66 P) (.node (p10o130 P) .nil .nil) .nil) (.node (b3o 98 P) (.node (p15o162 P) .nil .nil) .nil)) (.node (p1o50 P) (.node (b3o 82 P) (.node (p12o146 P) .nil .nil) .nil) (.node (b3o 114 P) .nil .nil))) (.node (p1o26 P) (.node (p1o42 P) (.node (p5o74 P) (.node (p11o138 P) .nil .nil) .nil) (.node (b3o 106 P) (.node (p16o170 P) .nil .nil) .nil)) (.node (p3o58 P) (.node (b3o 90 P) (.node (p14o154 P) .nil .nil) .nil) (.node (p8o122 P) .nil .nil)))) (.node (ao14 P) (.node (p1o22 P) (.node (p1o38 P) (.node (p5o70 P) (.node (p10o134 P) .nil .nil) .nil) (.node (b3o 102 P) (.node (p16o166 P) .nil .nil) .nil)) (.node (p1o54 P) (.node (b3o 86 P) (.node (p13o150 P) .nil .nil) .nil) (.node (b3o 118 P) .nil .nil))) (.node (p1o30 P) (.node (p1o46 P) (.node (p6o78 P) (.node (p12o142 P) .nil .nil) .nil) (.node (b3o 110 P) .nil .nil)) (.node (p3o62 P) (.node (b3o 94 P) (.node (p14o158 P) .nil .nil) .nil) (.node (p8o126 P) .nil .nil)))))))

@[reducible] noncomputable def env : Env := { scope := pw.main.scope, locals := mainNs, globals := mainNs, cells := [], code := .ref 13, frame := some 14 }
@[reducible] noncomputable def B : List Frame := [topFrame ⟨0,0,0,0⟩]
@[reducible] noncomputable def ann : Option Value := some (.ref 6)
@[reducible] noncomputable def dr : Drawn := boot_drawn
@[reducible] noncomputable def S (T : Params → BT) (n k : Nat) (w : World) (os : OsState) : SharedT := ⟨T w.params, n, {}, #[], dr, k, os⟩
@[reducible] noncomputable def bd : List Stmt := behindTheImports pw
@[reducible] noncomputable def cE : Code := .body bd env
end
end Mine
end
section
open PySem PySem.W PyProof.Rows
set_option Elab.async false
set_option maxRecDepth 100000
set_option maxHeartbeats 0
namespace Mine
noncomputable section
theorem pre (w : World) : (fun os => topGo treeTable pw w 11 ann 12 ⟨boot_heap w.params, #[], boot_drawn, boot_toks, os⟩ (topStub pw)) = fun os => some (⟨Ha w.params, #[], dr, 187, os⟩, ⟨denote treeTable cE, cE, ⟨0,0,0,0⟩, B⟩) := by
  kernel_rfl
theorem blk (w : World) : (fun os => segRun treeTable pw w 11 ann 1 1 ⟨Ha w.params, #[], dr, 187, os⟩ (blockOf bd env cE ⟨0,0,0,0⟩ B)) = fun os => some (.next, (S T0 15 187 w os).abs, cE, ⟨0,0,0,0⟩) := by
  kernel_rfl
theorem pc1 (w : World) : (fun os => segRunT treeTable pw w 11 ann 1 10 (S T0 15 187 w os) (pieceOf (stm 0) env cE ⟨0,0,0,0⟩ B)) = fun os => some (.next, S T1 15 189 w os, cE, ⟨1,0,1,8⟩) := by
  rw [Fast.te10110043849684766642, Fast.te14364793385576792824]; kernel_rfl
theorem pc2 (w : World) : (fun os => segRunT treeTable pw w 11 ann 1 324 (S T1 15 189 w os) (pieceOf (stm 1) env cE ⟨1,0,1,8⟩ B)) = fun os => some (.next, S T2 57 247 w os, cE, ⟨2,0,44,35⟩) := by
  rw [Fast.te10110043849684766642, Fast.te14364793385576792824]; kernel_rfl
theorem pc3 (w : World) : (fun os => segRunT treeTable pw w 11 ann 1 10 (S T2 57 247 w os) (pieceOf (stm 2) env cE ⟨2,0,44,35⟩ B)) = fun os => some (.next, S T3 57 249 w os, cE, ⟨45,0,45,8⟩) := by
  rw [Fast.te10110043849684766642, Fast.te14364793385576792824]; kernel_rfl
theorem pc4 (w : World) : (fun os => segRunT treeTable pw w 11 ann 1 33 (S T3 57 249 w os) (pieceOf (stm 3) env cE ⟨45,0,45,8⟩ B)) = fun os => some (.next, S T4 64 259 w os, cE, ⟨46,0,57,25⟩) := by
  rw [Fast.te10110043849684766642, Fast.te14364793385576792824]; kernel_rfl
theorem pc5 (w : World) : (fun os => segRunT treeTable pw w 11 ann 1 10 (S T4 64 259 w os) (pieceOf (stm 4) env cE ⟨46,0,57,25⟩ B)) = fun os => some (.next, S T5 64 261 w os, cE, ⟨58,0,58,8⟩) := by
  rw [Fast.te10110043849684766642, Fast.te14364793385576792824]; kernel_rfl
theorem pc6 (w : World) : (fun os => segRunT treeTable pw w 11 ann 1 999 (S T5 64 261 w os) (pieceOf (stm 5) env cE ⟨58,0,58,8⟩ B)) = fun os => some (.next, S T6 75 321 w os, cE, ⟨59,0,59,6⟩) := byRow2 "special-get-raises" (P := fun w => (fun os => segRunT treeTable pw w 11 ann 1 999 (S T5 64 261 w os) (pieceOf (stm 5) env cE ⟨58,0,58,8⟩ B)) = fun os => some (.next, S T6 75 321 w os, cE, ⟨59,0,59,6⟩))
  (fun w => by rw [Fast.te10110043849684766642, Fast.te14364793385576792824]; kernel_rfl)
  (fun w => by rw [Fast.te10110043849684766642, Fast.te14364793385576792824]; kernel_rfl) w
theorem pc7 (w : World) : (fun os => segRunT treeTable pw w 11 ann 1 30 (S T6 75 321 w os) (pieceOf (stm 6) env cE ⟨59,0,59,6⟩ B)) = fun os => some (.next, S T7 82 328 w os, cE, ⟨60,0,61,30⟩) := by
  rw [Fast.te10110043849684766642, Fast.te14364793385576792824]; kernel_rfl
theorem pc9 (w : World) : (fun os => segRunT treeTable pw w 11 ann 1 31 (S T8 121 2279 w os) (pieceOf (stm 8) env cE ⟨62,0,62,13⟩ B)) = fun os => some (.next, S T9 128 2287 w os, cE, ⟨63,0,67,23⟩) := by
  rw [Fast.te10110043849684766642, Fast.te14364793385576792824]; kernel_rfl
theorem pc10 (w : World) : (fun os => segRunT treeTable pw w 11 ann 1 10 (S T9 128 2287 w os) (pieceOf (stm 9) env cE ⟨63,0,67,23⟩ B)) = fun os => some (.next, S T10 128 2289 w os, cE, ⟨68,0,68,8⟩) := by
  rw [Fast.te10110043849684766642, Fast.te14364793385576792824]; kernel_rfl
theorem pc11 (w : World) : (fun os => segRunT treeTable pw w 11 ann 1 38 (S T10 128 2289 w os) (pieceOf (stm 10) env cE ⟨68,0,68,8⟩ B)) = fun os => some (.next, S T11 135 2304 w os, cE, ⟨69,0,84,30⟩) := by
  rw [Fast.te10110043849684766642, Fast.te14364793385576792824]; kernel_rfl
theorem pc12 (w : World) : (fun os => segRunT treeTable pw w 11 ann 1 27 (S T11 135 2304 w os) (pieceOf (stm 11) env cE ⟨69,0,84,30⟩ B)) = fun os => some (.next, S T12 140 2310 w os, cE, ⟨85,0,86,82⟩) := by
  rw [Fast.te10110043849684766642, Fast.te14364793385576792824]; kernel_rfl
theorem pc13 (w : World) : (fun os => segRunT treeTable pw w 11 ann 1 32 (S T12 140 2310 w os) (pieceOf (stm 12) env cE ⟨85,0,86,82⟩ B)) = fun os => some (.next, S T13 147 2319 w os, cE, ⟨87,0,90,28⟩) := by
  rw [Fast.te10110043849684766642, Fast.te14364793385576792824]; kernel_rfl
theorem pc14 (w : World) : (fun os => segRunT treeTable pw w 11 ann 1 30 (S T13 147 2319 w os) (pieceOf (stm 13) env cE ⟨87,0,90,28⟩ B)) = fun os => some (.next, S T14 154 2326 w os, cE, ⟨91,0,92,51⟩) := by
  rw [Fast.te10110043849684766642, Fast.te14364793385576792824]; kernel_rfl
theorem pc15 (w : World) : (fun os => segRunT treeTable pw w 11 ann 1 35 (S T14 154 2326 w os) (pieceOf (stm 14) env cE ⟨91,0,92,51⟩ B)) = fun os => some (.next, S T15 161 2338 w os, cE, ⟨93,0,98,15⟩) := by
  rw [Fast.te10110043849684766642, Fast.te14364793385576792824]; kernel_rfl
theorem pc16 (w : World) : (fun os => segRunT treeTable pw w 11 ann 1 27 (S T15 161 2338 w os) (pieceOf (stm 15) env cE ⟨93,0,98,15⟩ B)) = fun os => some (.next, S T16 166 2344 w os, cE, ⟨99,0,124,91⟩) := by
  rw [Fast.te10110043849684766642, Fast.te14364793385576792824]; kernel_rfl
theorem pc17 (w : World) : (fun os => segRunT treeTable pw w 11 ann 1 27 (S T16 166 2344 w os) (pieceOf (stm 16) env cE ⟨99,0,124,91⟩ B)) = fun os => some (.next, S T17 171 2350 w os, cE, ⟨125,0,165,49⟩) := by
  rw [Fast.te10110043849684766642, Fast.te14364793385576792824]; kernel_rfl
end
end Mine
end
section
open PySem PySem.W PyProof.Rows
set_option Elab.async false
set_option maxRecDepth 100000
set_option maxHeartbeats 1000000
set_option linter.unusedVariables false
set_option linter.unusedSimpArgs false
namespace Mine
section
variable {α β : Type} {w : World} {c c1 c2 : Nat} {s s' s1 s2 : Shared} {a : α}

theorem segGo_app : ∀ {n m : Nat} {s s₁ : Shared} {t t₁ : Thread} {r : Option (Shared × Thread)}, segGo treeTable pw w 11 ann 1 n s t = some (s₁, t₁) → segGo treeTable pw w 11 ann 1 m s₁ t₁ = r → segGo treeTable pw w 11 ann 1 (n + m) s t = r
  | 0, m, s, s₁, t, t₁, r, h, k => by
    obtain ⟨rfl, rfl⟩ : s = s₁ ∧ t = t₁ := by simpa [segGo] using h
    rw [Nat.zero_add]; exact k
  | n + 1, m, s, s₁, t, t₁, r, h, k => by
    rw [show n + 1 + m = n + m + 1 by (first | lia | omega)]
    unfold segGo at h ⊢
    cases he : endAt 1 t with
    | some f => rw [he] at h; cases h
    | none =>
      rw [he] at h
      cases hk : stepOk 11 ann t with
      | false => rw [hk] at h; cases h
      | true =>
        rw [hk] at h
        cases hs : step (denote treeTable) pw w s t with
        | halt o q => rw [hs] at h; cases h
        | go q t2 => rw [hs] at h; exact segGo_app h k

noncomputable def Go (w : World) (c : Nat) (s : Shared) (x : Sem α) (s' : Shared) (a : α) : Prop :=
  ∀ (K : α → Sem Fin) (H : Value → Sem Fin) (gd : Bool → Bool) (lv : List Value → List Value) (pos : Pos),
    ∃ n pos', n ≤ c ∧ segGo treeTable pw w 11 ann 1 n s ⟨x.wrap K H gd lv, cE, pos, B⟩ = some (s', ⟨K a, cE, pos', B⟩)

theorem Go.pure : Go w 0 s (pure a) s a := fun K H gd lv pos => ⟨0, pos, Nat.le_refl _, rfl⟩
theorem Go.le (h : Go w c s x s' a) (l : c ≤ c1) : Go w c1 s x s' a := fun K H gd lv pos =>
  let ⟨n, p, e, r⟩ := h K H gd lv pos; ⟨n, p, Nat.le_trans e l, r⟩
theorem Go.bind {m : Sem α} {f : α → Sem β} {b : β} (h : Go w c1 s m s1 a) (k : Go w c2 s1 (f a) s2 b) : Go w (c1 + c2) s (m >>= f) s2 b := fun K H gd lv pos => by
  obtain ⟨n, p, e, r⟩ := h (fun a => (f a).wrap K H gd lv) H gd lv pos
  obtain ⟨n', p', e', r'⟩ := k K H gd lv p
  refine ⟨n + n', p', by (first | lia | omega), ?_⟩
  rw [Sem.bind_eq_wrap', Sem.wrap_wrap]
  exact segGo_app r r'
theorem Go.keep {x : Sem α} {vs : List Value} (h : Go w c s x s' a) : Go w c s (x.keep vs) s' a := fun K H gd lv pos => by
  obtain ⟨n, p, e, r⟩ := h K H gd (fun l => lv (vs ++ l)) pos
  refine ⟨n, p, e, ?_⟩
  rw [Sem.keep_eq_wrap, Sem.wrap_wrap]
  exact r
theorem Go.holding {x : Sem α} {vs : List Value} (h : Go w c s x s' a) : Go w c s (holding vs x) s' a := by
  unfold PySem.holding
  split
  · exact h
  · exact h.keep
theorem Go.onRaise {x : Sem α} {f : Value → Sem Unit} (h : Go w c s x s' a) : Go w c s (x.onRaise f) s' a := fun K H gd lv pos => by
  obtain ⟨n, p, e, r⟩ := h K (fun e => ((f e).bind fun _ => .raise e).wrap K H gd lv) gd lv pos
  refine ⟨n, p, e, ?_⟩
  rw [Sem.onRaise_eq_wrap, Sem.wrap_wrap]
  exact r
theorem Go.at {p : Pos} : Go w 1 s (standAt p) s () := fun K H gd lv pos => ⟨1, p, Nat.le_refl _, by
  obtain ⟨heap, gens, drawn, toks, os⟩ := s; rfl⟩
theorem Go.rule {t : String} : Go w 1 s (rule t) s () := fun K H gd lv pos => ⟨1, pos, Nat.le_refl _, by
  obtain ⟨heap, gens, drawn, toks, os⟩ := s; rfl⟩
theorem Go.fresh : Go w 1 s fresh { s with toks := s.toks + 1 } s.toks := fun K H gd lv pos => ⟨1, pos, Nat.le_refl _, by
  obtain ⟨heap, gens, drawn, toks, os⟩ := s; rfl⟩
theorem Go.load {a : Addr} {p : Option Value} {o : Obj} (h : s.heap.get? a = some o) : Go w 1 s (loadPart a p) s o := fun K H gd lv pos => ⟨1, pos, Nat.le_refl _, by
  obtain ⟨heap, gens, drawn, toks, os⟩ := s
  show (match step (denote treeTable) pw w ⟨heap, gens, drawn, toks, os⟩ ⟨.load a p (fun o => (Sem.pure o).wrap K H gd lv), cE, pos, B⟩ with | .go s' t' => some (s', t') | .halt _ _ => none) = _
  simp only at h
  simp only [step, h]
  rfl⟩
theorem Go.update {a : Addr} {p : Option Value} {f : Obj → Obj} {o : Obj} (h : s.heap.get? a = some o) (h11 : 11 ≤ a) : Go w 1 s (updatePart a p f) { s with heap := s.heap.update a f } () := fun K H gd lv pos => ⟨1, pos, Nat.le_refl _, by
  obtain ⟨heap, gens, drawn, toks, os⟩ := s
  have e : stepOk 11 ann ⟨.update a p f (fun o => (Sem.pure o).wrap K H gd lv), cE, pos, B⟩ = true := by
    have c : Thread.calm ⟨.update a p f (fun o => (Sem.pure o).wrap K H gd lv), cE, pos, B⟩ = true := rfl
    unfold stepOk
    rw [c]
    simp only [Nat.ble_eq_true_of_le h11, Bool.true_or, Bool.and_true]
  show (match stepOk 11 ann ⟨.update a p f (fun o => (Sem.pure o).wrap K H gd lv), cE, pos, B⟩ with
    | false => none
    | true => match step (denote treeTable) pw w ⟨heap, gens, drawn, toks, os⟩ ⟨.update a p f (fun o => (Sem.pure o).wrap K H gd lv), cE, pos, B⟩ with | .go s' t' => some (s', t') | .halt _ _ => none) = _
  rw [e]
  simp only at h
  simp only [step, h, Option.isSome_some, if_true]
  rfl⟩
theorem Go.alloc {o : Obj} : Go w 1 s (alloc o) { s with heap := s.heap.push o } s.heap.objs.size := fun K H gd lv pos => ⟨1, pos, Nat.le_refl _, by
  obtain ⟨heap, gens, drawn, toks, os⟩ := s; rfl⟩

theorem hash_t (w : World) (heap : Heap) (gens drawn toks os) (k : Int) (t : Tok) (K : Int → Sem Fin) (H : Value → Sem Fin) (gd lv) (pos : Pos) :
  segGo treeTable pw (w.withFollow "special-get-raises" true) 11 ann 1 5 ⟨heap, gens, drawn, toks, os⟩ ⟨(pyHash (.int k t)).wrap K H gd lv, cE, pos, B⟩ =
    some (⟨heap, gens, drawn, toks+1, os⟩, ⟨(pyHashByItsType.reduced (rawHash k)).wrap K H gd lv, cE, pos, B⟩) := by kernel_rfl
theorem hash_f (w : World) (heap : Heap) (gens drawn toks os) (k : Int) (t : Tok) (K : Int → Sem Fin) (H : Value → Sem Fin) (gd lv) (pos : Pos) :
  segGo treeTable pw (w.withFollow "special-get-raises" false) 11 ann 1 5 ⟨heap, gens, drawn, toks, os⟩ ⟨(pyHash (.int k t)).wrap K H gd lv, cE, pos, B⟩ =
    some (⟨heap, gens, drawn, toks+1, os⟩, ⟨(pyHashByItsType.reduced (rawHash k)).wrap K H gd lv, cE, pos, B⟩) := by kernel_rfl
theorem raw_small {k : Int} (h0 : 0 ≤ k) (h1 : k < 2 ^ 60) : rawHash k = k := by
  have h1 : k < 1152921504606846976 := by simpa using h1
  have e : ((k.natAbs % (2 ^ 61 - 1) : Nat) : Int) = k := by
    rw [Nat.mod_eq_of_lt (by (first | lia | omega))]; (first | lia | omega)
  unfold rawHash
  show (if (if k < 0 then -((k.natAbs % (2 ^ 61 - 1) : Nat) : Int) else ((k.natAbs % (2 ^ 61 - 1) : Nat) : Int)) == -1 then (-2 : Int) else (if k < 0 then -((k.natAbs % (2 ^ 61 - 1) : Nat) : Int) else ((k.natAbs % (2 ^ 61 - 1) : Nat) : Int))) = k
  have n0 : ¬ k < 0 := by (first | lia | omega)
  have n1 : ¬ (k == -1) = true := by simp; (first | lia | omega)
  rw [e, if_neg n0, if_neg n1]
theorem reduced_small {k : Int} (h0 : 0 ≤ k) (h1 : k < 2 ^ 60) : pyHashByItsType.reduced k = pure k := by
  unfold pyHashByItsType.reduced
  have e : (decide (-(2 ^ 63 : Int) ≤ k) && decide (k < 2 ^ 63)) = true := by simp; (first | lia | omega)
  rw [if_pos e]
  have : (k == -1) = false := by simp; (first | lia | omega)
  rw [this]; rfl
theorem Go.hash {k : Int} {t : Tok} (h0 : 0 ≤ k) (h1 : k < 2 ^ 60) : Go w 5 s (pyHash (.int k t)) { s with toks := s.toks + 1 } k := fun K H gd lv pos => by
  obtain ⟨heap, gens, drawn, toks, os⟩ := s
  refine ⟨5, pos, Nat.le_refl _, ?_⟩
  refine byRow2 "special-get-raises" (P := fun w => segGo treeTable pw w 11 ann 1 5 ⟨heap, gens, drawn, toks, os⟩ ⟨(pyHash (.int k t)).wrap K H gd lv, cE, pos, B⟩ =
    some (⟨heap, gens, drawn, toks+1, os⟩, ⟨K k, cE, pos, B⟩)) (fun w => ?_) (fun w => ?_) w
  · rw [hash_f, raw_small h0 h1, reduced_small h0 h1]; rfl
  · rw [hash_t, raw_small h0 h1, reduced_small h0 h1]; rfl
end
end Mine
end
section
open PySem PySem.W PyProof.Rows
set_option Elab.async false
set_option maxRecDepth 100000
set_option maxHeartbeats 1000000
set_option linter.unusedVariables false
set_option linter.unusedSimpArgs false
namespace Mine
noncomputable def D (es : List DictEntry) (ep : Nat) : Obj := ⟨.type "dict", none, .dict es.toArray ep, #[]⟩
noncomputable def put (h : Heap) (a : Addr) (o : Obj) : Heap := h.update a fun _ => o
theorem D_keys (es : List DictEntry) (ep : Nat) (e : DictEntry) : (D es ep).mapDictKeys (·.push e) = D (es ++ [e]) (ep + 1) := by
  simp [D, Obj.mapDictKeys]
theorem isSub : isSubtype (.type "dict") (.type "dict") = pure true := by kernel_rfl
theorem isIter : typeLookup (.type "dict") "__iter__" = pure (some (.builtin "dict.__iter__")) := by kernel_rfl
section
variable {h : Heap} {a b : Addr} {o x y : Obj}
theorem hext {h k : Heap} (e : ∀ i : Nat, h.objs[i]? = k.objs[i]?) (l : h.life = k.life) : h = k := by
  obtain ⟨o1, l1⟩ := h
  obtain ⟨o2, l2⟩ := k
  have : o1 = o2 := Array.ext_getElem? e
  cases this
  cases l
  rfl
theorem upd_at {f : Obj → Obj} (i : Nat) : (h.update a f).objs[i]? = if a = i then (h.objs[i]?).map f else h.objs[i]? := by
  show (h.objs.modify a f)[i]? = _
  rw [Array.getElem?_modify]
theorem push_at (i : Nat) : (h.push o).objs[i]? = if i = h.objs.size then some o else h.objs[i]? := by
  show (h.objs.push o)[i]? = _
  rw [Array.getElem?_push]
theorem put_at (i : Nat) : (put h a x).objs[i]? = if a = i then (h.objs[i]?).map (fun _ => x) else h.objs[i]? := upd_at i
theorem get_of {a : Addr} (e : h.objs[a]? = some x) (hx : x.isFreed = false) : h.get? a = some x := by
  unfold Heap.get?
  rw [e]
  obtain ⟨c, d, dt, s⟩ := x
  cases dt <;> first | rfl | cases hx
theorem of_get {a : Addr} (e : h.get? a = some x) : h.objs[a]? = some x := by
  unfold Heap.get? at e
  split at e
  · cases e
  · exact e
theorem upd_put {f : Obj → Obj} (e : h.get? a = some o) : h.update a f = put h a (f o) := by
  refine hext (fun i => ?_) rfl
  rw [upd_at, put_at]
  by_cases hi : a = i
  · subst hi; simp [of_get e]
  · simp [hi]
theorem put_put : put (put h a x) a y = put h a y := by
  refine hext (fun i => ?_) rfl
  simp only [put_at]
  by_cases hi : a = i
  · subst hi; simp only [if_true, Option.map_map]; rfl
  · simp [hi]
theorem get_put (e : h.get? a = some o) (hx : x.isFreed = false) : (put h a x).get? a = some x := by
  refine get_of ?_ hx
  rw [put_at, of_get e]; simp
theorem get_put_ne (hb : a ≠ b) : (put h a x).get? b = h.get? b := Heap.get?_update_ne _ _ _ _ (Ne.symm hb)
theorem get_push_self (hx : x.isFreed = false) : (h.push x).get? h.objs.size = some x := by
  refine get_of ?_ hx
  rw [push_at, if_pos rfl]
theorem get_push (e : h.get? a = some o) : (h.push x).get? a = some o := Heap.get?_push_of_some _ e
theorem put_size : (put h a x).objs.size = h.objs.size := by
  show (h.objs.modify a _).size = _
  simp
theorem push_size : (h.push x).objs.size = h.objs.size + 1 := by
  show (h.objs.push x).size = _
  simp
theorem put_push (l : a < h.objs.size) : put (h.push o) a x = (put h a x).push o := by
  refine hext (fun i => ?_) rfl
  rw [put_at, push_at, push_at, put_at, put_size]
  by_cases hi : a = i
  · subst hi
    have : a ≠ h.objs.size := Nat.ne_of_lt l
    simp [this]
  · simp [hi]
theorem put_push_self : put (h.push o) h.objs.size x = h.push x := by
  refine hext (fun i => ?_) rfl
  rw [put_at, push_at, push_at]
  by_cases hi : h.objs.size = i
  · simp [hi]
  · have : i ≠ h.objs.size := fun q => hi q.symm
    simp [hi, this]
theorem D_free {es : List DictEntry} {ep : Nat} : (D es ep).isFreed = false := rfl
end
section
variable {w : World} {s : Shared} {a : Addr} {es : List DictEntry} {ep : Nat} {k : Int} {t : Tok} {v : Value} {p : Option Value}
theorem Go.entries (h : s.heap.get? a = some (D es ep)) : Go w 1 s (dictEntries a p) s es.toArray := by
  unfold dictEntries
  exact Go.bind (c2 := 0) (Go.load h) Go.pure
theorem Go.epoch (h : s.heap.get? a = some (D es ep)) : Go w 1 s (dictEpoch a p) s ep := by
  unfold dictEpoch
  exact Go.bind (c2 := 0) (Go.load h) Go.pure
theorem no_places (hn : ∀ e ∈ es, e.hash ≠ k) : placesWithHash es.toArray.size (fun i => es.toArray[i]?.map (·.hash)) k = [] := by
  unfold placesWithHash
  rw [List.filter_eq_nil_iff]
  intro i _ q
  simp only [List.getElem?_toArray, beq_iff_eq, Option.map_eq_some_iff] at q
  obtain ⟨e, he, hh⟩ := q
  exact hn e (List.mem_of_getElem? he) hh
theorem Go.find_no (h : s.heap.get? a = some (D es ep)) (hn : ∀ e ∈ es, e.hash ≠ k) : Go w 1 s (dictFind a (.int k t) k) s none := by
  unfold dictFind
  refine Go.holding (Go.bind (c2 := 0) (Go.entries h) ?_)
  dsimp only
  rw [no_places hn]
  exact Go.pure
theorem Go.push (h : s.heap.get? a = some (D es ep)) (h11 : 11 ≤ a) (hz : es.length ≤ 1000) {e : DictEntry} :
    Go w 3 s (updateDictKeys a (·.push e) p) { s with heap := put s.heap a (D (es ++ [e]) (ep + 1)) } () := by
  unfold updateDictKeys
  refine Go.bind (c1 := 1) (c2 := 2) (Go.load h) ?_
  dsimp only [D]
  have u := Go.update (w := w) (p := p) (f := Obj.mapDictKeys (·.push e)) h h11
  rw [upd_put h, D_keys] at u
  refine Go.bind (c1 := 1) (c2 := 1) u ?_
  unfold lookBehind
  refine Go.bind (c1 := 1) (c2 := 0) (Go.load (get_put h D_free)) ?_
  have : (D (es ++ [e]) (ep + 1)).data.pastItsLine = none := by
    show (if (es ++ [e]).toArray.size > sizeLine + 1 then some "dict:memory" else none) = none
    rw [if_neg]
    have : sizeLine = 16777216 := by decide
    simp [this]; (first | lia | omega)
  rw [this]
  exact Go.pure
theorem Go.dictPut (h : s.heap.get? a = some (D es ep)) (h11 : 11 ≤ a) (hz : es.length ≤ 1000) (hn : ∀ e ∈ es, e.hash ≠ k) :
    Go w 4 s (dictPut a k (.int k t) v) { s with heap := put s.heap a (D (es ++ [⟨k, .int k t, v⟩]) (ep + 1)) } () := by
  unfold PySem.dictPut
  exact Go.bind (c1 := 1) (c2 := 3) (Go.find_no h hn) (Go.push h h11 hz)
theorem Go.dictSet (h : s.heap.get? a = some (D es ep)) (h11 : 11 ≤ a) (hz : es.length ≤ 1000) (hn : ∀ e ∈ es, e.hash ≠ k) (h0 : 0 ≤ k) (h1 : k < 2 ^ 60) :
    Go w 10 s (dictSet a (.int k t) v) { s with heap := put s.heap a (D (es ++ [⟨k, .int k t, v⟩]) (ep + 1)), toks := s.toks + 1 } () := by
  unfold PySem.dictSet
  refine Go.holding (Go.bind (c1 := 5) (c2 := 5) (Go.hash h0 h1) ?_)
  unfold dictSetHashed
  refine Go.holding (Go.bind (c1 := 1) (c2 := 4) (Go.find_no (s := { s with toks := s.toks + 1 }) h hn) ?_)
  dsimp only
  exact Go.bind (c1 := 1) (c2 := 3) Go.rule (Go.push (s := { s with toks := s.toks + 1 }) h h11 hz)
end
end Mine
end
section
open PySem PySem.W PyProof.Rows
set_option Elab.async false
set_option maxRecDepth 100000
set_option maxHeartbeats 1000000
set_option linter.unusedVariables false
set_option linter.unusedSimpArgs false
namespace Mine
abbrev Pr := Sem Value × Sem Value
noncomputable def PairOk (x : Pr) (d : Int × Str) : Prop := (∀ (w : World) (s : Shared), Go w 2 s x.1 { s with toks := s.toks + 1 } (.int d.1 s.toks)) ∧
  (∀ (w : World) (s : Shared), Go w 3 s x.2 { s with toks := s.toks + 1 } (.str d.2 s.toks)) ∧ 0 ≤ d.1 ∧ d.1 < 2 ^ 60
inductive PairsOk : List Pr → List (Int × Str) → Prop
  | nil : PairsOk [] []
  | cons {x d xs ds} : PairOk x d → PairsOk xs ds → PairsOk (x :: xs) (d :: ds)
theorem PairsOk.length {xs ds} (h : PairsOk xs ds) : xs.length = ds.length := by
  induction h with
  | nil => rfl
  | cons _ _ ih => simp [ih]
theorem b3ent_keys : ∀ (ds : List (Int × Str)) (b : Nat) (e : DictEntry), e ∈ b3ent b ds → e.hash ∈ ds.map (·.1)
  | [], _, _, h => nomatch h
  | (k, v) :: r, b, e, h => by
    unfold b3ent at h
    rcases List.mem_cons.mp h with rfl | h
    · simp
    · exact List.mem_cons_of_mem _ (b3ent_keys r (b + 3) e h)
theorem b3ent2_keys : ∀ (ds : List (Int × Str)) (b : Nat) (e : DictEntry), e ∈ b3ent2 b ds → e.hash ∈ ds.map (·.1)
  | [], _, _, h => nomatch h
  | (k, v) :: r, b, e, h => by
    unfold b3ent2 at h
    rcases List.mem_cons.mp h with rfl | h
    · simp
    · exact List.mem_cons_of_mem _ (b3ent2_keys r (b + 2) e h)
theorem b3ent_len : ∀ (ds : List (Int × Str)) (b : Nat), (b3ent b ds).length = ds.length
  | [], _ => rfl
  | (k, v) :: r, b => by unfold b3ent; simp [b3ent_len r]
theorem b3ent2_len : ∀ (ds : List (Int × Str)) (b : Nat), (b3ent2 b ds).length = ds.length
  | [], _ => rfl
  | (k, v) :: r, b => by unfold b3ent2; simp [b3ent2_len r]

theorem longLoop {w : World} {a : Addr} {xs : List Pr} {ds : List (Int × Str)} (hp : PairsOk xs ds) : ∀ {s : Shared} {es : List DictEntry} {ep : Nat}, s.heap.get? a = some (D es ep) → 11 ≤ a → es.length + ds.length ≤ 1000 →
    (∀ e ∈ es, e.hash ∉ ds.map (·.1)) → (ds.map (·.1)).Nodup →
    Go w (15 * ds.length) s (forIn xs PUnit.unit fun x (_ : PUnit) => do
        let kv ← x.1
        let vv ← holding [kv] x.2
        holding [kv, vv] (dictSet a kv vv)
        pure (ForInStep.yield PUnit.unit))
      { s with heap := put s.heap a (D (es ++ b3ent s.toks ds) (ep + ds.length)), toks := s.toks + 3 * ds.length } PUnit.unit := by
  induction hp with
  | nil =>
    intro s es ep h _ _ _ _
    rw [List.forIn_nil]
    have : put s.heap a (D (es ++ b3ent s.toks []) (ep + 0)) = s.heap := by
      rw [show es ++ b3ent s.toks [] = es by simp [b3ent]]
      refine hext (fun i => ?_) rfl
      rw [put_at]
      by_cases hi : a = i
      · subst hi; rw [of_get h]; simp
      · simp [hi]
    show Go w 0 s _ { s with heap := put s.heap a (D (es ++ b3ent s.toks []) (ep + 0)), toks := s.toks + 0 } _
    rw [this]
    exact Go.pure
  | @cons x d xs ds hx hr ih0 =>
    obtain ⟨k, v⟩ := d
    obtain ⟨hx, hy, h0, h1⟩ := hx
    intro s es ep h h11 hz hn hd
    rw [List.forIn_cons]
    simp only [List.length_cons] at hz
    have hnk : ∀ e ∈ es, e.hash ≠ k := fun e he q => hn e he (by simp [q])
    have hd' := List.nodup_cons.mp hd
    let s1 : Shared := { s with toks := s.toks + 1 }
    let s2 : Shared := { s with toks := s.toks + 2 }
    let s3 : Shared := { s with heap := put s.heap a (D (es ++ [⟨k, .int k s.toks, .str v (s.toks + 1)⟩]) (ep + 1)), toks := s.toks + 3 }
    have e1 : Go w 15 s (do
        let kv ← x.1
        let vv ← holding [kv] x.2
        holding [kv, vv] (dictSet a kv vv)
        pure (ForInStep.yield PUnit.unit)) s3 (ForInStep.yield PUnit.unit) := by
      refine Go.bind (c1 := 2) (c2 := 13) (s1 := s1) (hx w s) ?_
      refine Go.bind (c1 := 3) (c2 := 10) (s1 := s2) (Go.holding (hy w s1)) ?_
      refine Go.bind (a := ()) (c1 := 10) (c2 := 0) (s1 := s3) (Go.holding ?_) Go.pure
      exact Go.dictSet (s := s2) h h11 (by (first | lia | omega)) hnk h0 h1
    refine Go.le (c := 15 + 15 * ds.length) (Go.bind e1 ?_) (by simp only [List.length_cons]; (first | lia | omega))
    have ih := ih0 (s := s3) (es := es ++ [⟨k, .int k s.toks, .str v (s.toks + 1)⟩]) (ep := ep + 1) (get_put h D_free) h11 (by simp; (first | lia | omega))
      (fun e he => by
        rcases List.mem_append.mp he with he | he
        · exact fun q => hn e he (List.mem_cons_of_mem _ q)
        · rcases List.mem_singleton.mp he with rfl
          exact hd'.1) hd'.2
    have e2 : ({ s3 with heap := put s3.heap a (D (es ++ [⟨k, .int k s.toks, .str v (s.toks + 1)⟩] ++ b3ent s3.toks ds) (ep + 1 + ds.length)), toks := s3.toks + 3 * ds.length } : Shared) =
        { s with heap := put s.heap a (D (es ++ b3ent s.toks ((k, v) :: ds)) (ep + ((k, v) :: ds).length)), toks := s.toks + 3 * ((k, v) :: ds).length } := by
      show ({ s with heap := put (put s.heap a _) a _, toks := _ } : Shared) = _
      rw [put_put]
      simp only [b3ent, List.length_cons, List.append_assoc, List.singleton_append, s3]
      rw [show ep + 1 + ds.length = ep + (ds.length + 1) by (first | lia | omega), show s.toks + 3 + 3 * ds.length = s.toks + 3 * (ds.length + 1) by (first | lia | omega)]
    rw [← e2]
    exact ih
end Mine
end
section
open PySem PySem.W PyProof.Rows
set_option Elab.async false
set_option maxRecDepth 100000
set_option maxHeartbeats 1000000
set_option linter.unusedVariables false
set_option linter.unusedSimpArgs false
namespace Mine
noncomputable def vals (b : Nat) : List (Int × Str) → List (Value × Value)
  | [] => []
  | (k, v) :: r => (.int k b, .str v (b + 1)) :: vals (b + 2) r
theorem evalGo {w : World} {xs : List Pr} {ds : List (Int × Str)} (hp : PairsOk xs ds) : ∀ {s : Shared}, Go w (5 * ds.length) s (evalPairs xs) { s with toks := s.toks + 2 * ds.length } (vals s.toks ds) := by
  induction hp with
  | nil => intro s; exact Go.pure
  | @cons x d xs ds hx hr ih0 =>
    obtain ⟨k, v⟩ := d
    obtain ⟨hx, hy, _, _⟩ := hx
    intro s
    unfold evalPairs
    let s1 : Shared := { s with toks := s.toks + 1 }
    let s2 : Shared := { s with toks := s.toks + 2 }
    refine Go.le (c := 2 + (3 + (5 * ds.length + 0))) (Go.bind (s1 := s1) (hx w s) ?_) (by simp only [List.length_cons]; (first | lia | omega))
    refine Go.bind (s1 := s2) (Go.holding (hy w s1)) ?_
    have ih := ih0 (s := s2)
    have e : ({ s2 with toks := s2.toks + 2 * ds.length } : Shared) = { s with toks := s.toks + 2 * ((k, v) :: ds).length } := by
      show ({ s with toks := s.toks + 2 + 2 * ds.length } : Shared) = { s with toks := s.toks + 2 * (ds.length + 1) }
      rw [show s.toks + 2 + 2 * ds.length = s.toks + 2 * (ds.length + 1) by (first | lia | omega)]
    rw [e] at ih
    refine Go.bind (Go.holding ih) ?_
    exact Go.pure
theorem put_self {h : Heap} {a : Addr} {o : Obj} (g : h.get? a = some o) : put h a o = h := by
  refine hext (fun i => ?_) rfl
  rw [put_at]
  by_cases hi : a = i
  · subst hi; rw [of_get g]; simp
  · simp [hi]
theorem shortLoop {w : World} {a : Addr} {f : Value × Value → PUnit → Sem (ForInStep PUnit)} (hf : ∀ k v, f (k, v) PUnit.unit = (do dictSet a k v; pure (ForInStep.yield PUnit.unit))) :
    ∀ {ds : List (Int × Str)} {b : Nat} {s : Shared} {es : List DictEntry} {ep : Nat}, s.heap.get? a = some (D es ep) → 11 ≤ a → es.length + ds.length ≤ 1000 → (∀ d ∈ ds, 0 ≤ d.1 ∧ d.1 < 2 ^ 60) →
    (∀ e ∈ es, e.hash ∉ ds.map (·.1)) → (ds.map (·.1)).Nodup →
    Go w (10 * ds.length) s (forIn (vals b ds) PUnit.unit f)
      { s with heap := put s.heap a (D (es ++ b3ent2 b ds) (ep + ds.length)), toks := s.toks + ds.length } PUnit.unit
  | [], b, s, es, ep, h, _, _, _, _, _ => by
    show Go w 0 s (pure PUnit.unit) { s with heap := put s.heap a (D (es ++ []) (ep + 0)), toks := s.toks + 0 } _
    rw [List.append_nil, Nat.add_zero, put_self h]
    exact Go.pure
  | (k, v) :: ds, b, s, es, ep, h, h11, hz, hk, hn, hd => by
    unfold vals
    rw [List.forIn_cons, hf]
    simp only [List.length_cons] at hz
    have hnk : ∀ e ∈ es, e.hash ≠ k := fun e he q => hn e he (by simp [q])
    have hd' := List.nodup_cons.mp hd
    obtain ⟨h0, h1⟩ := hk (k, v) (.head _)
    let s3 : Shared := { s with heap := put s.heap a (D (es ++ [⟨k, .int k b, .str v (b + 1)⟩]) (ep + 1)), toks := s.toks + 1 }
    refine Go.le (c := (10 + 0) + 10 * ds.length) (Go.bind (s1 := s3) (a := ForInStep.yield PUnit.unit) (Go.bind (a := ()) (s1 := s3) (Go.dictSet h h11 (by (first | lia | omega)) hnk h0 h1) Go.pure) ?_) (by simp only [List.length_cons]; (first | lia | omega))
    have ih := shortLoop (w := w) hf (ds := ds) (b := b + 2) (s := s3) (es := es ++ [⟨k, .int k b, .str v (b + 1)⟩]) (ep := ep + 1) (get_put h D_free) h11 (by simp; (first | lia | omega))
      (fun d hd => hk d (List.mem_cons_of_mem _ hd))
      (fun e he => by
        rcases List.mem_append.mp he with he | he
        · exact fun q => hn e he (List.mem_cons_of_mem _ q)
        · rcases List.mem_singleton.mp he with rfl
          exact hd'.1) hd'.2
    have e2 : ({ s3 with heap := put s3.heap a (D (es ++ [⟨k, .int k b, .str v (b + 1)⟩] ++ b3ent2 (b + 2) ds) (ep + 1 + ds.length)), toks := s3.toks + ds.length } : Shared) =
        { s with heap := put s.heap a (D (es ++ b3ent2 b ((k, v) :: ds)) (ep + ((k, v) :: ds).length)), toks := s.toks + ((k, v) :: ds).length } := by
      show ({ s with heap := put (put s.heap a _) a _, toks := s.toks + 1 + ds.length } : Shared) = _
      rw [put_put]
      simp only [b3ent2, List.length_cons, List.append_assoc, List.singleton_append]
      rw [show ep + 1 + ds.length = ep + (ds.length + 1) by (first | lia | omega), show s.toks + 1 + ds.length = s.toks + (ds.length + 1) by (first | lia | omega)]
    rw [← e2]
    exact ih
noncomputable def IntEnt (e : DictEntry) : Prop := ∃ k t v, e = ⟨k, .int k t, v⟩
theorem mergeLoop {w : World} {a b : Addr} {sub : List DictEntry} {sep : Nat} {f : Nat → PUnit → Sem (ForInStep PUnit)}
    (hf : ∀ i k t v s es ep, sub[i]? = some ⟨k, .int k t, v⟩ → s.heap.get? a = some (D es ep) → s.heap.get? b = some (D sub sep) → es.length ≤ 1000 → (∀ e ∈ es, e.hash ≠ k) →
      Go w 6 s (f i PUnit.unit) { s with heap := put s.heap a (D (es ++ [⟨k, .int k t, v⟩]) (ep + 1)) } (ForInStep.yield PUnit.unit)) (hab : a ≠ b) :
    ∀ {m i : Nat} {s : Shared} {es : List DictEntry} {ep : Nat}, s.heap.get? a = some (D es ep) → s.heap.get? b = some (D sub sep) → i + m = sub.length → es.length + m ≤ 1000 → (∀ e ∈ sub, IntEnt e) →
    (∀ e ∈ es, e.hash ∉ (sub.drop i).map (·.hash)) → ((sub.drop i).map (·.hash)).Nodup →
    Go w (6 * m) s (forIn (List.range' i m) PUnit.unit f) { s with heap := put s.heap a (D (es ++ sub.drop i) (ep + m)) } PUnit.unit
  | 0, i, s, es, ep, h, _, hm, _, _, _, _ => by
    rw [List.drop_eq_nil_of_le (by (first | lia | omega)), List.append_nil]
    show Go w 0 s (pure PUnit.unit) { s with heap := put s.heap a (D es (ep + 0)) } _
    rw [Nat.add_zero, put_self h]
    exact Go.pure
  | m + 1, i, s, es, ep, h, hb, hm, hz, hi, hn, hd => by
    have li : i < sub.length := by (first | lia | omega)
    have hs : sub[i]? = some sub[i] := List.getElem?_eq_getElem li
    obtain ⟨k, t, v, he⟩ := hi _ (List.getElem_mem li)
    rw [he] at hs
    have hdr : sub.drop i = ⟨k, .int k t, v⟩ :: sub.drop (i + 1) := by rw [List.drop_eq_getElem_cons li, he]
    rw [hdr, List.map_cons] at hn hd
    have hd' := List.nodup_cons.mp hd
    rw [List.range'_succ, List.forIn_cons]
    let s3 : Shared := { s with heap := put s.heap a (D (es ++ [⟨k, .int k t, v⟩]) (ep + 1)) }
    refine Go.le (c := 6 + 6 * m) (Go.bind (s1 := s3) (hf i k t v s es ep hs h hb (by (first | lia | omega)) (fun e he q => hn e he (by simp [q]))) ?_) (by (first | lia | omega))
    have ih := mergeLoop hf hab (m := m) (i := i + 1) (s := s3) (es := es ++ [⟨k, .int k t, v⟩]) (ep := ep + 1) (get_put h D_free) ((get_put_ne hab).trans hb) (by (first | lia | omega)) (by simp; (first | lia | omega)) hi
      (fun e he => by
        rcases List.mem_append.mp he with he | he
        · exact fun q => hn e he (List.mem_cons_of_mem _ q)
        · rcases List.mem_singleton.mp he with rfl
          exact hd'.1) hd'.2
    have e2 : ({ s3 with heap := put s3.heap a (D (es ++ [⟨k, .int k t, v⟩] ++ sub.drop (i + 1)) (ep + 1 + m)) } : Shared) =
        { s with heap := put s.heap a (D (es ++ sub.drop i) (ep + (m + 1))) } := by
      show ({ s with heap := put (put s.heap a _) a _ } : Shared) = _
      rw [put_put, hdr]
      simp only [List.append_assoc, List.singleton_append]
      rw [show ep + 1 + m = ep + (m + 1) by (first | lia | omega)]
    rw [← e2]
    exact ih
end Mine
end
section
open PySem PySem.W PyProof.Rows
set_option Elab.async false
set_option maxRecDepth 100000
set_option maxHeartbeats 1000000
set_option linter.unusedVariables false
set_option linter.unusedSimpArgs false
namespace Mine
theorem Go.typeOf {w : World} {s : Shared} {b : Addr} {es : List DictEntry} {ep : Nat} (h : s.heap.get? b = some (D es ep)) : Go w 1 s (typeOf (.ref b)) s (.type "dict") := by
  unfold PySem.typeOf
  exact Go.bind (c1 := 1) (c2 := 0) (Go.load h) Go.pure
theorem Go.inst {w : World} {s : Shared} {b : Addr} {es : List DictEntry} {ep : Nat} (h : s.heap.get? b = some (D es ep)) : Go w 1 s (isInstance (.ref b) (.type "dict")) s true := by
  unfold PySem.isInstance
  refine Go.bind (c1 := 1) (c2 := 0) (Go.typeOf h) ?_
  rw [isSub]
  exact Go.pure
theorem Go.iter {w : World} {s : Shared} {b : Addr} {es : List DictEntry} {ep : Nat} (h : s.heap.get? b = some (D es ep)) : Go w 1 s (specialOf (.ref b) "__iter__") s (some (.builtin "dict.__iter__")) := by
  unfold PySem.specialOf
  refine Go.bind (c1 := 1) (c2 := 0) (Go.typeOf h) ?_
  rw [isIter]
  exact Go.pure
theorem pure_b {α β : Type} (a : α) (f : α → Sem β) : ((pure a : Sem α) >>= f) = f a := rfl
theorem Go.merge {w : World} {s : Shared} {a b : Addr} {es sub : List DictEntry} {ep sep : Nat} (h : s.heap.get? a = some (D es ep)) (hb : s.heap.get? b = some (D sub sep)) (hab : a ≠ b) (hs : (b == sysModules) = false) (h11 : 11 ≤ a)
    (h0 : es ≠ []) (hz : es.length + sub.length ≤ 1000) (hi : ∀ e ∈ sub, IntEnt e) (hn : ∀ e ∈ es, e.hash ∉ sub.map (·.hash)) (hd : (sub.map (·.hash)).Nodup) :
    Go w (5 + 6 * sub.length) s (mergeMapping a (.ref b) false) { s with heap := put s.heap a (D (es ++ sub) (ep + sub.length)) } () := by
  unfold mergeMapping
  refine Go.le (c := 1 + (1 + (1 + (1 + (1 + (6 * sub.length + 0)))))) (Go.bind (Go.inst hb) ?_) (by (first | lia | omega))
  rw [if_pos rfl]
  refine Go.bind (Go.iter hb) ?_
  (try dsimp only)
  have : (some (Value.builtin "dict.__iter__") == some (Value.builtin "dict.__iter__")) = true := by decide
  rw [this, pure_b]
  dsimp only
  rw [if_neg (by rw [hs]; exact Bool.false_ne_true)]
  refine Go.bind (Go.entries h) ?_
  rw [if_neg (by cases es with | nil => exact absurd rfl h0 | cons => simp)]
  refine Go.bind (Go.entries hb) ?_
  refine Go.bind (Go.epoch hb) ?_
  refine Go.bind (a := PUnit.unit) ?_ Go.pure
  (try dsimp only)
  rw [List.size_toArray, List.range_eq_range']
  refine mergeLoop (w := w) (a := a) (b := b) (sub := sub) (sep := sep) ?_ hab h hb (by (first | lia | omega)) hz hi hn hd
  intro i k t v s es ep hsi h hb hz hn
  refine Go.bind (c1 := 1) (c2 := 5) (Go.entries hb) ?_
  rw [show sub.toArray[i]? = some ⟨k, .int k t, v⟩ by simpa using hsi]
  (try dsimp only)
  refine Go.bind (a := ()) (c1 := 4) (c2 := 1) (s1 := { s with heap := put s.heap a (D (es ++ [⟨k, .int k t, v⟩]) (ep + 1)) }) (Go.holding ?_) ?_
  · rw [if_neg Bool.false_ne_true]
    exact Go.dictPut h h11 hz hn
  · refine Go.bind (c1 := 1) (c2 := 0) (Go.epoch ((get_put_ne hab).trans hb)) ?_
    rw [if_neg (by simp)]
    exact Go.pure
theorem subLong {w : World} {s : Shared} {xs : List Pr} {ds : List (Int × Str)} (hx : PairsOk xs ds) (h11 : 11 ≤ s.heap.objs.size) (hl : 15 < ds.length) (hz : ds.length ≤ 1000) (hd : (ds.map (·.1)).Nodup) :
    Go w (2 + 15 * ds.length) s (subDict xs) { s with heap := s.heap.push (D (b3ent s.toks ds) ds.length), toks := s.toks + 3 * ds.length } s.heap.objs.size := by
  unfold subDict
  let s1 : Shared := { s with heap := s.heap.push (D [] 0) }
  have g1 : s1.heap.get? s.heap.objs.size = some (D [] 0) := get_push_self D_free
  refine Go.le (c := 1 + ((1 + (15 * ds.length + 0)) + 0)) (Go.bind (s1 := s1) Go.alloc ?_) (by (first | lia | omega))
  let s2 : Shared := { s with heap := s.heap.push (D (b3ent s.toks ds) ds.length), toks := s.toks + 3 * ds.length }
  refine Go.bind (a := ()) (s1 := s2) (Go.holding ?_) Go.pure
  rw [if_neg (by rw [hx.length]; (first | lia | omega))]
  refine Go.bind Go.rule ?_
  refine Go.bind (a := PUnit.unit) (s1 := s2) ?_ Go.pure
  have q := longLoop (w := w) (a := s.heap.objs.size) (s := s1) hx g1 h11 (by simpa using hz) (fun e he => nomatch he) hd
  have e2 : ({ s1 with heap := put s1.heap s.heap.objs.size (D ([] ++ b3ent s1.toks ds) (0 + ds.length)), toks := s1.toks + 3 * ds.length } : Shared) = s2 := by
    show ({ s with heap := put (s.heap.push _) s.heap.objs.size _, toks := _ } : Shared) = _
    rw [put_push_self, List.nil_append, Nat.zero_add]
  rw [e2] at q
  exact q
theorem subShort {w : World} {s : Shared} {xs : List Pr} {ds : List (Int × Str)} (hx : PairsOk xs ds) (h11 : 11 ≤ s.heap.objs.size) (hl : ds.length ≤ 15) (hd : (ds.map (·.1)).Nodup) (hk : ∀ d ∈ ds, 0 ≤ d.1 ∧ d.1 < 2 ^ 60) :
    Go w (2 + 15 * ds.length) s (subDict xs) { s with heap := s.heap.push (D (b3ent2 s.toks ds) ds.length), toks := s.toks + 3 * ds.length } s.heap.objs.size := by
  unfold subDict
  let s1 : Shared := { s with heap := s.heap.push (D [] 0) }
  have g1 : s1.heap.get? s.heap.objs.size = some (D [] 0) := get_push_self D_free
  refine Go.le (c := 1 + ((5 * ds.length + (10 * ds.length + 0)) + 0)) (Go.bind (s1 := s1) Go.alloc ?_) (by (first | lia | omega))
  let s2 : Shared := { s with heap := s.heap.push (D (b3ent2 s.toks ds) ds.length), toks := s.toks + 3 * ds.length }
  refine Go.bind (a := ()) (s1 := s2) (Go.holding ?_) Go.pure
  rw [if_pos (by rw [hx.length]; (first | lia | omega))]
  let s3 : Shared := { s1 with toks := s.toks + 2 * ds.length }
  refine Go.bind (s1 := s3) (evalGo hx) (Go.holding ?_)
  refine Go.bind (a := PUnit.unit) (s1 := s2) ?_ Go.pure
  have q := shortLoop (w := w) (a := s.heap.objs.size) (f := fun x _ => match x with | (k, v) => do dictSet s.heap.objs.size k v; pure (ForInStep.yield PUnit.unit)) (fun _ _ => rfl) (ds := ds) (b := s.toks) (s := s3) g1 h11 (by simp; (first | lia | omega)) hk (fun e he => nomatch he) hd
  have e2 : ({ s3 with heap := put s3.heap s.heap.objs.size (D ([] ++ b3ent2 s.toks ds) (0 + ds.length)), toks := s3.toks + ds.length } : Shared) = s2 := by
    show ({ s with heap := put (s.heap.push _) s.heap.objs.size _, toks := s.toks + 2 * ds.length + ds.length } : Shared) = _
    rw [put_push_self, List.nil_append, Nat.zero_add, show s.toks + 2 * ds.length + ds.length = s.toks + 3 * ds.length by (first | lia | omega)]
  rw [e2] at q
  exact q
end Mine
end
section
open PySem PySem.W PyProof.Rows
set_option Elab.async false
set_option maxRecDepth 100000
set_option maxHeartbeats 1000000
set_option linter.unusedVariables false
set_option linter.unusedSimpArgs false
namespace Mine
abbrev It := Option (Sem Value) × Sem Value
noncomputable def items (l : List Pr) : List It := l.map fun x => (some x.1, x.2)
abbrev Acc := Option Addr × List Pr
noncomputable def heapOf (h : Heap) (E : List DictEntry) (subs : List Obj) : Heap := subs.foldl Heap.push (h.push (D E E.length))
theorem foldl_push_size (subs : List Obj) : ∀ h : Heap, (subs.foldl Heap.push h).objs.size = h.objs.size + subs.length := by
  induction subs with
  | nil => intro h; rfl
  | cons o r ih => intro h; rw [List.foldl_cons, ih, push_size, List.length_cons]; (first | lia | omega)
theorem heapOf_size {h : Heap} {E : List DictEntry} {subs : List Obj} : (heapOf h E subs).objs.size = h.objs.size + 1 + subs.length := by
  unfold heapOf
  rw [foldl_push_size, push_size]
theorem heapOf_push {h : Heap} {E : List DictEntry} {subs : List Obj} {o : Obj} : (heapOf h E subs).push o = heapOf h E (subs ++ [o]) := by
  unfold heapOf
  rw [List.foldl_append]; rfl
theorem foldl_put {a : Addr} {x : Obj} (subs : List Obj) : ∀ h : Heap, a < h.objs.size → put (subs.foldl Heap.push h) a x = subs.foldl Heap.push (put h a x) := by
  induction subs with
  | nil => intro h _; rfl
  | cons o r ih => intro h l; rw [List.foldl_cons, List.foldl_cons, ih _ (by rw [push_size]; exact Nat.lt_succ_of_lt l), put_push l]
theorem heapOf_put {h : Heap} {E E' : List DictEntry} {subs : List Obj} : put (heapOf h E subs) h.objs.size (D E' E'.length) = heapOf h E' subs := by
  unfold heapOf
  rw [foldl_put _ _ (by rw [push_size]; exact Nat.lt_succ_self _), put_push_self]
theorem foldl_get {a : Addr} {x : Obj} (subs : List Obj) : ∀ h : Heap, h.get? a = some x → (subs.foldl Heap.push h).get? a = some x := by
  induction subs with
  | nil => intro h e; exact e
  | cons o r ih => intro h e; rw [List.foldl_cons]; exact ih _ (get_push e)
theorem heapOf_get {h : Heap} {E : List DictEntry} {subs : List Obj} : (heapOf h E subs).get? h.objs.size = some (D E E.length) := foldl_get _ _ (get_push_self D_free)

section
variable {w : World} {fl : List Pr → Option Addr → Sem (Option Addr)} {f : It → Acc → Sem (ForInStep Acc)}
  (hf : ∀ (x : Pr) (m : Option Addr) (run : List Pr), f (some x.1, x.2) (m, run) = if ((run ++ [x]).length == 17) = true then (do let m' ← fl (run ++ [x]) m; pure (ForInStep.yield (m', []))) else pure (ForInStep.yield (m, run ++ [x])))
include hf
theorem chunk1 {R : List It} {c1 c2 : Nat} {s s1 s2 : Shared} {m m' : Option Addr} {r : Acc} : ∀ (l run : List Pr), run.length + l.length = 17 → l ≠ [] → Go w c1 s (fl (run ++ l) m) s1 m' → Go w c2 s1 (forIn R (m', []) f) s2 r →
    Go w (c1 + c2) s (forIn (items l ++ R) (m, run) f) s2 r
  | [], _, _, h, _, _ => absurd rfl h
  | [x], run, hl, _, h1, h2 => by
    show Go w _ s (forIn ((some x.1, x.2) :: R) (m, run) f) s2 r
    rw [List.forIn_cons, hf, if_pos (by simp at hl ⊢; (first | lia | omega))]
    exact Go.bind (c1 := c1) (Go.bind (c1 := c1) (c2 := 0) h1 Go.pure) h2
  | x :: y :: l, run, hl, _, h1, h2 => by
    show Go w _ s (forIn ((some x.1, x.2) :: (items (y :: l) ++ R)) (m, run) f) s2 r
    rw [List.forIn_cons, hf, if_neg (by simp at hl ⊢; (first | lia | omega))]
    refine Go.le (c := 0 + (c1 + c2)) (Go.bind Go.pure ?_) (by (first | lia | omega))
    exact chunk1 (y :: l) (run ++ [x]) (by simp at hl ⊢; (first | lia | omega)) (by simp) (by simpa using h1) h2
theorem tail1 {s : Shared} {m : Option Addr} : ∀ (l run : List Pr), run.length + l.length < 17 → Go w 0 s (forIn (items l) (m, run) f) s (m, run ++ l)
  | [], run, _ => by rw [List.append_nil]; exact Go.pure
  | x :: l, run, hl => by
    show Go w _ s (forIn ((some x.1, x.2) :: items l) (m, run) f) s _
    rw [List.forIn_cons, hf, if_neg (by simp at hl ⊢; (first | lia | omega))]
    refine Go.bind (c1 := 0) (c2 := 0) Go.pure ?_
    have := tail1 (s := s) (m := m) l (run ++ [x]) (by simp at hl ⊢; (first | lia | omega))
    rw [List.append_assoc] at this
    exact this
end
theorem b3ent_int : ∀ (ds : List (Int × Str)) (b : Nat) (e : DictEntry), e ∈ b3ent b ds → IntEnt e
  | [], _, _, h => nomatch h
  | (k, v) :: r, b, e, h => by
    unfold b3ent at h
    rcases List.mem_cons.mp h with rfl | h
    · exact ⟨_, _, _, rfl⟩
    · exact b3ent_int r (b + 3) e h
theorem b3ent2_int : ∀ (ds : List (Int × Str)) (b : Nat) (e : DictEntry), e ∈ b3ent2 b ds → IntEnt e
  | [], _, _, h => nomatch h
  | (k, v) :: r, b, e, h => by
    unfold b3ent2 at h
    rcases List.mem_cons.mp h with rfl | h
    · exact ⟨_, _, _, rfl⟩
    · exact b3ent2_int r (b + 2) e h
theorem b3ent_hash : ∀ (ds : List (Int × Str)) (b : Nat), (b3ent b ds).map (·.hash) = ds.map (·.1)
  | [], _ => rfl
  | (k, v) :: r, b => by unfold b3ent; simp [b3ent_hash r]
theorem b3ent2_hash : ∀ (ds : List (Int × Str)) (b : Nat), (b3ent2 b ds).map (·.hash) = ds.map (·.1)
  | [], _ => rfl
  | (k, v) :: r, b => by unfold b3ent2; simp [b3ent2_hash r]

theorem flushGo {w : World} {s : Shared} {xs : List Pr} {h : Heap} {E sub : List DictEntry} {subs : List Obj} {g : Value → Sem Unit} (hh : s.heap = heapOf h E subs) (h11 : 82 ≤ h.objs.size) (hs2 : h.objs.size ≤ 1000)
    (hsub : Go w (2 + 15 * sub.length) s (subDict xs) { s with heap := s.heap.push (D sub sub.length), toks := s.toks + 3 * sub.length } s.heap.objs.size)
    (hi : ∀ e ∈ sub, IntEnt e) (h0 : E ≠ []) (hz : E.length + sub.length ≤ 1000) (hd : ((E ++ sub).map (·.hash)).Nodup) :
    Go w (7 + 21 * sub.length) s (do
        let sub ← holding [Value.ref h.objs.size] (subDict xs)
        (holding [Value.ref h.objs.size, Value.ref sub] (mergeMapping h.objs.size (Value.ref sub) false)).onRaise g
        pure (some h.objs.size))
      { s with heap := heapOf h (E ++ sub) (subs ++ [D sub sub.length]), toks := s.toks + 3 * sub.length } (some h.objs.size) := by
  let s1 : Shared := { s with heap := s.heap.push (D sub sub.length), toks := s.toks + 3 * sub.length }
  refine Go.le (c := (2 + 15 * sub.length) + ((5 + 6 * sub.length) + 0)) (Go.bind (s1 := s1) (Go.holding hsub) ?_) (by (first | lia | omega))
  have g1 : s1.heap.get? h.objs.size = some (D E E.length) := by
    show (s.heap.push _).get? _ = _
    rw [hh]; exact get_push heapOf_get
  have g2 : s1.heap.get? s.heap.objs.size = some (D sub sub.length) := get_push_self D_free
  have sz : s.heap.objs.size = h.objs.size + 1 + subs.length := by rw [hh, heapOf_size]
  have hd' := List.nodup_append.mp (List.map_append ▸ hd)
  have n1 : h.objs.size ≠ s.heap.objs.size := by (first | lia | omega)
  have n2 : s.heap.objs.size ≠ 1 := by (first | lia | omega)
  have n3 : 11 ≤ h.objs.size := by (first | lia | omega)
  have q := Go.merge (w := w) (s := s1) g1 g2 n1 (beq_eq_false_iff_ne.mpr n2) n3 h0 hz hi
    (fun e he q => hd'.2.2 _ (List.mem_map_of_mem he) _ q rfl) hd'.2.1
  have e2 : ({ s1 with heap := put s1.heap h.objs.size (D (E ++ sub) (E.length + sub.length)) } : Shared) = { s with heap := heapOf h (E ++ sub) (subs ++ [D sub sub.length]), toks := s.toks + 3 * sub.length } := by
    have : put s1.heap h.objs.size (D (E ++ sub) (E.length + sub.length)) = heapOf h (E ++ sub) (subs ++ [D sub sub.length]) := by
      show put (s.heap.push _) _ _ = _
      rw [hh, heapOf_push, ← List.length_append, heapOf_put]
    rw [this]
  rw [e2] at q
  exact Go.bind (a := ()) (Go.onRaise (Go.holding q)) Go.pure
end Mine
end
section
open PySem PySem.W PyProof.Rows
set_option Elab.async false
set_option maxRecDepth 100000
set_option maxHeartbeats 1000000
set_option linter.unusedVariables false
set_option linter.unusedSimpArgs false
namespace Mine
noncomputable def subsOf (t : Nat) (ds : List (Int × Str)) : Nat → List Obj
  | 0 => []
  | j + 1 => D (b3ent t (ds.take 17)) 17 :: subsOf (t + 51) (ds.drop 17) j
theorem b3ent_app : ∀ (l r : List (Int × Str)) (b : Nat), b3ent b (l ++ r) = b3ent b l ++ b3ent (b + 3 * l.length) r
  | [], r, b => rfl
  | (k, v) :: l, r, b => by
    show (_ :: b3ent (b + 3) (l ++ r)) = _ :: (b3ent (b + 3) l ++ _)
    rw [b3ent_app l r, List.length_cons, show b + 3 + 3 * l.length = b + 3 * (l.length + 1) by (first | lia | omega)]
theorem PairsOk.take {n : Nat} : ∀ {xs ds}, PairsOk xs ds → PairsOk (xs.take n) (ds.take n) := by
  induction n with
  | zero => intro xs ds _; exact .nil
  | succ n ih =>
    intro xs ds h
    cases h with
    | nil => exact .nil
    | cons a r => exact .cons a (ih r)
theorem PairsOk.drop {n : Nat} : ∀ {xs ds}, PairsOk xs ds → PairsOk (xs.drop n) (ds.drop n) := by
  induction n with
  | zero => intro xs ds h; exact h
  | succ n ih =>
    intro xs ds h
    cases h with
    | nil => exact .nil
    | cons a r => exact ih r
theorem PairsOk.small {xs ds} (h : PairsOk xs ds) : ∀ d ∈ ds, 0 ≤ d.1 ∧ d.1 < 2 ^ 60 := by
  induction h with
  | nil => intro d hd; cases hd
  | cons a r ih =>
    intro d hd
    rcases List.mem_cons.mp hd with rfl | hd
    · exact ⟨a.2.2.1, a.2.2.2⟩
    · exact ih d hd
section
variable {w : World} {fl : List Pr → Option Addr → Sem (Option Addr)} {f : It → Acc → Sem (ForInStep Acc)} {g : Addr → Value → Sem Unit}
  (hf : ∀ (x : Pr) (m : Option Addr) (run : List Pr), f (some x.1, x.2) (m, run) = if ((run ++ [x]).length == 17) = true then (do let m' ← fl (run ++ [x]) m; pure (ForInStep.yield (m', []))) else pure (ForInStep.yield (m, run ++ [x])))
  (hs : ∀ (x : Pr) (xs : List Pr) (d : Addr), fl (x :: xs) (some d) = (do
        let sub ← holding [Value.ref d] (subDict (x :: xs))
        (holding [Value.ref d, Value.ref sub] (mergeMapping d (Value.ref sub) false)).onRaise (g d)
        pure (some d)))
include hf hs
theorem chunkLoop {h : Heap} (h82 : 82 ≤ h.objs.size) (hs2 : h.objs.size ≤ 1000) {R : List It} {c2 : Nat} {s2 : Shared} {r : Acc} : ∀ (j : Nat) {xs : List Pr} {ds : List (Int × Str)} {s : Shared} {E : List DictEntry} {subs : List Obj}, PairsOk xs ds → ds.length = 17 * j →
    s.heap = heapOf h E subs → E ≠ [] → E.length + ds.length ≤ 1000 → ((E.map (·.hash)) ++ ds.map (·.1)).Nodup →
    Go w c2 { s with heap := heapOf h (E ++ b3ent s.toks ds) (subs ++ subsOf s.toks ds j), toks := s.toks + 51 * j } (forIn R (some h.objs.size, []) f) s2 r →
    Go w (364 * j + c2) s (forIn (items xs ++ R) (some h.objs.size, []) f) s2 r
  | 0, xs, ds, s, E, subs, hx, hl, hh, h0, hz, hd, k => by
    obtain rfl : ds = [] := List.eq_nil_of_length_eq_zero (by (first | lia | omega))
    cases hx
    have e : ({ s with heap := heapOf h (E ++ b3ent s.toks []) (subs ++ subsOf s.toks [] 0), toks := s.toks + 51 * 0 } : Shared) = s := by
      show ({ s with heap := heapOf h (E ++ []) (subs ++ []), toks := s.toks + 0 } : Shared) = s
      rw [List.append_nil, List.append_nil, ← hh]; rfl
    rw [e] at k
    exact Go.le k (by (first | lia | omega))
  | j + 1, xs, ds, s, E, subs, hx, hl, hh, h0, hz, hd, k => by
    have hlx := hx.length
    have es : xs = xs.take 17 ++ xs.drop 17 := (List.take_append_drop 17 xs).symm
    have ed : ds = ds.take 17 ++ ds.drop 17 := (List.take_append_drop 17 ds).symm
    have ld : (ds.take 17).length = 17 := by rw [List.length_take]; (first | lia | omega)
    have lx : (xs.take 17).length = 17 := by rw [List.length_take]; (first | lia | omega)
    have ei : items xs ++ R = items (xs.take 17) ++ (items (xs.drop 17) ++ R) := by
      rw [← List.append_assoc]; unfold items; rw [← List.map_append, ← es]
    rw [ei]
    have hd1 : ((ds.take 17).map (·.1) ++ (ds.drop 17).map (·.1)) = ds.map (·.1) := by rw [← List.map_append, ← ed]
    rw [← hd1, ← List.append_assoc] at hd
    have hda := (List.nodup_append.mp hd).1
    let E' := E ++ b3ent s.toks (ds.take 17)
    let s1 : Shared := { s with heap := heapOf h E' (subs ++ [D (b3ent s.toks (ds.take 17)) 17]), toks := s.toks + 51 }
    have sl : (b3ent s.toks (ds.take 17)).length = 17 := by rw [b3ent_len, ld]
    have fg : Go w 364 s (fl ([] ++ xs.take 17) (some h.objs.size)) s1 (some h.objs.size) := by
      rw [List.nil_append]
      have : fl (xs.take 17) (some h.objs.size) = (do
        let sub ← holding [Value.ref h.objs.size] (subDict (xs.take 17))
        (holding [Value.ref h.objs.size, Value.ref sub] (mergeMapping h.objs.size (Value.ref sub) false)).onRaise (g h.objs.size)
        pure (some h.objs.size)) := by
        cases q : xs.take 17 with
        | nil => rw [q] at lx; cases lx
        | cons y ys => exact hs y ys _
      rw [this]
      have q := flushGo (w := w) (s := s) (xs := xs.take 17) (g := g h.objs.size) hh h82 hs2 (sub := b3ent s.toks (ds.take 17)) (by
          have := subLong (w := w) (s := s) (hx.take (n := 17)) (by rw [hh, heapOf_size]; (first | lia | omega)) (by (first | lia | omega)) (by (first | lia | omega)) (List.nodup_append.mp hda).2.1
          rw [sl]; rw [ld] at this; exact this) (b3ent_int _ _) h0 (by rw [sl]; (first | lia | omega)) (by rw [List.map_append, b3ent_hash]; exact hda)
      rw [sl] at q
      exact Go.le q (by (first | lia | omega))
    refine Go.le (c := 364 + (364 * j + c2)) (chunk1 hf (xs.take 17) [] (by simp [lx]) (by intro q; rw [q] at lx; cases lx) fg ?_) (by (first | lia | omega))
    refine chunkLoop h82 hs2 j (s := s1) (E := E') (subs := subs ++ [D (b3ent s.toks (ds.take 17)) 17]) (hx.drop (n := 17)) (by rw [List.length_drop]; (first | lia | omega)) rfl (by simp [E', h0]) (by simp only [E', List.length_append, sl, List.length_drop]; (first | lia | omega)) (by
      simp only [E', List.map_append, b3ent_hash]; exact hd) ?_
    have e : ({ s1 with heap := heapOf h (E' ++ b3ent s1.toks (ds.drop 17)) (subs ++ [D (b3ent s.toks (ds.take 17)) 17] ++ subsOf s1.toks (ds.drop 17) j), toks := s1.toks + 51 * j } : Shared) =
        { s with heap := heapOf h (E ++ b3ent s.toks ds) (subs ++ subsOf s.toks ds (j + 1)), toks := s.toks + 51 * (j + 1) } := by
      have e1 : E' ++ b3ent (s.toks + 51) (ds.drop 17) = E ++ b3ent s.toks ds := by
        conv => rhs; rw [ed, b3ent_app, ld]
        rw [List.append_assoc]
      show ({ s with heap := heapOf h (E' ++ b3ent (s.toks + 51) (ds.drop 17)) (subs ++ [D (b3ent s.toks (ds.take 17)) 17] ++ subsOf (s.toks + 51) (ds.drop 17) j), toks := s.toks + 51 + 51 * j } : Shared) = _
      rw [e1, show s.toks + 51 + 51 * j = s.toks + 51 * (j + 1) by (first | lia | omega), List.append_assoc]
      rfl
    rw [e]
    exact k
end
end Mine
end
section
open PySem PySem.W PyProof.Rows
set_option Elab.async false
set_option maxRecDepth 100000
set_option maxHeartbeats 1000000
set_option linter.unusedVariables false
set_option linter.unusedSimpArgs false
namespace Mine
theorem dictGo {w : World} {s : Shared} {xs : List Pr} {ds : List (Int × Str)} (hx : PairsOk xs ds) (hl : ds.length = 650) (h82 : 82 ≤ s.heap.objs.size) (hs2 : s.heap.objs.size ≤ 1000) (hd : (ds.map (·.1)).Nodup) :
    Go w 15000 s (dictDisplay (items xs))
      { s with heap := heapOf s.heap (b3ent s.toks (ds.take 646) ++ b3ent2 (s.toks + 1938) (ds.drop 646)) (subsOf (s.toks + 51) ((ds.take 646).drop 17) 37 ++ [D (b3ent2 (s.toks + 1938) (ds.drop 646)) 4]), toks := s.toks + 1950 } (.ref s.heap.objs.size) := by
  have hlx := hx.length
  -- the parts
  have l1 : (ds.take 17).length = 17 := by rw [List.length_take]; (first | lia | omega)
  have lx1 : (xs.take 17).length = 17 := by rw [List.length_take]; (first | lia | omega)
  have l2 : ((ds.take 646).drop 17).length = 17 * 37 := by rw [List.length_drop, List.length_take]; (first | lia | omega)
  have l3 : (ds.drop 646).length = 4 := by rw [List.length_drop]; (first | lia | omega)
  have lx3 : (xs.drop 646).length = 4 := by rw [List.length_drop]; (first | lia | omega)
  have t17 : (ds.take 646).take 17 = ds.take 17 := by rw [List.take_take]; rfl
  have tx17 : (xs.take 646).take 17 = xs.take 17 := by rw [List.take_take]; rfl
  have ed : ds = ds.take 17 ++ ((ds.take 646).drop 17 ++ ds.drop 646) := by
    rw [← List.append_assoc, ← t17, List.take_append_drop, List.take_append_drop]
  have ex : xs = xs.take 17 ++ ((xs.take 646).drop 17 ++ xs.drop 646) := by
    rw [← List.append_assoc, ← tx17, List.take_append_drop, List.take_append_drop]
  have ei : items xs = items (xs.take 17) ++ (items ((xs.take 646).drop 17) ++ items (xs.drop 646)) := by
    unfold items; rw [← List.map_append, ← List.map_append, ← ex]
  have hdm : (ds.take 17).map (·.1) ++ (((ds.take 646).drop 17).map (·.1) ++ (ds.drop 646).map (·.1)) = ds.map (·.1) := by
    rw [← List.map_append, ← List.map_append, ← ed]
  rw [← hdm] at hd
  have hda := hd
  rw [← List.append_assoc] at hda
  let n := s.heap.objs.size
  let E1 := b3ent s.toks (ds.take 17)
  let E2 := b3ent s.toks (ds.take 646)
  let E3 := b3ent2 (s.toks + 1938) (ds.drop 646)
  have le1 : E1.length = 17 := by show (b3ent _ _).length = _; rw [b3ent_len, l1]
  have le2 : E2.length = 646 := by show (b3ent _ _).length = _; rw [b3ent_len, List.length_take]; (first | lia | omega)
  have le3 : E3.length = 4 := by show (b3ent2 _ _).length = _; rw [b3ent2_len, l3]
  have e12 : E1 ++ b3ent (s.toks + 51) ((ds.take 646).drop 17) = E2 := by
    show _ = b3ent s.toks (ds.take 646)
    conv => rhs; rw [← List.take_append_drop 17 (ds.take 646), b3ent_app, t17, l1]
  let s1 : Shared := { s with heap := heapOf s.heap E1 [], toks := s.toks + 51 }
  let s2 : Shared := { s with heap := heapOf s.heap E2 (subsOf (s.toks + 51) ((ds.take 646).drop 17) 37), toks := s.toks + 1938 }
  let s3 : Shared := { s with heap := heapOf s.heap (E2 ++ E3) (subsOf (s.toks + 51) ((ds.take 646).drop 17) 37 ++ [D E3 4]), toks := s.toks + 1950 }
  unfold dictDisplay
  dsimp only
  rw [ei]
  refine Go.le (c := (260 + (364 * 37 + 0)) + (100 + 0)) (Go.bind (s1 := s2) (a := (some n, xs.drop 646)) ?_ ?_) (by (first | lia | omega))
  · refine chunk1 (w := w) (fl := fun run main => if run.isEmpty = true then pure main else match main with
        | none => do
          let d ← subDict run
          pure (some d)
        | some d => do
          let sub ← holding [Value.ref d] (subDict run)
          (holding [Value.ref d, Value.ref sub] (mergeMapping d (Value.ref sub) false)).onRaise fun x => do
            let _ ← holding [Value.ref d, x] (runValue (Code.builtin "proto.let_go" { }))
            pure ()
          pure (some d)) (fun x m run => by rfl) (s1 := s1) (m := none) (m' := some n) (xs.take 17) [] (by simp [lx1]) (by intro q; rw [q] at lx1; cases lx1) ?_ ?_
    · rw [List.nil_append, if_neg (by cases q : xs.take 17 with | nil => rw [q] at lx1; cases lx1 | cons => simp)]
      have q := subLong (w := w) (s := s) (hx.take (n := 17)) (by (first | lia | omega)) (by (first | lia | omega)) (by (first | lia | omega)) (List.nodup_append.mp hd).1
      rw [l1] at q
      have e : ({ s with heap := s.heap.push (D (b3ent s.toks (ds.take 17)) 17), toks := s.toks + 3 * 17 } : Shared) = s1 := by
        show ({ s with heap := _, toks := s.toks + 51 } : Shared) = { s with heap := s.heap.push (D E1 E1.length), toks := s.toks + 51 }
        rw [le1]
      rw [e] at q
      exact Go.le (Go.bind q Go.pure) (by (first | lia | omega))
    · refine chunkLoop (w := w) (fl := fun run main => if run.isEmpty = true then pure main else match main with
        | none => do
          let d ← subDict run
          pure (some d)
        | some d => do
          let sub ← holding [Value.ref d] (subDict run)
          (holding [Value.ref d, Value.ref sub] (mergeMapping d (Value.ref sub) false)).onRaise fun x => do
            let _ ← holding [Value.ref d, x] (runValue (Code.builtin "proto.let_go" { }))
            pure ()
          pure (some d)) (g := fun d x => do
            let _ ← holding [Value.ref d, x] (runValue (Code.builtin "proto.let_go" { }))
            pure ()) (fun x m run => by rfl) (fun x xs d => by rfl) h82 hs2 37 (s := s1) (E := E1) (subs := []) ((hx.take (n := 646)).drop (n := 17)) l2 rfl (by intro q; rw [q] at le1; cases le1) (by (first | lia | omega))
          (by show ((b3ent _ _).map _ ++ _).Nodup; rw [b3ent_hash]; exact (List.nodup_append.mp hda).1) ?_
      have e : ({ s1 with heap := heapOf s.heap (E1 ++ b3ent s1.toks ((ds.take 646).drop 17)) ([] ++ subsOf s1.toks ((ds.take 646).drop 17) 37), toks := s1.toks + 51 * 37 } : Shared) = s2 := by
        show ({ s with heap := heapOf s.heap (E1 ++ b3ent (s.toks + 51) ((ds.take 646).drop 17)) ([] ++ subsOf (s.toks + 51) ((ds.take 646).drop 17) 37), toks := s.toks + 51 + 51 * 37 } : Shared) = s2
        rw [e12, List.nil_append]
      rw [e]
      exact tail1 (w := w) (fl := fun run main => if run.isEmpty = true then pure main else match main with
        | none => do
          let d ← subDict run
          pure (some d)
        | some d => do
          let sub ← holding [Value.ref d] (subDict run)
          (holding [Value.ref d, Value.ref sub] (mergeMapping d (Value.ref sub) false)).onRaise fun x => do
            let _ ← holding [Value.ref d, x] (runValue (Code.builtin "proto.let_go" { }))
            pure ()
          pure (some d)) (fun x m run => by rfl) (xs.drop 646) [] (by simp only [List.length_nil, lx3]; (first | lia | omega))
  · dsimp only
    rw [if_neg (by cases q : xs.drop 646 with | nil => rw [q] at lx3; cases lx3 | cons => simp)]
    refine Go.bind (s1 := s3) (a := some n) ?_ Go.pure
    have q := flushGo (w := w) (s := s2) (xs := xs.drop 646) (h := s.heap) (E := E2) (sub := E3) (subs := subsOf (s.toks + 51) ((ds.take 646).drop 17) 37) (g := fun x => do
            let _ ← holding [Value.ref n, x] (runValue (Code.builtin "proto.let_go" { }))
            pure ()) rfl h82 hs2 (by
          have := subShort (w := w) (s := s2) (hx.drop (n := 646)) (by show 11 ≤ (heapOf _ _ _).objs.size; rw [heapOf_size]; (first | lia | omega)) (by (first | lia | omega)) (List.nodup_append.mp (List.nodup_append.mp hd).2.1).2.1 (hx.drop (n := 646)).small
          rw [le3]; rw [l3] at this; exact this)
        (b3ent2_int _ _) (by intro q; rw [q] at le2; cases le2) (by (first | lia | omega)) (by
          show ((b3ent _ _ ++ b3ent2 _ _).map _).Nodup
          rw [List.map_append, b3ent_hash, b3ent2_hash, ← List.map_append, List.take_append_drop, ← hdm]
          exact hd)
    rw [le3] at q
    exact Go.le q (by (first | lia | omega))
end Mine
end
section
open PySem PySem.W PyProof.Rows
set_option Elab.async false
set_option maxRecDepth 100000
set_option maxHeartbeats 1000000
set_option linter.unusedVariables false
set_option linter.unusedSimpArgs false
namespace Mine
noncomputable def T8' (P : Params) : BT := (.node (boot_o_0 P) (.node (boot_o_1 P) (.node (p6o3 P) (.node (boot_o_7 P) (.node (p1o15 P) (.node (p1o31 P) (.node (p3o63 P) .nil .nil) (.node (b3o 95 P) .nil .nil)) (.node (p1o47 P) (.node (p6o79 P) .nil .nil) (.node (b3o 111 P) .nil .nil))) (.node (p1o23 P) (.node (p1o39 P) (.node (p5o71 P) .nil .nil) (.node (b3o 103 P) .nil .nil)) (.node (p1o55 P) (.node (b3o 87 P) .nil .nil) (.node (b3o 119 P) .nil .nil)))) (.node (ao11 P) (.node (p1o19 P) (.node (p1o35 P) (.node (p5o67 P) .nil .nil) (.node (b3o 99 P) .nil .nil)) (.node (p1o51 P) (.node (b3o 83 P) .nil .nil) (.node (b3o 115 P) .nil .nil))) (.node (p1o27 P) (.node (p1o43 P) (.node (p6o75 P) .nil .nil) (.node (b3o 107 P) .nil .nil)) (.node (p3o59 P) (.node (b3o 91 P) .nil .nil) .nil)))) (.node (boot_o_5 P) (.node (boot_o_9 P) (.node (p1o17 P) (.node (p1o33 P) (.node (p5o65 P) .nil .nil) (.node (b3o 97 P) .nil .nil)) (.node (p1o49 P) (.node (p6o81 P) .nil .nil) (.node (b3o 113 P) .nil .nil))) (.node (p1o25 P) (.node (p1o41 P) (.node (p5o73 P) .nil .nil) (.node (b3o 105 P) .nil .nil)) (.node (p3o57 P) (.node (b3o 89 P) .nil .nil) .nil))) (.node (ao13 P) (.node (p1o21 P) (.node (p1o37 P) (.node (p5o69 P) .nil .nil) (.node (b3o 101 P) .nil .nil)) (.node (p1o53 P) (.node (b3o 85 P) .nil .nil) (.node (b3o 117 P) .nil .nil))) (.node (p1o29 P) (.node (p1o45 P) (.node (p6o77 P) .nil .nil) (.node (b3o 109 P) .nil .nil)) (.node (p3o61 P) (.node (b3o 93 P) .nil .nil) .nil))))) (.node (boot_o_2 P) (.node (boot_o_4 P) (.node (boot_o_8 P) (.node (p1o16 P) (.node (p1o32 P) (.node (p5o64 P) .nil .nil) (.node (b3o 96 P) .nil .nil)) (.node (p1o48 P) (.node (p6o80 P) .nil .nil) (.node (b3o 112 P) .nil .nil))) (.node (p1o24 P) (.node (p1o40 P) (.node (p5o72 P) .nil .nil) (.node (b3o 104 P) .nil .nil)) (.node (p1o56 P) (.node (b3o 88 P) .nil .nil) (.node (b3o 120 P) .nil .nil)))) (.node (p6o12 P) (.node (p1o20 P) (.node (p1o36 P) (.node (p5o68 P) .nil .nil) (.node (b3o 100 P) .nil .nil)) (.node (p1o52 P) (.node (b3o 84 P) .nil .nil) (.node (b3o 116 P) .nil .nil))) (.node (p1o28 P) (.node (p1o44 P) (.node (p6o76 P) .nil .nil) (.node (b3o 108 P) .nil .nil)) (.node (p3o60 P) (.node (b3o 92 P) .nil .nil) .nil)))) (.node (boot_o_6 P) (.node (boot_o_10 P) (.node (p1o18 P) (.node (p1o34 P) (.node (p5o66 P) .nil .nil) (.node (b3o 98 P) .nil .nil)) (.node (p1o50 P) (.node (b3o 82 P) .nil .nil) (.node (b3o 114 P) .nil .nil))) (.node (p1o26 P) (.node (p1o42 P) (.node (p5o74 P) .nil .nil) (.node (b3o 106 P) .nil .nil)) (.node (p3o58 P) (.node (b3o 90 P) .nil .nil) .nil))) (.node (ao14 P) (.node (p1o22 P) (.node (p1o38 P) (.node (p5o70 P) .nil .nil) (.node (b3o 102 P) .nil .nil)) (.node (p1o54 P) (.node (b3o 86 P) .nil .nil) (.node (b3o 118 P) .nil .nil))) (.node (p1o30 P) (.node (p1o46 P) (.node (p6o78 P) .nil .nil) (.node (b3o 110 P) .nil .nil)) (.node (p3o62 P) (.node (b3o 94 P) .nil .nil) .nil))))))
noncomputable def dk : List (Option PySem.Expr) := match stm 7 with
  | .Assign _ (.Dict ks _ _) _ => ks
  | _ => []
noncomputable def dv : List PySem.Expr := match stm 7 with
  | .Assign _ (.Dict _ vs _) _ => vs
  | _ => []
noncomputable def dp : Pos := match stm 7 with
  | .Assign _ (.Dict _ _ p) _ => p
  | _ => default
noncomputable def dq : Pos := match stm 7 with
  | .Assign _ _ p => p
  | _ => default
theorem stm7 : stm 7 = .Assign [.Name (Str.ofString "b3_exceptions") ⟨62, 0, 62, 13⟩] (.Dict dk dv dp) dq := by kernel_rfl
theorem ds7 : b3k (stm 7) = (dk.zip dv).map b3pair := by kernel_rfl
noncomputable def okk : Option PySem.Expr → Bool
  | some (.Constant (.int i) _ _) => decide (0 ≤ i) && decide (i < 1152921504606846976)
  | _ => false
noncomputable def okv : PySem.Expr → Bool
  | .Constant (.str _) _ _ => true
  | _ => false
noncomputable def okc : List (Option PySem.Expr) → List PySem.Expr → Bool
  | k :: ks, v :: vs => okk k && okv v && okc ks vs
  | [], [] => true
  | _, _ => false
theorem okk_is {k : Option PySem.Expr} (h : okk k = true) : ∃ i a b, k = some (.Constant (.int i) a b) ∧ 0 ≤ i ∧ i < 1152921504606846976 := by
  unfold okk at h
  split at h
  · simp only [Bool.and_eq_true, decide_eq_true_eq] at h
    exact ⟨_, _, _, rfl, h.1, h.2⟩
  · cases h
theorem okv_is {v : PySem.Expr} (h : okv v = true) : ∃ x c d, v = .Constant (.str x) c d := by
  unfold okv at h
  split at h
  · exact ⟨_, _, _, rfl⟩
  · cases h
theorem okc_cons {k : Option PySem.Expr} {ks : List (Option PySem.Expr)} {v : PySem.Expr} {vs : List PySem.Expr} (h : okc (k :: ks) (v :: vs) = true) : okk k = true ∧ okv v = true ∧ okc ks vs = true := by
  unfold okc at h
  simp only [Bool.and_eq_true] at h
  exact ⟨h.1.1, h.1.2, h.2⟩
noncomputable def mkx (pos : Pos) : List (Option PySem.Expr) → List PySem.Expr → List Pr
  | some k :: ks, v :: vs => (eval k env, do let x ← eval v env; standAt pos; pure x) :: mkx pos ks vs
  | _, _ => []
theorem okc_items (pos : Pos) (ks : List (Option PySem.Expr)) : ∀ vs, okc ks vs = true → (evalEachOpt ks env).zip ((evalEach vs env).map fun v => do let x ← v; standAt pos; pure x) = items (mkx pos ks vs) := by
  induction ks with
  | nil =>
    intro vs h
    cases vs with
    | nil => rfl
    | cons v vs => cases h
  | cons k ks ih =>
    intro vs h
    cases vs with
    | nil => cases k <;> cases h
    | cons v vs =>
      obtain ⟨h1, h2, h3⟩ := okc_cons h
      obtain ⟨i, a, b, rfl, _, _⟩ := okk_is h1
      obtain ⟨x, c, d, rfl⟩ := okv_is h2
      have := ih vs h3
      show (_, _) :: (evalEachOpt ks env).zip ((evalEach vs env).map _) = (_, _) :: items (mkx pos ks vs)
      rw [this]
      rfl
theorem okc_pairs (pos : Pos) (ks : List (Option PySem.Expr)) : ∀ vs, okc ks vs = true → PairsOk (mkx pos ks vs) ((ks.zip vs).map b3pair) := by
  induction ks with
  | nil =>
    intro vs h
    cases vs with
    | nil => exact .nil
    | cons v vs => cases h
  | cons k ks ih =>
    intro vs h
    cases vs with
    | nil => cases k <;> cases h
    | cons v vs =>
      obtain ⟨h1, h2, h3⟩ := okc_cons h
      obtain ⟨i, a, b, rfl, h4, h5⟩ := okk_is h1
      obtain ⟨x, c, d, rfl⟩ := okv_is h2
      refine .cons ⟨fun w s => ?_, fun w s => ?_, h4, by show i < 2 ^ 60; simpa using h5⟩ (ih vs h3)
      · exact Go.le (Go.bind (c1 := 1) (c2 := 0) Go.fresh Go.pure) (by decide)
      · exact Go.bind (c1 := 1) (c2 := 2) (s1 := { s with toks := s.toks + 1 }) (Go.bind (c1 := 1) (c2 := 0) Go.fresh Go.pure) (Go.bind (c1 := 1) (c2 := 1) Go.at (Go.le Go.pure (by decide)))
noncomputable def incr : List Int → Bool
  | a :: b :: l => decide (a < b) && incr (b :: l)
  | _ => true
theorem incr_lt : ∀ (a : Int) (l : List Int), incr (a :: l) = true → ∀ b ∈ l, a < b
  | a, [], _, b, hb => nomatch hb
  | a, c :: l, h, b, hb => by
    unfold incr at h
    simp only [Bool.and_eq_true, decide_eq_true_eq] at h
    rcases List.mem_cons.mp hb with rfl | hb
    · exact h.1
    · exact Int.lt_trans h.1 (incr_lt c l h.2 b hb)
theorem incr_nodup : ∀ (l : List Int), incr l = true → l.Nodup
  | [], _ => List.nodup_nil
  | [a], _ => by simp
  | a :: b :: l, h => by
    have h' := h
    unfold incr at h
    simp only [Bool.and_eq_true, decide_eq_true_eq] at h
    exact List.nodup_cons.mpr ⟨fun q => Int.lt_irrefl _ (incr_lt a (b :: l) h' a q), incr_nodup (b :: l) h.2⟩
theorem okd : okc dk dv = true := by decide +kernel
theorem incd : incr ((b3k (stm 7)).map (·.1)) = true := by decide +kernel
theorem lend : (b3k (stm 7)).length = 650 := by decide +kernel
theorem heap8 (P : Params) : heapOf (absHeap (T7 P) 82 {}) (b3ent 328 ((b3k (stm 7)).take 646) ++ b3ent2 2266 ((b3k (stm 7)).drop 646)) (subsOf 379 (((b3k (stm 7)).take 646).drop 17) 37 ++ [D (b3ent2 2266 ((b3k (stm 7)).drop 646)) 4]) = absHeap (T8' P) 121 {} := by kernel_rfl
theorem segRun_mono (k : Nat) {w : World} : ∀ (n : Nat) (s : Shared) (t : Thread) (r : Flow × Shared × Code × Pos), segRun treeTable pw w 11 ann 1 n s t = some r → segRun treeTable pw w 11 ann 1 (n + k) s t = some r
  | 0, _, _, _, h => by simp [segRun] at h
  | n + 1, s, t, r, h => by
    rw [show n + 1 + k = n + k + 1 by (first | lia | omega)]
    unfold segRun at h ⊢
    cases he : endAt 1 t with
    | some f => rw [he] at h; exact h
    | none =>
      rw [he] at h
      cases hk : stepOk 11 ann t with
      | false => rw [hk] at h; cases h
      | true =>
        rw [hk] at h
        cases hs : step (denote treeTable) pw w s t with
        | halt o q => rw [hs] at h; cases h
        | go q t2 => rw [hs] at h; exact segRun_mono k n q t2 r h
noncomputable def rest8 (v : Value) : Sem Flow := do
  standAt ⟨62, 0, 62, 13⟩
  bindName env (Str.ofString "b3_exceptions") v
  pure .next
theorem exec7 : exec (stm 7) env = (do
    standAt dq
    let v ← (do standAt dp; dictDisplay (items (mkx dp dk dv)))
    rest8 v) := by
  rw [stm7, exec_Assign_Name env _ _ _ _ rfl, ← okc_items dp dk dv okd]
  rfl
theorem tail8 (w : World) (pos : Pos) : (fun os => segRunT treeTable pw w 11 ann 1 20 (S T8' 121 2278 w os) ⟨(rest8 (.ref 82)).wrap doneF deadEnd id id, cE, pos, B⟩) = fun os => some (.next, S T8 121 2279 w os, cE, ⟨62, 0, 62, 13⟩) := by
  rw [Fast.te10110043849684766642, Fast.te14364793385576792824]; kernel_rfl
end Mine
end
section
open PySem PySem.W PyProof.Rows
set_option Elab.async false
set_option maxRecDepth 100000
set_option maxHeartbeats 1000000
set_option linter.unusedVariables false
set_option linter.unusedSimpArgs false
namespace Mine
theorem pc8 (w : World) (os : OsState) : segRun treeTable pw w 11 ann 1 16000 (S T7 82 328 w os).abs (pieceOf (stm 7) env cE ⟨60, 0, 61, 30⟩ B) = some (.next, (S T8 121 2279 w os).abs, cE, ⟨62, 0, 62, 13⟩) := by
  let s : Shared := (S T7 82 328 w os).abs
  have hsz : s.heap.objs.size = 82 := absHeap_size _ _ _
  have hx := okc_pairs dp dk dv okd
  rw [← ds7] at hx
  have g := dictGo (w := w) (s := s) hx lend (by rw [hsz]; exact Nat.le_refl _) (by rw [hsz]; decide) (incr_nodup _ incd)
  rw [hsz] at g
  have e3 : ({ s with heap := heapOf s.heap (b3ent s.toks ((b3k (stm 7)).take 646) ++ b3ent2 (s.toks + 1938) ((b3k (stm 7)).drop 646)) (subsOf (s.toks + 51) (((b3k (stm 7)).take 646).drop 17) 37 ++ [D (b3ent2 (s.toks + 1938) ((b3k (stm 7)).drop 646)) 4]), toks := s.toks + 1950 } : Shared) = (S T8' 121 2278 w os).abs := by
    show (⟨heapOf (absHeap (T7 w.params) 82 {}) (b3ent 328 ((b3k (stm 7)).take 646) ++ b3ent2 2266 ((b3k (stm 7)).drop 646)) (subsOf 379 (((b3k (stm 7)).take 646).drop 17) 37 ++ [D (b3ent2 2266 ((b3k (stm 7)).drop 646)) 4]), #[], dr, 2278, os⟩ : Shared) = _
    rw [heap8]
    rfl
  rw [e3] at g
  have g2 : Go w 15002 s (standAt dq >>= fun _ => (standAt dp >>= fun _ => dictDisplay (items (mkx dp dk dv)))) (S T8' 121 2278 w os).abs (.ref 82) :=
    Go.le (Go.bind (c1 := 1) (c2 := 15001) Go.at (Go.bind (c1 := 1) (c2 := 15000) Go.at g)) (by decide)
  obtain ⟨n, pos', hn, hr⟩ := g2 (fun v => (rest8 v).wrap doneF deadEnd id id) deadEnd id id ⟨60, 0, 61, 30⟩
  have ew : (exec (stm 7) env).wrap doneF deadEnd id id = (standAt dq >>= fun _ => (standAt dp >>= fun _ => dictDisplay (items (mkx dp dk dv)))).wrap (fun v => (rest8 v).wrap doneF deadEnd id id) deadEnd id id := by
    rw [exec7]
    rw [Sem.bind_eq_wrap', Sem.wrap_wrap, Sem.bind_eq_wrap', Sem.wrap_wrap]
    refine Sem.wrap_congr _ _ _ (fun _ => ?_) fun _ => rfl
    rw [Sem.bind_eq_wrap', Sem.wrap_wrap]
    rfl
  have ht := segRun_of (congrFun (tail8 w pos') os)
  have hall := seg_go hr ht
  have hm := segRun_mono (16000 - (n + 20)) _ _ _ _ hall
  rw [show n + 20 + (16000 - (n + 20)) = 16000 by (first | lia | omega)] at hm
  show segRun treeTable pw w 11 ann 1 16000 s ⟨(exec (stm 7) env).wrap doneF deadEnd id id, cE, ⟨60, 0, 61, 30⟩, B⟩ = _
  rw [ew]
  exact hm
end Mine
end
section
open PySem PySem.W PyProof.Rows
set_option Elab.async false
set_option maxRecDepth 100000
set_option maxHeartbeats 1000000
set_option linter.unusedVariables false
set_option linter.unusedSimpArgs false
namespace Mine
theorem bd_eq : bd = [stm 0, stm 1, stm 2, stm 3, stm 4, stm 5, stm 6, stm 7, stm 8, stm 9, stm 10, stm 11, stm 12, stm 13, stm 14, stm 15, stm 16] := by kernel_rfl
theorem fin (w : World) (os : OsState) : topRun treeTable pw w 11 ann 3 (S T17 171 2350 w os).abs ⟨doneF .next, cE, ⟨125, 0, 165, 49⟩, B⟩ = some (S T17 171 2350 w os).abs := by kernel_rfl
theorem boot (w : World) : (fencedOpening treeTable pw w 40000).map (fun s => (s.heap, s.gens, s.drawn, s.toks)) = some (boot_heap w.params, #[], boot_drawn, boot_toks) :=
  boot_open (by kernel_rfl) (by decide) (fun _ => by kernel_rfl) w
theorem size0 (w : World) : ((boot_heap w.params).isNs mainGlobals && (#[] : Array GenState).size == 0, (boot_heap w.params).objs.size, (boot_heap w.params).nsMap mainGlobals "__annotations__") = (true, 11, ann) := by kernel_rfl
theorem run (w : World) (os : OsState) : topRun treeTable pw w 11 ann (12 + (1 + (10 + (324 + (10 + (33 + (10 + (999 + (30 + (16000 + (31 + (10 + (38 + (27 + (32 + (30 + (35 + (27 + (27 + 3))))))))))))))))))) ⟨boot_heap w.params, #[], boot_drawn, boot_toks, os⟩ (topStub pw) = some (S T17 171 2350 w os).abs := by
  refine go_top (congrFun (pre w) os) (piece_block (congrFun (blk w) os) ?_)
  rw [bd_eq]
  refine piece_cons (segRun_of (congrFun (pc1 w) os)) ?_
  refine piece_cons (segRun_of (congrFun (pc2 w) os)) ?_
  refine piece_cons (segRun_of (congrFun (pc3 w) os)) ?_
  refine piece_cons (segRun_of (congrFun (pc4 w) os)) ?_
  refine piece_cons (segRun_of (congrFun (pc5 w) os)) ?_
  refine piece_cons (segRun_of (congrFun (pc6 w) os)) ?_
  refine piece_cons (segRun_of (congrFun (pc7 w) os)) ?_
  refine piece_cons (pc8 w os) ?_
  refine piece_cons (segRun_of (congrFun (pc9 w) os)) ?_
  refine piece_cons (segRun_of (congrFun (pc10 w) os)) ?_
  refine piece_cons (segRun_of (congrFun (pc11 w) os)) ?_
  refine piece_cons (segRun_of (congrFun (pc12 w) os)) ?_
  refine piece_cons (segRun_of (congrFun (pc13 w) os)) ?_
  refine piece_cons (segRun_of (congrFun (pc14 w) os)) ?_
  refine piece_cons (segRun_of (congrFun (pc15 w) os)) ?_
  refine piece_cons (segRun_of (congrFun (pc16 w) os)) ?_
  refine piece_cons (segRun_of (congrFun (pc17 w) os)) ?_
  exact fin w os
noncomputable def lawQ : Program := { pw with main := { pw.main with body := [stm 16] } }
noncomputable def looseL : List Str := ["_netrclex", "_strip_exception_details", "b1_set", "in_table_b1", "b3_exceptions", "map_table_b3", "_law_drawn", "_law_prepared", "_law_lexer", "_law_read", "_law_written", "_law_told"]
noncomputable def KL (P : Params) : Frag := [(2, boot_o_2 P), (3, p16o3 P), (11, ao11 P), (12, p16o12 P), (13, ao13 P), (14, ao14 P), (15, p1o15 P), (16, p1o16 P), (17, p1o17 P), (18, p1o18 P), (19, p1o19 P), (20, p1o20 P), (21, p1o21 P), (22, p1o22 P), (23, p1o23 P), (24, p1o24 P), (25, p1o25 P), (26, p1o26 P), (27, p1o27 P), (28, p1o28 P), (29, p1o29 P), (30, p1o30 P), (31, p1o31 P), (32, p1o32 P), (33, p1o33 P), (34, p1o34 P), (35, p1o35 P), (36, p1o36 P), (37, p1o37 P), (38, p1o38 P), (39, p1o39 P), (40, p1o40 P), (41, p1o41 P), (42, p1o42 P), (43, p1o43 P), (44, p1o44 P), (45, p1o45 P), (46, p1o46 P), (47, p1o47 P), (48, p1o48 P), (49, p1o49 P), (50, p1o50 P), (51, p1o51 P), (52, p1o52 P), (53, p1o53 P), (54, p1o54 P), (55, p1o55 P), (56, p1o56 P), (57, p3o57 P), (58, p3o58 P), (59, p3o59 P), (60, p3o60 P), (61, p3o61 P), (62, p3o62 P), (63, p3o63 P), (64, p5o64 P), (65, p5o65 P), (66, p5o66 P), (67, p5o67 P), (68, p5o68 P), (69, p5o69 P), (70, p5o70 P), (71, p5o71 P), (72, p5o72 P), (73, p5o73 P), (74, p5o74 P), (75, p6o75 P), (76, p6o76 P), (77, p6o77 P), (78, p6o78 P), (79, p6o79 P), (80, p6o80 P), (81, p6o81 P), (82, b3o 82 P), (83, b3o 83 P), (84, b3o 84 P), (85, b3o 85 P), (86, b3o 86 P), (87, b3o 87 P), (88, b3o 88 P), (89, b3o 89 P), (90, b3o 90 P), (91, b3o 91 P), (92, b3o 92 P), (93, b3o 93 P), (94, b3o 94 P), (95, b3o 95 P), (96, b3o 96 P), (97, b3o 97 P), (98, b3o 98 P), (99, b3o 99 P), (100, b3o 100 P), (101, b3o 101 P), (102, b3o 102 P), (103, b3o 103 P), (104, b3o 104 P), (105, b3o 105 P), (106, b3o 106 P), (107, b3o 107 P), (108, b3o 108 P), (109, b3o 109 P), (110, b3o 110 P), (111, b3o 111 P), (112, b3o 112 P), (113, b3o 113 P), (114, b3o 114 P), (115, b3o 115 P), (116, b3o 116 P), (117, b3o 117 P), (118, b3o 118 P), (119, b3o 119 P), (120, b3o 120 P), (121, p8o121 P), (122, p8o122 P), (123, p8o123 P), (124, p8o124 P), (125, p8o125 P), (126, p8o126 P), (127, p8o127 P), (128, p10o128 P), (129, p10o129 P), (130, p10o130 P), (131, p10o131 P), (132, p10o132 P), (133, p10o133 P), (134, p10o134 P), (135, p11o135 P), (136, p11o136 P), (137, p11o137 P), (138, p11o138 P), (139, p11o139 P), (140, p12o140 P), (141, p12o141 P), (142, p12o142 P), (143, p12o143 P), (144, p12o144 P), (145, p12o145 P), (146, p12o146 P), (147, p13o147 P), (148, p13o148 P), (149, p13o149 P), (150, p13o150 P), (151, p13o151 P), (152, p13o152 P), (153, p13o153 P), (154, p14o154 P), (155, p14o155 P), (156, p14o156 P), (157, p14o157 P), (158, p14o158 P), (159, p14o159 P), (160, p14o160 P), (161, p15o161 P), (162, p15o162 P), (163, p15o163 P), (164, p15o164 P), (165, p15o165 P), (166, p16o166 P), (167, p16o167 P), (168, p16o168 P), (169, p16o169 P), (170, p16o170 P)]
noncomputable def KA : List Addr := [2, 3, 11, 12, 13, 14, 15, 16, 17, 18, 19, 20, 21, 22, 23, 24, 25, 26, 27, 28, 29, 30, 31, 32, 33, 34, 35, 36, 37, 38, 39, 40, 41, 42, 43, 44, 45, 46, 47, 48, 49, 50, 51, 52, 53, 54, 55, 56, 57, 58, 59, 60, 61, 62, 63, 64, 65, 66, 67, 68, 69, 70, 71, 72, 73, 74, 75, 76, 77, 78, 79, 80, 81, 82, 83, 84, 85, 86, 87, 88, 89, 90, 91, 92, 93, 94, 95, 96, 97, 98, 99, 100, 101, 102, 103, 104, 105, 106, 107, 108, 109, 110, 111, 112, 113, 114, 115, 116, 117, 118, 119, 120, 121, 122, 123, 124, 125, 126, 127, 128, 129, 130, 131, 132, 133, 134, 135, 136, 137, 138, 139, 140, 141, 142, 143, 144, 145, 146, 147, 148, 149, 150, 151, 152, 153, 154, 155, 156, 157, 158, 159, 160, 161, 162, 163, 164, 165, 166, 167, 168, 169, 170]
end Mine
end
section
open PySem PySem.W PyProof.Rows
set_option Elab.async false
set_option maxRecDepth 100000
set_option maxHeartbeats 1000000
set_option linter.unusedVariables false
set_option linter.unusedSimpArgs false
namespace Mine
@[reducible] noncomputable def H1 (P : Params) : Heap := absHeap (T17 P) 171 {}
theorem look1 (w : World) (os : OsState) : (staticsOk (importedModules pw.main.body) (boot_heap w.params) (H1 w.params) && namesBound pw (H1 w.params) && gensDone ⟨H1 w.params, #[], dr, 2350, os⟩ && laidKept (boot_heap w.params) (H1 w.params)) = true := by kernel_rfl
theorem look3 (w : World) : KA.map (H1 w.params).get? = (KL w.params).map fun p => some p.2 := by kernel_rfl
theorem look2 (w : World) (os : OsState) : openSeen lawQ looseL (importedModules pw.main.body) (fun _ => true) true ⟨H1 w.params, #[], dr, 2350, os⟩ = openGood lawQ looseL := by kernel_rfl
end Mine
end
section
open PySem PySem.W PyProof.Rows
set_option Elab.async false
set_option maxRecDepth 100000
set_option maxHeartbeats 4000000
set_option linter.unusedVariables false
set_option linter.unusedSimpArgs false
namespace Mine
theorem leftL : LeftO pw lawQ looseL (fun _ => true) (fun s => KA.map s.heap.get?) (fun w => (KL w.params).map fun p => some p.2) 40000 :=
  LeftO.of_pieces (H₀ := boot_heap) (H₁ := H1) (gs₁ := #[]) (d₁ := dr) (k₁ := 2350) boot size0 run (by decide) (fun w => by
    funext os
    rw [look1 w os, look2 w os]
    exact congrArg (fun x => (true, openGood lawQ looseL, x)) (look3 w))
noncomputable def lawD : DefRec := ⟨"law", fArgs (stm 16), fBody (stm 16), fScope (stm 16), ⟨125, 0, 165, 49⟩⟩
theorem hdef : defOf lawQ PySem.Challenge.rw_sc0083_01.row.name = some (lawD, []) := by kernel_rfl
theorem hthe : pw.theDef PySem.Challenge.rw_sc0083_01.row.name = some (lawD.params, lawD.body, lawD.scope) := by kernel_rfl
theorem hkww : kwWritten? lawD.params.kwonlyargs lawD.params.kw_defaults = some [] := by kernel_rfl
theorem hchains : (chainsOk lawQ && opensWell pw && (frees PySem.Challenge.rw_sc0083_01.row.toRowW && PySem.Challenge.rw_sc0083_01.row.within.isEmpty)) = true := by decide +kernel
theorem hbare : pw.bare := ⟨rfl, rfl, rfl, rfl, rfl, by decide +kernel⟩
theorem hprom : PySem.Challenge.rw_sc0083_01.row.promised := by
  w_witness2
theorem hKA (P : Params) : KA = (KL P).map (·.1) := by kernel_rfl
theorem head (call : WalkO lawQ looseL (fun _ _ => True) (InK KL) PySem.Challenge.rw_sc0083_01.row.toRowW lawD [] fun f vs => PySem.call f vs) : PySem.Challenge.rw_sc0083_01.Holds := by
  refine holds_law (by decide +kernel) (fun hrow => ?_)
  exact PySem.W.holds_open (r := PySem.Challenge.rw_sc0083_01.row) leftL (InK.of hKA) InK.keeps (fun _ _ => trivial) (fun _ _ _ _ _ => trivial) hdef hthe hkww
    (fun s _ => recFacts_of (by kernel_rfl)) (by rfl) hrow hchains hbare hprom call
end Mine
end
section
open PySem PySem.W PyProof.Rows
set_option Elab.async false
set_option maxRecDepth 100000
set_option maxHeartbeats 1000000
set_option linter.unusedVariables false
set_option linter.unusedSimpArgs false
namespace Mine
inductive AV where
  | none | bool (b : Bool) | int (i : Int) | str (l : List Nat) | ref (a : Addr) | bltn (id : String) | ty (n : String)
noncomputable def rep : AV → Value → Prop
  | .none, v => v = .none
  | .bool b, v => v = .bool b
  | .int i, v => ∃ t, v = .int i t
  | .str l, v => ∃ t, v = .str ⟨l.toArray⟩ t
  | .ref a, v => v = .ref a
  | .bltn i, v => v = .builtin i
  | .ty n, v => v = .type n
inductive Reps : List AV → List Value → Prop
  | nil : Reps [] []
  | cons {a v as vs} : rep a v → Reps as vs → Reps (a :: as) (v :: vs)
inductive AO where
  | list (l : List AV) | tup (l : List AV) | inst (C d : Addr) | dict (es : List (Str × AV)) | raw (o : Obj) | pat (p : Obj → Prop)
inductive RepE (P : Params) : List (Str × AV) → List DictEntry → Prop
  | nil : RepE P [] []
  | cons {x av h t v es ds} : rep av v → RepE P es ds → RepE P ((x, av) :: es) (⟨h, .str x t, v⟩ :: ds)
noncomputable def repO (P : Params) : AO → Obj → Prop
  | .list l, o => ∃ vs n, o = listOf vs.toArray n ∧ Reps l vs
  | .tup l, o => ∃ vs n, o = { cls := .type "tuple", data := .seq vs.toArray n } ∧ Reps l vs
  | .inst C d, o => o = instObj C d
  | .dict es, o => ∃ ds n, o = dictOf ds n ∧ RepE P es ds
  | .raw o', o => o = o'
  | .pat p, o => p o
abbrev Hp := Addr → Option AO
abbrev Lm := List (Str × AV)
noncomputable def hup (H : Hp) (a : Addr) (o : AO) : Hp := fun b => if b = a then some o else H b
theorem hup_self {H : Hp} {a : Addr} {o : AO} : hup H a o a = some o := if_pos rfl
theorem hup_ne {H : Hp} {a b : Addr} {o : AO} (h : b ≠ a) : hup H a o b = H b := if_neg h
structure Cx where
  w : World
  hB : Heap
  A : Around
  L : Addr
  fs : List (Addr × Obj)
structure ASt (c : Cx) (m : Lm) (H : Hp) (h : Heap) : Prop where
  fr : ∃ mm, Fr c.hB c.L h mm ∧ ∀ x av, m.lookup x = some av → ∃ v, mm x = some v ∧ rep av v
  ob : ∀ a ao, H a = some ao → ∃ o, h.get? a = some o ∧ repO c.w.params ao o ∧ a ≠ c.L ∧ c.hB.get? a = none
  dom : ∃ l : List Addr, l.Nodup ∧ ∀ a, (H a).isSome = true → a ∈ l
  fro : News c.hB c.L h c.fs
  off : ∀ p ∈ c.fs, H p.1 = none

section
variable {c : Cx} {h h' : Heap} {a : Addr} {m : Lm} {H : Hp} {ao ao' : AO} {mm : Str → Option Value}

theorem news_of {P : Params} {hB : Heap} {L : Addr} (obs : ∀ a ao, H a = some ao → ∃ o, h.get? a = some o ∧ repO P ao o ∧ a ≠ L ∧ hB.get? a = none) :
    ∀ l : List Addr, ∃ nw : List (Addr × Obj), News hB L h nw ∧ (∀ p ∈ nw, p.1 ∈ l) ∧ ∀ b bo, b ∈ l → H b = some bo → ∃ o, (b, o) ∈ nw ∧ repO P bo o
  | [] => ⟨[], News.nil, (fun _ h => by cases h), (fun _ _ h => by cases h)⟩
  | c :: l => by
    obtain ⟨nw, N, sub, k⟩ := news_of obs l
    cases hc : H c with
    | none =>
      refine ⟨nw, N, fun p hp => List.mem_cons_of_mem _ (sub p hp), fun b bo hb e => ?_⟩
      rcases List.mem_cons.mp hb with rfl | hb
      · rw [hc] at e; cases e
      · exact k b bo hb e
    | some co =>
      obtain ⟨o, ho, r, n1, n2⟩ := obs c co hc
      refine ⟨(c, o) :: nw, fun p hp => ?_, fun p hp => ?_, fun b bo hb e => ?_⟩
      · rcases List.mem_cons.mp hp with rfl | hp
        · exact ⟨ho, n1, n2⟩
        · exact N p hp
      · rcases List.mem_cons.mp hp with rfl | hp
        · exact .head _
        · exact List.mem_cons_of_mem _ (sub p hp)
      · rcases List.mem_cons.mp hb with rfl | hb
        · rw [hc] at e; cases e; exact ⟨o, .head _, r⟩
        · obtain ⟨o', h1, h2⟩ := k b bo hb e
          exact ⟨o', List.mem_cons_of_mem _ h1, h2⟩

theorem hup_dom {x : Addr} (d : ∃ l : List Addr, l.Nodup ∧ ∀ a, (H a).isSome = true → a ∈ l) : ∃ l : List Addr, l.Nodup ∧ ∀ a, (hup H x ao a).isSome = true → a ∈ l := by
  obtain ⟨l, nd, hl⟩ := d
  by_cases hxl : x ∈ l
  · refine ⟨l, nd, fun a e => ?_⟩
    unfold hup at e
    split at e
    · rename_i q; exact q ▸ hxl
    · exact hl a e
  · refine ⟨x :: l, List.nodup_cons.mpr ⟨hxl, nd⟩, fun a e => ?_⟩
    unfold hup at e
    split at e
    · rename_i q; exact q ▸ .head _
    · exact List.mem_cons_of_mem _ (hl a e)
theorem hup_off {x : Addr} {fs : List (Addr × Obj)} (d : ∀ p ∈ fs, H p.1 = none) (hx : ∀ p ∈ fs, p.1 ≠ x) : ∀ p ∈ fs, hup H x ao p.1 = none := fun p hp => (hup_ne (hx p hp)).trans (d p hp)

theorem ASt.news (S : ASt c m H h) : ∃ mm nw, Fr c.hB c.L h mm ∧ News c.hB c.L h nw ∧ (∀ p ∈ nw, p.1 < h.objs.size) ∧
    (∀ h', Fr c.hB c.L h' mm → News c.hB c.L h' nw → ASt c m H h') ∧
    (∀ x ao o h', Fr c.hB c.L h' mm → News c.hB c.L h' ((x, o) :: nw) → repO c.w.params ao o → (∀ p ∈ nw, p.1 ≠ x) → ASt c m (hup H x ao) h') := by
  obtain ⟨⟨mm, F, hm⟩, ob, ⟨l, nd, hl⟩, fro, off⟩ := S
  obtain ⟨nw, N, sub, k⟩ := news_of ob l
  have g1 : ∀ h', Fr c.hB c.L h' mm → News c.hB c.L h' nw → ∀ a ao, H a = some ao → ∃ o, h'.get? a = some o ∧ repO c.w.params ao o ∧ a ≠ c.L ∧ c.hB.get? a = none := fun h' F' N' a ao e => by
    obtain ⟨o, h1, h2⟩ := k a ao (hl a (by rw [e]; rfl)) e
    exact ⟨o, (N' _ h1).1, h2, (N' _ h1).2.1, (N' _ h1).2.2⟩
  have NN : News c.hB c.L h (c.fs ++ nw) := fun p hp => (List.mem_append.mp hp).elim (fro p) (N p)
  refine ⟨mm, c.fs ++ nw, F, NN, fun p hp => Heap.lt_size (NN p hp).1, fun h' F' N' => ⟨⟨mm, F', hm⟩, g1 h' F' (fun p hp => N' p (List.mem_append_right _ hp)), ⟨l, nd, hl⟩, fun p hp => N' p (List.mem_append_left _ hp), off⟩,
    fun x ao o h' F' N' r hx => ⟨⟨mm, F', hm⟩, fun a bo e => ?_, hup_dom ⟨l, nd, hl⟩, fun p hp => N' p (List.mem_cons_of_mem _ (List.mem_append_left _ hp)), hup_off off fun p hp => hx p (List.mem_append_left _ hp)⟩⟩
  unfold hup at e
  split at e
  · rename_i q; subst q; cases e
    have z := N' (a, o) (.head _)
    exact ⟨o, z.1, r, z.2.1, z.2.2⟩
  · exact g1 h' F' (fun p hp => N' p (List.mem_cons_of_mem _ (List.mem_append_right _ hp))) a bo e

theorem ASt.at_ (S : ASt c m H h) (e : H a = some ao) : ∃ o, h.get? a = some o ∧ repO c.w.params ao o := let ⟨o, h1, h2, _⟩ := S.ob a ao e; ⟨o, h1, h2⟩
theorem ASt.frame (S : ASt c m H h) : ∃ mm, Fr c.hB c.L h mm := let ⟨mm, F, _⟩ := S.fr; ⟨mm, F⟩

theorem ASt.keeps (S : ASt c m H h) (k : ∀ b o, h.get? b = some o → h'.get? b = some o) : ASt c m H h' := by
  obtain ⟨⟨mm, F, hm⟩, ob, d, fro, off⟩ := S
  exact ⟨⟨mm, ⟨F.ns.keeps k, fun b o e => k b o (F.keep b o e), F.above⟩, hm⟩, fun a ao e => let ⟨o, h1, h2⟩ := ob a ao e; ⟨o, k _ _ h1, h2⟩, d, fun p hp => ⟨k _ _ (fro p hp).1, (fro p hp).2⟩, off⟩
theorem ASt.push (S : ASt c m H h) (o : Obj) : ASt c m H (h.push o) := S.keeps fun _ _ e => Heap.get?_push_of_some _ e
theorem ASt.kept : KeptH (fun h => ASt c m H h) := fun _ ob S => S.push ob

theorem ASt.new (S : ASt c m H h) {x : Addr} {o : Obj} (k : ∀ b o, h.get? b = some o → h'.get? b = some o) (hx : h'.get? x = some o) (nx : h.get? x = none) (r : repO c.w.params ao o) : ASt c m (hup H x ao) h' := by
  obtain ⟨⟨mm, F, hm⟩, ob, d, fro, off⟩ := S
  refine ⟨⟨mm, ⟨F.ns.keeps k, fun b o e => k b o (F.keep b o e), F.above⟩, hm⟩, fun a bo e => ?_, hup_dom d, fun p hp => ⟨k _ _ (fro p hp).1, (fro p hp).2⟩, hup_off off fun p hp q => ?_⟩
  · unfold hup at e
    split at e
    · rename_i q; subst q; cases e
      refine ⟨o, hx, r, fun q => ?_, ?_⟩
      · subst q
        obtain ⟨oL, _, _, hL, _⟩ := F.ns
        rw [nx] at hL; cases hL
      · cases q : c.hB.get? a with
        | none => rfl
        | some o' => have := F.keep _ _ q; rw [nx] at this; cases this
    · let ⟨o, h1, h2⟩ := ob a bo e; exact ⟨o, k _ _ h1, h2⟩
  · have := (fro p hp).1; rw [q, nx] at this; cases this
theorem ASt.newPush (S : ASt c m H h) {o : Obj} (r : repO c.w.params ao o) (hf : o.isFreed = false) : ASt c m (hup H h.objs.size ao) (h.push o) :=
  S.new (fun _ _ e => Heap.get?_push_of_some _ e) (Heap.get?_push_size _ hf) (Heap.get?_none_of_le (Nat.le_refl _)) r
theorem ASt.free (S : ASt c m H h) : H h.objs.size = none := by
  cases e : H h.objs.size with
  | none => rfl
  | some ao => obtain ⟨o, h1, _⟩ := S.ob _ _ e; exact absurd (Heap.lt_size h1) (Nat.lt_irrefl _)

theorem ASt.set (S : ASt c m H h) {o' : Obj} (e : H a = some ao) (hs : Heap.SameBut a h h') (ho : h'.get? a = some o') (r : repO c.w.params ao' o') : ASt c m (hup H a ao') h' := by
  obtain ⟨⟨mm, F, hm⟩, ob, d, fro, off⟩ := S
  obtain ⟨o, h1, h2, h3, h4⟩ := ob a ao e
  have hfa : ∀ p ∈ c.fs, p.1 ≠ a := fun p hp q => by have := off p hp; rw [q, e] at this; cases this
  refine ⟨⟨mm, ⟨F.ns.sameBut hs (Ne.symm h3), fun b o eb => ?_, F.above⟩, hm⟩, fun b bo eb => ?_, hup_dom d, fun p hp => ⟨(hs.2 _ (hfa p hp)).trans (fro p hp).1, (fro p hp).2⟩, hup_off off hfa⟩
  · refine (hs.2 b fun q => ?_).trans (F.keep b o eb)
    subst q; rw [h4] at eb; cases eb
  · unfold hup at eb
    split at eb
    · rename_i q; subst q; cases eb; exact ⟨o', ho, r, h3, h4⟩
    · rename_i q
      obtain ⟨o, g1, g2⟩ := ob b bo eb
      exact ⟨o, (hs.2 b q).trans g1, g2⟩
theorem ASt.split (S : ASt c m H h) (e : H a = some ao) : ∃ mm nw o, Fr c.hB c.L h mm ∧ News c.hB c.L h ((a, o) :: nw) ∧ repO c.w.params ao o ∧ (∀ p ∈ nw, p.1 ≠ a) ∧ (∀ p ∈ nw, p.1 < h.objs.size) ∧
    (∀ h', Fr c.hB c.L h' mm → News c.hB c.L h' ((a, o) :: nw) → ASt c m H h') ∧
    ∀ h' ao' o', Fr c.hB c.L h' mm → News c.hB c.L h' ((a, o') :: nw) → repO c.w.params ao' o' → ASt c m (hup H a ao') h' := by
  obtain ⟨⟨mm, F, hm⟩, ob, ⟨l, nd, hl⟩, fro, off⟩ := S
  obtain ⟨nw, N, sub, k⟩ := news_of ob (l.filter (· ≠ a))
  obtain ⟨o, h1, h2, h3, h4⟩ := ob a ao e
  have hfa : ∀ p ∈ c.fs, p.1 ≠ a := fun p hp q => by have := off p hp; rw [q, e] at this; cases this
  have kb : ∀ b bo, b ≠ a → H b = some bo → ∃ o, (b, o) ∈ nw ∧ repO c.w.params bo o := fun b bo hb e => k b bo (List.mem_filter.mpr ⟨hl b (by rw [e]; rfl), by simpa using hb⟩) e
  have NN : News c.hB c.L h (c.fs ++ nw) := fun p hp => (List.mem_append.mp hp).elim (fro p) (N p)
  refine ⟨mm, c.fs ++ nw, o, F, fun p hp => ?_, h2, fun p hp => (List.mem_append.mp hp).elim (hfa p) (fun hp => by simpa using (List.mem_filter.mp (sub p hp)).2), fun p hp => Heap.lt_size (NN p hp).1, fun h' F' N' => ?_, fun h' ao' o' F' N' r => ?_⟩
  · rcases List.mem_cons.mp hp with rfl | hp
    · exact ⟨h1, h3, h4⟩
    · exact NN p hp
  · refine ⟨⟨mm, F', hm⟩, fun b bo eb => ?_, ⟨l, nd, hl⟩, fun p hp => N' p (List.mem_cons_of_mem _ (List.mem_append_left _ hp)), off⟩
    by_cases q : b = a
    · subst q; rw [e] at eb; cases eb
      have z := N' _ (.head _)
      exact ⟨o, z.1, h2, z.2.1, z.2.2⟩
    · obtain ⟨o2, g1, g2⟩ := kb b bo q eb
      have z := N' _ (List.mem_cons_of_mem _ (List.mem_append_right _ g1))
      exact ⟨o2, z.1, g2, z.2.1, z.2.2⟩
  · refine ⟨⟨mm, F', hm⟩, fun b bo eb => ?_, hup_dom ⟨l, nd, hl⟩, fun p hp => N' p (List.mem_cons_of_mem _ (List.mem_append_left _ hp)), hup_off off hfa⟩
    unfold hup at eb
    split at eb
    · rename_i q; subst q; cases eb
      have z := N' _ (.head _)
      exact ⟨o', z.1, r, z.2.1, z.2.2⟩
    · rename_i q
      obtain ⟨o2, g1, g2⟩ := kb b bo q eb
      have z := N' _ (List.mem_cons_of_mem _ (List.mem_append_right _ g1))
      exact ⟨o2, z.1, g2, z.2.1, z.2.2⟩
theorem ASt.less (S : ASt c m H h) {H' : Hp} {m' : Lm} (hH : ∀ a o, H' a = some o → H a = some o) (hm : ∀ x v, m'.lookup x = some v → m.lookup x = some v) : ASt c m' H' h := by
  obtain ⟨⟨mm, F, k⟩, ob, ⟨l, nd, hl⟩, fro, off⟩ := S
  refine ⟨⟨mm, F, fun x av e => k x av (hm x av e)⟩, fun a ao e => ob a ao (hH a ao e), ⟨l, nd, fun a e => hl a ?_⟩, fro, fun p hp => ?_⟩
  · obtain ⟨o, ho⟩ := Option.isSome_iff_exists.mp e
    rw [hH a o ho]; rfl
  · cases e : H' p.1 with
    | none => rfl
    | some o => have := hH _ _ e; rw [off p hp] at this; cases this
noncomputable def hdrop (H : Hp) (a : Addr) : Hp := fun b => if b = a then none else H b
theorem ASt.drop (S : ASt c m H h) {o : Obj} (e : H a = some ao) (k : ∀ b o, b ≠ a → h.get? b = some o → h'.get? b = some o) : ASt c m (hdrop H a) h' := by
  obtain ⟨⟨mm, F, hm⟩, ob, ⟨l, nd, hl⟩, fro, off⟩ := S
  obtain ⟨o, h1, h2, h3, h4⟩ := ob a ao e
  have up : ∀ b bo, hdrop H a b = some bo → b ≠ a ∧ H b = some bo := fun b bo eb => by
    unfold hdrop at eb
    split at eb
    · cases eb
    · rename_i q; exact ⟨q, eb⟩
  refine ⟨⟨mm, ⟨F.ns.extBut (fun b o hb e => k b o hb e) (Ne.symm h3), fun b o eb => k b o (fun q => by subst q; rw [h4] at eb; cases eb) (F.keep b o eb), F.above⟩, hm⟩, fun b bo eb => ?_, ⟨l, nd, fun b eb => ?_⟩, fun p hp => ⟨k _ _ (fun q => ?_) (fro p hp).1, (fro p hp).2⟩, fun p hp => ?_⟩
  · obtain ⟨q, eb⟩ := up b bo eb
    obtain ⟨o, g1, g2⟩ := ob b bo eb
    exact ⟨o, k b o q g1, g2⟩
  · obtain ⟨bo, eb⟩ := Option.isSome_iff_exists.mp eb
    exact hl b (by rw [(up b bo eb).2]; rfl)
  · have := off p hp; rw [q, e] at this; cases this
  · unfold hdrop; split
    · rfl
    · exact off p hp
theorem ASt.around (S : ASt c m H h) (A : Around) : ASt { c with A := A } m H h := ⟨S.fr, S.ob, S.dom, S.fro, S.off⟩
end
end Mine
end
section
open PySem PySem.W PySem.Calls PyProof.Rows
set_option Elab.async false
set_option maxRecDepth 100000
set_option maxHeartbeats 1000000
set_option linter.unusedVariables false
set_option linter.unusedSimpArgs false
namespace Mine
noncomputable def KX (P : Params) : Frag := (KL P).filter fun p => p.1 != 141
structure BOk (w : World) (hB : Heap) : Prop where
  X : (KX w.params).In hB
  nolimit : hB.NoLimit
  glob : ∃ mg mb, hB.Ns mainGlobals mg ∧ hB.Ns builtinsNs mb ∧ ∀ x : Str, x ≠ "__name__" → mb x = bootBuiltins x
  bm : ∃ mg bm ob, hB.Ns mainGlobals mg ∧ mg "__builtins__" = some (.ref bm) ∧ bm ≠ builtinsNs ∧ hB.get? bm = some ob ∧ ob.cls = .type "module" ∧ ob.dict = some builtinsNs ∧ ob.data = .plain
noncomputable def Rest (s s' : Shared) : Prop := s'.gens = s.gens ∧ s'.drawn = s.drawn ∧ s'.os = s.os
theorem Rest.rfl' {s : Shared} : Rest s s := ⟨rfl, rfl, rfl⟩
theorem Rest.trans {a b c : Shared} (x : Rest a b) (y : Rest b c) : Rest a c := ⟨y.1.trans x.1, y.2.1.trans x.2.1, y.2.2.trans x.2.2⟩
noncomputable def W {α β : Type} (c : Cx) (R : β → α → Prop) (t : Sem α) (m : Lm) (H : Hp) (Q : β → Lm → Hp → Prop) : Prop :=
  ∀ s, ASt c m H s.heap → wpAny (model pw c.w) c.A t (fun a s' => ∃ b m' H', R b a ∧ ASt c m' H' s'.heap ∧ Rest s s' ∧ Q b m' H') (fun _ _ => False) s
theorem wmono {c : Cx} {w : World} {α β : Type} {R : β → α → Prop} {A : Around} {t : Sem α} {Q : α → β → Lm → Hp → Prop} {s s0 : Shared} {P : α → Shared → Prop} {E : Value → Shared → Prop}
    (h : wpAny (model pw w) A t (fun a s' => ∃ b m' H', R b a ∧ ASt c m' H' s'.heap ∧ Rest s0 s' ∧ Q a b m' H') (fun _ _ => False) s) (k : ∀ a s' b m' H', R b a → ASt c m' H' s'.heap → Rest s0 s' → Q a b m' H' → P a s') (_ : ∀ (e : Value) (s' : Shared), False → False) : wpAny (model pw w) A t P E s :=
  wpAny_mono h (fun a s' x => by obtain ⟨b, m', H', r, S, z, q⟩ := x; exact k a s' b m' H' r S z q) fun _ _ x => x.elim
inductive AF where
  | next | brk | cont | ret (v : AV)
noncomputable def repF : AF → Flow → Prop
  | .next, f => f = .next
  | .brk, f => f = .brk
  | .cont, f => f = .cont
  | .ret a, f => ∃ v, f = .ret v ∧ rep a v
section
variable {α β γ δ : Type} {c : Cx} {R : β → α → Prop} {m : Lm} {H : Hp} {t : Sem α} {Q Q' : β → Lm → Hp → Prop} {R' : δ → γ → Prop}
theorem W.mono (h : W c R t m H Q) (k : ∀ b m H, Q b m H → Q' b m H) : W c R t m H Q' := fun s S =>
  wmono (h s S) (fun a s' b m' H' r S' z q => ⟨b, m', H', r, S', z, k _ _ _ q⟩) fun _ _ x => x
theorem W.pure {b : β} {a : α} (r : R b a) (q : Q b m H) : W c R (pure a) m H Q := fun s S => wpAny_pure ⟨b, m, H, r, S, .rfl', q⟩
theorem W.bind {f : α → Sem γ} {Q2 : δ → Lm → Hp → Prop} (h : W c R t m H (fun b m1 H1 => ∀ a, R b a → W c R' (f a) m1 H1 Q2)) : W c R' (t >>= f) m H Q2 := fun s S =>
  wpAny_bind (wmono (h s S) (fun a s' b m' H' r S' z q =>
    wmono (q a r s' S') (fun c s'' d m2 H2 r2 S2 z2 q2 => ⟨d, m2, H2, r2, S2, z.trans z2, q2⟩) fun _ _ x => x) fun _ _ x => x.elim)
theorem W.less {m' : Lm} {H' : Hp} (h : W c R t m' H' Q) (hH : ∀ a o, H' a = some o → H a = some o) (hm : ∀ x v, m'.lookup x = some v → m.lookup x = some v) : W c R t m H Q :=
  fun s S => h s (S.less hH hm)
end
abbrev WE (c : Cx) (env : Env) (e : PySem.Expr) (m : Lm) (H : Hp) (Q : AV → Lm → Hp → Prop) : Prop := W c rep (eval e env) m H Q
abbrev WT (c : Cx) (env : Env) (e : PySem.Expr) (m : Lm) (H : Hp) (Q : Bool → Lm → Hp → Prop) : Prop := W c (fun b a => b = a) (isTrue e env (eval e env)) m H Q
abbrev WS (c : Cx) (env : Env) (e : Stmt) (m : Lm) (H : Hp) (Q : AF → Lm → Hp → Prop) : Prop := W c repF (exec e env) m H Q
abbrev WSS (c : Cx) (env : Env) (e : List Stmt) (m : Lm) (H : Hp) (Q : AF → Lm → Hp → Prop) : Prop := W c repF (execs e env) m H Q
section
variable {c : Cx} {env : Env} {m : Lm} {H : Hp} {Q : AV → Lm → Hp → Prop} {QF : AF → Lm → Hp → Prop} {QB : Bool → Lm → Hp → Prop} {pos : Pos} {k : Nat}

theorem W.chain {α β γ δ : Type} {R : β → α → Prop} {R' : δ → γ → Prop} {t : Sem α} {s : Shared} {P : α → Shared → Prop} {Q2 : δ → Lm → Hp → Prop}
    (h : W c R t m H (fun b m1 H1 => ∀ a, R b a → ∀ s1, ASt c m1 H1 s1.heap → Rest s s1 → P a s1)) (S : ASt c m H s.heap) : wpAny (model pw c.w) c.A t P (fun _ _ => False) s :=
  wmono (h s S) (fun a s' b m' H' r S' z q => q a r s' S' z) fun _ _ x => x
theorem W.from {β α : Type} {R : β → α → Prop} {t : Sem α} {s s1 : Shared} {Q2 : β → Lm → Hp → Prop} (h : W c R t m H Q2) (S : ASt c m H s1.heap) (z : Rest s s1) :
    wpAny (model pw c.w) c.A t (fun a s' => ∃ b m' H', R b a ∧ ASt c m' H' s'.heap ∧ Rest s s' ∧ Q2 b m' H') (fun _ _ => False) s1 :=
  wmono (h s1 S) (fun a s' b m' H' r S' z' q => ⟨b, m', H', r, S', z.trans z', q⟩) fun _ _ x => x

theorem e_int {i : Int} (h : Q (.int i) m H) : WE c env (.Constant (.int i) k pos) m H Q := fun s S => wpAny_Constant_int ⟨.int i, m, H, ⟨_, rfl⟩, S, ⟨rfl, rfl, rfl⟩, h⟩
theorem e_str {x : Str} {l : List Nat} (hx : x = ⟨l.toArray⟩) (h : Q (.str l) m H) : WE c env (.Constant (.str x) k pos) m H Q := fun s S =>
  wpAny_Constant_str ⟨.str l, m, H, ⟨_, by rw [hx]⟩, S, ⟨rfl, rfl, rfl⟩, h⟩
theorem e_none (h : Q .none m H) : WE c env (.Constant .none k pos) m H Q := fun s S => wpAny_Constant_none ⟨.none, m, H, rfl, S, .rfl', h⟩
theorem e_bool {b : Bool} (h : Q (.bool b) m H) : WE c env (.Constant (.bool b) k pos) m H Q := fun s S => wpAny_Constant_bool ⟨.bool b, m, H, rfl, S, .rfl', h⟩
theorem e_local {x : Str} {av : AV} (hk : env.scope.kind = .function) (hx : env.kindOf x = some .local) (hL : env.locals = c.L) (hv : m.lookup x = some av) (h : Q av m H) (hd : (x == ("__debug__" : Str)) = false := by decide) :
    WE c env (.Name x pos) m H Q := fun s S => by
  obtain ⟨mm, F, hm⟩ := S.fr
  obtain ⟨v, e, r⟩ := hm x av hv
  exact wpAny_Name (wpAny_loadName_local hk hx (hL ▸ F.ns) e ⟨av, m, H, r, S, .rfl', h⟩) hd
theorem e_global {x : Str} {a : Addr} (Bk : BOk c.w c.hB) (hk : env.scope.kind = .function) (hx : env.kindOf x = some .globalImplicit) (hg : env.globals = mainGlobals) (hn : nsIn (KX c.w.params) mainGlobals x = some (some (.ref a))) (h : Q (.ref a) m H) (hd : (x == ("__debug__" : Str)) = false := by decide) :
    WE c env (.Name x pos) m H Q := fun s S => by
  obtain ⟨mm, F, hm⟩ := S.fr
  obtain ⟨mg, mb, g, b, hb⟩ := Bk.glob
  exact Name_function_global hk hx (loadGlobal_global (by rw [hg]; exact g.keeps F.keep) (mg_of Bk.X g hn) ⟨.ref a, m, H, rfl, S, .rfl', h⟩) hd
theorem e_builtin {x : Str} {v : Value} {av : AV} (Bk : BOk c.w c.hB) (hk : env.scope.kind = .function) (hx : env.kindOf x = some .globalImplicit) (hg : env.globals = mainGlobals) (hgb : env.builtins = builtinsNs)
    (hn : nsIn (KX c.w.params) mainGlobals x = some none) (hv : bootBuiltins x = some v) (hnn : x ≠ "__name__") (r : rep av v) (h : Q av m H) (hd : (x == ("__debug__" : Str)) = false := by decide) :
    WE c env (.Name x pos) m H Q := fun s S => by
  obtain ⟨mm, F, hm⟩ := S.fr
  obtain ⟨mg, mb, g, b, hb⟩ := Bk.glob
  exact Name_function_global hk hx (loadGlobal_builtin (by rw [hg]; exact g.keeps F.keep) (mg_none_of Bk.X g hn) (by rw [hgb]; exact b.keeps F.keep) ((hb x hnn).trans hv) ⟨av, m, H, r, S, .rfl', h⟩) hd

noncomputable def WO2 (c : Cx) (t : Value → Value → Sem Value) (a b : AV) (m : Lm) (H : Hp) (Q : AV → Lm → Hp → Prop) : Prop :=
  ∀ x y, rep a x → rep b y → W c rep (t x y) m H Q
theorem e_binop {l r : PySem.Expr} {op : Operator} (h : WE c env l m H fun a m1 H1 => WE c env r m1 H1 fun b m2 H2 => WO2 c (binaryOp op) a b m2 H2 Q) : WE c env (.BinOp l op r pos) m H Q := fun s S =>
  wpAny_BinOp (wmono (h s S) (fun x s1 a m1 H1 ra S1 z1 q1 => wmono (q1 s1 S1) (fun y s2 b m2 H2 rb S2 z2 q2 => (q2 x y ra rb).from S2 (z1.trans z2)) fun _ _ x => x) fun _ _ x => x)
theorem e_cmp {l r : PySem.Expr} {op : CmpOp} (h : WE c env l m H fun a m1 H1 => WE c env r m1 H1 fun b m2 H2 => WO2 c (compareOp op) a b m2 H2 Q) (hm : behindInMarks op r = false := by with_unfolding_all rfl) : WE c env (.Compare l [op] [r] pos) m H Q := fun s S =>
  wpAny_Compare1 (wmono (h s S) (fun x s1 a m1 H1 ra S1 z1 q1 => wmono (q1 s1 S1) (fun y s2 b m2 H2 rb S2 z2 q2 => (q2 x y ra rb).from S2 (z1.trans z2)) fun _ _ x => x) fun _ _ x => x) hm
theorem t_cmp {l r : PySem.Expr} {op : CmpOp} (h : WE c env l m H fun a m1 H1 => WE c env r m1 H1 fun b m2 H2 => WO2 c (compareOp op) a b m2 H2 fun c m3 H3 => ∃ b, c = .bool b ∧ QB b m3 H3) (hm : behindInMarks op r = false := by with_unfolding_all rfl) :
    WT c env (.Compare l [op] [r] pos) m H QB := fun s S =>
  wpAny_isTrue_Compare1 (wmono (h s S) (fun x s1 a m1 H1 ra S1 z1 q1 => wmono (q1 s1 S1) (fun y s2 b m2 H2 rb S2 z2 q2 =>
    wmono (q2 x y ra rb s2 S2) (fun c s3 av m3 H3 rc S3 z3 ⟨b', e, q3⟩ => by subst e; cases rc; exact wpAny_truthy_bool ⟨b', m3, H3, rfl, S3, (z1.trans z2).trans z3, q3⟩) fun _ _ x => x) fun _ _ x => x) fun _ _ x => x) hm
theorem t_bool {x : Str} {b : Bool} (hk : env.scope.kind = .function) (hx : env.kindOf x = some .local) (hL : env.locals = c.L) (hv : m.lookup x = some (.bool b)) (h : QB b m H) (hd : (x == ("__debug__" : Str)) = false := by decide)
    (he : isTrue (.Name x pos) env (eval (.Name x pos) env) = (do let v ← eval (.Name x pos) env; standAt (PySem.Expr.Name x pos).pos; holding [v] (truthy v)) := by rfl) :
    WT c env (.Name x pos) m H QB := fun s S =>
  wpAny_isTrue_value (wmono (e_local (Q := fun v m1 H1 => v = .bool b ∧ m1 = m ∧ H1 = H) hk hx hL hv ⟨rfl, rfl, rfl⟩ hd s S) (fun v s1 a m1 H1 r S1 z ⟨e, e1, e2⟩ => by
    subst e e1 e2; cases r; exact wpAny_truthy_bool ⟨b, _, _, rfl, S1, z, h⟩) fun _ _ x => x) he
theorem t_not {x : PySem.Expr} {whole : Sem Value} (h : WT c env x m H fun b m1 H1 => QB (!b) m1 H1) : W c (fun b a => b = a) (isTrue (.UnaryOp .Not x pos) env whole) m H QB := fun s S =>
  wpAny_isTrue_Not (wmono (h s S) (fun a s1 b m1 H1 r S1 z q => by subst r; exact ⟨_, m1, H1, rfl, S1, z, q⟩) fun _ _ x => x)
theorem t_boolop {op : BoolOp} {vs : List PySem.Expr} {whole : Sem Value} (h : W c (fun b a => b = a) (allTrue op vs env) m H QB) : W c (fun b a => b = a) (isTrue (.BoolOp op vs pos) env whole) m H QB := fun s S => wpAny_isTrue_BoolOp (h s S)
theorem t_and_nil (h : QB true m H) : W c (fun b a => b = a) (allTrue .And [] env) m H QB := fun s S => wpAny_allTrue_And_nil ⟨true, m, H, rfl, S, .rfl', h⟩
theorem t_or_nil (h : QB false m H) : W c (fun b a => b = a) (allTrue .Or [] env) m H QB := fun s S => wpAny_allTrue_Or_nil ⟨false, m, H, rfl, S, .rfl', h⟩
theorem t_and {x : PySem.Expr} {vs : List PySem.Expr} (h : WT c env x m H fun b m1 H1 => if b then W c (fun b a => b = a) (allTrue .And vs env) m1 H1 QB else QB false m1 H1) : W c (fun b a => b = a) (allTrue .And (x :: vs) env) m H QB := fun s S =>
  wpAny_allTrue_And_cons (wmono (h s S) (fun a s1 b m1 H1 r S1 z q => by
    subst r
    cases b
    · exact ⟨false, m1, H1, rfl, S1, z, q⟩
    · exact W.from q S1 z) fun _ _ x => x)
theorem t_or {x : PySem.Expr} {vs : List PySem.Expr} (h : WT c env x m H fun b m1 H1 => if b then QB true m1 H1 else W c (fun b a => b = a) (allTrue .Or vs env) m1 H1 QB) : W c (fun b a => b = a) (allTrue .Or (x :: vs) env) m H QB := fun s S =>
  wpAny_allTrue_Or_cons (wmono (h s S) (fun a s1 b m1 H1 r S1 z q => by
    subst r
    cases b
    · exact W.from q S1 z
    · exact ⟨true, m1, H1, rfl, S1, z, q⟩) fun _ _ x => x)
theorem e_ifexp {t b o : PySem.Expr} (h : WT c env t m H fun q m1 H1 => if q then WE c env b m1 H1 Q else WE c env o m1 H1 Q) : WE c env (.IfExp t b o pos) m H Q := fun s S =>
  wpAny_IfExp (wmono (h s S) (fun a s1 b m1 H1 r S1 z q => by
    subst r
    cases b
    · exact W.from q S1 z
    · exact W.from q S1 z) fun _ _ x => x)

theorem s_nil (h : QF .next m H) : WSS c env [] m H QF := fun s S => wpAny_execs_nil ⟨.next, m, H, rfl, S, .rfl', h⟩
@[reducible] noncomputable def nxt (P : Lm → Hp → Prop) (QF : AF → Lm → Hp → Prop) : AF → Lm → Hp → Prop := fun f m H => match f with
  | .next => P m H
  | f => QF f m H
theorem s_cons {st : Stmt} {rest : List Stmt} (h : WS c env st m H (nxt (fun m1 H1 => WSS c env rest m1 H1 QF) QF)) : WSS c env (st :: rest) m H QF := fun s S =>
  wpAny_execs_cons (wmono (h s S) (fun a s1 f m1 H1 r S1 z q => by
    cases f with
    | next => cases r; exact W.from q S1 z
    | brk => cases r; exact ⟨.brk, m1, H1, rfl, S1, z, q⟩
    | cont => cases r; exact ⟨.cont, m1, H1, rfl, S1, z, q⟩
    | ret v => obtain ⟨v', e, r⟩ := r; subst e; exact ⟨.ret v, m1, H1, ⟨_, rfl, r⟩, S1, z, q⟩) fun _ _ x => x)
theorem ASt.store {h h' : Heap} {x : Str} {v : Value} {av : AV} (S : ASt c m H h) {mm : Str → Option Value} (F : Fr c.hB c.L h mm) (hm : ∀ x av, m.lookup x = some av → ∃ v, mm x = some v ∧ rep av v)
    (hn : h'.Ns c.L (fun y => if y = x then some v else mm y)) (hs : Heap.SameBut c.L h h') (r : rep av v) : ASt c ((x, av) :: m) H h' := by
  refine ⟨⟨_, F.set hn hs, fun y bv e => ?_⟩, fun a ao e => ?_, S.dom, fun p hp => ⟨(hs.2 _ (S.fro p hp).2.1).trans (S.fro p hp).1, (S.fro p hp).2⟩, S.off⟩
  · rw [List.lookup_cons] at e
    by_cases q : y = x
    · subst q
      simp only [beq_self_eq_true] at e
      cases e
      exact ⟨v, if_pos rfl, r⟩
    · have : (y == x) = false := by simpa using q
      rw [this] at e
      obtain ⟨v', e', r'⟩ := hm y bv e
      exact ⟨v', (if_neg q).trans e', r'⟩
  · obtain ⟨o, h1, h2, h3, h4⟩ := S.ob a ao e
    exact ⟨o, (hs.2 a h3).trans h1, h2, h3, h4⟩
theorem store_local {x : Str} {v : Value} {av : AV} {QU : Unit → Lm → Hp → Prop} (hk : env.scope.kind = .function) (hx : env.kindOf x = some .local) (hL : env.locals = c.L) (r : rep av v) (h : QU () ((x, av) :: m) H) :
    W c (fun _ _ => True) (storeName env x v) m H QU := fun s S => by
  obtain ⟨mm, F, hm⟩ := S.fr
  exact wpAny_storeName_local hx (hL ▸ F.ns) (fun h' hn hs => ⟨(), _, _, trivial, S.store F hm (hL ▸ hn) (hL ▸ hs) r, ⟨rfl, rfl, rfl⟩, h⟩) (by rw [hk]; rfl)
theorem s_assign {x : Str} {p' : Pos} {e : PySem.Expr} (hk : env.scope.kind = .function) (hx : env.kindOf x = some .local) (hL : env.locals = c.L) (hs : swapsWith e (some (.Name x p')) pos.line env = pure false)
    (h : WE c env e m H fun av m1 H1 => QF .next ((x, av) :: m1) H1) : WS c env (.Assign [.Name x p'] e pos) m H QF := fun s S =>
  wpAny_Assign_Name (wmono (h s S) (fun v s1 av m1 H1 r S1 z q =>
    wmono (W.from (store_local (QU := fun _ m2 H2 => QF .next m2 H2) hk hx hL r q) S1 z) (fun _ s2 _ m2 H2 _ S2 z2 q2 => ⟨.next, m2, H2, rfl, S2, z2, q2⟩) fun _ _ x => x) fun _ _ x => x) hs
theorem s_aug {x : Str} {p' : Pos} {op : Operator} {e : PySem.Expr} {old : AV} (hk : env.scope.kind = .function) (hx : env.kindOf x = some .local) (hL : env.locals = c.L) (hv : m.lookup x = some old)
    (h : WE c env e m H fun av m1 H1 => WO2 c (inplaceOp op) old av m1 H1 fun nv m2 H2 => QF .next ((x, nv) :: m2) H2) : WS c env (.AugAssign (.Name x p') op e pos) m H QF := fun s S => by
  obtain ⟨mm, F, hm⟩ := S.fr
  obtain ⟨v, e, r⟩ := hm x old hv
  refine wpAny_AugAssign_Name (wpAny_loadName_local hk hx (hL ▸ F.ns) e (wmono (h s S) (fun v s1 av m1 H1 r1 S1 z q =>
    wmono (q _ _ r r1 s1 S1) (fun nv s2 nav m2 H2 r2 S2 z2 q2 =>
      wmono (W.from (store_local (QU := fun _ m2 H2 => QF .next m2 H2) hk hx hL r2 q2) S2 (z.trans z2)) (fun _ s2 _ m2 H2 _ S2 z2 q2 => ⟨.next, m2, H2, rfl, S2, z2, q2⟩) fun _ _ x => x) fun _ _ x => x) fun _ _ x => x))
theorem s_if {t : PySem.Expr} {b o : List Stmt} (h : WT c env t m H fun q m1 H1 => if q then WSS c env b m1 H1 QF else WSS c env o m1 H1 QF) : WS c env (.If t b o pos) m H QF := fun s S =>
  wpAny_If (wmono (h s S) (fun a s1 b m1 H1 r S1 z q => by
    subst r
    cases b
    · exact W.from q S1 z
    · exact W.from q S1 z) fun _ _ x => x)
theorem s_return {e : PySem.Expr} (h : WE c env e m H fun av m1 H1 => QF (.ret av) m1 H1) : WS c env (.Return (some e) pos) m H QF := fun s S =>
  wpAny_Return_some (wmono (h s S) (fun v s1 av m1 H1 r S1 z q => ⟨.ret av, m1, H1, ⟨v, rfl, r⟩, S1, z, q⟩) fun _ _ x => x)
theorem s_continue (h : QF .cont m H) : WS c env (.Continue pos) m H QF := fun s S => wpAny_Continue ⟨.cont, m, H, rfl, S, .rfl', h⟩

theorem o_add_int {a b : Int} (h : Q (.int (a + b)) m H) : WO2 c (binaryOp .Add) (.int a) (.int b) m H Q := fun x y ⟨t, e⟩ ⟨u, e'⟩ => by
  subst e e'; exact fun s S => PyProof.Rows.add_int ⟨.int (a + b), m, H, ⟨_, rfl⟩, S, ⟨rfl, rfl, rfl⟩, h⟩
theorem o_sub_int {a b : Int} (h : Q (.int (a - b)) m H) : WO2 c (binaryOp .Sub) (.int a) (.int b) m H Q := fun x y ⟨t, e⟩ ⟨u, e'⟩ => by
  subst e e'; exact fun s S => PyProof.Rows.sub_int ⟨.int (a - b), m, H, ⟨_, rfl⟩, S, ⟨rfl, rfl, rfl⟩, h⟩
theorem o_mul_int {a b : Int} (hm : IntMulOk a b) (h : Q (.int (a * b)) m H) : WO2 c (binaryOp .Mult) (.int a) (.int b) m H Q := fun x y ⟨t, e⟩ ⟨u, e'⟩ => by
  subst e e'; exact fun s S => PyProof.Rows.mul_int ⟨.int (a * b), m, H, ⟨_, rfl⟩, S, ⟨rfl, rfl, rfl⟩, h⟩ hm
theorem o_fdiv_int {a b : Int} (hb : b ≠ 0) (hp : Builtin.divisionGoesByPylong a b = false) (h : Q (.int (a.fdiv b)) m H) : WO2 c (binaryOp .FloorDiv) (.int a) (.int b) m H Q := fun x y ⟨t, e⟩ ⟨u, e'⟩ => by
  subst e e'; exact fun s S => PyProof.Rows.floordiv_int hb ⟨.int (a.fdiv b), m, H, ⟨_, rfl⟩, S, ⟨rfl, rfl, rfl⟩, h⟩ (hp := .inl hp)
end
end Mine
end
section
open PySem PySem.W PySem.Calls PyProof.Rows
set_option Elab.async false
set_option maxRecDepth 100000
set_option maxHeartbeats 1000000
set_option linter.unusedVariables false
set_option linter.unusedSimpArgs false
namespace Mine
section
variable {c : Cx} {env : Env} {m : Lm} {H : Hp} {Q : AV → Lm → Hp → Prop} {QF : AF → Lm → Hp → Prop} {QB : Bool → Lm → Hp → Prop} {pos : Pos} {k : Nat}
theorem Reps.length {as vs} (h : Reps as vs) : as.length = vs.length := by
  induction h with
  | nil => rfl
  | cons _ _ ih => simp [ih]
theorem Reps.append {as vs bs us} (h : Reps as vs) (k : Reps bs us) : Reps (as ++ bs) (vs ++ us) := by
  induction h with
  | nil => exact k
  | cons r _ ih => exact .cons r ih
theorem Reps.get {as vs} (h : Reps as vs) : ∀ {i : Nat} {a : AV}, as[i]? = some a → ∃ v, vs[i]? = some v ∧ rep a v := by
  induction h with
  | nil => intro i a e; simp at e
  | cons r _ ih =>
    intro i a e
    cases i with
    | zero => simp at e; subst e; exact ⟨_, rfl, r⟩
    | succ i => simpa using ih (i := i) (by simpa using e)

noncomputable def WArgs (c : Cx) (env : Env) : List PySem.Expr → Lm → Hp → (List AV → Lm → Hp → Prop) → Prop
  | [], m, H, Q => Q [] m H
  | e :: rest, m, H, Q => starEach (e :: rest) env = (false, eval e env) :: starEach rest env ∧ WE c env e m H fun a m1 H1 => WArgs c env rest m1 H1 fun as m2 H2 => Q (a :: as) m2 H2
theorem a_nil {Q : List AV → Lm → Hp → Prop} (h : Q [] m H) : WArgs c env [] m H Q := h
theorem a_cons {e : PySem.Expr} {rest : List PySem.Expr} {Q : List AV → Lm → Hp → Prop} (h : WE c env e m H fun a m1 H1 => WArgs c env rest m1 H1 fun as m2 H2 => Q (a :: as) m2 H2)
    (he : starEach (e :: rest) env = (false, eval e env) :: starEach rest env := by rfl) : WArgs c env (e :: rest) m H Q := ⟨he, h⟩
theorem WArgs.spliced : ∀ {es : List PySem.Expr} {m : Lm} {H : Hp} {Q : List AV → Lm → Hp → Prop}, WArgs c env es m H Q → W c Reps (spliced (backTo pos (starEach es env))) m H Q
  | [], m, H, Q, h => fun s S => wpAny_items_nil ⟨[], m, H, .nil, S, .rfl', h⟩
  | e :: rest, m, H, Q, ⟨he, h⟩ => fun s S =>
    wpAny_items_cons (wmono (h s S) (fun v s1 a m1 H1 r S1 z q => wmono (WArgs.spliced q s1 S1) (fun vs s2 as m2 H2 rs S2 z2 q2 => ⟨a :: as, m2, H2, .cons r rs, S2, z.trans z2, q2⟩) fun _ _ x => x) fun _ _ x => x) he
theorem WArgs.plain : ∀ {es : List PySem.Expr} {m : Lm} {H : Hp} {Q : List AV → Lm → Hp → Prop}, WArgs c env es m H Q → ∀ e rest, es = e :: rest → starEach (e :: rest) env = (false, eval e env) :: starEach rest env
  | _ :: _, _, _, _, ⟨he, _⟩, _, _, rfl => he
noncomputable def WC (c : Cx) (f : Value) (as : List AV) (m : Lm) (H : Hp) (Q : AV → Lm → Hp → Prop) : Prop := ∀ vs, Reps as vs → W c rep (call f vs) m H Q
noncomputable def WCW (c : Cx) (env : Env) (pos : Pos) (f : Value) (first : List AV) (es : List PySem.Expr) (m : Lm) (H : Hp) (Q : AV → Lm → Hp → Prop) : Prop :=
  ∀ fs, Reps first fs → W c rep (callWith pos f fs (backTo pos (starEach es env)) []) m H Q
theorem WArgs.evalArgs {es : List PySem.Expr} {f : Value} {s : Shared} {P : Args → Shared → Prop} {QA : List AV → Lm → Hp → Prop} (h : WArgs c env es m H QA) (S : ASt c m H s.heap)
    (hp : ∀ as vs m1 H1 s1, Reps as vs → ASt c m1 H1 s1.heap → Rest s s1 → QA as m1 H1 → P ⟨vs, []⟩ s1) :
    wpAny (model pw c.w) c.A (evalArgs f true (backTo pos (starEach es env)) []) P (fun _ _ => False) s := by
  cases es with
  | nil => exact PyProof.Rows.evalArgs_none (hp [] [] m H s .nil S .rfl' h)
  | cons e rest =>
    have h' := WArgs.spliced (pos := pos) h s S
    rw [h.1] at h' ⊢
    exact evalArgs_plain (wpAny_mono h' (fun vs s1 ⟨as, m1, H1, r, S1, z, q⟩ => hp as vs m1 H1 s1 r S1 z q) fun _ _ x => x)
noncomputable def noStar (pos : Pos) (es : List PySem.Expr) (env : Env) : Prop := ((backTo pos (starEach es env)).any fun x => x.1) = false
theorem cw_builtin {id : String} {first : List AV} {es : List PySem.Expr} (hn : noStar pos es env) (h : WArgs c env es m H fun as m1 H1 => WC c (.builtin id) (first ++ as) m1 H1 Q) : WCW c env pos (.builtin id) first es m H Q := fun fs rf s S =>
  callWith_builtin hn (h.evalArgs S fun as vs m1 H1 s1 r S1 z q => (q _ (rf.append r)).from S1 z)
theorem cw_type {T : String} {first : List AV} {es : List PySem.Expr} (hn : noStar pos es env) (h : WArgs c env es m H fun as m1 H1 => WC c (.type T) (first ++ as) m1 H1 Q) : WCW c env pos (.type T) first es m H Q := fun fs rf s S =>
  PyProof.Rows.callWith_type hn (h.evalArgs S fun as vs m1 H1 s1 r S1 z q => (q _ (rf.append r)).from S1 z)
theorem cw_top {f : Addr} {first : List AV} {es : List PySem.Expr} (Bk : BOk c.w c.hB) (hk : keepIn (KX c.w.params) (.ref f) = true) (hn : noStar pos es env) (h : WArgs c env es m H fun as m1 H1 => WC c (.ref f) (first ++ as) m1 H1 Q) : WCW c env pos (.ref f) first es m H Q := fun fs rf s S => by
  have key : ∀ (s1 : Shared) m1 H1, ASt c m1 H1 s1.heap → (KX c.w.params).In s1.heap := fun s1 m1 H1 S1 => by
    obtain ⟨mm, F⟩ := S1.frame
    exact Bk.X.keeps F.keep
  cases es with
  | nil => exact callWith_K0 (key s m H S) hk ((h _ (rf.append .nil)).from S .rfl')
  | cons e rest =>
    refine callWith_K Bk.X hk (wmono (WArgs.spliced (pos := pos) h s S) (fun vs s1 as m1 H1 r S1 z q => ⟨key s1 m1 H1 S1, (q _ (rf.append r)).from S1 z⟩) fun _ _ x => x) h.1 ?_
    have := hn
    unfold noStar at this
    rw [h.1] at this
    simpa [backTo] using this
theorem cw_held {f : Addr} {o : Obj} {fd : FuncData} {first : List AV} {es : List PySem.Expr} (hd : o.data = .func fd) (h : WArgs c env es m H fun as m1 H1 => H1 f = some (.raw o) ∧ WC c (.ref f) (first ++ as) m1 H1 Q) : WCW c env pos (.ref f) first es m H Q := fun fs rf s S =>
  callWith_function (o := o) (fd := fd) (h.evalArgs S fun as vs m1 H1 s1 r S1 z q => by
    obtain ⟨o', h1, h2⟩ := S1.at_ q.1
    cases h2
    exact ⟨⟨h1, hd⟩, (q.2 _ (rf.append r)).from S1 z⟩)
theorem e_call {id : Str} {p : Pos} {es : List PySem.Expr} (h : WE c env (.Name id p) m H fun f m1 H1 => ∀ v, rep f v → WCW c env pos v [] es m1 H1 Q) : WE c env (.Call (.Name id p) es [] pos) m H Q := fun s S =>
  wpAny_Call_NameR (wmono (h s S) (fun v s1 f m1 H1 r S1 z q => (q v r [] .nil).from S1 z) fun _ _ x => x)
noncomputable def WGM (c : Cx) (ov : AV) (name : Str) (m : Lm) (H : Hp) (Q : Value → List AV → Lm → Hp → Prop) : Prop :=
  ∀ v (pl : Sem Bool), rep ov v → ∀ s, ASt c m H s.heap → wpAny (model pw c.w) c.A (getMethod v name pl) (fun x s' => ∃ as m' H', Reps as x.2 ∧ ASt c m' H' s'.heap ∧ Rest s s' ∧ Q x.1 as m' H') (fun _ _ => False) s
theorem e_method {o : PySem.Expr} {name : Str} {apos : Pos} {es : List PySem.Expr} (pl : Sem Bool) (h : WE c env o m H fun ov m1 H1 => WGM c ov name m1 H1 fun f first m2 H2 => WCW c env pos f first es m2 H2 Q)
    (he : eval ((o.Attribute name apos).Call es [] pos) env = (do
          let ov ← eval o env
          standAt apos.atName
          let __x ← holding [ov] (getMethod ov name pl)
          match __x with
            | (f, first) => callWith pos f first (backTo pos (starEach es env)) (backToKw pos (keywordEach [] env)))) : WE c env (.Call (.Attribute o name apos) es [] pos) m H Q := fun s S =>
  methodCall_KW (pl := pl) (wmono (h s S) (fun v s1 ov m1 H1 r S1 z q => wmono (q v pl r s1 S1) (fun x s2 as m2 H2 r2 S2 z2 q2 => (q2 x.2 r2).from S2 (z.trans z2)) fun _ _ x => x) fun _ _ x => x) he
theorem gm_str {l : List Nat} {name : Str} {id : String} {Q : Value → List AV → Lm → Hp → Prop} (slot : Slot "str" name id) (hty : typeOf (.builtin id) = pure (.type "method_descriptor")) (h : Q (.builtin id) [.str l] m H) : WGM c (.str l) name m H Q := fun v pl r s S => by
  obtain ⟨t, rfl⟩ := r
  exact getMethod_builtin (typeIs_str _ _ _) PySem.F.plainAttrs_str slot hty (fun a e => nomatch e) ⟨[.str l], m, H, .cons ⟨t, rfl⟩ .nil, S, .rfl', h⟩
theorem gm_list {a : Addr} {l : List AV} {name : Str} {id : String} {Q : Value → List AV → Lm → Hp → Prop} (e : H a = some (.list l)) (slot : Slot "list" name id) (hty : typeOf (.builtin id) = pure (.type "method_descriptor")) (h : Q (.builtin id) [.ref a] m H) : WGM c (.ref a) name m H Q := fun v pl r s S => by
  cases r
  obtain ⟨o, h1, vs, n, rfl, _⟩ := S.at_ e
  exact getMethod_builtin ⟨_, h1, rfl⟩ PySem.F.plainAttrs_list slot hty (fun a e => by cases e; exact ⟨_, h1, rfl⟩) ⟨[.ref a], m, H, .cons rfl .nil, S, .rfl', h⟩
end
end Mine
end
section
open PySem PySem.W PySem.Calls PyProof.Rows
set_option Elab.async false
set_option maxRecDepth 100000
set_option maxHeartbeats 1000000
set_option linter.unusedVariables false
set_option linter.unusedSimpArgs false
namespace Mine
noncomputable def AOk (d : Nat) (A : Around) : Prop := A.handled = none ∧ A.depth + d ≤ 990 ∧ A.units + 8 * d ≤ 9000
noncomputable def Keep (mu : List Addr) (H H' : Hp) : Prop := ∀ a o, H a = some o → a ∉ mu → H' a = some o
theorem Keep.refl {mu : List Addr} {H : Hp} : Keep mu H H := fun _ _ e _ => e
theorem Keep.trans {mu : List Addr} {H H' H'' : Hp} (x : Keep mu H H') (y : Keep mu H' H'') : Keep mu H H'' := fun a o e n => y a o (x a o e n) n
theorem Keep.hup {mu : List Addr} {H : Hp} {a : Addr} {o : AO} (h : H a = none ∨ a ∈ mu) : Keep mu H (hup H a o) := fun b bo e n => by
  by_cases q : b = a
  · subst q
    rcases h with h | h
    · rw [h] at e; cases e
    · exact absurd h n
  · exact (hup_ne q).trans e
theorem Keep.sub {mu mu' : List Addr} {H H' : Hp} (h : Keep mu H H') (s : ∀ a ∈ mu, a ∈ mu') : Keep mu' H H' := fun a o e n => h a o e fun q => n (s a q)
noncomputable def CC (c : Cx) (f : Value) (as : List AV) (m : Lm) (H : Hp) (Q : AV → Lm → Hp → Prop) : Prop := ∀ vs, Reps as vs → ∀ s, ASt c m H s.heap →
  codeAny (model pw c.w) c.A (.call f ⟨vs, []⟩) (fun r s' => match r with | .ok (.ret v) => ∃ b m' H', rep b v ∧ ASt c m' H' s'.heap ∧ Rest s s' ∧ Q b m' H' | .ok _ => False | .error _ => False) s
theorem CC.wc {c : Cx} {f : Value} {as : List AV} {m : Lm} {H : Hp} {Q : AV → Lm → Hp → Prop} (h : CC c f as m H Q) : WC c f as m H Q := fun vs rv s S => wpAny_call (h vs rv s S)
theorem CC.mono {c : Cx} {f : Value} {as : List AV} {m : Lm} {H : Hp} {Q Q' : AV → Lm → Hp → Prop} (h : CC c f as m H Q) (k : ∀ a m H, Q a m H → Q' a m H) : CC c f as m H Q' := fun vs rv s S => codeAny_mono (h vs rv s S) fun r s' z => by
  rcases r with e | (v | _ | _ | _)
  · exact z
  · exact z
  · exact z
  · exact z
  · obtain ⟨b, m', H', r, S', z, q⟩ := z
    exact ⟨b, m', H', r, S', z, k _ _ _ q⟩
noncomputable def FC (w : World) (hB : Heap) (d : Nat) (f : Addr) (as : List AV) (pre : Hp → Prop) (mu : List Addr) (post : AV → Hp → Hp → Prop) : Prop :=
  ∀ (c : Cx) (m : Lm) (H : Hp), c.w = w → c.hB = hB → AOk d c.A → pre H → CC c (.ref f) as m H fun av m' H' => m' = m ∧ Keep mu H H' ∧ post av H H'
theorem zip_lookup {x : Str} {av : AV} : ∀ {params : List Str} {as : List AV} {vs : List Value}, Reps as vs → (params.zip as).lookup x = some av → ∃ v, (params.zip vs).lookup x = some v ∧ rep av v
  | [], _, _, _, h => by simp at h
  | _ :: _, _, _, .nil, h => by simp at h
  | p :: ps, a :: as, v :: vs, .cons r rs, h => by
    rw [List.zip_cons_cons, List.lookup_cons] at h ⊢
    cases q : x == p with
    | true => rw [q] at h; cases h; exact ⟨v, rfl, r⟩
    | false => rw [q] at h; exact zip_lookup rs h
theorem Reps.reverse {as vs} (h : Reps as vs) : Reps as.reverse vs.reverse := by
  induction h with
  | nil => exact .nil
  | cons r _ ih => rw [List.reverse_cons, List.reverse_cons]; exact ih.append (.cons r .nil)
theorem zip_rev {α β : Type} : ∀ (as : List α) (bs : List β), as.length = bs.length → (as.zip bs).reverse = as.reverse.zip bs.reverse
  | [], [], _ => rfl
  | a :: as, b :: bs, h => by
    have h' : as.length = bs.length := by simpa using h
    rw [List.zip_cons_cons, List.reverse_cons, zip_rev as bs h', List.reverse_cons, List.reverse_cons, List.zip_append (by simp [h'])]; rfl
structure DefOk (w : World) (f : Addr) (fd : FuncData) (body : List Stmt) (params : List Str) : Prop where
  look : ∃ o, (KX w.params).lookup f = some o ∧ o.data = .func fd
  body : fd.body = .stmts body
  code : codeIn (KX w.params) fd.code fd.qualname = true
  binds : ∀ vs : List Value, vs.length = params.length → bindArgs fd ⟨vs, []⟩ = pure (params.zip vs)
  loc : ∀ x ∈ params, fd.scope.names.lookup x = some .local
  nocell : ∀ x ∈ fd.scope.names, x.2 ≠ .cell
  co : fd.scope.isCoroutine = false
  gen : fd.scope.isGenerator = false
  kind : fd.scope.kind = .function
theorem FC.enter {w : World} {hB : Heap} {d : Nat} {f : Addr} {as : List AV} {pre : Hp → Prop} {mu : List Addr} {post : AV → Hp → Hp → Prop} {fd : FuncData} {body : List Stmt} {params : List Str} (Bk : BOk w hB) (K : DefOk w f fd body params) (hl : as.length = params.length)
    (h : ∀ A L fs H, AOk d A → pre H → WSS ⟨w, hB, A, L, fs⟩ (callEnv fd L f) body (params.zip as).reverse H fun fl m' H' => ∃ av, (fl = .ret av ∨ (fl = .next ∧ av = .none)) ∧ Keep mu H H' ∧ post av H H') :
    FC w hB (d + 1) f as pre mu post := by
  rintro ⟨w', hB', A, L, fs⟩ m H rfl rfl hA hp vs rv s S
  obtain ⟨⟨mm, F, hm⟩, ob, dom, fro, off⟩ := S
  obtain ⟨o, hlk, hdat⟩ := K.look
  obtain ⟨oL, esL, epL, hoL, hnL⟩ := F.ns
  have X := Bk.X.keeps F.keep
  have hlv : vs.length = params.length := rv.length ▸ hl
  refine (codeAny_call_def (fd := fd) (body := body) (binds := params.zip vs) (by show A.depth < 1000; have := hA.2.1; simp only at this; (first | lia | omega)) (X _ _ hlk) hdat (Bk.nolimit.keeps F.keep) (codeRec_of X K.code) K.body (BindsTo.of_eq (K.binds vs hlv)) K.nocell
    (fun x hx => K.loc x.1 (List.of_mem_zip hx).1) (fun h₀ hns hk => ?_) K.co K.gen K.kind)
  have hLs : L < s.heap.objs.size := Heap.lt_size hoL
  have hBn : ∀ a, hB'.objs.size ≤ a → hB'.get? a = none := fun a q => Heap.get?_none_of_le q
  have S' : ASt ⟨w', hB', A.deeper (callEnv fd s.heap.objs.size f), s.heap.objs.size, (L, oL) :: fs⟩ (params.zip as).reverse H h₀ := by
    refine ⟨⟨_, ⟨hns, fun b o e => hk b o (F.keep b o e), Nat.le_trans F.above (Nat.le_of_lt hLs)⟩, fun x av e => ?_⟩, fun a ao e => ?_, dom, fun p hp => ?_, fun p hp => ?_⟩
    · rw [zip_rev _ _ hl.symm] at e
      rw [zip_rev _ _ hlv.symm]
      exact zip_lookup rv.reverse e
    · obtain ⟨o, h1, h2, h3, h4⟩ := ob a ao e
      exact ⟨o, hk _ _ h1, h2, Nat.ne_of_lt (Heap.lt_size h1), h4⟩
    · rcases List.mem_cons.mp hp with rfl | hp
      · exact ⟨hk _ _ hoL, Nat.ne_of_lt hLs, hBn L F.above⟩
      · exact ⟨hk _ _ (fro p hp).1, Nat.ne_of_lt (Heap.lt_size (fro p hp).1), (fro p hp).2.2⟩
    · rcases List.mem_cons.mp hp with rfl | hp
      · cases q : H L with
        | none => rfl
        | some ao => obtain ⟨o, _, _, h3, _⟩ := ob L ao q; exact absurd rfl h3
      · exact off p hp
  refine wpAny_mono (h (A.deeper (callEnv fd s.heap.objs.size f)) s.heap.objs.size ((L, oL) :: fs) H ⟨hA.1, by have := hA.2.1; show A.depth + 1 + d ≤ 990; simp only at this; (first | lia | omega), by have := hA.2.2; show A.units + 3 + 8 * d ≤ 9000; simp only at this; (first | lia | omega)⟩ hp { s with heap := h₀, toks := s.toks + (params.zip vs).length } S') ?_ (fun _ _ x => x.elim)
  rintro fl s' ⟨af, m', H', r, S2, z, av, hfl, kp, q⟩
  have back : ASt ⟨w', hB', A, L, fs⟩ m H' s'.heap := by
    obtain ⟨⟨mm', F', hm'⟩, ob', dom', fro', off'⟩ := S2
    have hL' := fro' (L, oL) (.head _)
    refine ⟨⟨mm, ⟨⟨oL, esL, epL, hL'.1, hnL⟩, F'.keep, F.above⟩, hm⟩, fun a ao e => ?_, dom', fun p hp => ⟨(fro' p (List.mem_cons_of_mem _ hp)).1, (fro p hp).2⟩, fun p hp => off' p (List.mem_cons_of_mem _ hp)⟩
    obtain ⟨o, h1, h2, h3, h4⟩ := ob' a ao e
    exact ⟨o, h1, h2, fun q => (by have := off' (L, oL) (.head _); rw [q] at e; rw [e] at this; cases this), h4⟩
  rcases hfl with rfl | ⟨rfl, rfl⟩
  · obtain ⟨v, rfl, rv⟩ := r
    exact ⟨av, m, H', rv, back, z, rfl, kp, q⟩
  · cases r
    exact ⟨.none, m, H', rfl, back, z, rfl, kp, q⟩
theorem cc_def {w : World} {hB : Heap} {d : Nat} {f : Addr} {as : List AV} {pre : Hp → Prop} {mu : List Addr} {post : AV → Hp → Hp → Prop} {c : Cx} {m : Lm} {H : Hp} {Q : AV → Lm → Hp → Prop} (C : FC w hB d f as pre mu post) (h1 : c.w = w) (h2 : c.hB = hB) (hA : AOk d c.A) (hp : pre H)
    (h : ∀ av H', Keep mu H H' → post av H H' → Q av m H') : CC c (.ref f) as m H Q :=
  (C c m H h1 h2 hA hp).mono fun av m' H' ⟨e, k, q⟩ => by subst e; exact h av H' k q
theorem c_def {w : World} {hB : Heap} {d : Nat} {f : Addr} {as : List AV} {pre : Hp → Prop} {mu : List Addr} {post : AV → Hp → Hp → Prop} {c : Cx} {m : Lm} {H : Hp} {Q : AV → Lm → Hp → Prop} (C : FC w hB d f as pre mu post) (h1 : c.w = w) (h2 : c.hB = hB) (hA : AOk d c.A) (hp : pre H)
    (h : ∀ av H', Keep mu H H' → post av H H' → Q av m H') : WC c (.ref f) as m H Q := (cc_def C h1 h2 hA hp h).wc
end Mine
end
section
open PySem PySem.W PySem.Calls PyProof.Rows
set_option Elab.async false
set_option maxRecDepth 100000
set_option maxHeartbeats 1000000
set_option linter.unusedVariables false
set_option linter.unusedSimpArgs false
namespace Mine
section
variable {c : Cx} {env : Env} {m : Lm} {H : Hp} {Q : AV → Lm → Hp → Prop} {QF : AF → Lm → Hp → Prop} {QB : Bool → Lm → Hp → Prop} {pos : Pos} {k : Nat}
structure EnvOk (env : Env) (L : Addr) : Prop where
  kind : env.scope.kind = .function
  loc : env.locals = L
  glob : env.globals = mainGlobals
  bi : env.builtins = builtinsNs
theorem stores {f : Str → Value → Sem Unit} {as : List AV} {vs : List Value} (hr : Reps as vs) : ∀ {names : List Str} {m : Lm} {H : Hp}, (∀ n ∈ names, ∀ a v m H, rep a v → W c (fun (_ : Unit) (_ : Unit) => True) (f n v) m H fun _ m' H' => m' = (n, a) :: m ∧ H' = H) → names.length = as.length →
    W c (fun (_ : Unit) (_ : Unit) => True) (assignInOrder (names.map f) vs) m H fun _ m' H' => m' = (names.zip as).reverse ++ m ∧ H' = H := by
  induction hr with
  | nil =>
    intro names m H hf hl
    cases names with
    | nil => exact fun s S => PyProof.Rows.assignInOrder_nil ⟨(), m, H, trivial, S, .rfl', rfl, rfl⟩
    | cons n ns => cases hl
  | @cons a v as vs r rs ih =>
    intro names m H hf hl
    cases names with
    | nil => cases hl
    | cons n ns =>
      exact fun s S => PyProof.Rows.assignInOrder_cons (wmono (hf n (.head _) a v m H r s S) (fun _ s1 _ m1 H1 _ S1 z ⟨e1, e2⟩ => by
        subst e1 e2
        refine wmono (ih (fun n hn => hf n (List.mem_cons_of_mem _ hn)) (by simpa using hl) s1 S1) (fun _ s2 _ m2 H2 _ S2 z2 ⟨e1, e2⟩ => ?_) fun _ _ x => x
        subst e1 e2
        exact ⟨(), _, _, trivial, S2, z.trans z2, by simp, rfl⟩) fun _ _ x => x)
theorem store_bind {n : Str} {a : AV} {v : Value} (E : EnvOk env c.L) (hx : env.kindOf n = some .local) (r : rep a v) : W c (fun (_ : Unit) (_ : Unit) => True) (bindName env n v) m H fun _ m' H' => m' = (n, a) :: m ∧ H' = H := fun s S =>
  wpAny_bindName (store_local E.kind hx E.loc r ⟨rfl, rfl⟩ s S)
theorem s_swap {names : List Str} {elts es : List PySem.Expr} {k k2 : Nat} {p1 p2 : Pos} (E : EnvOk env c.L) (hh : c.A.handled = none) (hx : ∀ n ∈ names, env.kindOf n = some .local) (hw : swappedStores [.Tuple elts k p1] (.Tuple es k2 p2) env = pure (some names))
    (hsz : names.length ≤ 100)
    (h : WArgs c env es m H fun as m1 H1 => as.length = names.length ∧ QF .next (names.zip as ++ m1) H1) : WS c env (.Assign [.Tuple elts k p1] (.Tuple es k2 p2) pos) m H QF := fun s S => by
  refine PyProof.Rows.Assign_Tuple_swapped (names := names) (wpAny_Tuple (wmono (WArgs.spliced h s S) (fun vs s1 as m1 H1 rs S1 z q => ?_) fun _ _ x => x)) rfl hw
  have hl := rs.length
  refine ⟨?_, ?_⟩
  · rw [sizeLine_eq]; have := q.1; (first | lia | omega)
  · have e : names.length = vs.toArray.size := by rw [List.size_toArray, ← hl, q.1]
    have e' := unpackItems_tuple (prog := pw) (w := c.w) (A := c.A) (E := fun _ _ => False) (s := { s1 with heap := s1.heap.push { cls := .type "tuple", data := .seq vs.toArray } }) (t := s1.heap.objs.size) (items := vs.toArray)
      (Q := fun items s₂ => wpAny (model pw c.w) c.A (assignInOrder (names.reverse.map fun n => bindName env n) items.reverse) (fun _ s' => ∃ b m' H', repF b Flow.next ∧ ASt c m' H' s'.heap ∧ Rest s s' ∧ QF b m' H') (fun _ _ => False) s₂) hh ⟨_, Heap.get?_push_size _ rfl, rfl, 0, rfl⟩ (fun h' he => ?_)
    · rw [← e] at e'; exact e'
    · have S2 : ASt c m1 H1 h' := (S1.push _).keeps fun b o eb => he b o (Nat.ne_of_lt (Heap.lt_size eb)) eb
      refine wmono (stores (f := fun n => bindName env n) (as := as.reverse) rs.reverse (names := names.reverse) (fun n hn a v m H r => store_bind E (hx n (List.mem_reverse.mp hn)) r) (by simp [q.1]) _ S2) (fun _ s3 _ m3 H3 _ S3 z3 ⟨e1, e2⟩ => ?_) fun _ _ x => x
      subst e1 e2
      refine ⟨.next, _, _, rfl, S3, z.trans z3, ?_⟩
      rw [zip_rev _ _ (by simp [q.1]), List.reverse_reverse, List.reverse_reverse]
      exact q.2
theorem e_tuple {es : List PySem.Expr} {k : Nat} (h : WArgs c env es m H fun as m1 H1 => as.length ≤ 100 ∧ ∀ a, H1 a = none → Q (.ref a) m1 (hup H1 a (.tup as))) : WE c env (.Tuple es k pos) m H Q := fun s S =>
  wpAny_Tuple (wmono (WArgs.spliced h s S) (fun vs s1 as m1 H1 rs S1 z q =>
    ⟨by rw [sizeLine_eq]; have := rs.length; have := q.1; (first | lia | omega), .ref s1.heap.objs.size, m1, _, rfl, S1.newPush (ao := .tup as) (o := { cls := .type "tuple", data := .seq vs.toArray }) ⟨vs, 0, rfl, rs⟩ rfl, z, q.2 _ S1.free⟩) fun _ _ x => x)
theorem e_list {es : List PySem.Expr} (h : WArgs c env es m H fun as m1 H1 => as.length ≤ 1000 ∧ ∀ a, H1 a = none → Q (.ref a) m1 (hup H1 a (.list as))) : WE c env (.List es pos) m H Q := fun s S =>
  wpAny_List (wmono (WArgs.spliced h s S) (fun vs s1 as m1 H1 rs S1 z q =>
    ⟨by rw [sizeLine_eq]; have := rs.length; have := q.1; (first | lia | omega), .ref s1.heap.objs.size, m1, _, rfl, S1.newPush (ao := .list as) (o := listOf vs.toArray 0) ⟨vs, 0, rfl, rs⟩ rfl, z, q.2 _ S1.free⟩) fun _ _ x => x)
noncomputable def seqAt (H : Hp) (a : Addr) (l : List AV) : Prop := H a = some (.list l) ∨ H a = some (.tup l)
theorem un_seq {a : Addr} {l : List AV} {n : Nat} {QL : List AV → Lm → Hp → Prop} (hh : c.A.handled = none) (e : seqAt H a l) (hn : l.length = n) (h : QL l m H) : W c Reps (unpackItems (.ref a) n none) m H QL := fun s S => by
  rcases e with e | e
  · obtain ⟨o, h1, vs, k, rfl, rs⟩ := S.at_ e
    have e' := kun_itemsOf (prog := pw) (w := c.w) (A := c.A) (E := fun _ _ => False) (s := s) (l := a) (items := vs.toArray)
      (Q := fun a s' => ∃ b m' H', Reps b a ∧ ASt c m' H' s'.heap ∧ Rest s s' ∧ QL b m' H') hh ⟨_, h1, rfl, k, rfl⟩ (fun h' he => ⟨l, m, H, rs, S.keeps fun b o eb => he b o (Nat.ne_of_lt (Heap.lt_size eb)) eb, ⟨rfl, rfl, rfl⟩, h⟩)
    rw [List.size_toArray, ← rs.length, hn] at e'; exact e'
  · obtain ⟨o, h1, vs, k, rfl, rs⟩ := S.at_ e
    have e' := unpackItems_tuple (prog := pw) (w := c.w) (A := c.A) (E := fun _ _ => False) (s := s) (t := a) (items := vs.toArray)
      (Q := fun a s' => ∃ b m' H', Reps b a ∧ ASt c m' H' s'.heap ∧ Rest s s' ∧ QL b m' H') hh ⟨_, h1, rfl, k, rfl⟩ (fun h' he => ⟨l, m, H, rs, S.keeps fun b o eb => he b o (Nat.ne_of_lt (Heap.lt_size eb)) eb, ⟨rfl, rfl, rfl⟩, h⟩)
    rw [List.size_toArray, ← rs.length, hn] at e'; exact e'
theorem store_assign {n : Str} {p : Pos} {a : AV} {v : Value} (E : EnvOk env c.L) (hx : env.kindOf n = some .local) (r : rep a v) : W c (fun (_ : Unit) (_ : Unit) => True) (assign (.Name n p) env v) m H fun _ m' H' => m' = (n, a) :: m ∧ H' = H := fun s S =>
  PyProof.Rows.assign_Name (store_local E.kind hx E.loc r ⟨rfl, rfl⟩ s S)
theorem as_two {x y : Str} {p q tp : Pos} {k : Nat} {a : Addr} {u v : AV} (E : EnvOk env c.L) (hh : c.A.handled = none) (hx : env.kindOf x = some .local) (hy : env.kindOf y = some .local) (e : seqAt H a [u, v]) :
    W c (fun (_ : Unit) (_ : Unit) => True) (assign (.Tuple [.Name x p, .Name y q] k tp) env (.ref a)) m H fun _ m' H' => m' = (y, v) :: (x, u) :: m ∧ H' = H := fun s S => by
  rw [assign_Tuple]
  refine wpAny_bind (wpAny_standAt (wpAny_bind (wpAny_holding (wmono (un_seq (QL := fun l m1 H1 => l = [u, v] ∧ m1 = m ∧ H1 = H) hh e rfl ⟨rfl, rfl, rfl⟩ s S) (fun vs s1 l m1 H1 rs S1 z ⟨e1, e2, e3⟩ => ?_) fun _ _ x => x))))
  subst e1 e2 e3
  cases rs with
  | cons r1 rs => cases rs with
    | cons r2 rs => cases rs with
      | nil =>
        refine PyProof.Rows.assignInOrder_cons (wmono (store_assign E hx r1 s1 S1) (fun _ s2 _ m2 H2 _ S2 z2 ⟨e1, e2⟩ => ?_) fun _ _ x => x)
        subst e1 e2
        refine PyProof.Rows.assignInOrder_cons (wmono (store_assign E hy r2 s2 S2) (fun _ s3 _ m3 H3 _ S3 z3 ⟨e1, e2⟩ => ?_) fun _ _ x => x)
        subst e1 e2
        exact PyProof.Rows.assignInOrder_nil ⟨(), _, _, trivial, S3, (z.trans z2).trans z3, rfl, rfl⟩
theorem as_three {x y w' : Str} {p q r tp : Pos} {k : Nat} {a : Addr} {u v t : AV} (E : EnvOk env c.L) (hh : c.A.handled = none) (hx : env.kindOf x = some .local) (hy : env.kindOf y = some .local) (hw : env.kindOf w' = some .local) (e : seqAt H a [u, v, t]) :
    W c (fun (_ : Unit) (_ : Unit) => True) (assign (.Tuple [.Name x p, .Name y q, .Name w' r] k tp) env (.ref a)) m H fun _ m' H' => m' = (w', t) :: (y, v) :: (x, u) :: m ∧ H' = H := fun s S => by
  rw [assign_Tuple]
  refine wpAny_bind (wpAny_standAt (wpAny_bind (wpAny_holding (wmono (un_seq (QL := fun l m1 H1 => l = [u, v, t] ∧ m1 = m ∧ H1 = H) hh e rfl ⟨rfl, rfl, rfl⟩ s S) (fun vs s1 l m1 H1 rs S1 z ⟨e1, e2, e3⟩ => ?_) fun _ _ x => x))))
  subst e1 e2 e3
  cases rs with
  | cons r1 rs => cases rs with
    | cons r2 rs => cases rs with
      | cons r3 rs => cases rs with
        | nil =>
          refine PyProof.Rows.assignInOrder_cons (wmono (store_assign E hx r1 s1 S1) (fun _ s2 _ m2 H2 _ S2 z2 ⟨e1, e2⟩ => ?_) fun _ _ x => x)
          subst e1 e2
          refine PyProof.Rows.assignInOrder_cons (wmono (store_assign E hy r2 s2 S2) (fun _ s3 _ m3 H3 _ S3 z3 ⟨e1, e2⟩ => ?_) fun _ _ x => x)
          subst e1 e2
          refine PyProof.Rows.assignInOrder_cons (wmono (store_assign E hw r3 s3 S3) (fun _ s4 _ m4 H4 _ S4 z4 ⟨e1, e2⟩ => ?_) fun _ _ x => x)
          subst e1 e2
          exact PyProof.Rows.assignInOrder_nil ⟨(), _, _, trivial, S4, ((z.trans z2).trans z3).trans z4, rfl, rfl⟩
theorem s_unpack {elts : List PySem.Expr} {k : Nat} {tp : Pos} {value : PySem.Expr} (h : WE c env value m H fun av m1 H1 => ∀ v, rep av v → W c (fun (_ : Unit) (_ : Unit) => True) (assign (.Tuple elts k tp) env v) m1 H1 fun _ m2 H2 => QF .next m2 H2)
    (hs : swapsWithSole [.Tuple elts k tp] value pos.line env = pure false) (hw : swappedStores [.Tuple elts k tp] value env = pure none) : WS c env (.Assign [.Tuple elts k tp] value pos) m H QF := fun s S =>
  PyProof.Rows.Assign_Tuple (wmono (h s S) (fun v s1 av m1 H1 r S1 z q => wmono (q v r s1 S1) (fun _ s2 _ m2 H2 _ S2 z2 q2 => ⟨.next, m2, H2, rfl, S2, z.trans z2, q2⟩) fun _ _ x => x) fun _ _ x => x) hs hw

theorem o_add_str {a b : List Nat} (hz : a.length + b.length ≤ 1000000) (h : Q (.str (a ++ b)) m H) : WO2 c (binaryOp .Add) (.str a) (.str b) m H Q := fun x y ⟨t, e⟩ ⟨u, e'⟩ => by
  subst e e'
  exact fun s S => PyProof.Rows.add_str (fun t' tk => ⟨.str (a ++ b), m, H, ⟨t', by show Value.str ⟨a.toArray ++ b.toArray⟩ t' = _; simp⟩, S, ⟨rfl, rfl, rfl⟩, h⟩) (by rw [sizeLine_eq]; show a.toArray.size + b.toArray.size ≤ _; simp; (first | lia | omega))
theorem o_iadd_str {a b : List Nat} (hz : a.length + b.length ≤ 1000000) (h : Q (.str (a ++ b)) m H) : WO2 c (inplaceOp .Add) (.str a) (.str b) m H Q := fun x y ⟨t, e⟩ ⟨u, e'⟩ => by
  subst e e'
  exact fun s S => PyProof.Rows.iadd_str (fun t' tk => ⟨.str (a ++ b), m, H, ⟨t', by show Value.str ⟨a.toArray ++ b.toArray⟩ t' = _; simp⟩, S, ⟨rfl, rfl, rfl⟩, h⟩) (by rw [sizeLine_eq]; show a.toArray.size + b.toArray.size ≤ _; simp; (first | lia | omega))
theorem o_eq_str {a b : List Nat} (h : Q (.bool (a == b)) m H) : WO2 c (compareOp .Eq) (.str a) (.str b) m H Q := fun x y ⟨t, e⟩ ⟨u, e'⟩ => by
  subst e e'; exact fun s S => PySem.P.eq_str ⟨.bool (a == b), m, H, by simp [rep], S, .rfl', h⟩
theorem o_ne_str {a b : List Nat} (h : Q (.bool (a != b)) m H) : WO2 c (compareOp .NotEq) (.str a) (.str b) m H Q := fun x y ⟨t, e⟩ ⟨u, e'⟩ => by
  subst e e'; exact fun s S => PySem.P.ne_str ⟨.bool (a != b), m, H, by simp [rep], S, .rfl', h⟩
theorem o_in_str {a : Nat} {b : List Nat} (h : Q (.bool (decide (a ∈ b))) m H) : WO2 c (compareOp .In) (.str [a]) (.str b) m H Q := fun x y ⟨t, e⟩ ⟨u, e'⟩ => by
  subst e e'; exact fun s S => PySem.P.in_str ⟨.bool (decide (a ∈ b)), m, H, by show _ = _; rw [show ([a].toArray : Array Nat) = #[a] from rfl, StrLaws.found_one], S, .rfl', h⟩
theorem o_eq_int {a b : Int} (h : Q (.bool (a == b)) m H) : WO2 c (compareOp .Eq) (.int a) (.int b) m H Q := fun x y ⟨t, e⟩ ⟨u, e'⟩ => by
  subst e e'; exact fun s S => PyProof.Rows.eq_int ⟨.bool (a == b), m, H, rfl, S, .rfl', h⟩
theorem o_lt_int {a b : Int} (h : Q (.bool (decide (a < b))) m H) : WO2 c (compareOp .Lt) (.int a) (.int b) m H Q := fun x y ⟨t, e⟩ ⟨u, e'⟩ => by
  subst e e'; exact fun s S => PyProof.Rows.lt_int ⟨.bool _, m, H, rfl, S, .rfl', h⟩
theorem o_gt_int {a b : Int} (h : Q (.bool (decide (b < a))) m H) : WO2 c (compareOp .Gt) (.int a) (.int b) m H Q := fun x y ⟨t, e⟩ ⟨u, e'⟩ => by
  subst e e'; exact fun s S => PyProof.Rows.gt_int ⟨.bool _, m, H, rfl, S, .rfl', h⟩
theorem o_ge_int {a b : Int} (h : Q (.bool (decide (b ≤ a))) m H) : WO2 c (compareOp .GtE) (.int a) (.int b) m H Q := fun x y ⟨t, e⟩ ⟨u, e'⟩ => by
  subst e e'; exact fun s S => PyProof.Rows.ge_int ⟨.bool _, m, H, rfl, S, .rfl', h⟩
theorem o_mod_int {a b : Int} (hb : b ≠ 0) (h : Q (.int (a.fmod b)) m H) : WO2 c (binaryOp .Mod) (.int a) (.int b) m H Q := fun x y ⟨t, e⟩ ⟨u, e'⟩ => by
  subst e e'; exact fun s S => PyProof.Rows.mod_int' hb ⟨.int (a.fmod b), m, H, ⟨_, rfl⟩, S, ⟨rfl, rfl, rfl⟩, h⟩
theorem o_pow_int {a b : Int} (hb : 0 ≤ b) (hz : (Builtin.Int.intBits a : Int) * b ≤ 2 ^ 27) (h : Q (.int (a ^ b.toNat)) m H) : WO2 c (binaryOp .Pow) (.int a) (.int b) m H Q := fun x y ⟨t, e⟩ ⟨u, e'⟩ => by
  subst e e'; exact fun s S => PyProof.Rows.pow_int hb hz ⟨.int _, m, H, ⟨_, rfl⟩, S, ⟨rfl, rfl, rfl⟩, h⟩

theorem c_len_str {l : List Nat} (hz : l.length ≤ 1000000) (h : Q (.int l.length) m H) : WC c (.builtin "len") [.str l] m H Q := fun vs rs => by
  cases rs with
  | cons r rs =>
    cases rs
    obtain ⟨t, rfl⟩ := r
    exact fun s S => PySem.P.len_str (by show ¬ ((l.toArray.size : Int) ≥ 2 ^ 63); simp; (first | lia | omega)) ⟨.int l.toArray.size, m, H, ⟨_, rfl⟩, S, ⟨rfl, rfl, rfl⟩, by rw [List.size_toArray]; exact h⟩
noncomputable def fnd (a b : List Nat) : Int := Txt.find ⟨a.toArray⟩ ⟨b.toArray⟩
theorem c_find {a b : List Nat} (h : Q (.int (fnd a b)) m H) : WC c (.builtin "str.find") [.str a, .str b] m H Q := fun vs rs => by
  cases rs with
  | cons r1 rs => cases rs with
    | cons r2 rs =>
      cases rs
      obtain ⟨t, rfl⟩ := r1
      obtain ⟨u, rfl⟩ := r2
      exact fun s S => SC.find ⟨.int (fnd a b), m, H, ⟨_, rfl⟩, S, ⟨rfl, rfl, rfl⟩, h⟩
end
end Mine
end
section
open PySem PySem.W PySem.Calls PyProof.Rows
set_option Elab.async false
set_option maxRecDepth 100000
set_option maxHeartbeats 1000000
set_option linter.unusedVariables false
set_option linter.unusedSimpArgs false
namespace Mine
theorem wpAny_callBorrowed {M : Model} {A : Around} {E : Value → Shared → Prop} {s : Shared} {f : Value} {pos : List Value} {Q : Value → Shared → Prop}
    (hc : codeAny M A (.call f ⟨pos, []⟩) (fun r s' => match r with | .ok (.ret v) => Q v s' | .ok _ => False | .error e => E e s') s) : wpAny M A (callBorrowed f pos) Q E s := fun Γ p hΓ => by
  have h := hc _ p rfl (hΓ.enter (.call f ⟨pos, []⟩) none p (by intro x; cases x))
  have e : Sem.wp M Γ (callBorrowed f pos) (fun a _ s' => Q a s') (fun e _ s' => E e s') p s = wpCode M (Γ.enter (.call f ⟨pos, []⟩) none p) (fun r s' => match r with | .ok (.ret v) => Q v s' | .ok _ => False | .error e => E e s') p s := by
    unfold callBorrowed
    rw [Sem.wp_call]
    congr 1; funext r s'
    cases r with
    | error e => rfl
    | ok f => cases f <;> rfl
  show Sem.wp M Γ (callBorrowed f pos) (fun a _ s' => Q a s') (fun e _ s' => E e s') p s
  rw [e]; exact h
namespace F2
theorem slot_cit_next : Slot "callable_iterator" "__next__" "callable_iterator.__next__" :=
  .of (owner := "callable_iterator") (n := "__next__") (by rw [typeLookup_type, builtinLookup_eq_fast]; kernel_rfl) (by decide +kernel) (by decide +kernel) (by decide +kernel)
    (by first | exact .inl (by decide +kernel) | exact .inr (by decide +kernel)) (by rw [isSubtype_type]; kernel_rfl)
theorem slot_cit_iter : Slot "callable_iterator" "__iter__" "callable_iterator.__iter__" :=
  .of (owner := "callable_iterator") (n := "__iter__") (by rw [typeLookup_type, builtinLookup_eq_fast]; kernel_rfl) (by decide +kernel) (by decide +kernel) (by decide +kernel)
    (by first | exact .inl (by decide +kernel) | exact .inr (by decide +kernel)) (by rw [isSubtype_type]; kernel_rfl)
theorem entry_cit_next : entryFor table "callable_iterator.__next__" = some Builtin.«callable_iterator.__next__» := entryFor_of_fast (by kernel_rfl)
theorem entry_cit_iter : entryFor table "callable_iterator.__iter__" = some Builtin.«dict_keyiterator.__iter__» :=
  entryFor_alias (id' := "dict_keyiterator.__iter__") (by kernel_rfl) rfl (by decide +kernel) (by kernel_rfl)
theorem args_cit_next (a : Value) : argsOk "callable_iterator.__next__" ⟨[a], []⟩ := by unfold argsOk; kernel_rfl
theorem args_cit_iter (a : Value) : argsOk "callable_iterator.__iter__" ⟨[a], []⟩ := by unfold argsOk; kernel_rfl
theorem args_iter2 (a b : Value) : argsOk "iter" ⟨[a, b], []⟩ := by unfold argsOk; kernel_rfl
end F2
noncomputable def citO (mo : Addr) (t : Tok) : Obj := { cls := .type "callable_iterator", data := .fields #[.ref mo, .str ⟨#[]⟩ t, .bool false] }
noncomputable def citEnd : Obj := { cls := .type "callable_iterator", data := .fields #[.none, .none, .bool true] }
noncomputable def repN : Option AV → Option Value → Prop
  | none, v => v = none
  | some a, v => ∃ x, v = some x ∧ rep a x
section
variable {c : Cx} {env : Env} {m : Lm} {H : Hp} {pos : Pos}
theorem raw_at {h : Heap} {a : Addr} {o : Obj} (S : ASt c m H h) (e : H a = some (.raw o)) : h.get? a = some o := by
  obtain ⟨o', h1, h2⟩ := S.at_ e
  cases h2; exact h1
theorem stop_now {A A' : Around} {s : Shared} {E : Value → Shared → Prop} {Q : Option Value → Shared → Prop} {α : Type} {P : α → Shared → Prop} (hh : A.handled = none)
    (hQ : ∀ h', (∀ b o, s.heap.get? b = some o → h'.get? b = some o) → Q none { s with heap := h' }) :
    wpAny (model pw c.w) A (Builtin.SmallTypes.stopIteration : Sem α) P (fun e s' => wpAny (model pw c.w) A' (do if ← isInstance e (.type "StopIteration") then pure none else throw e) Q E s') s := by
  show wpAny _ _ (newExc (.type "StopIteration") [] >>= _) _ _ _
  refine wpAny_bind ?_
  simp only [newExc, newTuple]
  refine wpAny_bind (wpAny_newObj_type ?_ (by size_fits))
  refine wpAny_bind (m := firstArgMember _ _) (wpAny_of_eq (a := Value.none) (by first | rfl | (simp only [firstArgMember]; rfl)) ?_)
  refine wpAny_newObj_type ?_ (by size_fits)
  simp only [raiseNew]
  refine wpAny_bind (wpAny_handled ?_)
  rw [hh]
  refine wpAny_bind (wpAny_pure (wpAny_throw ?_))
  refine wpAny_bind (wpAny_isInstance (T := "StopIteration") (b := true) ⟨_, Heap.get?_push_size _ rfl, rfl⟩ isSubtype_stop ?_)
  exact wpAny_pure (hQ _ fun b o e => Heap.get?_push_of_some _ (Heap.get?_push_of_some _ e))

theorem borrows {A : Around} {s : Shared} {mo f x : Addr} {o : Obj} {fd : FuncData} {E : Value → Shared → Prop} {Q : Bool → Shared → Prop} (hmo : s.heap.get? mo = some (methodObj (.ref f) (.ref x))) (hf : s.heap.get? f = some o) (hd : o.data = .func fd) (h : Q true s) :
    wpAny (model pw c.w) A (borrowsExactly (.ref mo)) Q E s := by
  unfold borrowsExactly
  refine wpAny_bind (wpAny_load hmo ?_)
  show wpAny _ _ (if (Value.type "method" == Value.type "method") = true then _ else _) _ _ _
  rw [if_pos (by decide)]
  refine wpAny_bind (wpAny_load hf ?_)
  rw [hd]
  exact wpAny_pure h
theorem letsGo {A : Around} {s : Shared} {mo f x : Addr} {o : Obj} {fd : FuncData} {E : Value → Shared → Prop} {Q : Unit → Shared → Prop} {who : String} {busy : Code → Bool} (hmo : s.heap.get? mo = some (methodObj (.ref f) (.ref x))) (hf : s.heap.get? f = some o) (hd : o.data = .func fd) (h : Q () s) :
    wpAny (model pw c.w) A (slotLetsGo who (.ref mo) busy) Q E s := by
  unfold slotLetsGo
  exact wpAny_bind (borrows hmo hf hd (wpAny_pure h))
theorem pn_cit {it mo f x : Addr} {t : Tok} {of : Obj} {fd : FuncData} {QN : Option AV → Lm → Hp → Prop} (Bk : BOk c.w c.hB) (hh : c.A.handled = none) (hf : (KX c.w.params).lookup f = some of) (hd : of.data = .func fd)
    (hit : H it = some (.raw (citO mo t))) (hmo : H mo = some (.raw (methodObj (.ref f) (.ref x))))
    (hc : CC { c with A := c.A.in1 } (.ref f) [.ref x] m H fun av m1 H1 => H1 it = some (.raw (citO mo t)) ∧ H1 mo = some (.raw (methodObj (.ref f) (.ref x))) ∧ ∃ l, av = .str l ∧ (l = [] → QN none m1 (hup H1 it (.raw citEnd))) ∧ (l ≠ [] → QN (some (.str l)) m1 H1)) :
    W c repN (pyNext (.ref it)) m H QN := fun s S => by
  have ho := raw_at S hit
  have hm := raw_at S hmo
  have hfh : ∀ {m1 H1} {s1 : Shared}, ASt c m1 H1 s1.heap → s1.heap.get? f = some of := fun S1 => by
    obtain ⟨mm, F⟩ := S1.frame
    exact (Bk.X.keeps F.keep) _ _ hf
  unfold pyNext
  have hT : ∀ {s1 : Shared}, s1.heap.get? it = some (citO mo t) → s1.TypeIs (.ref it) "callable_iterator" := fun e => ⟨_, e, rfl⟩
  refine wpAny_bind (wpAny_attempt (wpAny_callSpecial?_slot (name := Str.ofString "__next__") (hT ho) F2.slot_cit_next
    (wpAny_call_entry F2.slot_cit_next (hT ho) F2.entry_cit_next ?_ (F2.args_cit_next _))))
  show wpAny _ _ (field (.ref it) 2 >>= _) _ _ s
  refine wpAny_bind (wpAny_field ho rfl (x := .bool false) rfl ?_)
  show wpAny _ _ (if (Value.bool false == Value.bool true) = true then _ else _) _ _ s
  rw [if_neg (by decide)]
  show wpAny _ _ (field (.ref it) 0 >>= _) _ _ s
  refine wpAny_bind (wpAny_field ho rfl (x := .ref mo) rfl ?_)
  refine wpAny_bind (wpAny_attempt ?_)
  unfold callOutOfASlot
  refine wpAny_bind (borrows hm (hfh S) hd ?_)
  rw [if_pos rfl]
  refine wpAny_callBorrowed (method_call hm ?_)
  refine codeAny_mono (hc [.ref x] (.cons rfl .nil) s (S.around _)) fun r s1 hr => ?_
  rcases r with e | (v | _ | _ | _)
  · exact hr.elim
  · exact hr.elim
  · exact hr.elim
  · exact hr.elim
  obtain ⟨av, m1, H1, r, S1', z, e1, e2, l, rfl, q1, q2⟩ := hr
  have S1 : ASt c m1 H1 s1.heap := S1'.around c.A
  obtain ⟨t', rfl⟩ := r
  have ho1 := raw_at S1 e1
  have hm1 := raw_at S1 e2
  show wpAny _ _ (field (.ref it) 2 >>= _) _ _ _
  refine wpAny_bind (wpAny_field ho1 rfl (x := .bool false) rfl ?_)
  show wpAny _ _ (if (Value.bool false == Value.bool true) = true then _ else _) _ _ _
  rw [if_neg (by decide)]
  refine wpAny_bind (wpAny_field ho1 rfl (x := .str ⟨#[]⟩ t) rfl ?_)
  refine wpAny_bind (wpAny_holding (wpAny_eqBool_str ?_))
  cases l with
  | cons a l =>
    rw [if_pos (by simp)]
    exact wpAny_pure ⟨_, rfl, wpAny_pure ⟨some (.str (a :: l)), m1, H1, ⟨_, rfl, _, rfl⟩, S1, z, q2 (by simp)⟩⟩
  | nil =>
    rw [if_neg (by simp)]
    refine wpAny_bind (wpAny_rule ?_)
    refine wpAny_bind ?_
    show wpAny _ _ (field (.ref it) 0 >>= _) _ _ _
    refine wpAny_bind (wpAny_field ho1 rfl (x := .ref mo) rfl ?_)
    refine wpAny_bind (letsGo hm1 (hfh S1) hd ?_)
    refine wpAny_bind (wpAny_setField ho1 rfl (show 0 < 3 by decide) ?_)
    generalize hg1 : s1.heap.update it (Obj.mapFields fun x => x.setIfInBounds 0 .none) = g1
    have b1 : Heap.SameBut it s1.heap g1 := hg1 ▸ Heap.SameBut.update ..
    have o1 : g1.get? it = some { cls := .type "callable_iterator", data := .fields #[.none, .str ⟨#[]⟩ t, .bool false] } := hg1 ▸ Heap.get?_update_self _ ho1 rfl
    refine wpAny_bind (wpAny_setField (s := { s1 with heap := g1 }) o1 rfl (show 1 < 3 by decide) ?_)
    generalize hg2 : g1.update it (Obj.mapFields fun x => x.setIfInBounds 1 .none) = g2
    have b2 : Heap.SameBut it g1 g2 := hg2 ▸ Heap.SameBut.update ..
    have o2 : g2.get? it = some { cls := .type "callable_iterator", data := .fields #[.none, .none, .bool false] } := hg2 ▸ Heap.get?_update_self _ o1 rfl
    refine wpAny_setField (s := { s1 with heap := g2 }) o2 rfl (show 2 < 3 by decide) ?_
    generalize hg3 : g2.update it (Obj.mapFields fun x => x.setIfInBounds 2 (.bool true)) = g3
    have b3 : Heap.SameBut it g2 g3 := hg3 ▸ Heap.SameBut.update ..
    have o3 : g3.get? it = some citEnd := hg3 ▸ Heap.get?_update_self _ o2 rfl
    refine stop_now (A := c.A.in1) (s := { s1 with heap := g3 }) hh fun h' k => ?_
    exact ⟨none, m1, _, rfl, (S1.set (ao' := .raw citEnd) e1 ((b1.trans b2).trans b3) o3 rfl).keeps k, z, q1 rfl⟩
theorem pn_cit_end {it : Addr} {QN : Option AV → Lm → Hp → Prop} (hh : c.A.handled = none) (hit : H it = some (.raw citEnd)) (h : QN none m H) : W c repN (pyNext (.ref it)) m H QN := fun s S => by
  have ho := raw_at S hit
  unfold pyNext
  have hT : s.TypeIs (.ref it) "callable_iterator" := ⟨_, ho, rfl⟩
  refine wpAny_bind (wpAny_attempt (wpAny_callSpecial?_slot (name := Str.ofString "__next__") hT F2.slot_cit_next
    (wpAny_call_entry F2.slot_cit_next hT F2.entry_cit_next ?_ (F2.args_cit_next _))))
  show wpAny _ _ (field (.ref it) 2 >>= _) _ _ s
  refine wpAny_bind (wpAny_field ho rfl (x := .bool true) rfl ?_)
  show wpAny _ _ (if (Value.bool true == Value.bool true) = true then _ else _) _ _ s
  rw [if_pos (by decide)]
  refine wpAny_bind (wpAny_rule (wpAny_bind ?_))
  exact stop_now (A := c.A.in1) hh fun h' k => ⟨none, m, H, rfl, S.keeps k, .rfl', h⟩
theorem it_cit {it : Addr} {o : Obj} {QV : AV → Lm → Hp → Prop} (hc : o.cls = .type "callable_iterator") (hit : H it = some (.raw o)) (h : QV (.ref it) m H) : W c rep (pyIter (.ref it)) m H QV := fun s S => by
  have ho := raw_at S hit
  have hT : s.TypeIs (.ref it) "callable_iterator" := ⟨_, ho, hc⟩
  refine wpAny_pyIter_slot hT F2.slot_cit_iter (wpAny_call_entry F2.slot_cit_iter hT F2.entry_cit_iter ?_ (F2.args_cit_iter _))
  show wpAny _ _ (ret (.ref it)) _ _ s
  exact wpAny_pure ⟨_, rfl, "callable_iterator", _, hT, F2.slot_cit_next.lookup, .ref it, m, H, rfl, S, .rfl', h⟩
theorem c_iter2 {mo f x : Addr} {Q : AV → Lm → Hp → Prop} (hmo : H mo = some (.raw (methodObj (.ref f) (.ref x)))) (h : ∀ it t, H it = none → Q (.ref it) m (hup H it (.raw (citO mo t)))) : WC c (.builtin "iter") [.ref mo, .str []] m H Q := fun vs rs => by
  cases rs with
  | cons r1 rs => cases rs with
    | cons r2 rs =>
      cases rs; cases r1
      obtain ⟨t, rfl⟩ := r2
      intro s S
      have hm := raw_at S hmo
      refine call_function_entry (by decide +kernel) (by decide +kernel) kdk_entry_iter (F2.args_iter2 _ _) ?_
      unfold Builtin.«iter»
      refine wpAny_bind (m := someArgs "iter" 1 2 _) (wpAny_of_eq (a := [Value.ref mo, Value.str ⟨#[]⟩ t]) (by first | rfl | kernel_rfl!) ?_)
      show wpAny _ _ (specialOf (.ref mo) "__call__" >>= _) _ _ _
      refine wpAny_bind (wpAny_specialOf (T := "method") (r := some (.builtin "method.__call__")) ⟨_, hm, rfl⟩ (by rw [typeLookup_type, builtinLookup_eq_fast]; kernel_rfl) ?_)
      show wpAny _ _ (rule "iter.sentinel" >>= _) _ _ _
      refine wpAny_bind (wpAny_rule (wpAny_bind (wpAny_newObj_type (wpAny_pure ⟨_, rfl, .ref s.heap.objs.size, m, _, rfl, S.newPush (ao := .raw (citO mo t)) (o := citO mo t) rfl rfl, .rfl', h _ t S.free⟩) (by size_fits))))
end
end Mine
end
section
open PySem PySem.W PySem.Calls PyProof.Rows
set_option Elab.async false
set_option maxRecDepth 100000
set_option maxHeartbeats 1000000
set_option linter.unusedVariables false
set_option linter.unusedSimpArgs false
namespace Mine
section
variable {P : Params} {es : List (Str × AV)} {ds : List DictEntry} {name : Str} {av : AV} {v : Value}
theorem getL_some (h : RepE P es ds) (e : es.lookup name = some av) : ∃ v, getL name ds = some (some v) ∧ rep av v := by
  induction h with
  | nil => cases e
  | @cons x a hh t v es ds r _ ih =>
    rw [List.lookup_cons] at e
    by_cases q : name = x
    · subst q
      simp at e; subst e
      exact ⟨v, by simp [getL, Value.isStr], r⟩
    · have q' : (name == x) = false := by simpa using q
      rw [q'] at e
      obtain ⟨v', h1, h2⟩ := ih e
      refine ⟨v', ?_, h2⟩
      have q2 : (x == name) = false := by simpa using fun z => q z.symm
      rw [← h1]
      simp [getL, Value.isStr, q2, DictEntry.refKey]
theorem noRef (h : RepE P es ds) : ds.any (·.refKey) = false := by
  induction h with
  | nil => rfl
  | cons r _ ih => rw [List.any_cons, ih]; rfl
theorem getL_none (h : RepE P es ds) (e : es.lookup name = none) : getL name ds = some none := by
  have nr := noRef h
  have : ds.find? (·.key.isStr name) = none := by
    clear nr
    induction h with
    | nil => rfl
    | @cons x a hh t v es ds r _ ih =>
      rw [List.lookup_cons] at e
      by_cases q : name = x
      · subst q; simp at e
      · have q' : (name == x) = false := by simpa using q
        rw [q'] at e
        have q2 : (x == name) = false := by simpa using fun z => q z.symm
        rw [List.find?_cons, show (Value.str x t).isStr name = false from q2]
        exact ih e
  unfold getL
  rw [this, nr]; rfl
noncomputable def putE (name : Str) (av : AV) : List (Str × AV) → List (Str × AV)
  | [] => [(name, av)]
  | (x, a) :: r => if x == name then (x, av) :: r else (x, a) :: putE name av r
theorem putL_rep {hsh : Int} {tk : Tok} (h : RepE P es ds) (r : rep av v) : RepE P (putE name av es) (putL name hsh (.str name tk) v ds) := by
  induction h with
  | nil => exact .cons r .nil
  | @cons x a hh t v' es ds r' h' ih =>
    unfold putE putL
    show RepE P (if (x == name) = true then _ else _) (if (x == name) = true then _ else _)
    cases q : x == name with
    | true => exact .cons r h'
    | false => exact .cons r' ih
theorem putE_len : (putE name av es).length ≤ es.length + 1 := by
  induction es with
  | nil => simp [putE]
  | cons p r ih =>
    unfold putE
    split <;> simp <;> omega
theorem RepE.length (h : RepE P es ds) : es.length = ds.length := by
  induction h with
  | nil => rfl
  | cons _ _ ih => simp [ih]
end
section
variable {c : Cx} {env : Env} {m : Lm} {H : Hp} {pos : Pos} {Q : AV → Lm → Hp → Prop} {QF : AF → Lm → Hp → Prop} {x C dx : Addr} {es : List (Str × AV)} {name : Str}
noncomputable def InstH (H : Hp) (x C dx : Addr) (es : List (Str × AV)) : Prop := H x = some (.inst C dx) ∧ H dx = some (.dict es)
structure ClsOk (K : Frag) (C : Addr) : Prop where
  hg : findIn K (.ref C) "__getattribute__" = some (some (.builtin "object.__getattribute__"))
  hk : findIn K (.ref C) "__getattr__" = some none
  hasd : hasDictIn K C = true
  sa : findIn K (.ref C) "__setattr__" = some (some (.builtin "object.__setattr__"))
  over : plainOver K C = true
theorem ClsOk.plain {K : Frag} (o : ClsOk K C) : plainGet K C name = true := by
  unfold plainGet; rw [o.hg, o.hk]; rfl
theorem inst_at {h : Heap} (S : ASt c m H h) (I : InstH H x C dx es) : ∃ ds n, InstAt h x (instObj C dx) C (some (dictOf ds n)) ∧ RepE c.w.params es ds := by
  obtain ⟨o, h1, h2⟩ := S.at_ I.1
  obtain ⟨o', h3, ds, n, rfl, r⟩ := S.at_ I.2
  cases h2
  exact ⟨ds, n, ⟨h1, rfl, rfl, h3⟩, r⟩
noncomputable def WGA (c : Cx) (ov : AV) (name : Str) (m : Lm) (H : Hp) (Q : AV → Lm → Hp → Prop) : Prop := ∀ v, rep ov v → W c rep (getAttr v name true) m H Q
theorem e_attr {value : PySem.Expr} (h : WE c env value m H fun ov m1 H1 => WGA c ov name m1 H1 Q)
    (he : eval (.Attribute value name pos) env = (do
      let o ← eval value env
      standAt pos.atName
      let r ← holding [o] (getAttr o name true)
      letTemporaryGo value o r
      pure r) := by with_unfolding_all rfl) : WE c env (.Attribute value name pos) m H Q := fun s S =>
  Attribute_any_ (wmono (h s S) (fun o s1 ov m1 H1 r S1 z q => (q o r).from S1 z) fun _ _ x => x) he
theorem ga_own {av : AV} (Bk : BOk c.w c.hB) (K : ClsOk (KX c.w.params) C) (ha : findIn (KX c.w.params) (.ref C) name = some none) (I : InstH H x C dx es) (e : es.lookup name = some av) (hv : ∀ v, rep av v → handedIn v = true)
    (h : Q av m H) : WGA c (.ref x) name m H Q := fun v r s S => by
  cases r
  obtain ⟨ds, n, I', re⟩ := inst_at S I
  obtain ⟨v, h1, h2⟩ := getL_some re e
  obtain ⟨mm, F⟩ := S.frame
  exact get_own F Bk.X I' K.plain K.hasd ha rfl h1 (hv _ h2) ⟨av, m, H, h2, S, ⟨rfl, rfl, rfl⟩, h⟩
theorem ga_bound {f : Addr} (Bk : BOk c.w c.hB) (K : ClsOk (KX c.w.params) C) (ha : findIn (KX c.w.params) (.ref C) name = some (some (.ref f))) (hf : isFn (KX c.w.params) (.ref f) = true)
    (hgf : specialIn (KX c.w.params) (.ref f) "__get__" = some (some (.builtin "function.__get__"))) (ht : takesIn (KX c.w.params) (.ref f) = some false) (hc : copiedNames.contains name = false) (I : InstH H x C dx es) (e : es.lookup name = none)
    (h : ∀ b, H b = none → Q (.ref b) m (hup H b (.raw (methodObj (.ref f) (.ref x))))) : WGA c (.ref x) name m H Q := fun v r s S => by
  cases r
  obtain ⟨ds, n, I', re⟩ := inst_at S I
  obtain ⟨mm, F⟩ := S.frame
  exact get_bind (Bk.X.keeps F.keep) I' (plainGet_of (name := name) K.plain).1 (findObj_fn K.hasd ha hgf ht hc (by show lookIn name (dictOf ds n) = _; rw [lookIn_dict, getL_none re e])) (plainGet_of (name := name) K.plain).2
    (wpAny_call (fn_get (s := { s with toks := s.toks + 1 }) (Bk.X.keeps F.keep) (beq_iff_eq.mp hf) (handed_on rfl
      ⟨.ref s.heap.objs.size, m, _, rfl, S.newPush (ao := .raw (methodObj (.ref f) (.ref x))) (o := methodObj (.ref f) (.ref x)) rfl rfl, ⟨rfl, rfl, rfl⟩, h _ S.free⟩)))
theorem gm_inst {f : Addr} {QM : Value → List AV → Lm → Hp → Prop} (Bk : BOk c.w c.hB) (K : ClsOk (KX c.w.params) C) (ha : findIn (KX c.w.params) (.ref C) name = some (some (.ref f))) (hf : isFn (KX c.w.params) (.ref f) = true) (I : InstH H x C dx es) (e : es.lookup name = none)
    (h : QM (.ref f) [.ref x] m H) : WGM c (.ref x) name m H QM := fun v pl r s S => by
  cases r
  obtain ⟨ds, n, I', re⟩ := inst_at S I
  obtain ⟨mm, F⟩ := S.frame
  exact method_inst F Bk.X I' K.plain ha hf (getL_none re e) ⟨[.ref x], m, H, .cons rfl .nil, S, .rfl', h⟩
theorem sa_own {av : AV} {v : Value} (Bk : BOk c.w c.hB) (K : ClsOk (KX c.w.params) C) (ht : takerIn (KX c.w.params) C name = some none) (I : InstH H x C dx es) (hz : es.length ≤ 900) (r : rep av v) {QU : Unit → Lm → Hp → Prop}
    (h : QU () m (hup H dx (.dict (putE name av es)))) : W c (fun (_ : Unit) (_ : Unit) => True) (setAttr (.ref x) name v) m H QU := fun s S => by
  obtain ⟨ds, n, I', re⟩ := inst_at S I
  obtain ⟨mm, nw, o, F, N, hr, hn, hlt, back, turn⟩ := S.split I.2
  obtain ⟨ds', n', rfl, re'⟩ := hr
  have e1 := (N _ (.head _)).1
  have e2 : s.heap.get? dx = some (dictOf ds n) := I'.dict
  have e3 : dictOf ds' n' = dictOf ds n := Option.some.inj (e1.symm.trans e2)
  rw [e3] at N
  refine set_dict F Bk.X N I' rfl K.sa K.over ht K.hasd ?_ rfl (.head hn) ?_ fun h' F' N' => ⟨(), m, _, trivial, turn h' (.dict (putE name av es)) _ F' N' ⟨_, _, rfl, putL_rep re r⟩, ⟨rfl, rfl, rfl⟩, h⟩
  · cases q : es.lookup name with
    | none => rw [getL_none re q]; rfl
    | some a => obtain ⟨v', h1, _⟩ := getL_some re q; rw [h1]; rfl
  · have := (putL_rep (name := name) (hsh := PyData.keyHash c.w.params name) (tk := s.toks + 1) re r).length
    have h2 := putE_len (name := name) (av := av) (es := es)
    (first | lia | omega)
theorem s_setattr {o value : PySem.Expr} {p' : Pos} {av : AV} (h : WE c env value m H fun av m1 H1 => WE c env o m1 H1 fun ov m2 H2 => ∀ ow v, rep ov ow → rep av v → W c (fun (_ : Unit) (_ : Unit) => True) (setAttr ow name v) m2 H2 fun _ m3 H3 => QF .next m3 H3)
    (hs : swapsWith value (some (.Attribute o name p')) pos.line env = pure false := by rfl) : WS c env (.Assign [.Attribute o name p'] value pos) m H QF := fun s S =>
  plainObj_wpAny_Assign_Attribute (wmono (h s S) (fun v s1 av m1 H1 r1 S1 z1 q1 => wmono (q1 s1 S1) (fun ow s2 ov m2 H2 r2 S2 z2 q2 =>
    wmono (q2 ow v r2 r1 s2 S2) (fun _ s3 _ m3 H3 _ S3 z3 q3 => ⟨.next, m3, H3, rfl, S3, (z1.trans z2).trans z3, q3⟩) fun _ _ x => x) fun _ _ x => x) fun _ _ x => x) hs
end
end Mine
end
section
open PySem PySem.W PySem.Calls PyProof.Rows
set_option Elab.async false
set_option maxRecDepth 100000
set_option maxHeartbeats 1000000
set_option linter.unusedVariables false
set_option linter.unusedSimpArgs false
namespace Mine
section
variable {c : Cx} {env : Env} {m : Lm} {H : Hp} {pos : Pos} {Q : AV → Lm → Hp → Prop} {QF : AF → Lm → Hp → Prop} {QB : Bool → Lm → Hp → Prop}
theorem list_at {h : Heap} {a : Addr} {l : List AV} (S : ASt c m H h) (e : H a = some (.list l)) : ∃ vs n, h.get? a = some (listOf vs.toArray n) ∧ Reps l vs := by
  obtain ⟨o, h1, vs, n, rfl, r⟩ := S.at_ e
  exact ⟨vs, n, h1, r⟩
theorem isList_at {h : Heap} {a : Addr} {l : List AV} (S : ASt c m H h) (e : H a = some (.list l)) : ∃ vs, h.IsList a vs.toArray ∧ Reps l vs := by
  obtain ⟨vs, n, h1, r⟩ := list_at S e
  exact ⟨vs, ⟨_, h1, rfl, n, rfl⟩, r⟩
theorem Reps.nth {l : List AV} {vs : List Value} (r : Reps l vs) {i : Nat} {a : AV} (e : l[i]? = some a) : ∃ v, vs.toArray[i]? = some v ∧ rep a v := by
  obtain ⟨v, h1, h2⟩ := r.get e
  exact ⟨v, by simpa using h1, h2⟩
theorem c_append {a : Addr} {l : List AV} {av : AV} (e : H a = some (.list l)) (hz : l.length ≤ 1000) (h : Q .none m (hup H a (.list (l ++ [av])))) : WC c (.builtin "list.append") [.ref a, av] m H Q := fun vs rs => by
  cases rs with
  | cons r1 rs => cases rs with
    | cons r2 rs =>
      cases rs; cases r1
      intro s S
      obtain ⟨mm, nw, o, F, N, hr, hn, hlt, back, turn⟩ := S.split e
      obtain ⟨vs, n, rfl, rr⟩ := hr
      refine append_K F N (.head hn) (fun h' F' N' => ⟨.none, m, _, rfl, turn h' (.list (l ++ [av])) _ F' N' ⟨vs ++ [_], n + 1, by simp, rr.append (.cons r2 .nil)⟩, .rfl', h⟩) ?_
      rw [sizeLine_eq, List.size_toArray, ← rr.length]; (first | lia | omega)
theorem Reps.snoc {l : List AV} {a : AV} : ∀ {vs : List Value}, Reps (l ++ [a]) vs → ∃ ws v, vs = ws ++ [v] ∧ Reps l ws ∧ rep a v := by
  induction l with
  | nil => intro vs r; cases r with | cons r1 r2 => cases r2; exact ⟨[], _, rfl, .nil, r1⟩
  | cons x l ih => intro vs r; cases r with | cons r1 r2 => obtain ⟨ws, v, rfl, q1, q2⟩ := ih r2; exact ⟨_ :: ws, v, rfl, .cons r1 q1, q2⟩
theorem kl_last_snoc : ∀ (p : List Value) (y : Value), kl_last (p ++ [y]) = some (p, y) := fun p y => by
  cases e : kl_last (p ++ [y]) with
  | none => have := kl_last_none e; simp at this
  | some q =>
    obtain ⟨p', y'⟩ := q
    have := kl_last_spec e
    obtain ⟨rfl, h2⟩ := List.append_inj' this rfl
    cases h2; rfl
theorem c_pop {a : Addr} {l : List AV} {av : AV} (e : H a = some (.list (l ++ [av]))) (hz : l.length ≤ 100000) (h : Q av m (hup H a (.list l))) : WC c (.builtin "list.pop") [.ref a] m H Q := fun vs rs => by
  cases rs with
  | cons r1 rs =>
    cases rs; cases r1
    intro s S
    obtain ⟨mm, nw, o, F, N, hr, hn, hlt, back, turn⟩ := S.split e
    obtain ⟨vs, n, rfl, rr⟩ := hr
    obtain ⟨ws, v, rfl, q1, q2⟩ := rr.snoc
    refine kl_pop F N (p := ws) (y := v) (by rw [List.toList_toArray]; exact kl_last_snoc ws v) (.head hn) ?_ (fun h' F' N' => ⟨av, m, _, q2, turn h' (.list l) _ F' N' ⟨ws, n + 1, rfl, q1⟩, .rfl', h⟩)
    rw [sizeLine_eq]; have := q1.length; simp; (first | lia | omega)
theorem c_pop0 {a : Addr} {l : List AV} {av : AV} (e : H a = some (.list (av :: l))) (hz : l.length ≤ 100000) (h : Q av m (hup H a (.list l))) : WC c (.builtin "list.pop") [.ref a, .int 0] m H Q := fun vs rs => by
  cases rs with
  | cons r1 rs => cases rs with
    | cons r2 rs =>
      cases rs; cases r1
      obtain ⟨t, rfl⟩ := r2
      intro s S
      obtain ⟨mm, nw, o, F, N, hr, hn, hlt, back, turn⟩ := S.split e
      obtain ⟨vs, n, rfl, rr⟩ := hr
      cases rr with
      | @cons _ v _ ws q2 q1 =>
        refine kl_popAt F N (k := 0) (p := []) (y := v) (q := ws) (by decide) (by rw [List.size_toArray]; simp [seqIndex?]) rfl (.head hn) ?_ (fun h' F' N' => ⟨av, m, _, q2, turn h' (.list l) _ F' N' ⟨ws, n + 1, rfl, q1⟩, .rfl', h⟩)
        rw [sizeLine_eq]; have := q1.length; simp; (first | lia | omega)
theorem o_add_list {a b : Addr} {l k : List AV} (ea : H a = some (.list l)) (eb : H b = some (.list k)) (hz : l.length + k.length ≤ 100000) (h : ∀ d, H d = none → Q (.ref d) m (hup H d (.list (l ++ k)))) : WO2 c (binaryOp .Add) (.ref a) (.ref b) m H Q := fun x y ex ey => by
  cases ex; cases ey
  intro s S
  obtain ⟨mm, nw, F, N, hlt, back, more⟩ := S.news
  obtain ⟨vs, h1, r1⟩ := isList_at S ea
  obtain ⟨ws, h2, r2⟩ := isList_at S eb
  refine add_arrays F N h1 h2 (fun h' F' N' => ⟨.ref _, m, _, rfl, more _ (.list (l ++ k)) _ h' F' N' ⟨vs ++ ws, 0, by simp, r1.append r2⟩ (fun p hp => Nat.ne_of_lt (hlt p hp)), .rfl', h _ S.free⟩) ?_
  rw [sizeLine_eq]; have := r1.length; have := r2.length; simp; (first | lia | omega)
theorem fold_rep (vs : List Value) : ∀ (k : Nat) (acc : Array Value), List.foldl (fun x1 x2 => x1 ++ x2) acc (List.replicate k vs.toArray) = (acc.toList ++ (List.replicate k vs).flatten).toArray
  | 0, acc => by simp
  | k + 1, acc => by rw [List.replicate_succ, List.foldl_cons, fold_rep vs k]; simp [List.replicate_succ]
theorem Reps.times {l : List AV} {vs : List Value} (r : Reps l vs) : ∀ k : Nat, Reps (List.replicate k l).flatten (List.replicate k vs).flatten
  | 0 => .nil
  | k + 1 => by rw [List.replicate_succ, List.replicate_succ, List.flatten_cons, List.flatten_cons]; exact r.append (Reps.times r k)
theorem o_mul_list {a : Addr} {l : List AV} {x : Int} (ea : H a = some (.list l)) (hx : 0 ≤ x) (hz : l.length * x.toNat ≤ 100000) (hx2 : x ≤ 100000) (h : ∀ d, H d = none → Q (.ref d) m (hup H d (.list (List.replicate x.toNat l).flatten))) : WO2 c (binaryOp .Mult) (.ref a) (.int x) m H Q := fun u v eu ⟨t, ev⟩ => by
  cases eu; subst ev
  intro s S
  obtain ⟨mm, nw, F, N, hlt, back, more⟩ := S.news
  obtain ⟨vs, n, h1, r1⟩ := list_at S ea
  refine mul_list F N h1 (by (first | lia | omega)) (by (first | lia | omega)) (by rw [List.size_toArray, ← r1.length]; (first | lia | omega)) fun h' F' N' => ⟨.ref _, m, _, rfl, more _ (.list (List.replicate x.toNat l).flatten) _ h' F' N' ⟨(List.replicate x.toNat vs).flatten, 0, ?_, r1.times _⟩ (fun p hp => Nat.ne_of_lt (hlt p hp)), .rfl', h _ S.free⟩
  rw [fold_rep]
  cases vs with
  | nil => have : (List.replicate x.toNat ([] : List Value)).flatten = [] := by simp
           simp
  | cons v vs => simp
theorem truth_list {a : Addr} {l : List AV} (e : H a = some (.list l)) (hz : l.length ≤ 100000) (h : QB (!l.isEmpty) m H) : W c (fun b a => b = a) (truthy (.ref a)) m H QB := fun s S => by
  obtain ⟨vs, h1, r⟩ := isList_at S e
  refine wpAny_truthy_list h1 (by have := r.length; simp; (first | lia | omega)) ⟨_, m, H, ?_, S, ⟨rfl, rfl, rfl⟩, h⟩
  cases r <;> simp
theorem c_len_list {a : Addr} {l : List AV} (e : H a = some (.list l)) (hz : l.length ≤ 100000) (h : Q (.int l.length) m H) : WC c (.builtin "len") [.ref a] m H Q := fun vs rs => by
  cases rs with
  | cons r1 rs =>
    cases rs; cases r1
    intro s S
    obtain ⟨mm, nw, o, F, N, hr, hn, hlt, back, turn⟩ := S.split e
    obtain ⟨vs, n, rfl, rr⟩ := hr
    refine PySem.W.KM.len_K N (.head _) (n := l.length) (by rw [List.size_toArray, ← rr.length]) (by (first | lia | omega)) ⟨.int l.length, m, H, ⟨_, rfl⟩, S, ⟨rfl, rfl, rfl⟩, h⟩
noncomputable def lsl {α : Type} (l : List α) (lo hi st : Option Int) : List α :=
  (sliceRange (sliceBounds lo hi st l.length).1 (sliceBounds lo hi st l.length).2.1 (sliceBounds lo hi st l.length).2.2).filterMap (l[·]?)
theorem Reps.pick {l : List AV} {vs : List Value} (r : Reps l vs) (is : List Nat) : Reps (is.filterMap (l[·]?)) (is.filterMap (vs[·]?)) := by
  induction is with
  | nil => exact .nil
  | cons i is ih =>
    rw [List.filterMap_cons, List.filterMap_cons]
    cases e : l[i]? with
    | none =>
      have : vs[i]? = none := by rw [List.getElem?_eq_none_iff] at e ⊢; rw [← r.length]; exact e
      rw [this]; exact ih
    | some a =>
      obtain ⟨v, h1, h2⟩ := r.get e
      rw [h1]; exact .cons h2 ih
noncomputable def WPart (c : Cx) (env : Env) (e : Option PySem.Expr) (m : Lm) (H : Hp) (Q : Option Int → Lm → Hp → Prop) : Prop := match e with
  | none => Q none m H
  | some e => WE c env e m H fun av m1 H1 => ∃ i, av = .int i ∧ Q (some i) m1 H1
theorem WPart.run {e : Option PySem.Expr} {QP : Option Int → Lm → Hp → Prop} (h : WPart c env e m H QP) : W c (fun b v => IsPart v b) (evalPart e env) m H QP := fun s S => by
  cases e with
  | none => exact wpAny_evalPart_none ⟨none, m, H, .none, S, .rfl', h⟩
  | some e => exact wpAny_evalPart_some (wmono (h s S) (fun v s1 av m1 H1 r S1 z ⟨i, ea, q⟩ => by subst ea; obtain ⟨t, rfl⟩ := r; exact ⟨some i, m1, H1, .int i t, S1, z, q⟩) fun _ _ x => x)
noncomputable def plainSub (value slice : PySem.Expr) : Prop := (∀ o i, ∃ ops, subscripted slice false o i = operate ops (getItem o i)) ∧ ∀ o r, letTemporaryGo value o r = pure ()
noncomputable def sl (l : List Nat) (lo hi : Option Int) : List Nat := (Txt.slice ⟨l.toArray⟩ lo hi).cps.toList
end
end Mine
end
section
open PySem PySem.W PySem.Calls PyProof.Rows
set_option Elab.async false
set_option maxRecDepth 100000
set_option maxHeartbeats 1000000
set_option linter.unusedVariables false
set_option linter.unusedSimpArgs false
namespace Mine
section
variable {c : Cx} {env : Env} {m : Lm} {H : Hp} {pos : Pos} {Q : AV → Lm → Hp → Prop} {QF : AF → Lm → Hp → Prop} {QB : Bool → Lm → Hp → Prop}
noncomputable def WIter (c : Cx) (v : AV) (m : Lm) (H : Hp) (Q : AV → Lm → Hp → Prop) : Prop := ∀ x, rep v x → W c rep (pyIter x) m H Q
noncomputable def WNext (c : Cx) (it : Addr) (m : Lm) (H : Hp) (Q : Option AV → Lm → Hp → Prop) : Prop := W c repN (pyNext (.ref it)) m H Q
noncomputable def WAsg (c : Cx) (env : Env) (target : PySem.Expr) (av : AV) (m : Lm) (H : Hp) (Q : Unit → Lm → Hp → Prop) : Prop := ∀ v, rep av v → W c (fun (_ : Unit) (_ : Unit) => True) (assign target env v) m H Q
theorem s_for {target iter : PySem.Expr} {body : List Stmt} (I : Addr → Nat → Lm → Hp → Prop)
    (h : WE c env iter m H fun av m1 H1 => WIter c av m1 H1 fun iv m2 H2 => ∃ it n, iv = .ref it ∧ I it n m2 H2)
    (turn : ∀ it n m1 H1, I it n m1 H1 → WNext c it m1 H1 fun r m2 H2 => match r with
      | none => QF .next m2 H2
      | some a => WAsg c env target a m2 H2 fun _ m3 H3 => WSS c env body m3 H3 fun f m4 H4 => match f with
        | .next | .cont => ∃ k, k < n ∧ I it k m4 H4
        | .brk => QF .next m4 H4
        | .ret v => QF (.ret v) m4 H4)
    (hs : ∀ x, foldedSetIterable iter env x = pure x := by intro _; with_unfolding_all rfl) (ht : ∀ it v, letOwnedTupleGo target it v = pure () := by intro _ _; with_unfolding_all rfl) :
    WS c env (.For target iter body [] pos) m H QF := fun s S => by
  refine wpAny_For (wmono (h s S) (fun x s1 av m1 H1 r1 S1 z1 q1 => wmono (q1 x r1 s1 S1) (fun itv s2 iv m2 H2 r2 S2 z2 ⟨it, n, e, q2⟩ => ?_) fun _ _ x => x) fun _ _ x => x) hs
  subst e; cases r2
  refine codeAny_mono (codeAny_forLoop (R := fun r s' => match r with | .ok f => ∃ b m' H', repF b f ∧ ASt c m' H' s'.heap ∧ Rest s s' ∧ QF b m' H' | .error _ => False)
    (fun k s' => ∃ m' H', ASt c m' H' s'.heap ∧ Rest s s' ∧ I it k m' H') (fun k s3 ⟨m3, H3, S3, z3, q3⟩ => ?_) n ⟨m2, H2, S2, z1.trans z2, q2⟩ (ht _)) fun r s' hr => ?_
  · have none_err : ∀ {α : Type} {t : Sem α} {P : α → Shared → Prop} {s : Shared}, wpAny (model pw c.w) c.A t P (fun _ _ => False) s → wpAny (model pw c.w) c.A t P (notedBy (model pw c.w) c.A env fun e s' => (False : Prop)) s := fun h => wpAny_mono h (fun _ _ x => x) fun _ _ x => x.elim
    refine none_err (wmono (turn it k m3 H3 q3 s3 S3) (fun r s4 b m4 H4 r4 S4 z4 q4 => ?_) fun _ _ x => x)
    cases b with
    | none =>
      cases r4
      exact wpAny_execs_nil ⟨.next, m4, H4, rfl, S4, z3.trans z4, q4⟩
    | some a =>
      obtain ⟨x, rfl, rx⟩ := r4
      refine none_err (wmono (q4 x rx s4 S4) (fun _ s5 _ m5 H5 _ S5 z5 q5 => none_err (wmono (q5 s5 S5) (fun f s6 b m6 H6 r6 S6 z6 q6 => ?_) fun _ _ x => x)) fun _ _ x => x)
      have zz := ((z3.trans z4).trans z5).trans z6
      cases b with
      | next => cases r6; obtain ⟨k', h1, h2⟩ := q6; exact ⟨k', h1, m6, H6, S6, zz, h2⟩
      | cont => cases r6; obtain ⟨k', h1, h2⟩ := q6; exact ⟨k', h1, m6, H6, S6, zz, h2⟩
      | brk => cases r6; exact ⟨.next, m6, H6, rfl, S6, zz, q6⟩
      | ret v => obtain ⟨v', rfl, rv⟩ := r6; exact ⟨.ret v, m6, H6, ⟨v', rfl, rv⟩, S6, zz, q6⟩
  · rcases r with e | f
    · exact hr.elim
    · exact hr
noncomputable def liP (a : Addr) (i : Nat) (o : Obj) : Prop := o.cls = .type "list_iterator" ∧ o.data = .fields #[.ref a, .int i 0]
theorem it_list {a : Addr} {l : List AV} (e : H a = some (.list l)) (h : ∀ it, H it = none → Q (.ref it) m (hup H it (.pat (liP a 0)))) : WIter c (.ref a) m H Q := fun x r s S => by
  cases r
  obtain ⟨vs, hl, rr⟩ := isList_at S e
  exact wpAny_pyIter_list hl ⟨.ref _, m, _, rfl, S.newPush (ao := .pat (liP a 0)) (o := { cls := .type "list_iterator", data := .fields #[.ref a, .int 0 0] }) ⟨rfl, rfl⟩ rfl, .rfl', h _ S.free⟩
theorem nx_list {a it : Addr} {i : Nat} {l : List AV} {QN : Option AV → Lm → Hp → Prop} (hh : c.A.handled = none) (ei : H it = some (.pat (liP a i))) (ea : H a = some (.list l))
    (h1 : ∀ x, l[i]? = some x → QN (some x) m (hup H it (.pat (liP a (i + 1))))) (h2 : l.length ≤ i → QN none m (hdrop H it)) : WNext c it m H QN := fun s S => by
  obtain ⟨vs, hl, rr⟩ := isList_at S ea
  obtain ⟨oi, hi1, hi2⟩ := S.at_ ei
  have hit : s.heap.IsListIter it a i := ⟨_, hi1, hi2.1, hi2.2⟩
  cases e : l[i]? with
  | some x =>
    obtain ⟨v, hv, rv⟩ := rr.nth e
    refine wpAny_pyNext_list_item hit hl hv fun h' hi' hs => ?_
    obtain ⟨o', g1, g2, g3⟩ := hi'
    exact ⟨some x, m, _, ⟨v, rfl, rv⟩, S.set (ao' := .pat (liP a (i + 1))) ei hs g1 ⟨g2, g3⟩, .rfl', h1 x e⟩
  | none =>
    refine wpAny_pyNext_list_end hh hit hl ?_ fun h' hx => ⟨none, m, _, rfl, ?_, .rfl', h2 ?_⟩
    · rw [List.getElem?_eq_none_iff] at e; have := rr.length; simp; (first | lia | omega)
    · exact S.drop (o := oi) ei fun b o hb eb => hx b o hb eb
    · simpa using e
end
end Mine
end
section
open PySem PySem.W PySem.Calls PyProof.Rows
set_option Elab.async false
set_option maxRecDepth 100000
set_option maxHeartbeats 1000000
set_option linter.unusedVariables false
set_option linter.unusedSimpArgs false
namespace Mine
noncomputable def cellP (o : Option AV) (ob : Obj) : Prop := ∃ v, ob.data = .cell v ∧ match o with
  | none => v = none
  | some a => ∃ x, v = some x ∧ rep a x
abbrev AOcell (o : Option AV) : AO := .pat (cellP o)
section
variable {c : Cx} {env : Env} {m : Lm} {H : Hp} {pos : Pos} {Q : AV → Lm → Hp → Prop} {QF : AF → Lm → Hp → Prop} {QB : Bool → Lm → Hp → Prop}
theorem cell_at {h : Heap} {a : Addr} {av : AV} (S : ASt c m H h) (e : H a = some (AOcell (some av))) : ∃ v, h.IsCell a (some v) ∧ rep av v := by
  obtain ⟨o, h1, v, h2, x, rfl, r⟩ := S.at_ e
  exact ⟨x, ⟨o, h1, h2⟩, r⟩
theorem cell_at' {h : Heap} {a : Addr} {o : Option AV} (S : ASt c m H h) (e : H a = some (AOcell o)) : ∃ v, h.IsCell a v := by
  obtain ⟨o, h1, v, h2, _⟩ := S.at_ e
  exact ⟨v, o, h1, h2⟩
theorem e_cell {x : Str} {a : Addr} {av : AV} (hk : env.scope.kind = .function) (hx : env.kindOf x = some .cell) (hc : env.cells.lookup x = some a) (e : H a = some (AOcell (some av))) (h : Q av m H)
    (hd : (x == ("__debug__" : Str)) = false := by decide) : WE c env (.Name x pos) m H Q := fun s S => by
  obtain ⟨v, hv, r⟩ := cell_at S e
  exact wpAny_Name (wpAny_loadName_cell hk hx hc hv ⟨av, m, H, r, S, .rfl', h⟩) hd
theorem e_free {x : Str} {a : Addr} {av : AV} (hk : env.scope.kind = .function) (hx : env.kindOf x = some .free) (hc : env.cells.lookup x = some a) (e : H a = some (AOcell (some av))) (h : Q av m H)
    (hd : (x == ("__debug__" : Str)) = false := by decide) (hn : (x == ("__classdict__" : Str)) = false := by decide) : WE c env (.Name x pos) m H Q := fun s S => by
  obtain ⟨v, hv, r⟩ := cell_at S e
  exact wpAny_Name (wpAny_loadName_free hk hx hc hv ⟨av, m, H, r, S, .rfl', h⟩ hn) hd
theorem store_cell {x : Str} {a : Addr} {o : Option AV} {v : Value} {av : AV} {QU : Unit → Lm → Hp → Prop} (hk : env.scope.kind = .function) (hx : env.kindOf x = some .cell) (hc : env.cells.lookup x = some a) (e : H a = some (AOcell o)) (r : rep av v)
    (h : QU () m (hup H a (AOcell (some av)))) : W c (fun _ _ => True) (storeName env x v) m H QU := fun s S => by
  obtain ⟨v0, hv⟩ := cell_at' S e
  exact wpAny_storeName_cell hk hx hc hv fun h' hc' hs => by
    obtain ⟨o', h1, h2⟩ := hc'
    exact ⟨(), m, _, trivial, S.set (ao' := AOcell (some av)) e hs h1 ⟨some v, h2, v, rfl, r⟩, .rfl', h⟩
theorem s_assign_w {x : Str} {p' : Pos} {e : PySem.Expr} (hs : swapsWith e (some (.Name x p')) pos.line env = pure false)
    (h : WE c env e m H fun av m1 H1 => ∀ v, rep av v → W c (fun (_ : Unit) (_ : Unit) => True) (storeName env x v) m1 H1 fun _ m2 H2 => QF .next m2 H2) : WS c env (.Assign [.Name x p'] e pos) m H QF := fun s S =>
  wpAny_Assign_Name (wmono (h s S) (fun v s1 av m1 H1 r S1 z q =>
    wmono (W.from (q v r) S1 z) (fun _ s2 _ m2 H2 _ S2 z2 q2 => ⟨.next, m2, H2, rfl, S2, z2, q2⟩) fun _ _ x => x) fun _ _ x => x) hs
theorem s_assign_cell {x : Str} {a : Addr} {p' : Pos} {e : PySem.Expr} (hk : env.scope.kind = .function) (hx : env.kindOf x = some .cell) (hc : env.cells.lookup x = some a) (hs : swapsWith e (some (.Name x p')) pos.line env = pure false)
    (h : WE c env e m H fun av m1 H1 => (∃ o, H1 a = some (AOcell o)) ∧ QF .next m1 (hup H1 a (AOcell (some av)))) : WS c env (.Assign [.Name x p'] e pos) m H QF :=
  s_assign_w hs (h.mono fun av m1 H1 ⟨⟨o, e⟩, q⟩ v r => store_cell hk hx hc e r q)
theorem asg_w {n : Str} {p : Pos} {av : AV} {QU : Unit → Lm → Hp → Prop} (h : ∀ v, rep av v → W c (fun (_ : Unit) (_ : Unit) => True) (storeName env n v) m H QU) : WAsg c env (.Name n p) av m H QU := fun v r s S =>
  PyProof.Rows.assign_Name (h v r s S)
theorem asg_local {n : Str} {p : Pos} {av : AV} {QU : Unit → Lm → Hp → Prop} (hk : env.scope.kind = .function) (hx : env.kindOf n = some .local) (hL : env.locals = c.L) (h : QU () ((n, av) :: m) H) : WAsg c env (.Name n p) av m H QU :=
  asg_w fun v r => store_local hk hx hL r h
theorem asg_cell {n : Str} {a : Addr} {o : Option AV} {p : Pos} {av : AV} {QU : Unit → Lm → Hp → Prop} (hk : env.scope.kind = .function) (hx : env.kindOf n = some .cell) (hc : env.cells.lookup n = some a) (e : H a = some (AOcell o)) (h : QU () m (hup H a (AOcell (some av)))) : WAsg c env (.Name n p) av m H QU :=
  asg_w fun v r => store_cell hk hx hc e r h
end
noncomputable def bindLA (k : Str → Option NameKind) : List (Str × AV) → Lm → Lm
  | [], m => m
  | (n, v) :: r, m => bindLA k r (if k n = some .local then (n, v) :: m else m)
noncomputable def bindCA (k : Str → Option NameKind) : List (Str × AV) → (Str → Option AV) → Str → Option AV
  | [], m => m
  | (n, v) :: r, m => bindCA k r (if k n = some .local then m else fun y => if y = n then some v else m y)
noncomputable def cellsH : List (Str × Addr) → (Str → Option AV) → Hp → Hp
  | [], _, H => H
  | (n, a) :: r, cv, H => hup (cellsH r cv H) a (AOcell (cv n))
noncomputable def optRep : Option AV → Option Value → Prop
  | none, v => v = none
  | some a, v => ∃ x, v = some x ∧ rep a x
theorem bind_rep {k : Str → Option NameKind} : ∀ {ps : List Str} {as : List AV} {vs : List Value} {m : Lm} {mm : Str → Option Value} {cv : Str → Option AV} {cm : Str → Option Value}, Reps as vs →
    (∀ x av, m.lookup x = some av → ∃ v, mm x = some v ∧ rep av v) → (∀ n, optRep (cv n) (cm n)) →
    (∀ x av, (bindLA k (ps.zip as) m).lookup x = some av → ∃ v, bindL k (ps.zip vs) mm x = some v ∧ rep av v) ∧ ∀ n, optRep (bindCA k (ps.zip as) cv n) (bindC k (ps.zip vs) cm n)
  | [], _, _, _, _, _, _, _, h1, h2 => by simpa [bindLA, bindL, bindCA, bindC] using ⟨h1, h2⟩
  | _ :: _, _, _, _, _, _, _, .nil, h1, h2 => by simpa [bindLA, bindL, bindCA, bindC] using ⟨h1, h2⟩
  | p :: ps, a :: as, v :: vs, m, mm, cv, cm, .cons r rs, h1, h2 => by
    rw [List.zip_cons_cons, List.zip_cons_cons]
    unfold bindLA bindL bindCA bindC
    refine bind_rep rs (fun x av e => ?_) fun n => ?_
    · split at e
      · rename_i q
        rw [if_pos q]
        rw [List.lookup_cons] at e
        by_cases hx : x = p
        · subst hx; simp at e; subst e; exact ⟨v, by simp, r⟩
        · have : (x == p) = false := by simpa using hx
          rw [this] at e
          obtain ⟨v', g1, g2⟩ := h1 x av e
          exact ⟨v', by simp [hx, g1], g2⟩
      · rename_i q
        rw [if_neg q]; exact h1 x av e
    · by_cases q : k p = some .local
      · rw [if_pos q, if_pos q]; exact h2 n
      · rw [if_neg q, if_neg q]
        by_cases hx : n = p
        · subst hx; simp [optRep, r]
        · simp [hx]; exact h2 n
theorem cellsH_some {cv : Str → Option AV} {H : Hp} : ∀ {ce : List (Str × Addr)} {b : Addr} {o : AO}, cellsH ce cv H b = some o → (∃ n, (n, b) ∈ ce ∧ o = AOcell (cv n)) ∨ ((∀ n, (n, b) ∉ ce) ∧ H b = some o)
  | [], b, o, e => .inr ⟨(fun _ h => by cases h), e⟩
  | (n, a) :: r, b, o, e => by
    unfold cellsH hup at e
    split at e
    · rename_i q; subst q; cases e; exact .inl ⟨n, .head _, rfl⟩
    · rename_i q
      rcases cellsH_some e with ⟨n', h1, h2⟩ | ⟨h1, h2⟩
      · exact .inl ⟨n', .tail _ h1, h2⟩
      · refine .inr ⟨fun n' hn => ?_, h2⟩
        cases hn with
        | head => exact q rfl
        | tail _ hn => exact h1 n' hn
theorem cellsH_dom {cv : Str → Option AV} {H : Hp} (d : ∃ l : List Addr, l.Nodup ∧ ∀ a, (H a).isSome = true → a ∈ l) : ∀ {ce : List (Str × Addr)}, ∃ l : List Addr, l.Nodup ∧ ∀ a, (cellsH ce cv H a).isSome = true → a ∈ l
  | [] => d
  | (n, a) :: r => hup_dom (cellsH_dom d)
structure DefOkC (w : World) (f : Addr) (fd : FuncData) (body : List Stmt) (params : List Str) : Prop where
  look : ∃ o, (KX w.params).lookup f = some o ∧ o.data = .func fd
  body : fd.body = .stmts body
  code : codeIn (KX w.params) fd.code fd.qualname = true
  binds : ∀ vs : List Value, vs.length = params.length → bindArgs fd ⟨vs, []⟩ = pure (params.zip vs)
  clo : fd.closure = []
  loc : ∀ L, ∀ x ∈ params, fd.scope.names.lookup x = some .local ∨ (fd.scope.names.lookup x = some .cell ∧ ((cellsFrom (L + 1) fd.scope.names []).lookup x).isSome = true)
  cl : ∀ L n a, (n, a) ∈ cellsFrom (L + 1) fd.scope.names [] → (cellsFrom (L + 1) fd.scope.names []).lookup n = some a
  co : fd.scope.isCoroutine = false
  gen : fd.scope.isGenerator = false
  kind : fd.scope.kind = .function
theorem FC.enterC {w : World} {hB : Heap} {d : Nat} {f : Addr} {as : List AV} {pre : Hp → Prop} {mu : List Addr} {post : AV → Hp → Hp → Prop} {fd : FuncData} {body : List Stmt} {params : List Str} (Bk : BOk w hB) (K : DefOkC w f fd body params) (hl : as.length = params.length)
    (h : ∀ A L fs H, AOk d A → pre H → (∀ n a, (n, a) ∈ cellsFrom (L + 1) fd.scope.names [] → H a = none) → (∀ n n' a, (n, a) ∈ cellsFrom (L + 1) fd.scope.names [] → (n', a) ∈ cellsFrom (L + 1) fd.scope.names [] → n = n') →
      WSS ⟨w, hB, A, L, fs⟩ (callEnvC fd L f) body (bindLA (callEnvC fd L f).kindOf (params.zip as) []) (cellsH (cellsFrom (L + 1) fd.scope.names []) (bindCA (callEnvC fd L f).kindOf (params.zip as) fun _ => none) H)
        fun fl m' H' => ∃ av, (fl = .ret av ∨ (fl = .next ∧ av = .none)) ∧ Keep mu H H' ∧ post av H H') :
    FC w hB (d + 1) f as pre mu post := by
  rintro ⟨w', hB', A, L, fs⟩ m H rfl rfl hA hp vs rv s S
  obtain ⟨⟨mm, F, hm⟩, ob, dom, fro, off⟩ := S
  obtain ⟨o, hlk, hdat⟩ := K.look
  obtain ⟨oL, esL, epL, hoL, hnL⟩ := F.ns
  have X := Bk.X.keeps F.keep
  have hlv : vs.length = params.length := rv.length ▸ hl
  have hLs : L < s.heap.objs.size := Heap.lt_size hoL
  refine codeAny_call_cells (fd := fd) (body := body) (binds := params.zip vs) (by show A.depth < 1000; have := hA.2.1; simp only at this; (first | lia | omega)) (X _ _ hlk) hdat (Bk.nolimit.keeps F.keep) (codeRec_of X K.code) K.body (K.binds vs hlv) K.clo
    (fun x hx => K.loc _ x.1 (List.of_mem_zip hx).1) (fun s₁ IC => ?_) K.co K.gen K.kind
  obtain ⟨⟨⟨h₀, tk, rfl⟩, hns, hk, hfr⟩, hcell, hap, hab⟩ := IC
  have hBn : ∀ a, hB'.objs.size ≤ a → hB'.get? a = none := fun a q => Heap.get?_none_of_le q
  have hbig : ∀ n a, (n, a) ∈ cellsFrom (s.heap.objs.size + 1) fd.scope.names [] → s.heap.objs.size < a := fun n a hm => hab n a hm
  have hHn : ∀ a, s.heap.objs.size ≤ a → H a = none := fun a ha => by
    cases e : H a with
    | none => rfl
    | some ao => obtain ⟨o, h1, _⟩ := ob a ao e; exact absurd (Heap.lt_size h1) (Nat.not_lt.mpr ha)
  have hapart : ∀ n n' a, (n, a) ∈ cellsFrom (s.heap.objs.size + 1) fd.scope.names [] → (n', a) ∈ cellsFrom (s.heap.objs.size + 1) fd.scope.names [] → n = n' := fun n n' a h1 h2 => name_of_addr hap h1 h2
  obtain ⟨hbL, hbC⟩ := bind_rep (k := (callEnvC fd s.heap.objs.size f).kindOf) (ps := params) (m := []) (mm := fun _ => none) (cv := fun _ => none) (cm := fun _ => none) rv (fun x av e => by cases e) fun n => rfl
  have S' : ASt ⟨w', hB', A.deeper (callEnvC fd s.heap.objs.size f), s.heap.objs.size, (L, oL) :: fs⟩ (bindLA (callEnvC fd s.heap.objs.size f).kindOf (params.zip as) []) (cellsH (cellsFrom (s.heap.objs.size + 1) fd.scope.names []) (bindCA (callEnvC fd s.heap.objs.size f).kindOf (params.zip as) fun _ => none) H) h₀ := by
    refine ⟨⟨_, ⟨hns, fun b o e => hk b o (F.keep b o e), Nat.le_trans F.above (Nat.le_of_lt hLs)⟩, hbL⟩, fun a ao e => ?_, ?_, fun p hp => ?_, fun p hp => ?_⟩
    · rcases cellsH_some e with ⟨n, h1, rfl⟩ | ⟨_, e⟩
      · have hlook : (cellsFrom (s.heap.objs.size + 1) fd.scope.names []).lookup n = some a := K.cl _ n a h1
        obtain ⟨o, g1, g2⟩ := hcell n a hlook
        refine ⟨o, g1, ⟨_, g2, ?_⟩, Nat.ne_of_gt (hbig n a h1), hBn a (Nat.le_trans F.above (Nat.le_of_lt (Nat.lt_trans hLs (hbig n a h1))))⟩
        have := hbC n
        revert this
        show optRep _ _ → _
        generalize bindCA (callEnvC fd s.heap.objs.size f).kindOf (params.zip as) (fun _ => none) n = z
        cases z with
        | none => exact fun h => h
        | some a => exact fun h => h
      · obtain ⟨o, h1, h2, h3, h4⟩ := ob a ao e
        exact ⟨o, hk _ _ h1, h2, Nat.ne_of_lt (Heap.lt_size h1), h4⟩
    · exact cellsH_dom dom
    · rcases List.mem_cons.mp hp with rfl | hp
      · exact ⟨hk _ _ hoL, Nat.ne_of_lt hLs, hBn L F.above⟩
      · exact ⟨hk _ _ (fro p hp).1, Nat.ne_of_lt (Heap.lt_size (fro p hp).1), (fro p hp).2.2⟩
    · cases e : cellsH (cellsFrom (s.heap.objs.size + 1) fd.scope.names []) (bindCA (callEnvC fd s.heap.objs.size f).kindOf (params.zip as) fun _ => none) H p.1 with
      | none => rfl
      | some ao =>
        have hlt : p.1 ≤ s.heap.objs.size := by
          rcases List.mem_cons.mp hp with rfl | hp
          · exact Nat.le_of_lt hLs
          · exact Nat.le_of_lt (Heap.lt_size (fro p hp).1)
        have hno : H p.1 = none := by
          rcases List.mem_cons.mp hp with rfl | hp
          · cases q : H L with
            | none => rfl
            | some ao => obtain ⟨o, _, _, h3, _⟩ := ob L ao q; exact absurd rfl h3
          · exact off p hp
        rcases cellsH_some e with ⟨n, h1, _⟩ | ⟨_, e⟩
        · exact absurd (hbig n _ h1) (Nat.not_lt.mpr hlt)
        · rw [hno] at e; cases e
  refine wpAny_mono (h (A.deeper (callEnvC fd s.heap.objs.size f)) s.heap.objs.size ((L, oL) :: fs) H ⟨hA.1, by have := hA.2.1; show A.depth + 1 + d ≤ 990; simp only at this; (first | lia | omega), by have := hA.2.2; show A.units + 3 + 8 * d ≤ 9000; simp only at this; (first | lia | omega)⟩ hp (fun n a hm => hHn a (Nat.le_of_lt (hbig n a hm))) hapart { s with heap := h₀, toks := tk } S') ?_ (fun _ _ x => x.elim)
  rintro fl s' ⟨af, m', H', r, S2, z, av, hfl, kp, q⟩
  have back : ASt ⟨w', hB', A, L, fs⟩ m H' s'.heap := by
    obtain ⟨⟨mm', F', hm'⟩, ob', dom', fro', off'⟩ := S2
    have hL' := fro' (L, oL) (.head _)
    refine ⟨⟨mm, ⟨⟨oL, esL, epL, hL'.1, hnL⟩, F'.keep, F.above⟩, hm⟩, fun a ao e => ?_, dom', fun p hp => ⟨(fro' p (List.mem_cons_of_mem _ hp)).1, (fro p hp).2⟩, fun p hp => off' p (List.mem_cons_of_mem _ hp)⟩
    obtain ⟨o, h1, h2, h3, h4⟩ := ob' a ao e
    exact ⟨o, h1, h2, fun q => (by have := off' (L, oL) (.head _); rw [q] at e; rw [e] at this; cases this), h4⟩
  rcases hfl with rfl | ⟨rfl, rfl⟩
  · obtain ⟨v, rfl, rv⟩ := r
    exact ⟨av, m, H', rv, back, z, rfl, kp, q⟩
  · cases r
    exact ⟨.none, m, H', rfl, back, z, rfl, kp, q⟩
end Mine
end
section
open PySem PySem.W PySem.Calls PyProof.Rows
set_option Elab.async false
set_option maxRecDepth 100000
set_option maxHeartbeats 1000000
set_option linter.unusedVariables false
set_option linter.unusedSimpArgs false
namespace Mine
section
variable {c : Cx} {env : Env} {m : Lm} {H : Hp} {pos : Pos} {Q : AV → Lm → Hp → Prop} {QF : AF → Lm → Hp → Prop} {QB : Bool → Lm → Hp → Prop}
noncomputable def Cx.inC (c : Cx) (C : Addr) (fs : List (Addr × Obj)) : Cx := ⟨c.w, c.hB, c.A, C, fs⟩
theorem ASt.enter {h h1 : Heap} {mm : Str → Option Value} (S : ASt c m H h) (k : ∀ b o, h.get? b = some o → h1.get? b = some o) (hns : h1.Ns h.objs.size mm) :
    ∃ oL, ASt (c.inC h.objs.size ((c.L, oL) :: c.fs)) [] H h1 := by
  obtain ⟨⟨m0, F, hm⟩, ob, dom, fro, off⟩ := S
  obtain ⟨oL, esL, epL, hoL, hnL⟩ := F.ns
  have hLs : c.L < h.objs.size := Heap.lt_size hoL
  have hBn : ∀ a, c.hB.objs.size ≤ a → c.hB.get? a = none := fun a q => Heap.get?_none_of_le q
  refine ⟨oL, ⟨_, ⟨hns, fun b o e => k b o (F.keep b o e), Nat.le_trans F.above (Nat.le_of_lt hLs)⟩, fun x av e => by cases e⟩, fun a ao e => ?_, dom, fun p hp => ?_, fun p hp => ?_⟩
  · obtain ⟨o, h1, h2, h3, h4⟩ := ob a ao e
    exact ⟨o, k _ _ h1, h2, Nat.ne_of_lt (Heap.lt_size h1), h4⟩
  · rcases List.mem_cons.mp hp with rfl | hp
    · exact ⟨k _ _ hoL, Nat.ne_of_lt hLs, hBn _ F.above⟩
    · exact ⟨k _ _ (fro p hp).1, Nat.ne_of_lt (Heap.lt_size (fro p hp).1), (fro p hp).2.2⟩
  · rcases List.mem_cons.mp hp with rfl | hp
    · cases q : H c.L with
      | none => rfl
      | some ao => obtain ⟨o, _, _, h3, _⟩ := ob c.L ao q; exact absurd rfl h3
    · exact off p hp
theorem ASt.leave {h0 h h' : Heap} {C : Addr} {oL : Obj} {mC : Lm} {H0 : Hp} (S0 : ASt c m H0 h0) (hoL : h0.get? c.L = some oL) (S : ASt (c.inC C ((c.L, oL) :: c.fs)) mC H h) (hs : Heap.SameBut C h h') : ASt c m H h' := by
  obtain ⟨⟨m0, F0, hm0⟩, ob0, dom0, fro0, off0⟩ := S0
  obtain ⟨⟨mm, F, hm⟩, ob, dom, fro, off⟩ := S
  have hL := fro (c.L, oL) (.head _)
  obtain ⟨oL', esL, epL, hoL', hnL⟩ := F0.ns
  have : oL' = oL := Option.some.inj (hoL'.symm.trans hoL)
  subst this
  have keep : ∀ b o, b ≠ C → h.get? b = some o → h'.get? b = some o := fun b o hb e => (hs.2 b hb).trans e
  have hCB : c.hB.get? C = none := by
    cases e : c.hB.get? C with
    | none => rfl
    | some o => exact absurd (Heap.lt_size e) (Nat.not_lt.mpr F.above)
  refine ⟨⟨m0, ⟨⟨oL', esL, epL, keep _ _ hL.2.1 hL.1, hnL⟩, fun b o e => keep b o (fun q => by rw [q, hCB] at e; cases e) (F.keep b o e), F0.above⟩, hm0⟩, fun a ao e => ?_, dom, fun p hp => ⟨keep _ _ (fro p (.tail _ hp)).2.1 (fro p (.tail _ hp)).1, (fro0 p hp).2⟩, fun p hp => off p (.tail _ hp)⟩
  obtain ⟨o, h1, h2, h3, h4⟩ := ob a ao e
  refine ⟨o, keep _ _ h3 h1, h2, fun q => ?_, h4⟩
  have := off (c.L, oL') (.head _)
  subst q
  rw [e] at this; cases this
noncomputable def ifsT (ifs : List PySem.Expr) (env : Env) : Sem Bool := forIn ifs true fun c r => if r = true then do let ok ← isTrue c env (eval c env); pure (ForInStep.yield ok) else pure (ForInStep.yield r)
theorem ifs_nil (h : QB true m H) : W c (fun b a => b = a) (ifsT [] env) m H QB := fun s S => wpAny_tests_nil ⟨true, m, H, rfl, S, .rfl', h⟩
theorem ifs_one {t : PySem.Expr} (h : WT c env t m H QB) : W c (fun b a => b = a) (ifsT [t] env) m H QB := fun s S => wpAny_tests_one (h s S)
theorem comp_core {elt target iter : PySem.Expr} {ifs : List PySem.Expr} {scope : Scope} {cl : List (Str × Addr)} {ip : Pos} {use : Option (Value → Sem Unit)} {Qv : Value → Shared → Prop} {G : Addr → Lm → Hp → Prop} {s : Shared} (S : ASt c m H s.heap) (I : Addr → Addr → Nat → List AV → Hp → Prop) (E : Addr → Hp → Prop)
    (hclos : closureFor scope env = pure cl) (hcell : ∀ y ∈ scope.names, y.2 ≠ .cell) (hkind : scope.kind = .function) (hnames : ∀ y ∈ scope.names, y.2 = .local → scope.names.lookup y.1 = some .local)
    (h : WE c env iter m H fun av m1 H1 => WIter c av m1 H1 fun iv m2 H2 => ∃ it n, iv = .ref it ∧ (∀ acc, H2 acc = none → I it acc n [] (hup H2 acc (.list []))) ∧ ∀ acc H', E acc H' → G acc m2 H')
    (self : ∀ C fs it acc n H3, I it acc n [] H3 → WIter (c.inC C fs) (.ref it) [] H3 fun iv m4 H4 => iv = .ref it ∧ I it acc n [] H4)
    (turn : ∀ C fs it acc n ys H3, I it acc n ys H3 → WNext (c.inC C fs) it [] H3 fun r m4 H4 => match r with
      | none => E acc H4
      | some a => WAsg (c.inC C fs) (compEnvC scope cl C env) target a [] H4 fun _ m5 H5 => W (c.inC C fs) (fun b a => b = a) (ifsT ifs (compEnvC scope cl C env)) m5 H5 fun ok m6 H6 =>
        if ok then WE (c.inC C fs) (compEnvC scope cl C env) elt m6 H6 fun b m7 H7 => H7 acc = some (.list ys) ∧ ys.length ≤ 1000 ∧ ∃ k, k < n ∧ I it acc k (ys ++ [b]) (hup H7 acc (.list (ys ++ [b])))
        else ∃ k, k < n ∧ I it acc k ys H6)
    (fin : ∀ acc C s6 m2 H3 h3 oL m6 H6 f, G acc m2 H6 → ASt c m2 H3 h3 → h3.get? c.L = some oL → ASt (c.inC C ((c.L, oL) :: c.fs)) m6 H6 s6.heap → Rest s s6 → compPost (model pw c.w) c.A (fun _ _ => False) use Qv (.ref acc) C (.ok f) s6)
    (hs : ∀ x, foldedSetIterable iter env x = pure x) (ht : ∀ it v, letOwnedTupleGo target it v = pure ()) :
    wpAny (model pw c.w) c.A (comprehension (.ListComp elt [⟨target, iter, ifs, 0⟩] scope pos) scope env ip (newList []) false (eval iter env) use) Qv (fun _ _ => False) s := by
  refine wpAny_comprehension_free (use := use) rfl hs hclos hkind hnames (wmono (h s S) (fun x s1 av m1 H1 r1 S1 z1 q1 => wmono (q1 x r1 s1 S1) (fun itv s2 iv m2 H2 r2 S2 z2 ⟨it, n, e, q2, q3⟩ => ?_) fun _ _ x => x) fun _ _ x => x)
  subst e; cases r2
  refine wpAny_newObj_type (hd := by size_fits) ?_
  have S3 := S2.newPush (ao := .list []) (o := { cls := .type "list", dict := none, data := .seq ([] : List Value).toArray }) ⟨[], 0, rfl, .nil⟩ rfl
  generalize hh3 : s2.heap.push { cls := .type "list", dict := none, data := .seq ([] : List Value).toArray } = h3 at S3
  have q2' := q2 _ S2.free
  generalize s2.heap.objs.size = acc at S3 q2'
  refine wpAny_newFunctionEnv hcell (by intro y hy; simp at hy) (fun h4 hns hsb => ?_) hkind
  have k4 : ∀ b o, h3.get? b = some o → h4.get? b = some o := fun b o e => hsb.extBut b o (Nat.ne_of_lt (Heap.lt_size e)) (Heap.get?_push_of_some _ e)
  obtain ⟨oL0, S4⟩ := S3.enter k4 hns
  have hoL : h3.get? c.L = some oL0 := by
    obtain ⟨mm, F⟩ := S3.frame
    obtain ⟨o', _, _, ho', _⟩ := F.ns
    have := (S4.fro (c.L, oL0) (.head _)).1
    rw [k4 _ _ ho'] at this
    rw [ho', ← this]
  have none_err : ∀ {α : Type} {t : Sem α} {P : α → Shared → Prop} {s : Shared} {E' : Value → Shared → Prop}, wpAny (model pw c.w) c.A t P (fun _ _ => False) s → wpAny (model pw c.w) c.A t P E' s := fun h => wpAny_mono h (fun _ _ x => x) fun _ _ x => x.elim
  have loop : ∀ (s4 : Shared) (H4 : Hp), ASt (c.inC h3.objs.size ((c.L, oL0) :: c.fs)) [] H4 s4.heap → I it acc n [] H4 → Rest s s4 → codeAny (model pw c.w) c.A (.compLoop (.ListComp elt [⟨target, iter, ifs, 0⟩] scope pos) 0 (.ref it) (.ref acc) (compEnvC scope cl h3.objs.size env))
      (compPost (model pw c.w) c.A (fun _ _ => False) use Qv (.ref acc) h3.objs.size) s4 := fun s4 H4 S4 i4 z4 => by
    refine codeAny_compLoop_tests (fun k s' => ∃ ys mC HC, ASt (c.inC h3.objs.size ((c.L, oL0) :: c.fs)) mC HC s'.heap ∧ Rest s s' ∧ I it acc k ys HC) (fun k s5 ⟨ys, mC, HC, S5, z5, q5⟩ => ?_) n ⟨[], [], _, S4, z4, i4⟩ (ht _)
    refine none_err (wmono (turn h3.objs.size ((c.L, oL0) :: c.fs) it acc k ys HC q5 s5 (S5.less (m' := []) (fun _ _ e => e) fun _ _ e => by cases e)) (fun r s6 b m6 H6 r6 S6 z6 q6 => ?_) fun _ _ x => x)
    cases b with
    | none =>
      cases r6
      exact fin acc _ s6 m2 _ _ oL0 m6 H6 _ (q3 acc H6 q6) S3 hoL S6 (z5.trans z6)
    | some a =>
      obtain ⟨x, rfl, rx⟩ := r6
      refine none_err (wmono (q6 x rx s6 (S6.less (m' := []) (fun _ _ e => e) fun _ _ e => by cases e)) (fun _ s7 _ m7 H7 _ S7 z7 q7 => none_err (wmono (q7 s7 S7) (fun ok s8 ok' m8 H8 r8 S8 z8 q8 => ?_) fun _ _ x => x)) fun _ _ x => x)
      subst r8
      have zz := ((z5.trans z6).trans z7).trans z8
      cases ok' with
      | false => 
        rw [if_neg (by decide)] at q8 ⊢
        obtain ⟨k', h1, h2⟩ := q8
        exact ⟨k', h1, ys, m8, H8, S8, zz, h2⟩
      | true =>
        rw [if_pos rfl] at q8 ⊢
        refine none_err (wmono (q8 s8 S8) (fun v s9 b m9 H9 r9 S9 z9 ⟨ea, hz, k', h1, h2⟩ => none_err (wmono (c_append (c := c.inC h3.objs.size ((c.L, oL0) :: c.fs)) (av := b) (Q := fun _ mx Hx => Hx = hup H9 acc (.list (ys ++ [b]))) ea hz rfl _ (.cons rfl (.cons r9 .nil)) s9 S9) (fun _ s10 _ m10 H10 _ S10 z10 e10 => ?_) fun _ _ x => x)) fun _ _ x => x)
        subst e10
        exact ⟨k', h1, ys ++ [b], m10, _, S10, (zz.trans z9).trans z10, h2⟩
  refine codeAny_compStart_list (loop _ _ S4 q2' (z1.trans z2)) (none_err ?_)
  refine wmono (self h3.objs.size ((c.L, oL0) :: c.fs) it acc n _ q2' _ rfl _ S4) (fun itv' s5 iv' m5 H5 r5 S5 z5 ⟨e5, i5⟩ => ?_) fun _ _ x => x
  subst e5; cases r5
  exact loop s5 H5 (S5.less (m' := []) (fun _ _ e => e) fun _ _ e => by cases e) i5 ((z1.trans z2).trans z5)
theorem e_comp {elt target iter : PySem.Expr} {ifs : List PySem.Expr} {scope : Scope} {cl : List (Str × Addr)} (I : Addr → Addr → Nat → List AV → Hp → Prop) (E : Addr → Hp → Prop)
    (hclos : closureFor scope env = pure cl) (hcell : ∀ y ∈ scope.names, y.2 ≠ .cell) (hkind : scope.kind = .function) (hnames : ∀ y ∈ scope.names, y.2 = .local → scope.names.lookup y.1 = some .local)
    (h : WE c env iter m H fun av m1 H1 => WIter c av m1 H1 fun iv m2 H2 => ∃ it n, iv = .ref it ∧ (∀ acc, H2 acc = none → I it acc n [] (hup H2 acc (.list []))) ∧ ∀ acc H', E acc H' → Q (.ref acc) m2 H')
    (self : ∀ C fs it acc n H3, I it acc n [] H3 → WIter (c.inC C fs) (.ref it) [] H3 fun iv m4 H4 => iv = .ref it ∧ I it acc n [] H4)
    (turn : ∀ C fs it acc n ys H3, I it acc n ys H3 → WNext (c.inC C fs) it [] H3 fun r m4 H4 => match r with
      | none => E acc H4
      | some a => WAsg (c.inC C fs) (compEnvC scope cl C env) target a [] H4 fun _ m5 H5 => W (c.inC C fs) (fun b a => b = a) (ifsT ifs (compEnvC scope cl C env)) m5 H5 fun ok m6 H6 =>
        if ok then WE (c.inC C fs) (compEnvC scope cl C env) elt m6 H6 fun b m7 H7 => H7 acc = some (.list ys) ∧ ys.length ≤ 1000 ∧ ∃ k, k < n ∧ I it acc k (ys ++ [b]) (hup H7 acc (.list (ys ++ [b])))
        else ∃ k, k < n ∧ I it acc k ys H6)
    (hs : ∀ x, foldedSetIterable iter env x = pure x := by intro _; with_unfolding_all rfl) (ht : ∀ it v, letOwnedTupleGo target it v = pure () := by intro _ _; with_unfolding_all rfl) :
    WE c env (.ListComp elt [⟨target, iter, ifs, 0⟩] scope pos) m H Q := fun s S => by
  show wpAny _ _ (eval (.ListComp elt [⟨target, iter, ifs, 0⟩] scope pos) env) _ _ _
  rw [eval_ListComp]
  refine comp_core (G := fun acc m H => Q (.ref acc) m H) S I E hclos hcell hkind hnames h self turn (fun acc C s6 m2 H3 h3 oL m6 H6 f q S3 hoL S6 z => ?_) hs ht
  obtain ⟨mm, F6⟩ := S6.frame
  exact ⟨mm, F6.ns, fun h' hs' => ⟨.ref acc, m2, H6, rfl, S3.leave hoL S6 hs', z, q⟩⟩
end
end Mine
end
section
open PySem PySem.W PySem.Calls PyProof.Rows
set_option Elab.async false
set_option maxRecDepth 100000
set_option maxHeartbeats 1000000
set_option linter.unusedVariables false
set_option linter.unusedSimpArgs false
namespace Mine
section
variable {c : Cx} {env : Env} {m : Lm} {H : Hp} {pos : Pos} {Q : AV → Lm → Hp → Prop} {QF : AF → Lm → Hp → Prop} {QB : Bool → Lm → Hp → Prop}
noncomputable def codeP (qual : Str) (o : Obj) : Prop := ∃ vs t, o.data = .fields vs ∧ vs[1]? = some (.str qual t)
noncomputable def tab0 : AO := .raw (tabObj #[])
noncomputable def tab1 (pos : Pos) (c' : Addr) : AO := .raw (tabObj #[rawInt pos.line, rawInt pos.col, .ref c'])
noncomputable def TabAt (H : Hp) (P : Addr) (pos : Pos) (qual : Str) : Prop := H P = some tab0 ∨ ∃ c', H P = some (tab1 pos c') ∧ H c' = some (.pat (codeP qual)) ∧ c' ≠ P
theorem among1 {pos : Pos} {c' : Addr} : codeAmong pos (#[rawInt pos.line, rawInt pos.col, .ref c'] : Array Value).toList = some (.ref c') := by
  simp [codeAmong, rawInt]
theorem e_lambda {params : Arguments} {body : PySem.Expr} {scope : Scope} {cd P : Addr} {clos : List (Str × Addr)} (Bk : BOk c.w c.hB) (hdef : defaultsOf params env = ([], [])) (hge : env.globals = mainGlobals) (hcode : env.code = .ref cd)
    (hC : codeHdIn (KX c.w.params) cd P = true) (hPm : mainGlobals ≠ P) (hcl : closureFor scope env = pure clos) (T : TabAt H P pos (env.qual ++ "<lambda>"))
    (h : ∀ f c' pm ctv H1, Keep [P] H H1 → H1 P = some (tab1 pos c') → H1 c' = some (.pat (codeP (env.qual ++ "<lambda>"))) → c' ≠ P → H f = none → H1 f = none → Q (.ref f) m (hup H1 f (.raw (kla_obj "<lambda>" (env.qual ++ "<lambda>") params body scope clos pm c' ctv)))) :
    WE c env (.Lambda params body scope pos) m H Q := fun s S => by
  obtain ⟨mg, bm, ob, g, b1, b2, b3, b4, b5, b6⟩ := Bk.bm
  obtain ⟨mm, F⟩ := S.frame
  have hgs := g.keeps F.keep
  have hPB : c.hB.get? P = none := by
    rcases T with e | ⟨c', e, _⟩ <;> (obtain ⟨o, _, _, _, h4⟩ := S.ob _ _ e; exact h4)
  have hPL : P ≠ c.L := by
    rcases T with e | ⟨c', e, _⟩ <;> (obtain ⟨o, _, _, h3, _⟩ := S.ob _ _ e; exact h3)
  have hbP : bm ≠ P := fun q => by rw [q, hPB] at b3; cases b3
  have hbG : bm ≠ mainGlobals := fun q => by
    obtain ⟨o, es, ep, e, hd, _⟩ := g
    rw [q, e] at b3; cases b3; rw [hd] at b6; cases b6
  have hb : s.heap.BuiltinsAt mg P := ⟨bm, ob, b1, b2, hbG, hbP, F.keep _ _ b3, b4, b5, b6⟩
  have C := (codeHd_of_K Bk.X hC).keeps F.keep
  refine kla_eval hdef ?_
  rcases T with e | ⟨c', e, ec, hcP⟩
  · have hP : s.heap.get? P = some (tabObj #[]) := raw_at S e
    refine kla_makeFunction (ps := #[]) hcl hge hgs hcode C hP trivial rfl hPm hb fun c' ctv h' tk hx hge' hlt hrec htb => ?_
    obtain ⟨c2, oc, vs, t, e2, hoc, hd, hv⟩ := hrec
    cases e2
    obtain ⟨⟨mm0, F0, hm0⟩, ob0, ⟨l, nd, hl⟩, fro, off⟩ := S
    have hLs : c.L < s.heap.objs.size := F0.ns.lt
    have hBn : ∀ a, s.heap.objs.size ≤ a → c.hB.get? a = none := fun a q => Heap.get?_none_of_le (Nat.le_trans F0.above (Nat.le_trans (Nat.le_of_lt hLs) q))
    have hHn : ∀ a, s.heap.objs.size ≤ a → H a = none := fun a ha => by
      cases e : H a with
      | none => rfl
      | some ao => obtain ⟨o, h1, _⟩ := ob0 a ao e; exact absurd (Heap.lt_size h1) (Nat.not_lt.mpr ha)
    have hPs : P < s.heap.objs.size := Heap.lt_size hP
    have hcP : c' ≠ P := Nat.ne_of_gt (Nat.lt_of_lt_of_le hPs hge')
    have S1 : ASt c m (hup (hup H P (tab1 pos c')) c' (.pat (codeP (env.qual ++ "<lambda>")))) h' := by
      refine ⟨⟨mm0, ⟨F0.ns.extBut hx hPL.symm, fun b o e => hx b o (fun q => by rw [q, hPB] at e; cases e) (F0.keep b o e), F0.above⟩, hm0⟩, fun a ao ea => ?_, hup_dom (hup_dom ⟨l, nd, hl⟩), fun p hp => ⟨hx _ _ (fun q => ?_) (fro p hp).1, (fro p hp).2⟩, fun p hp => ?_⟩
      · by_cases q : a = c'
        · subst q
          rw [hup_self] at ea; cases ea
          exact ⟨oc, hoc, ⟨vs, t, hd, hv⟩, Nat.ne_of_gt (Nat.lt_of_lt_of_le hLs hge'), hBn _ hge'⟩
        · rw [hup_ne q] at ea
          by_cases q2 : a = P
          · subst q2
            rw [hup_self] at ea; cases ea
            exact ⟨_, htb, rfl, hPL, hPB⟩
          · rw [hup_ne q2] at ea
            obtain ⟨o, h1, h2, h3, h4⟩ := ob0 a ao ea
            exact ⟨o, hx _ _ q2 h1, h2, h3, h4⟩
      · have := off p hp; rw [q, e] at this; cases this
      · have q1 : p.1 ≠ c' := fun q => by have := Heap.lt_size (fro p hp).1; rw [q] at this; exact absurd this (Nat.not_lt.mpr hge')
        have q2 : p.1 ≠ P := fun q => by have := off p hp; rw [q, e] at this; cases this
        rw [hup_ne q1, hup_ne q2]; exact off p hp
    refine ⟨.ref _, m, _, rfl, S1.newPush (ao := .raw (kla_obj "<lambda>" (env.qual ++ "<lambda>") params body scope clos ((mg "__name__").getD .none) c' ctv)) rfl rfl, ⟨rfl, rfl, rfl⟩, h _ c' _ ctv _ (fun a o ea hn => ?_) ?_ hup_self hcP (hHn _ ?_) S1.free⟩
    · have q2 : a ≠ P := fun q => hn (q ▸ .head _)
      have q1 : a ≠ c' := fun q => by rw [q, hHn _ hge'] at ea; cases ea
      rw [hup_ne q1, hup_ne q2]; exact ea
    · rw [hup_ne hcP.symm]; exact hup_self
    · exact Nat.le_trans hge' (Nat.le_of_lt hlt)
  · have hP : s.heap.get? P = some (tabObj #[rawInt pos.line, rawInt pos.col, .ref c']) := raw_at S e
    refine kla_makeFunctionHit (cv := .ref c') hcl hge hgs hcode C hP trivial among1 hb fun ctv h' tk hk hsz => ?_
    have S1 : ASt c m H h' := S.keeps hk
    refine ⟨.ref _, m, _, rfl, S1.newPush (ao := .raw (kla_obj "<lambda>" (env.qual ++ "<lambda>") params body scope clos ((mg "__name__").getD .none) c' ctv)) rfl rfl, ⟨rfl, rfl, rfl⟩, h _ c' _ ctv H .refl e ec hcP S1.free S1.free⟩
end
end Mine
end
section
open PySem PySem.W PySem.Calls PyProof.Rows
set_option Elab.async false
set_option maxRecDepth 100000
set_option maxHeartbeats 1000000
set_option linter.unusedVariables false
set_option linter.unusedSimpArgs false
namespace Mine
theorem AOk.in1 {d : Nat} {A : Around} (h : AOk (d + 1) A) : AOk d A.in1 := ⟨h.1, by have := h.2.1; show A.depth + d ≤ 990; (first | lia | omega), by have := h.2.2; show A.units + 1 + 8 * d ≤ 9000; (first | lia | omega)⟩
theorem AOk.less {d e : Nat} {A : Around} (h : AOk d A) (he : e ≤ d) : AOk e A := ⟨h.1, by have := h.2.1; (first | lia | omega), by have := h.2.2; (first | lia | omega)⟩
theorem cc_lambda {c : Cx} {m : Lm} {H : Hp} {Q : AV → Lm → Hp → Prop} {f c' : Addr} {name qual : Str} {params : Arguments} {body : PySem.Expr} {scope : Scope} {clos : List (Str × Addr)} {pm ctv : Value} {ps : List Str} {as : List AV} {d : Nat} (Bk : BOk c.w c.hB) (hA : AOk (d + 1) c.A)
    (hf : H f = some (.raw (kla_obj name qual params body scope clos pm c' ctv))) (hc : H c' = some (.pat (codeP qual))) (hl : as.length = ps.length)
    (hb : ∀ vs : List Value, vs.length = ps.length → bindArgs (kla_fn name qual params body scope clos pm (.ref c') ctv) ⟨vs, []⟩ = pure (ps.zip vs)) (hloc : ∀ x ∈ ps, scope.names.lookup x = some .local)
    (h : ∀ A L fs, AOk d A → WE ⟨c.w, c.hB, A, L, fs⟩ (envX qual scope L f (.ref c') clos) body (ps.zip as).reverse H fun av _ H' => Q av m H')
    (hco : scope.isCoroutine = false) (hgen : scope.isGenerator = false) (hk : scope.kind = .function) (hcell : ∀ x ∈ scope.names, x.2 ≠ .cell) : CC c (.ref f) as m H Q := fun vs rv s S => by
  have hof := raw_at S hf
  obtain ⟨oc, hoc, vc, tc, hd, hv⟩ := S.at_ hc
  have S0 := S
  obtain ⟨⟨mm, F, hm⟩, ob, dom, fro, off⟩ := S
  obtain ⟨oL, esL, epL, hoL, hnL⟩ := F.ns
  have hlv : vs.length = ps.length := rv.length ▸ hl
  have hLs : c.L < s.heap.objs.size := Heap.lt_size hoL
  refine kla_callFunE (by show c.A.depth < 1000; have := hA.2.1; (first | lia | omega)) hof rfl hco hgen rfl ⟨c', oc, vc, tc, rfl, hoc, hd, hv⟩ ?_
  rw [hb vs hlv]
  refine wpAny_pure (wpAny_newFunctionEnv hcell (fun x hx => hloc x.1 (List.of_mem_zip hx).1) (fun h₁ hns hsb => ⟨((Bk.nolimit).keeps F.keep).fresh _ hsb, ?_⟩) hk)
  show codeAny _ _ (.expr body (envX qual scope s.heap.objs.size f (.ref c') clos)) _ _
  have hk : ∀ b o, s.heap.get? b = some o → h₁.get? b = some o := fun b o e => hsb.extBut b o (Nat.ne_of_lt (Heap.lt_size e)) (Heap.get?_push_of_some _ e)
  have hBn : ∀ a, c.hB.objs.size ≤ a → c.hB.get? a = none := fun a q => Heap.get?_none_of_le q
  have S' : ASt ⟨c.w, c.hB, c.A.deeper (envX qual scope s.heap.objs.size f (.ref c') clos), s.heap.objs.size, (c.L, oL) :: c.fs⟩ (ps.zip as).reverse H h₁ := by
    refine ⟨⟨_, ⟨hns, fun b o e => hk b o (F.keep b o e), Nat.le_trans F.above (Nat.le_of_lt hLs)⟩, fun x av e => ?_⟩, fun a ao e => ?_, dom, fun p hp => ?_, fun p hp => ?_⟩
    · rw [zip_rev _ _ hl.symm] at e
      rw [zip_rev _ _ hlv.symm]
      exact zip_lookup rv.reverse e
    · obtain ⟨o, h1, h2, h3, h4⟩ := ob a ao e
      exact ⟨o, hk _ _ h1, h2, Nat.ne_of_lt (Heap.lt_size h1), h4⟩
    · rcases List.mem_cons.mp hp with rfl | hp
      · exact ⟨hk _ _ hoL, Nat.ne_of_lt hLs, hBn _ F.above⟩
      · exact ⟨hk _ _ (fro p hp).1, Nat.ne_of_lt (Heap.lt_size (fro p hp).1), (fro p hp).2.2⟩
    · rcases List.mem_cons.mp hp with rfl | hp
      · cases q : H c.L with
        | none => rfl
        | some ao => obtain ⟨o, _, _, h3, _⟩ := ob c.L ao q; exact absurd rfl h3
      · exact off p hp
  refine kla_codeExpr (wpAny_mono (h (c.A.deeper (envX qual scope s.heap.objs.size f (.ref c') clos)) s.heap.objs.size ((c.L, oL) :: c.fs) ⟨hA.1, by have := hA.2.1; show c.A.depth + 1 + d ≤ 990; (first | lia | omega), by have := hA.2.2; show c.A.units + 3 + 8 * d ≤ 9000; (first | lia | omega)⟩ _ S') ?_ (fun _ _ x => x.elim))
  rintro v s' ⟨av, m', H', r, S2, z, q⟩
  refine ⟨av, m, H', r, ?_, z, q⟩
  obtain ⟨⟨mm', F', hm'⟩, ob', dom', fro', off'⟩ := S2
  have hL' := fro' (c.L, oL) (.head _)
  refine ⟨⟨mm, ⟨⟨oL, esL, epL, hL'.1, hnL⟩, F'.keep, F.above⟩, hm⟩, fun a ao e => ?_, dom', fun p hp => ⟨(fro' p (List.mem_cons_of_mem _ hp)).1, (fro p hp).2⟩, fun p hp => off' p (List.mem_cons_of_mem _ hp)⟩
  obtain ⟨o, h1, h2, h3, h4⟩ := ob' a ao e
  exact ⟨o, h1, h2, fun q => (by have := off' (c.L, oL) (.head _); rw [q] at e; rw [e] at this; cases this), h4⟩
section
variable {c : Cx} {env : Env} {m : Lm} {H : Hp} {pos : Pos} {Q : AV → Lm → Hp → Prop} {QF : AF → Lm → Hp → Prop} {QB : Bool → Lm → Hp → Prop}
theorem c_class {C fI : Addr} {as : List AV} {d : Nat} (Bk : BOk c.w c.hB) (hA : AOk (d + 1) c.A) (hm : makesIn (KX c.w.params) C = true) (hi : findIn (KX c.w.params) (.ref C) "__init__" = some (some (.ref fI))) (hf : isFn (KX c.w.params) (.ref fI) = true)
    (h : ∀ A x dx, AOk d A → H x = none → H dx = none → x ≠ dx → CC ⟨c.w, c.hB, A, c.L, c.fs⟩ (.ref fI) (.ref x :: as) m (hup (hup H dx (.dict [])) x (.inst C dx)) fun av m1 H1 => av = .none ∧ Q (.ref x) m1 H1) : WC c (.ref C) as m H Q := fun vs rv s S => by
  obtain ⟨⟨mm, F, hmm⟩, ob, ⟨l, nd, hl⟩, fro, off⟩ := S
  obtain ⟨nw, N, sub, k⟩ := news_of ob l
  have NN : News c.hB c.L s.heap (c.fs ++ nw) := fun p hp => (List.mem_append.mp hp).elim (fro p) (N p)
  refine call_cls F Bk.X NN hm hi hf fun x dx h' F' N' hn hx => ?_
  have hin : ∀ a ao, H a = some ao → ∃ o, (a, o) ∈ nw ∧ repO c.w.params ao o := fun a ao e => k a ao (hl a (by rw [e]; rfl)) e
  have hlow : ∀ a ao, H a = some ao → a < dx := fun a ao e => by
    obtain ⟨o, h1, _⟩ := hin a ao e
    exact hn (a, o) (List.mem_append_right _ h1)
  have hHdx : H dx = none := by
    cases e : H dx with
    | none => rfl
    | some ao => exact absurd (hlow dx ao e) (Nat.lt_irrefl _)
  have hHx : H x = none := by
    cases e : H x with
    | none => rfl
    | some ao => exact absurd (hlow x ao e) (Nat.not_lt.mpr (Nat.le_of_lt hx))
  have hdx := N' (dx, dictOf [] 0) (.tail _ (.head _))
  have hxx := N' (x, instObj C dx) (.head _)
  have S1 : ∀ A, ASt ⟨c.w, c.hB, A, c.L, c.fs⟩ m (hup (hup H dx (.dict [])) x (.inst C dx)) h' := fun A => by
    refine ⟨⟨mm, F', hmm⟩, fun a ao e => ?_, hup_dom (hup_dom ⟨l, nd, hl⟩), fun p hp => ⟨(N' p (.tail _ (.tail _ (List.mem_append_left _ hp)))).1, (fro p hp).2⟩, hup_off (hup_off off fun p hp => Nat.ne_of_lt (hn p (List.mem_append_left _ hp))) fun p hp => Nat.ne_of_lt (Nat.lt_trans (hn p (List.mem_append_left _ hp)) hx)⟩
    by_cases q : a = x
    · subst q
      rw [hup_self] at e; cases e
      exact ⟨_, hxx.1, rfl, hxx.2.1, hxx.2.2⟩
    · rw [hup_ne q] at e
      by_cases q : a = dx
      · subst q
        rw [hup_self] at e; cases e
        exact ⟨_, hdx.1, ⟨[], 0, rfl, .nil⟩, hdx.2.1, hdx.2.2⟩
      · rw [hup_ne q] at e
        obtain ⟨o, h1, h2⟩ := hin a ao e
        have z := N' (a, o) (.tail _ (.tail _ (List.mem_append_right _ h1)))
        exact ⟨o, z.1, h2, z.2.1, z.2.2⟩
  refine codeAny_mono (h (c.A.under (.builtin "type.__call__" ⟨.ref C :: vs, []⟩)) x dx ⟨hA.1, by have := hA.2.1; show c.A.depth + 1 + d ≤ 990; (first | lia | omega), by have := hA.2.2; show c.A.units + 1 + 8 * d ≤ 9000; (first | lia | omega)⟩ hHx hHdx (Nat.ne_of_gt hx) (.ref x :: vs) (.cons rfl rv) { s with heap := h' } (S1 _)) fun r s1 hr => ?_
  rcases r with e | (v | _ | _ | _)
  · exact hr.elim
  · exact hr.elim
  · exact hr.elim
  · exact hr.elim
  · obtain ⟨av, m1, H1, r, S2, z, rfl, q⟩ := hr
    exact ⟨r, .ref x, m1, H1, rfl, ⟨S2.fr, S2.ob, S2.dom, S2.fro, S2.off⟩, z, q⟩
end
end Mine
end
section
open PySem PySem.W PySem.Calls PyProof.Rows
set_option Elab.async false
set_option maxRecDepth 100000
set_option maxHeartbeats 1000000
set_option linter.unusedVariables false
set_option linter.unusedSimpArgs false
namespace Mine
noncomputable def aStrs (l : List (List Nat)) : List AV := l.map .str
noncomputable def aInts (l : List Int) : List AV := l.map .int
noncomputable def aBools (l : List Bool) : List AV := l.map .bool
theorem strsAre_of : ∀ {l : List (List Nat)} {vs : List Value}, Reps (aStrs l) vs → StrsAre vs (l.map fun x => (⟨x.toArray⟩ : Str))
  | [], _, .nil => .nil
  | x :: l, _, .cons ⟨t, e⟩ r => by subst e; exact .cons _ t (strsAre_of r)
theorem intsAre_of : ∀ {l : List Int} {vs : List Value}, Reps (aInts l) vs → IntsAre vs l
  | [], _, .nil => .nil
  | x :: l, _, .cons ⟨t, e⟩ r => by subst e; exact .cons _ t (intsAre_of r)
theorem carried_strs : ∀ {l : List (List Nat)} {vs : List Value}, Reps (aStrs l) vs → CarriedAll vs ((l.map fun x => (⟨x.toArray⟩ : Str)).map PyData.str)
  | [], _, .nil => .nil
  | x :: l, _, .cons ⟨t, e⟩ r => by subst e; exact .cons (.str _ t) (carried_strs r)
theorem carried_bools : ∀ {l : List Bool} {vs : List Value}, Reps (aBools l) vs → CarriedAll vs (l.map PyData.bool)
  | [], _, .nil => .nil
  | x :: l, _, .cons e r => by cases e; exact .cons (.bool _) (carried_bools r)
theorem reps_of_strs : ∀ {l : List (List Nat)} {vs : List Value}, CarriedAll vs ((l.map fun x => (⟨x.toArray⟩ : Str)).map PyData.str) → Reps (aStrs l) vs
  | [], _, .nil => .nil
  | x :: l, _, .cons c r => by cases c; exact .cons ⟨_, rfl⟩ (reps_of_strs r)
theorem reps_of_ints : ∀ {l : List Int} {vs : List Value}, CarriedAll vs (l.map PyData.int) → Reps (aInts l) vs
  | [], _, .nil => .nil
  | x :: l, _, .cons c r => by cases c; exact .cons ⟨_, rfl⟩ (reps_of_ints r)
noncomputable def okStrs (l : List (List Nat)) : Prop := ∀ x ∈ l, ∀ n ∈ x, n < 1114112
theorem lay_strs : ∀ {l : List (List Nat)}, okStrs l → PyData.canLayAll0 ((l.map fun x => (⟨x.toArray⟩ : Str)).map PyData.str) = true
  | [], _ => rfl
  | x :: r, h => by
    have h1 := lay_strs (l := r) fun y hy => h y (List.mem_cons_of_mem _ hy)
    have h2 : PyData.strOk ⟨x.toArray⟩ = true := by
      unfold PyData.strOk
      rw [Array.all_eq_true']
      intro n hn
      exact decide_eq_true (h x (.head _) n (by simpa using hn))
    simp only [List.map_cons, PyData.canLayAll0, PyData.canLay0, h2, Bool.true_and]
    exact h1
theorem dep_strs : ∀ ns : List Str, PyData.depthAll (ns.map PyData.str) = 0
  | [] => rfl
  | _ :: r => by simp [PyData.depthAll, PyData.depth, dep_strs r]
theorem shaped_strs {l : List (List Nat)} (h : okStrs l) : SeqAt.shaped (.list ((l.map fun x => (⟨x.toArray⟩ : Str)).map PyData.str)) = true := by
  have h1 := lay_strs h
  unfold SeqAt.shaped
  simp only [PyData.canLay0, PyData.depth, h1, dep_strs]
  rfl
theorem same_strs : ∀ ns ms : List Str, PySem.Spec.sameAll (ns.map PyData.str) (ms.map PyData.str) = decide (ns = ms)
  | [], [] => by simp [PySem.Spec.sameAll]
  | [], _ :: _ => by simp [PySem.Spec.sameAll]
  | _ :: _, [] => by simp [PySem.Spec.sameAll]
  | a :: r, b :: t => by
    simp only [List.map_cons, PySem.Spec.sameAll, PySem.Spec.same, same_strs r t]
    by_cases h : a = b <;> by_cases h' : r = t <;> simp [h, h']
theorem lay_bools : ∀ ns : List Bool, PyData.canLayAll0 (ns.map PyData.bool) = true
  | [] => rfl
  | _ :: r => by simp [PyData.canLayAll0, PyData.canLay0, lay_bools r]
theorem dep_bools : ∀ ns : List Bool, PyData.depthAll (ns.map PyData.bool) = 0
  | [] => rfl
  | _ :: r => by simp [PyData.depthAll, PyData.depth, dep_bools r]
theorem shaped_bools (ns : List Bool) : SeqAt.shaped (.list (ns.map PyData.bool)) = true := by simp [SeqAt.shaped, PyData.canLay0, PyData.depth, lay_bools, dep_bools]
theorem same_bools : ∀ ns ms : List Bool, PySem.Spec.sameAll (ns.map PyData.bool) (ms.map PyData.bool) = decide (ns = ms)
  | [], [] => by simp [PySem.Spec.sameAll]
  | [], _ :: _ => by simp [PySem.Spec.sameAll]
  | _ :: _, [] => by simp [PySem.Spec.sameAll]
  | a :: r, b :: t => by
    simp only [List.map_cons, PySem.Spec.sameAll, PySem.Spec.same, same_bools r t]
    cases a <;> cases b <;> by_cases h' : r = t <;> simp [h']
theorem strs_inj {l k : List (List Nat)} : (l.map (fun x => (⟨x.toArray⟩ : Str)) = k.map fun x => (⟨x.toArray⟩ : Str)) ↔ l = k := by
  refine ⟨fun h => ?_, fun h => by rw [h]⟩
  induction l generalizing k with
  | nil => cases k with | nil => rfl | cons => simp at h
  | cons x l ih => cases k with
    | nil => simp at h
    | cons y k =>
      simp only [List.map_cons, List.cons.injEq] at h
      obtain ⟨h1, h2⟩ := h
      have : x.toArray = y.toArray := by injection h1
      rw [ih h2, show x = y by simpa using this]
section
variable {c : Cx} {env : Env} {m : Lm} {H : Hp} {pos : Pos} {Q : AV → Lm → Hp → Prop} {QF : AF → Lm → Hp → Prop} {QB : Bool → Lm → Hp → Prop}
theorem o_eq_strs {a b : Addr} {l k : List (List Nat)} {d : Nat} (hl : okStrs l) (hk : okStrs k) (hA : AOk (d + 8) c.A) (ea : H a = some (.list (aStrs l))) (eb : H b = some (.list (aStrs k))) (h : Q (.bool (decide (l = k))) m H) : WO2 c (compareOp .Eq) (.ref a) (.ref b) m H Q := fun x y ex ey => by
  cases ex; cases ey
  intro s S
  obtain ⟨vs, h1, r1⟩ := isList_at S ea
  obtain ⟨ws, h2, r2⟩ := isList_at S eb
  refine eq_dataH_same (reads_newData h1 (carried_strs r1)) (reads_newData h2 (carried_strs r2)) (shaped_strs hl) (shaped_strs hk) (by have := hA.2.2; show c.A.units + 64 < 9900; (first | lia | omega)) (SeqAt.noMix_of_shape (.list .str) rfl _ _ (list_map_has fun _ => rfl) (list_map_has fun _ => rfl)) ⟨.bool (decide (l = k)), m, H, ?_, S, .rfl', h⟩
  show Value.bool _ = Value.bool _
  simp only [PySem.Spec.same, same_strs, strs_inj]
theorem o_ne_strs {a b : Addr} {l k : List (List Nat)} {d : Nat} (hl : okStrs l) (hk : okStrs k) (hA : AOk (d + 8) c.A) (ea : H a = some (.list (aStrs l))) (eb : H b = some (.list (aStrs k))) (h : Q (.bool (!decide (l = k))) m H) : WO2 c (compareOp .NotEq) (.ref a) (.ref b) m H Q := fun x y ex ey => by
  cases ex; cases ey
  intro s S
  obtain ⟨vs, h1, r1⟩ := isList_at S ea
  obtain ⟨ws, h2, r2⟩ := isList_at S eb
  refine ne_dataH_same (reads_newData h1 (carried_strs r1)) (reads_newData h2 (carried_strs r2)) (shaped_strs hl) (shaped_strs hk) (by have := hA.2.2; show c.A.units + 64 < 9900; (first | lia | omega)) (SeqAt.noMix_of_shape (.list .str) rfl _ _ (list_map_has fun _ => rfl) (list_map_has fun _ => rfl)) ⟨.bool (!decide (l = k)), m, H, ?_, S, .rfl', h⟩
  show Value.bool _ = Value.bool _
  simp only [PySem.Spec.same, same_strs, strs_inj]
theorem o_ne_bools {a b : Addr} {l k : List Bool} {d : Nat} (hA : AOk (d + 8) c.A) (ea : H a = some (.list (aBools l))) (eb : H b = some (.list (aBools k))) (h : Q (.bool (!decide (l = k))) m H) : WO2 c (compareOp .NotEq) (.ref a) (.ref b) m H Q := fun x y ex ey => by
  cases ex; cases ey
  intro s S
  obtain ⟨vs, h1, r1⟩ := isList_at S ea
  obtain ⟨ws, h2, r2⟩ := isList_at S eb
  refine ne_dataH_same (reads_newData h1 (carried_bools r1)) (reads_newData h2 (carried_bools r2)) (shaped_bools _) (shaped_bools _) (by have := hA.2.2; show c.A.units + 64 < 9900; (first | lia | omega)) (SeqAt.noMix_of_shape (.list .bool) rfl _ _ (list_map_has fun _ => rfl) (list_map_has fun _ => rfl)) ⟨.bool (!decide (l = k)), m, H, ?_, S, .rfl', h⟩
  show Value.bool _ = Value.bool _
  simp only [PySem.Spec.same, same_bools]
theorem o_in_strs {a : Addr} {x : List Nat} {l : List (List Nat)} (ea : H a = some (.list (aStrs l))) (h : Q (.bool (decide (x ∈ l))) m H) : WO2 c (compareOp .In) (.str x) (.ref a) m H Q := fun u v ⟨t, e⟩ ev => by
  subst e; cases ev
  intro s S
  obtain ⟨vs, h1, r1⟩ := isList_at S ea
  refine in_list_strs h1 (strsAre_of r1) ⟨.bool (decide (x ∈ l)), m, H, ?_, S, .rfl', h⟩
  show Value.bool _ = Value.bool _
  congr 1
  rw [Bool.eq_iff_iff]
  simp only [List.any_map, List.any_eq_true, decide_eq_true_eq, Function.comp]
  constructor
  · rintro ⟨y, hy, e⟩
    have : y.toArray = x.toArray := by injection (beq_iff_eq.mp e)
    rw [show x = y by simpa using this.symm]; exact hy
  · exact fun hx => ⟨x, hx, by simp⟩
noncomputable def rp (l : List Nat) (n : Int) : List Nat := (List.replicate n.toNat l).flatten
theorem o_mul_str {l : List Nat} {n : Int} (hz : l.length * n.toNat ≤ 100000) (hn : n ≤ 100000) (hn0 : -100000 ≤ n) (h : Q (.str (rp l n)) m H) : WO2 c (binaryOp .Mult) (.str l) (.int n) m H Q := fun x y ⟨t, e⟩ ⟨u, e'⟩ => by
  subst e e'
  intro s S
  refine SB.mul ⟨?_, fun _ _ => ?_, fun _ _ => ?_⟩ fun t' k => ⟨.str (rp l n), m, H, ⟨t', ?_⟩, S, ⟨rfl, rfl, rfl⟩, h⟩
  · have h1 : ¬ n < -(2 ^ 63 : Int) := by (first | lia | omega)
    have h2 : ¬ n ≥ (2 ^ 63 : Int) := by (first | lia | omega)
    exact Bool.or_eq_false_iff.mpr ⟨decide_eq_false h1, decide_eq_false h2⟩
  · show ¬ ((l.toArray.size : Int) > (2 ^ 63 - 1) / n)
    rw [List.size_toArray]
    rename_i h1 h2
    have hn1 : 1 ≤ n := by (first | lia | omega)
    intro hgt
    have h3 : (2 ^ 63 - 1) / n < (l.length : Int) := hgt
    have h4 : (l.length : Int) * n ≤ 100000 := by
      have : ((l.length * n.toNat : Nat) : Int) ≤ ((100000 : Nat) : Int) := Int.ofNat_le.mpr hz
      rw [Int.natCast_mul, Int.toNat_of_nonneg (by (first | lia | omega))] at this; exact this
    have h5 := Int.lt_mul_of_ediv_lt (by (first | lia | omega)) h3
    (first | lia | omega)
  · show decide (l.toArray.size * n.toNat > sizeLine) = false
    rw [List.size_toArray, sizeLine_eq]
    exact decide_eq_false (by (first | lia | omega))
  · show Value.str _ t' = Value.str _ t'
    congr 1
    unfold Txt.mul rp
    by_cases h1 : n < 1
    · rw [if_pos h1]
      have : n.toNat = 0 := by (first | lia | omega)
      rw [this]; rfl
    · rw [if_neg h1]
      split
      · rename_i h2
        have h2' : n = 1 ∨ l = [] := by
          rcases Bool.or_eq_true _ _ |>.mp h2 with h | h
          · exact .inl (beq_iff_eq.mp h)
          · right
            have : l.toArray.size = 0 := beq_iff_eq.mp h
            simpa using this
        rcases h2' with rfl | rfl
        · simp
        · simp
      · congr 1
        have : ∀ (k : Nat) (acc : Array Nat), List.foldl (fun x1 x2 => x1 ++ x2) acc (List.replicate k l.toArray) = (acc.toList ++ (List.replicate k l).flatten).toArray := fun k => by
          induction k with
          | zero => intro acc; simp
          | succ k ih => intro acc; rw [List.replicate_succ, List.foldl_cons, ih]; simp [List.replicate_succ]
        rw [this]; simp
theorem c_ord {x : Nat} (h : Q (.int x) m H) : WC c (.builtin "ord") [.str [x]] m H Q := fun vs rs => by
  cases rs with
  | cons r rs =>
    cases rs; obtain ⟨t, rfl⟩ := r
    exact fun s S => P.ord_of_char ⟨.int x, m, H, ⟨_, rfl⟩, S, ⟨rfl, rfl, rfl⟩, h⟩
theorem c_chr {i : Int} (h0 : 0 ≤ i) (h1 : i ≤ 1114111) (h : Q (.str [i.toNat]) m H) : WC c (.builtin "chr") [.int i] m H Q := fun vs rs => by
  cases rs with
  | cons r rs =>
    cases rs; obtain ⟨t, rfl⟩ := r
    exact fun s S => chr_of_range h0 h1 ⟨.str [i.toNat], m, H, ⟨_, rfl⟩, S, ⟨rfl, rfl, rfl⟩, h⟩
theorem c_isbool {b : Bool} (h : Q (.bool true) m H) : WC c (.builtin "isinstance") [.bool b, .ty "bool"] m H Q := fun vs rs => by
  cases rs with
  | cons r rs => cases rs with
    | cons r2 rs =>
      cases rs; cases r; cases r2
      exact fun s S => IsiPair.bool_bool ⟨.bool true, m, H, rfl, S, .rfl', h⟩
theorem c_divmod {a b : Int} (hb : b ≠ 0) (hp : Builtin.divisionGoesByPylong a b = false) (h : ∀ d, H d = none → Q (.ref d) m (hup H d (.tup [.int (a.fdiv b), .int (a.fmod b)]))) : WC c (.builtin "divmod") [.int a, .int b] m H Q := fun vs rs => by
  cases rs with
  | cons r rs => cases rs with
    | cons r2 rs =>
      cases rs; obtain ⟨t, rfl⟩ := r; obtain ⟨u, rfl⟩ := r2
      intro s S
      obtain ⟨mm, nw, F, N, hlt, back, more⟩ := S.news
      exact divmod_N F N hb (fun h' F' N' => ⟨.ref _, m, _, rfl, more _ (.tup [.int (a.fdiv b), .int (a.fmod b)]) _ h' F' N' ⟨_, 0, rfl, .cons ⟨_, rfl⟩ (.cons ⟨_, rfl⟩ .nil)⟩ (fun p hp => Nat.ne_of_lt (hlt p hp)), ⟨rfl, rfl, rfl⟩, h _ S.free⟩) (.inl hp)
theorem c_min {a : Addr} {l : List Int} (hh : c.A.handled = none) (ea : H a = some (.list (aInts l))) (hl : l ≠ []) (h : ∀ x, x ∈ l → (∀ y ∈ l, x ≤ y) → Q (.int x) m H) : WC c (.builtin "min") [.ref a] m H Q := fun vs rs => by
  cases rs with
  | cons r rs =>
    cases rs; cases r
    intro s S
    obtain ⟨mm, nw, F, N, hlt, back, more⟩ := S.news
    obtain ⟨vs, h1, r1⟩ := isList_at S ea
    exact min_list_N hh F N h1 (intsAre_of r1) (List.length_pos_iff.mpr hl) fun h' M t tk F' N' hm hle => ⟨.int M, m, H, ⟨_, rfl⟩, back h' F' N', ⟨rfl, rfl, rfl⟩, h M hm hle⟩
theorem c_max {a : Addr} {l : List Int} (hh : c.A.handled = none) (ea : H a = some (.list (aInts l))) (hl : l ≠ []) (h : ∀ x, x ∈ l → (∀ y ∈ l, y ≤ x) → Q (.int x) m H) : WC c (.builtin "max") [.ref a] m H Q := fun vs rs => by
  cases rs with
  | cons r rs =>
    cases rs; cases r
    intro s S
    obtain ⟨mm, nw, F, N, hlt, back, more⟩ := S.news
    obtain ⟨vs, h1, r1⟩ := isList_at S ea
    exact max_list_N hh F N h1 (intsAre_of r1) (List.length_pos_iff.mpr hl) fun h' M t tk F' N' hm hle => ⟨.int M, m, H, ⟨_, rfl⟩, back h' F' N', ⟨rfl, rfl, rfl⟩, h M hm hle⟩
theorem signs_map (l : List Nat) : signs ⟨l.toArray⟩ = (l.map fun x => [x]).map fun x => (⟨x.toArray⟩ : Str) := by simp [signs]
theorem c_list_str {l : List Nat} (hh : c.A.handled = none) (hz : l.length ≤ 100000) (h : ∀ d, H d = none → Q (.ref d) m (hup H d (.list (aStrs (l.map fun x => [x]))))) : WC c (.type "list") [.str l] m H Q := fun vs rs => by
  cases rs with
  | cons r rs =>
    cases rs; obtain ⟨t, rfl⟩ := r
    intro s S
    obtain ⟨mm, nw, F, N, hlt, back, more⟩ := S.news
    refine list_strD hh F N (fun h' tk ys F' N' hk hn hl hp hc => ?_) (by rw [sizeLine_eq]; show l.toArray.size ≤ _; simp; (first | lia | omega))
    obtain ⟨n, hx⟩ := hp.1
    exact ⟨.ref _, m, _, rfl, S.new (ao := .list (aStrs (l.map fun x => [x]))) hk hx (Heap.get?_none_of_le (Nat.le_refl _)) ⟨ys, n, rfl, reps_of_strs (by rw [← signs_map]; exact hc)⟩, ⟨rfl, rfl, rfl⟩, h _ S.free⟩
theorem join_flat : ∀ l : List (List Nat), Str.join ⟨#[]⟩ (l.map fun x => (⟨x.toArray⟩ : Str)) = ⟨l.flatten.toArray⟩
  | [] => rfl
  | [x] => by simp [Str.join]
  | x :: y :: r => by
    have ih := join_flat (y :: r)
    rw [List.map_cons] at ih
    rw [List.map_cons, List.map_cons, Str.join, ih]
    · show (⟨(x.toArray ++ #[]) ++ _⟩ : Str) = _
      simp
    · intro h; cases h
theorem c_join {a : Addr} {l : List (List Nat)} (ea : H a = some (.list (aStrs l))) (hz : l.flatten.length ≤ 100000) (h : Q (.str l.flatten) m H) : WC c (.builtin "str.join") [.str [], .ref a] m H Q := fun vs rs => by
  cases rs with
  | cons r rs => cases rs with
    | cons r2 rs =>
      cases rs; obtain ⟨t, rfl⟩ := r; cases r2
      intro s S
      obtain ⟨vs, h1, r1⟩ := isList_at S ea
      refine join_list h1 (strsAre_of r1) ?_ fun t' k => ⟨.str l.flatten, m, H, ⟨t', ?_⟩, S, ⟨rfl, rfl, rfl⟩, h⟩
      · have : ((l.map fun x => (⟨x.toArray⟩ : Str)).map (·.length)).sum = l.flatten.length := by
          rw [List.map_map, List.length_flatten]
          congr 1
        rw [this]
        show _ + _ * 0 ≤ _
        (first | lia | omega)
      · show Value.str _ t' = Value.str _ t'
        congr 1
        rw [← join_flat]
        exact StrLaws.glued_eq_join _ _
theorem c_count {a b : List Nat} (h : Q (.int (Txt.count ⟨a.toArray⟩ ⟨b.toArray⟩)) m H) : WC c (.builtin "str.count") [.str a, .str b] m H Q := fun vs rs => by
  cases rs with
  | cons r rs => cases rs with
    | cons r2 rs =>
      cases rs; obtain ⟨t, rfl⟩ := r; obtain ⟨u, rfl⟩ := r2
      exact fun s S => SC.count ⟨.int _, m, H, ⟨_, rfl⟩, S, ⟨rfl, rfl, rfl⟩, h⟩
theorem c_lower {a : List Nat} (hz : (Txt.lower ⟨a.toArray⟩).length ≤ 100000) (h : Q (.str (Txt.lower ⟨a.toArray⟩).cps.toList) m H) : WC c (.builtin "str.lower") [.str a] m H Q := fun vs rs => by
  cases rs with
  | cons r rs =>
    cases rs; obtain ⟨t, rfl⟩ := r
    exact fun s S => SC.lower (by show decide (_ > sizeLine) = false; rw [sizeLine_eq]; simp; (first | lia | omega)) ⟨.str (Txt.lower ⟨a.toArray⟩).cps.toList, m, H, ⟨_, rfl⟩, S, ⟨rfl, rfl, rfl⟩, h⟩
noncomputable def fnd4 (a b : List Nat) (j : Nat) : Int := match Builtin.Str.occurrences ⟨a.toArray⟩ ⟨b.toArray⟩ 0 (min j a.length) 1 with | i :: _ => (i : Int) | [] => -1
noncomputable def rfnd4 (a b : List Nat) (j : Nat) : Int := match Builtin.Str.lastOccurrence ⟨a.toArray⟩ ⟨b.toArray⟩ 0 (min j a.length) with | some i => (i : Int) | none => -1
theorem gives_find4 (x y : Str) (j : Nat) (t u v z : Tok) : Gives (Builtin.«str.find» ⟨[.str x t, .str y u, .int 0 v, .int j z], []⟩) (.int (match Builtin.Str.occurrences x y 0 (min j x.length) 1 with | i :: _ => (i : Int) | [] => -1)) := by
  show Gives (match Builtin.Str.occurrences x y 0 (min (max 0 (if (j : Int) < 0 then (j : Int) + x.length else j)).toNat x.length) 1 with | i :: _ => retInt i | [] => (do rule "str.find.not-found"; retInt (-1))) _
  rw [show (max 0 (if (j : Int) < 0 then (j : Int) + x.length else j)).toNat = j by rw [if_neg (by (first | lia | omega))]; (first | lia | omega)]
  cases Builtin.Str.occurrences x y 0 (min j x.length) 1 with
  | nil => exact .rule (.of_eq rfl)
  | cons i _ => exact .of_eq rfl
theorem gives_rfind4 (x y : Str) (j : Nat) (t u v z : Tok) : Gives (Builtin.«str.rfind» ⟨[.str x t, .str y u, .int 0 v, .int j z], []⟩) (.int (match Builtin.Str.lastOccurrence x y 0 (min j x.length) with | some i => (i : Int) | none => -1)) := by
  show Gives (match Builtin.Str.lastOccurrence x y 0 (min (max 0 (if (j : Int) < 0 then (j : Int) + x.length else j)).toNat x.length) with | some i => retInt i | none => (do rule "str.rfind.not-found"; retInt (-1))) _
  rw [show (max 0 (if (j : Int) < 0 then (j : Int) + x.length else j)).toNat = j by rw [if_neg (by (first | lia | omega))]; (first | lia | omega)]
  cases Builtin.Str.lastOccurrence x y 0 (min j x.length) with
  | none => exact .rule (.of_eq rfl)
  | some i => exact .of_eq rfl
theorem c_find4 {a b : List Nat} {j : Nat} (h : Q (.int (fnd4 a b j)) m H) : WC c (.builtin "str.find") [.str a, .str b, .int 0, .int j] m H Q := fun vs rs => by
  cases rs with
  | cons r1 rs => cases rs with
    | cons r2 rs => cases rs with
      | cons r3 rs => cases rs with
        | cons r4 rs =>
          cases rs; obtain ⟨t, rfl⟩ := r1; obtain ⟨u, rfl⟩ := r2; obtain ⟨v, rfl⟩ := r3; obtain ⟨z, rfl⟩ := r4
          exact fun s S => call_gives F.slot_str_find (typeIs_str _ _ _) F.entry_str_find (F.args_str_find_4 _ _ _ _) (gives_find4 ⟨a.toArray⟩ ⟨b.toArray⟩ j t u v z) ⟨.int (fnd4 a b j), m, H, ⟨_, by unfold fnd4; rw [show (⟨a.toArray⟩ : Str).length = a.length by show a.toArray.size = _; simp]⟩, S, ⟨rfl, rfl, rfl⟩, h⟩
theorem c_rfind4 {a b : List Nat} {j : Nat} (h : Q (.int (rfnd4 a b j)) m H) : WC c (.builtin "str.rfind") [.str a, .str b, .int 0, .int j] m H Q := fun vs rs => by
  cases rs with
  | cons r1 rs => cases rs with
    | cons r2 rs => cases rs with
      | cons r3 rs => cases rs with
        | cons r4 rs =>
          cases rs; obtain ⟨t, rfl⟩ := r1; obtain ⟨u, rfl⟩ := r2; obtain ⟨v, rfl⟩ := r3; obtain ⟨z, rfl⟩ := r4
          exact fun s S => call_gives F.slot_str_rfind (typeIs_str _ _ _) F.entry_str_rfind (F.args_str_rfind_4 _ _ _ _) (gives_rfind4 ⟨a.toArray⟩ ⟨b.toArray⟩ j t u v z) ⟨.int (rfnd4 a b j), m, H, ⟨_, by unfold rfnd4; rw [show (⟨a.toArray⟩ : Str).length = a.length by show a.toArray.size = _; simp]⟩, S, ⟨rfl, rfl, rfl⟩, h⟩
end
end Mine
end
section
open PySem PySem.W PySem.Calls PyProof.Rows
set_option Elab.async false
set_option maxRecDepth 100000
set_option maxHeartbeats 1000000
set_option linter.unusedVariables false
set_option linter.unusedSimpArgs false
namespace Mine
section
variable {c : Cx} {env : Env} {m : Lm} {H : Hp} {pos : Pos} {Q : AV → Lm → Hp → Prop} {QF : AF → Lm → Hp → Prop} {QB : Bool → Lm → Hp → Prop} {QN : Option AV → Lm → Hp → Prop}
theorem it_self {a it : Addr} {i : Nat} (ei : H it = some (.pat (liP a i))) (h : Q (.ref it) m H) : WIter c (.ref it) m H Q := fun x r s S => by
  cases r
  obtain ⟨oi, hi1, hi2⟩ := S.at_ ei
  exact wpAny_pyIter_listiter (i := i) (l := a) ⟨_, hi1, hi2.1, hi2.2⟩ ⟨.ref it, m, H, rfl, S, .rfl', h⟩
noncomputable def siP (l : List Nat) (i : Nat) (o : Obj) : Prop := (o.cls = .type "str_ascii_iterator" ∨ o.cls = .type "str_iterator") ∧ ∃ t, o.data = .fields #[.str ⟨l.toArray⟩ t, .int i 0]
theorem it_str {l : List Nat} (h : ∀ it, H it = none → Q (.ref it) m (hup H it (.pat (siP l 0)))) : WIter c (.str l) m H Q := fun x r s S => by
  obtain ⟨t, rfl⟩ := r
  cases ha : (⟨l.toArray⟩ : Str).cps.all (· < 128)
  · exact wpAny_pyIter_wide ha ⟨.ref _, m, _, rfl, S.newPush (ao := .pat (siP l 0)) (o := { cls := .type "str_iterator", data := .fields #[.str ⟨l.toArray⟩ t, .int 0 0] }) ⟨.inr rfl, t, rfl⟩ rfl, .rfl', h _ S.free⟩
  · exact wpAny_pyIter_ascii ha ⟨.ref _, m, _, rfl, S.newPush (ao := .pat (siP l 0)) (o := { cls := .type "str_ascii_iterator", data := .fields #[.str ⟨l.toArray⟩ t, .int 0 0] }) ⟨.inl rfl, t, rfl⟩ rfl, .rfl', h _ S.free⟩
theorem it_str_self {it : Addr} {l : List Nat} {i : Nat} (ei : H it = some (.pat (siP l i))) (h : Q (.ref it) m H) : WIter c (.ref it) m H Q := fun x r s S => by
  cases r
  obtain ⟨oi, hi1, hi2, t, hi3⟩ := S.at_ ei
  rcases hi2 with hi2 | hi2
  · exact wpAny_pyIter_striter_ascii (x := ⟨l.toArray⟩) (t := t) (i := i) ⟨oi, hi1, hi2, hi3⟩ ⟨.ref it, m, H, rfl, S, .rfl', h⟩
  · exact wpAny_pyIter_striter_wide (x := ⟨l.toArray⟩) (t := t) (i := i) ⟨oi, hi1, hi2, hi3⟩ ⟨.ref it, m, H, rfl, S, .rfl', h⟩
theorem nx_str {it : Addr} {i : Nat} {l : List Nat} (hh : c.A.handled = none) (ei : H it = some (.pat (siP l i)))
    (h1 : ∀ x, l[i]? = some x → QN (some (.str [x])) m (hup H it (.pat (siP l (i + 1))))) (h2 : l.length ≤ i → QN none m (hdrop H it)) : WNext c it m H QN := fun s S => by
  obtain ⟨oi, hi1, hi2, t, hi3⟩ := S.at_ ei
  cases e : l[i]? with
  | some x =>
    have hx : (⟨l.toArray⟩ : Str).cps[i]? = some x := by simpa using e
    rcases hi2 with hi2 | hi2
    · refine wpAny_pyNext_ascii_item (x := ⟨l.toArray⟩) (t := t) ⟨oi, hi1, hi2, hi3⟩ hx fun h' hi' hs => ?_
      obtain ⟨o', g1, g2, g3⟩ := hi'
      exact ⟨some (.str [x]), m, _, ⟨_, rfl, _, rfl⟩, S.set (ao' := .pat (siP l (i + 1))) ei hs g1 ⟨.inl g2, t, g3⟩, ⟨rfl, rfl, rfl⟩, h1 x e⟩
    · refine wpAny_pyNext_wide_item (x := ⟨l.toArray⟩) (t := t) ⟨oi, hi1, hi2, hi3⟩ hx fun h' hi' hs => ?_
      obtain ⟨o', g1, g2, g3⟩ := hi'
      exact ⟨some (.str [x]), m, _, ⟨_, rfl, _, rfl⟩, S.set (ao' := .pat (siP l (i + 1))) ei hs g1 ⟨.inr g2, t, g3⟩, ⟨rfl, rfl, rfl⟩, h1 x e⟩
  | none =>
    have hx : (⟨l.toArray⟩ : Str).cps[i]? = none := by simpa using e
    rcases hi2 with hi2 | hi2
    · exact wpAny_pyNext_ascii_end hh (x := ⟨l.toArray⟩) (t := t) ⟨oi, hi1, hi2, hi3⟩ hx fun h' hx' => ⟨none, m, _, rfl, S.drop (o := oi) ei fun b o hb eb => hx' b o hb eb, .rfl', h2 (by simpa using e)⟩
    · exact wpAny_pyNext_wide_end hh (x := ⟨l.toArray⟩) (t := t) ⟨oi, hi1, hi2, hi3⟩ hx fun h' hx' => ⟨none, m, _, rfl, S.drop (o := oi) ei fun b o hb eb => hx' b o hb eb, .rfl', h2 (by simpa using e)⟩
noncomputable def rgP (a b : Int) (o : Obj) : Prop := ∃ t u v, o = { cls := .type "range", data := .fields #[.int a t, .int b u, .int 1 v] }
noncomputable def riO (x left : Int) : Obj := { cls := .type "range_iterator", data := .fields #[rawInt x, rawInt left, rawInt 1] }
theorem c_range1 {n : Int} (h : ∀ r, H r = none → Q (.ref r) m (hup H r (.pat (rgP 0 n)))) : WC c (.type "range") [.int n] m H Q := fun vs rs => by
  cases rs with
  | cons r rs =>
    cases rs; obtain ⟨t, rfl⟩ := r
    exact fun s S => call_range_1 ⟨.ref _, m, _, rfl, S.newPush (ao := .pat (rgP 0 n)) (o := { cls := .type "range", data := .fields #[.int 0 s.toks, .int n t, .int 1 (s.toks + 1)] }) ⟨_, _, _, rfl⟩ rfl, ⟨rfl, rfl, rfl⟩, h _ S.free⟩
theorem c_range2 {a b : Int} (h : ∀ r, H r = none → Q (.ref r) m (hup H r (.pat (rgP a b)))) : WC c (.type "range") [.int a, .int b] m H Q := fun vs rs => by
  cases rs with
  | cons r rs => cases rs with
    | cons r2 rs =>
      cases rs; obtain ⟨t, rfl⟩ := r; obtain ⟨u, rfl⟩ := r2
      exact fun s S => call_range_2 ⟨.ref _, m, _, rfl, S.newPush (ao := .pat (rgP a b)) (o := { cls := .type "range", data := .fields #[.int a t, .int b u, .int 1 s.toks] }) ⟨_, _, _, rfl⟩ rfl, ⟨rfl, rfl, rfl⟩, h _ S.free⟩
theorem size_range {n : Nat} : Builtin.Range.rangeSize 0 (n : Int) 1 = (n : Int) := by
  unfold Builtin.Range.rangeSize
  simp; (first | lia | omega)
theorem fitsL {x : Int} (h0 : 0 ≤ x) (h : x ≤ 2000) : Builtin.Range.rangeFitsLong x = true := by
  unfold Builtin.Range.rangeFitsLong
  exact Bool.and_eq_true_iff.mpr ⟨decide_eq_true (by (first | lia | omega)), decide_eq_true (by (first | lia | omega))⟩
theorem small_range {n : Nat} (hn : n ≤ 1000) : Builtin.Range.small 0 (n : Int) 1 = true := by
  unfold Builtin.Range.small
  rw [size_range, fitsL (by (first | lia | omega)) (by (first | lia | omega)), fitsL (x := (n : Int)) (by (first | lia | omega)) (by (first | lia | omega)), fitsL (x := 1) (by (first | lia | omega)) (by (first | lia | omega))]
  simp only [Bool.true_and]
  rw [if_pos (by decide), fitsL (x := (n : Int) + (1 - 1)) (by (first | lia | omega)) (by (first | lia | omega))]
  simp
theorem it_range {r : Addr} {n : Nat} (hn : n ≤ 1000) (e : H r = some (.pat (rgP 0 n))) (h : ∀ it, H it = none → Q (.ref it) m (hup H it (.raw (riO 0 n)))) : WIter c (.ref r) m H Q := fun x rx s S => by
  cases rx
  obtain ⟨o, h1, t, u, v, rfl⟩ := S.at_ e
  refine wpAny_pyIter_range h1 ?_ ⟨.ref _, m, _, rfl, S.newPush (ao := .raw (riO 0 n)) (o := _) ?_ rfl, .rfl', h _ S.free⟩
  · exact small_range hn
  · show _ = _
    rw [size_range]; rfl
theorem it_range_self {it : Addr} {x left : Int} (ei : H it = some (.raw (riO x left))) (h : Q (.ref it) m H) : WIter c (.ref it) m H Q := fun v r s S => by
  cases r
  exact wpAny_pyIter_rangeiter (raw_at S ei) ⟨.ref it, m, H, rfl, S, .rfl', h⟩
theorem nx_range {it : Addr} {x left : Int} (hh : c.A.handled = none) (ei : H it = some (.raw (riO x left)))
    (h1 : 0 < left → QN (some (.int x)) m (hup H it (.raw (riO (x + 1) (left - 1))))) (h2 : left ≤ 0 → QN none m (hdrop H it)) : WNext c it m H QN := fun s S => by
  have hi := raw_at S ei
  by_cases hl : 0 < left
  · refine wpAny_pyNext_range_item hi hl fun h' hi' hs => ⟨some (.int x), m, _, ⟨_, rfl, _, rfl⟩, S.set (ao' := .raw (riO (x + 1) (left - 1))) ei hs hi' rfl, ⟨rfl, rfl, rfl⟩, h1 hl⟩
  · exact wpAny_pyNext_range_end hh hi (by (first | lia | omega)) fun h' hx => ⟨none, m, _, rfl, S.drop (o := riO x left) ei fun b o hb eb => hx b o hb eb, .rfl', h2 (by (first | lia | omega))⟩
end
end Mine
end
section
open PySem PySem.W PySem.Calls PyProof.Rows
set_option Elab.async false
set_option maxRecDepth 100000
set_option maxHeartbeats 1000000
set_option linter.unusedVariables false
set_option linter.unusedSimpArgs false
namespace Mine
abbrev Has (m : Lm) (x : Str) (av : AV) : Prop := m.lookup x = some av
section
variable {c : Cx} {env : Env} {m : Lm} {H : Hp} {pos p : Pos} {Q : AV → Lm → Hp → Prop} {QF : AF → Lm → Hp → Prop} {QB : Bool → Lm → Hp → Prop} {k : Nat} {x : Str} {es : List PySem.Expr}
theorem x_l {av : AV} (E : EnvOk env c.L) (hv : m.lookup x = some av) (h : Q av m H) (hx : env.kindOf x = some .local := by kernel_rfl) (hd : (x == ("__debug__" : Str)) = false := by decide) : WE c env (.Name x pos) m H Q :=
  e_local E.kind hx E.loc hv h hd
theorem x_b {id : String} (Bk : BOk c.w c.hB) (E : EnvOk env c.L) (h : WArgs c env es m H fun as m1 H1 => WC c (.builtin id) as m1 H1 Q) (hv : bootBuiltins x = some (.builtin id) := by kernel_rfl) (hx : env.kindOf x = some .globalImplicit := by kernel_rfl)
    (hn : nsIn (KX c.w.params) mainGlobals x = some none := by kernel_rfl) (hs : noStar pos es env := by unfold noStar; kernel_rfl) (hnn : x ≠ "__name__" := by decide) (hd : (x == ("__debug__" : Str)) = false := by decide) : WE c env (.Call (.Name x p) es [] pos) m H Q :=
  e_call (e_builtin Bk E.kind hx E.glob E.bi hn hv hnn (av := .bltn id) rfl (fun v r => by cases r; exact cw_builtin hs h) hd)
theorem x_t {T : String} (Bk : BOk c.w c.hB) (E : EnvOk env c.L) (h : WArgs c env es m H fun as m1 H1 => WC c (.type T) as m1 H1 Q) (hv : bootBuiltins x = some (.type T) := by kernel_rfl) (hx : env.kindOf x = some .globalImplicit := by kernel_rfl)
    (hn : nsIn (KX c.w.params) mainGlobals x = some none := by kernel_rfl) (hs : noStar pos es env := by unfold noStar; kernel_rfl) (hnn : x ≠ "__name__" := by decide) (hd : (x == ("__debug__" : Str)) = false := by decide) : WE c env (.Call (.Name x p) es [] pos) m H Q :=
  e_call (e_builtin Bk E.kind hx E.glob E.bi hn hv hnn (av := .ty T) rfl (fun v r => by cases r; exact cw_type hs h) hd)
theorem x_f {f : Addr} (Bk : BOk c.w c.hB) (E : EnvOk env c.L) (h : WArgs c env es m H fun as m1 H1 => WC c (.ref f) as m1 H1 Q) (hn : nsIn (KX c.w.params) mainGlobals x = some (some (.ref f)) := by kernel_rfl) (hk : keepIn (KX c.w.params) (.ref f) = true := by kernel_rfl) (hx : env.kindOf x = some .globalImplicit := by kernel_rfl)
    (hs : noStar pos es env := by unfold noStar; kernel_rfl) (hd : (x == ("__debug__" : Str)) = false := by decide) : WE c env (.Call (.Name x p) es [] pos) m H Q :=
  e_call (e_global Bk E.kind hx E.glob hn (fun v r => by cases r; exact cw_top Bk hk hs h) hd)
theorem x_as (E : EnvOk env c.L) {e : PySem.Expr} (h : WE c env e m H fun av m1 H1 => QF .next ((x, av) :: m1) H1) (hx : env.kindOf x = some .local := by kernel_rfl) (hs : swapsWith e (some (.Name x p)) pos.line env = pure false := by kernel_rfl) : WS c env (.Assign [.Name x p] e pos) m H QF :=
  s_assign E.kind hx E.loc hs h
theorem x_aug (E : EnvOk env c.L) {op : Operator} {e : PySem.Expr} {old : AV} (hv : m.lookup x = some old) (h : WE c env e m H fun av m1 H1 => WO2 c (inplaceOp op) old av m1 H1 fun nv m2 H2 => QF .next ((x, nv) :: m2) H2) (hx : env.kindOf x = some .local := by kernel_rfl) : WS c env (.AugAssign (.Name x p) op e pos) m H QF :=
  s_aug E.kind hx E.loc hv h
theorem x_ms {o : PySem.Expr} {name : Str} {id : String} {apos : Pos} (pl : Sem Bool) (slot : Slot "str" name id) (hty : typeOf (.builtin id) = pure (.type "method_descriptor")) (h : WE c env o m H fun ov m1 H1 => ∃ l, ov = .str l ∧ WArgs c env es m1 H1 fun as m2 H2 => WC c (.builtin id) (.str l :: as) m2 H2 Q)
    (he : eval ((o.Attribute name apos).Call es [] pos) env = (do
          let ov ← eval o env
          standAt apos.atName
          let __x ← holding [ov] (getMethod ov name pl)
          match __x with
            | (f, first) => callWith pos f first (backTo pos (starEach es env)) (backToKw pos (keywordEach [] env)))) (hs : noStar pos es env := by unfold noStar; kernel_rfl) : WE c env (.Call (.Attribute o name apos) es [] pos) m H Q :=
  e_method pl (h.mono fun ov m1 H1 ⟨l, e, h⟩ => by subst e; exact gm_str slot hty (cw_builtin hs h)) he
theorem x_ml {o : PySem.Expr} {name : Str} {id : String} {apos : Pos} (pl : Sem Bool) (slot : Slot "list" name id) (hty : typeOf (.builtin id) = pure (.type "method_descriptor")) (h : WE c env o m H fun ov m1 H1 => ∃ a l, ov = .ref a ∧ H1 a = some (.list l) ∧ WArgs c env es m1 H1 fun as m2 H2 => WC c (.builtin id) (.ref a :: as) m2 H2 Q)
    (he : eval ((o.Attribute name apos).Call es [] pos) env = (do
          let ov ← eval o env
          standAt apos.atName
          let __x ← holding [ov] (getMethod ov name pl)
          match __x with
            | (f, first) => callWith pos f first (backTo pos (starEach es env)) (backToKw pos (keywordEach [] env)))) (hs : noStar pos es env := by unfold noStar; kernel_rfl) : WE c env (.Call (.Attribute o name apos) es [] pos) m H Q :=
  e_method pl (h.mono fun ov m1 H1 ⟨a, l, e, e2, h⟩ => by subst e; exact gm_list e2 slot hty (cw_builtin hs h)) he
theorem W.imp {α β : Type} {R : β → α → Prop} {t : Sem α} {Q Q' : β → Lm → Hp → Prop} (h : W c R t m H Q) (k : ∀ b m H, Q b m H → Q' b m H) : W c R t m H Q' := h.mono k
end
end Mine
end
section
open PySem PySem.W PySem.Calls PyProof.Rows
set_option Elab.async false
set_option maxRecDepth 100000
set_option maxHeartbeats 1000000
set_option linter.unusedVariables false
set_option linter.unusedSimpArgs false
namespace Mine
theorem len1 {vs : List Value} (h : vs.length = 1) : ∃ a, vs = [a] := List.length_eq_one_iff.mp h
theorem len2 {vs : List Value} (h : vs.length = 2) : ∃ a b, vs = [a, b] := by
  cases vs with
  | nil => cases h
  | cons a r => obtain ⟨b, rfl⟩ := len1 (Nat.succ.inj h); exact ⟨a, b, rfl⟩
theorem len3 {vs : List Value} (h : vs.length = 3) : ∃ a b c, vs = [a, b, c] := by
  cases vs with
  | nil => cases h
  | cons a r => obtain ⟨b, c, rfl⟩ := len2 (Nat.succ.inj h); exact ⟨a, b, c, rfl⟩
theorem len4 {vs : List Value} (h : vs.length = 4) : ∃ a b c d, vs = [a, b, c, d] := by
  cases vs with
  | nil => cases h
  | cons a r => obtain ⟨b, c, d, rfl⟩ := len3 (Nat.succ.inj h); exact ⟨a, b, c, d, rfl⟩
noncomputable def fd28 : FuncData := ⟨(Str.ofString "__init__"), (Str.ofString "_netrclex.__init__"), fArgs (mth 0), .stmts (fBody (mth 0)), fScope (mth 0), 3, [], .none, .none, .none, (.str (Str.ofString "cpy313.netrc") 187), none, (.ref 27), .none, 0⟩
theorem ok28 (w : World) : DefOk w 28 fd28 (fBody (mth 0)) ["self", "fp"] where
  look := ⟨p1o28 w.params, by kernel_rfl, by kernel_rfl⟩
  body := rfl
  code := by kernel_rfl
  binds := fun vs h => by
    obtain ⟨v0, v1, rfl⟩ := len2 h
    kernel_rfl
  loc := fun x hx => by
    simp only [List.mem_cons, List.not_mem_nil, or_false] at hx
    rcases hx with rfl | rfl <;> kernel_rfl
  nocell := fun x hx => by
    have h : (fd28.scope.names.all fun x => x.2 != .cell) = true := by kernel_rfl
    simpa using List.all_eq_true.mp h x hx
  co := by kernel_rfl
  gen := by kernel_rfl
  kind := by kernel_rfl
noncomputable def fd35 : FuncData := ⟨(Str.ofString "_read_char"), (Str.ofString "_netrclex._read_char"), fArgs (mth 1), .stmts (fBody (mth 1)), fScope (mth 1), 3, [], .none, .none, .none, (.str (Str.ofString "cpy313.netrc") 187), none, (.ref 34), .none, 0⟩
theorem ok35 (w : World) : DefOk w 35 fd35 (fBody (mth 1)) ["self"] where
  look := ⟨p1o35 w.params, by kernel_rfl, by kernel_rfl⟩
  body := rfl
  code := by kernel_rfl
  binds := fun vs h => by
    obtain ⟨v0, rfl⟩ := len1 h
    kernel_rfl
  loc := fun x hx => by
    simp only [List.mem_cons, List.not_mem_nil, or_false] at hx
    rcases hx with rfl <;> kernel_rfl
  nocell := fun x hx => by
    have h : (fd35.scope.names.all fun x => x.2 != .cell) = true := by kernel_rfl
    simpa using List.all_eq_true.mp h x hx
  co := by kernel_rfl
  gen := by kernel_rfl
  kind := by kernel_rfl
noncomputable def fd42 : FuncData := ⟨(Str.ofString "get_token"), (Str.ofString "_netrclex.get_token"), fArgs (mth 2), .stmts (fBody (mth 2)), fScope (mth 2), 3, [], .none, .none, .none, (.str (Str.ofString "cpy313.netrc") 187), none, (.ref 41), .none, 0⟩
theorem ok42 (w : World) : DefOk w 42 fd42 (fBody (mth 2)) ["self"] where
  look := ⟨p1o42 w.params, by kernel_rfl, by kernel_rfl⟩
  body := rfl
  code := by kernel_rfl
  binds := fun vs h => by
    obtain ⟨v0, rfl⟩ := len1 h
    kernel_rfl
  loc := fun x hx => by
    simp only [List.mem_cons, List.not_mem_nil, or_false] at hx
    rcases hx with rfl <;> kernel_rfl
  nocell := fun x hx => by
    have h : (fd42.scope.names.all fun x => x.2 != .cell) = true := by kernel_rfl
    simpa using List.all_eq_true.mp h x hx
  co := by kernel_rfl
  gen := by kernel_rfl
  kind := by kernel_rfl
noncomputable def fd49 : FuncData := ⟨(Str.ofString "push_token"), (Str.ofString "_netrclex.push_token"), fArgs (mth 3), .stmts (fBody (mth 3)), fScope (mth 3), 3, [], .none, .none, .none, (.str (Str.ofString "cpy313.netrc") 187), none, (.ref 48), .none, 0⟩
theorem ok49 (w : World) : DefOk w 49 fd49 (fBody (mth 3)) ["self", "token"] where
  look := ⟨p1o49 w.params, by kernel_rfl, by kernel_rfl⟩
  body := rfl
  code := by kernel_rfl
  binds := fun vs h => by
    obtain ⟨v0, v1, rfl⟩ := len2 h
    kernel_rfl
  loc := fun x hx => by
    simp only [List.mem_cons, List.not_mem_nil, or_false] at hx
    rcases hx with rfl | rfl <;> kernel_rfl
  nocell := fun x hx => by
    have h : (fd49.scope.names.all fun x => x.2 != .cell) = true := by kernel_rfl
    simpa using List.all_eq_true.mp h x hx
  co := by kernel_rfl
  gen := by kernel_rfl
  kind := by kernel_rfl
noncomputable def fd63 : FuncData := ⟨(Str.ofString "_strip_exception_details"), (Str.ofString "_strip_exception_details"), fArgs (stm 3), .stmts (fBody (stm 3)), fScope (stm 3), 3, [], .none, .none, .none, (.str (Str.ofString "cpy313.doctest") 247), none, (.ref 62), .none, 0⟩
theorem ok63 (w : World) : DefOk w 63 fd63 (fBody (stm 3)) ["msg"] where
  look := ⟨p3o63 w.params, by kernel_rfl, by kernel_rfl⟩
  body := rfl
  code := by kernel_rfl
  binds := fun vs h => by
    obtain ⟨v0, rfl⟩ := len1 h
    kernel_rfl
  loc := fun x hx => by
    simp only [List.mem_cons, List.not_mem_nil, or_false] at hx
    rcases hx with rfl <;> kernel_rfl
  nocell := fun x hx => by
    have h : (fd63.scope.names.all fun x => x.2 != .cell) = true := by kernel_rfl
    simpa using List.all_eq_true.mp h x hx
  co := by kernel_rfl
  gen := by kernel_rfl
  kind := by kernel_rfl
noncomputable def fd81 : FuncData := ⟨(Str.ofString "in_table_b1"), (Str.ofString "in_table_b1"), fArgs (stm 6), .stmts (fBody (stm 6)), fScope (stm 6), 3, [], .none, .none, .none, (.str (Str.ofString "cpy313.stringprep") 259), none, (.ref 80), .none, 0⟩
theorem ok81 (w : World) : DefOk w 81 fd81 (fBody (stm 6)) ["code"] where
  look := ⟨p6o81 w.params, by kernel_rfl, by kernel_rfl⟩
  body := rfl
  code := by kernel_rfl
  binds := fun vs h => by
    obtain ⟨v0, rfl⟩ := len1 h
    kernel_rfl
  loc := fun x hx => by
    simp only [List.mem_cons, List.not_mem_nil, or_false] at hx
    rcases hx with rfl <;> kernel_rfl
  nocell := fun x hx => by
    have h : (fd81.scope.names.all fun x => x.2 != .cell) = true := by kernel_rfl
    simpa using List.all_eq_true.mp h x hx
  co := by kernel_rfl
  gen := by kernel_rfl
  kind := by kernel_rfl
noncomputable def fd127 : FuncData := ⟨(Str.ofString "map_table_b3"), (Str.ofString "map_table_b3"), fArgs (stm 8), .stmts (fBody (stm 8)), fScope (stm 8), 3, [], .none, .none, .none, (.str (Str.ofString "cpy313.stringprep") 259), none, (.ref 126), .none, 0⟩
theorem ok127 (w : World) : DefOk w 127 fd127 (fBody (stm 8)) ["code"] where
  look := ⟨p8o127 w.params, by kernel_rfl, by kernel_rfl⟩
  body := rfl
  code := by kernel_rfl
  binds := fun vs h => by
    obtain ⟨v0, rfl⟩ := len1 h
    kernel_rfl
  loc := fun x hx => by
    simp only [List.mem_cons, List.not_mem_nil, or_false] at hx
    rcases hx with rfl <;> kernel_rfl
  nocell := fun x hx => by
    have h : (fd127.scope.names.all fun x => x.2 != .cell) = true := by kernel_rfl
    simpa using List.all_eq_true.mp h x hx
  co := by kernel_rfl
  gen := by kernel_rfl
  kind := by kernel_rfl
noncomputable def fd134 : FuncData := ⟨(Str.ofString "_law_drawn"), (Str.ofString "_law_drawn"), fArgs (stm 10), .stmts (fBody (stm 10)), fScope (stm 10), 3, [], .none, .none, .none, (.str (Str.ofString "law_sc0083_01") 2287), none, (.ref 133), .none, 0⟩
theorem ok134 (w : World) : DefOk w 134 fd134 (fBody (stm 10)) ["number"] where
  look := ⟨p10o134 w.params, by kernel_rfl, by kernel_rfl⟩
  body := rfl
  code := by kernel_rfl
  binds := fun vs h => by
    obtain ⟨v0, rfl⟩ := len1 h
    kernel_rfl
  loc := fun x hx => by
    simp only [List.mem_cons, List.not_mem_nil, or_false] at hx
    rcases hx with rfl <;> kernel_rfl
  nocell := fun x hx => by
    have h : (fd134.scope.names.all fun x => x.2 != .cell) = true := by kernel_rfl
    simpa using List.all_eq_true.mp h x hx
  co := by kernel_rfl
  gen := by kernel_rfl
  kind := by kernel_rfl
noncomputable def fd139 : FuncData := ⟨(Str.ofString "_law_prepared"), (Str.ofString "_law_prepared"), fArgs (stm 11), .stmts (fBody (stm 11)), fScope (stm 11), 3, [], .none, .none, .none, (.str (Str.ofString "law_sc0083_01") 2287), none, (.ref 138), .none, 0⟩
theorem ok139 (w : World) : DefOk w 139 fd139 (fBody (stm 11)) ["text"] where
  look := ⟨p11o139 w.params, by kernel_rfl, by kernel_rfl⟩
  body := rfl
  code := by kernel_rfl
  binds := fun vs h => by
    obtain ⟨v0, rfl⟩ := len1 h
    kernel_rfl
  loc := fun x hx => by
    simp only [List.mem_cons, List.not_mem_nil, or_false] at hx
    rcases hx with rfl <;> kernel_rfl
  nocell := fun x hx => by
    have h : (fd139.scope.names.all fun x => x.2 != .cell) = true := by kernel_rfl
    simpa using List.all_eq_true.mp h x hx
  co := by kernel_rfl
  gen := by kernel_rfl
  kind := by kernel_rfl
noncomputable def fd146 : FuncData := ⟨(Str.ofString "_law_lexer"), (Str.ofString "_law_lexer"), fArgs (stm 12), .stmts (fBody (stm 12)), fScope (stm 12), 3, [], .none, .none, .none, (.str (Str.ofString "law_sc0083_01") 2287), none, (.ref 145), .none, 0⟩
theorem cf146 (L : Addr) : cellsFrom (L + 1) fd146.scope.names [] = [(("signs" : Str), L + 1)] := by kernel_rfl
theorem ce146 (L : Addr) (n : Str) (a : Addr) (h : (n, a) ∈ cellsFrom (L + 1) fd146.scope.names []) : (cellsFrom (L + 1) fd146.scope.names []).lookup n = some a := by
  rw [cf146] at h ⊢
  simp only [List.mem_cons, Prod.mk.injEq, List.not_mem_nil, or_false] at h
  rcases h with ⟨rfl, rfl⟩ <;> rfl
theorem ok146 (w : World) : DefOkC w 146 fd146 (fBody (stm 12)) ["signs"] where
  look := ⟨p12o146 w.params, by kernel_rfl, by kernel_rfl⟩
  body := rfl
  code := by kernel_rfl
  binds := fun vs h => by
    obtain ⟨v0, rfl⟩ := len1 h
    kernel_rfl
  clo := rfl
  loc := fun L x hx => by
    simp only [List.mem_cons, List.not_mem_nil, or_false] at hx
    rcases hx with rfl
    · exact .inr ⟨by kernel_rfl, by kernel_rfl⟩
  cl := fun L n a h => ce146 L n a h
  co := by kernel_rfl
  gen := by kernel_rfl
  kind := by kernel_rfl
noncomputable def fd153 : FuncData := ⟨(Str.ofString "_law_read"), (Str.ofString "_law_read"), fArgs (stm 13), .stmts (fBody (stm 13)), fScope (stm 13), 3, [], .none, .none, .none, (.str (Str.ofString "law_sc0083_01") 2287), none, (.ref 152), .none, 0⟩
theorem ok153 (w : World) : DefOk w 153 fd153 (fBody (stm 13)) ["text"] where
  look := ⟨p13o153 w.params, by kernel_rfl, by kernel_rfl⟩
  body := rfl
  code := by kernel_rfl
  binds := fun vs h => by
    obtain ⟨v0, rfl⟩ := len1 h
    kernel_rfl
  loc := fun x hx => by
    simp only [List.mem_cons, List.not_mem_nil, or_false] at hx
    rcases hx with rfl <;> kernel_rfl
  nocell := fun x hx => by
    have h : (fd153.scope.names.all fun x => x.2 != .cell) = true := by kernel_rfl
    simpa using List.all_eq_true.mp h x hx
  co := by kernel_rfl
  gen := by kernel_rfl
  kind := by kernel_rfl
noncomputable def fd160 : FuncData := ⟨(Str.ofString "_law_written"), (Str.ofString "_law_written"), fArgs (stm 14), .stmts (fBody (stm 14)), fScope (stm 14), 3, [], .none, .none, .none, (.str (Str.ofString "law_sc0083_01") 2287), none, (.ref 159), .none, 0⟩
theorem ok160 (w : World) : DefOk w 160 fd160 (fBody (stm 14)) ["items", "part", "bare"] where
  look := ⟨p14o160 w.params, by kernel_rfl, by kernel_rfl⟩
  body := rfl
  code := by kernel_rfl
  binds := fun vs h => by
    obtain ⟨v0, v1, v2, rfl⟩ := len3 h
    kernel_rfl
  loc := fun x hx => by
    simp only [List.mem_cons, List.not_mem_nil, or_false] at hx
    rcases hx with rfl | rfl | rfl <;> kernel_rfl
  nocell := fun x hx => by
    have h : (fd160.scope.names.all fun x => x.2 != .cell) = true := by kernel_rfl
    simpa using List.all_eq_true.mp h x hx
  co := by kernel_rfl
  gen := by kernel_rfl
  kind := by kernel_rfl
noncomputable def fd165 : FuncData := ⟨(Str.ofString "_law_told"), (Str.ofString "_law_told"), fArgs (stm 15), .stmts (fBody (stm 15)), fScope (stm 15), 3, [], .none, .none, .none, (.str (Str.ofString "law_sc0083_01") 2287), none, (.ref 164), .none, 0⟩
theorem cf165 (L : Addr) : cellsFrom (L + 1) fd165.scope.names [] = [(("start" : Str), L + 1 + 1 + 1), (("manner" : Str), L + 1 + 1), (("items" : Str), L + 1)] := by kernel_rfl
theorem ce165 (L : Addr) (n : Str) (a : Addr) (h : (n, a) ∈ cellsFrom (L + 1) fd165.scope.names []) : (cellsFrom (L + 1) fd165.scope.names []).lookup n = some a := by
  rw [cf165] at h ⊢
  simp only [List.mem_cons, Prod.mk.injEq, List.not_mem_nil, or_false] at h
  rcases h with ⟨rfl, rfl⟩ | ⟨rfl, rfl⟩ | ⟨rfl, rfl⟩ <;> rfl
theorem ok165 (w : World) : DefOkC w 165 fd165 (fBody (stm 15)) ["items", "layers", "turns", "manner"] where
  look := ⟨p15o165 w.params, by kernel_rfl, by kernel_rfl⟩
  body := rfl
  code := by kernel_rfl
  binds := fun vs h => by
    obtain ⟨v0, v1, v2, v3, rfl⟩ := len4 h
    kernel_rfl
  clo := rfl
  loc := fun L x hx => by
    simp only [List.mem_cons, List.not_mem_nil, or_false] at hx
    rcases hx with rfl | rfl | rfl | rfl
    · exact .inr ⟨by kernel_rfl, by kernel_rfl⟩
    · exact .inl (by kernel_rfl)
    · exact .inl (by kernel_rfl)
    · exact .inr ⟨by kernel_rfl, by kernel_rfl⟩
  cl := fun L n a h => ce165 L n a h
  co := by kernel_rfl
  gen := by kernel_rfl
  kind := by kernel_rfl
noncomputable def fd170 : FuncData := ⟨(Str.ofString "law"), (Str.ofString "law"), fArgs (stm 16), .stmts (fBody (stm 16)), fScope (stm 16), 3, [], .none, .none, .none, (.str (Str.ofString "law_sc0083_01") 2287), none, (.ref 169), .none, 0⟩
theorem cf170 (L : Addr) : cellsFrom (L + 1) fd170.scope.names [] = [(("turns" : Str), L + 1 + 1 + 1 + 1 + 1 + 1), (("lexer" : Str), L + 1 + 1 + 1 + 1 + 1), (("white" : Str), L + 1 + 1 + 1 + 1), (("front" : Str), L + 1 + 1 + 1), (("items" : Str), L + 1 + 1), (("layers" : Str), L + 1)] := by kernel_rfl
theorem ce170 (L : Addr) (n : Str) (a : Addr) (h : (n, a) ∈ cellsFrom (L + 1) fd170.scope.names []) : (cellsFrom (L + 1) fd170.scope.names []).lookup n = some a := by
  rw [cf170] at h ⊢
  simp only [List.mem_cons, Prod.mk.injEq, List.not_mem_nil, or_false] at h
  rcases h with ⟨rfl, rfl⟩ | ⟨rfl, rfl⟩ | ⟨rfl, rfl⟩ | ⟨rfl, rfl⟩ | ⟨rfl, rfl⟩ | ⟨rfl, rfl⟩ <;> rfl
theorem ok170 (w : World) : DefOkC w 170 fd170 (fBody (stm 16)) ["script"] where
  look := ⟨p16o170 w.params, by kernel_rfl, by kernel_rfl⟩
  body := rfl
  code := by kernel_rfl
  binds := fun vs h => by
    obtain ⟨v0, rfl⟩ := len1 h
    kernel_rfl
  clo := rfl
  loc := fun L x hx => by
    simp only [List.mem_cons, List.not_mem_nil, or_false] at hx
    rcases hx with rfl
    · exact .inl (by kernel_rfl)
  cl := fun L n a h => ce170 L n a h
  co := by kernel_rfl
  gen := by kernel_rfl
  kind := by kernel_rfl
end Mine
end
section
open PySem PySem.W PySem.Calls PyProof.Rows
set_option Elab.async false
set_option maxRecDepth 100000
set_option maxHeartbeats 1000000
set_option linter.unusedVariables false
set_option linter.unusedSimpArgs false
namespace Mine
noncomputable def b1es (o : Obj) : List (Int × Value) := match o.data with
  | .set es _ _ => es.toList
  | _ => []
noncomputable def b1v (P : Params) : List Int := (b1es (p5o71 P)).map fun e => match e.2 with | .int i _ => i | _ => 0
noncomputable def b1n : List Nat := [65024, 65025, 65026, 65027, 65028, 65029, 6150, 65030, 65031, 65032, 65033, 6155, 6156, 6157, 8203, 8204, 8205, 65034, 65035, 65036, 65037, 65038, 65039, 173, 847, 8288, 65279]
noncomputable def inB1 (x : Nat) : Bool := b1n.any (· == x)
noncomputable def intEl (e : Int × Value) : Bool := match e.2 with
  | .int i _ => e.1 == hashInt i
  | _ => false
theorem el71 (P : Params) : ((b1es (p5o71 P)).all intEl) = true := by kernel_rfl
theorem keys71 (P : Params) : (b1es (p5o71 P)).map (fun e => match e.2 with | .int i _ => i | _ => 0) = b1n.map Int.ofNat := by kernel_rfl
theorem set71 {w : World} {h : Heap} (X : (KX w.params).In h) (x : Nat) : h.SetOf (intKind pw w) 71 (fun k => (b1es (p5o71 w.params)).any fun e => Value.isInt k e.2) 27 := by
  have ho : h.get? 71 = some (p5o71 w.params) := X _ _ (by kernel_rfl)
  refine ⟨_, _, _, _, ho, ⟨rfl, rfl, rfl⟩, rfl, fun e he => ?_, fun k => ?_, by decide, by rfl, by rfl⟩
  · have he' : e ∈ b1es (p5o71 w.params) := he
    have := List.all_eq_true.mp (el71 w.params) e he'
    unfold intEl at this
    split at this
    · rename_i i t q
      rw [q]
      exact ⟨⟨i, by simp [intKind, Value.isInt], by simpa [intKind] using this⟩, rfl⟩
    · cases this
  · simp only [List.any_eq_true]
    exact Iff.rfl
theorem mem71 (P : Params) (x : Nat) : ((b1es (p5o71 P)).any fun e => Value.isInt x e.2) = inB1 x := by
  have h1 : ((b1es (p5o71 P)).any fun e => Value.isInt x e.2) = ((b1es (p5o71 P)).map (fun e => match e.2 with | .int i _ => i | _ => 0)).any (· == (x : Int)) := by
    have hel := el71 P
    generalize b1es (p5o71 P) = l at hel
    induction l with
    | nil => rfl
    | cons e l ih =>
      rw [List.all_cons] at hel
      obtain ⟨h1, h2⟩ := Bool.and_eq_true_iff.mp hel
      rw [List.any_cons, List.map_cons, List.any_cons, ih h2]
      congr 1
      obtain ⟨e1, e2⟩ := e
      cases e2 <;> first | rfl | (exact absurd h1 (by simp [intEl])) | skip
  rw [h1, keys71, List.any_map]
  unfold inB1
  congr 1
  funext y
  show (Int.ofNat y == (x : Int)) = (y == x)
  rw [Bool.eq_iff_iff]; simp; (first | lia | omega)
section
variable {c : Cx} {env : Env} {m : Lm} {H : Hp} {pos : Pos} {Q : AV → Lm → Hp → Prop} {QF : AF → Lm → Hp → Prop} {QB : Bool → Lm → Hp → Prop}
theorem o_in_set {x : Nat} (Bk : BOk c.w c.hB) (h : Q (.bool (inB1 x)) m H) : WO2 c (compareOp .In) (.int x) (.ref 71) m H Q := fun u v ⟨t, e⟩ ev => by
  subst e; cases ev
  intro s S
  obtain ⟨mm, F⟩ := S.frame
  refine wpAny_inSet_of (knd := intKind pw c.w) (k := (x : Int)) (by simp [intKind, Value.isInt]) rfl (set71 (Bk.X.keeps F.keep) x) ⟨.bool (inB1 x), m, H, ?_, S, ⟨rfl, rfl, rfl⟩, h⟩
  show Value.bool _ = Value.bool _
  rw [mem71]
end
theorem fc81 {w : World} {hB : Heap} (Bk : BOk w hB) {x : Nat} : FC w hB (2 + 1) 81 [.str [x]] (fun _ => True) [] fun av H H' => av = .bool (inB1 x) ∧ H' = H := by
  refine FC.enter Bk (ok81 w) rfl fun A L fs H hA _ => ?_
  have E : EnvOk (callEnv fd81 L 81) L := ⟨by kernel_rfl, rfl, rfl, rfl⟩
  refine s_cons (s_return (e_cmp (x_b Bk E (a_cons (x_l E rfl (a_nil (c_ord (e_global Bk E.kind (by kernel_rfl) E.glob (by kernel_rfl) (o_in_set Bk ⟨_, .inl rfl, .refl, rfl, rfl⟩)))))))))
end Mine
end
section
open PySem PySem.W PySem.Calls PyProof.Rows
set_option Elab.async false
set_option maxRecDepth 100000
set_option maxHeartbeats 1000000
set_option linter.unusedVariables false
set_option linter.unusedSimpArgs false
namespace Mine
noncomputable def b3l : List (Int × Str) := b3k (stm 7)
noncomputable def b3p (x : Nat) : Option (List Nat) := (b3l.find? fun p => p.1 == (x : Int)).map fun p => p.2.cps.toList
noncomputable def lowc (x : Nat) : Nat := if 65 ≤ x ∧ x ≤ 90 then x + 32 else x
noncomputable def mapB3 (x : Nat) : List Nat := (b3p x).getD [lowc x]
theorem low_ok : ∀ x, x < 128 → (Txt.lower ⟨#[x]⟩).cps.toList = [lowc x] := by decide +kernel
theorem b3all_eq : b3all = b3ent 328 (b3l.take 646) ++ b3ent2 2266 (b3l.drop 646) := rfl
noncomputable def avO : Option (List Nat) → AV
  | some l => .str l
  | none => .none
noncomputable def kvOk (e : DictEntry) (p : Int × Str) : Prop := e.hash = p.1 ∧ (∃ t, e.key = .int p.1 t) ∧ ∃ t, e.val = .str p.2 t
inductive KV : List DictEntry → List (Int × Str) → Prop
  | nil : KV [] []
  | cons {e p es ps} : kvOk e p → KV es ps → KV (e :: es) (p :: ps)
theorem KV.ent : ∀ (l : List (Int × Str)) (b : Nat), KV (b3ent b l) l
  | [], _ => .nil
  | (k, v) :: r, b => .cons ⟨rfl, ⟨_, rfl⟩, _, rfl⟩ (KV.ent r _)
theorem KV.ent2 : ∀ (l : List (Int × Str)) (b : Nat), KV (b3ent2 b l) l
  | [], _ => .nil
  | (k, v) :: r, b => .cons ⟨rfl, ⟨_, rfl⟩, _, rfl⟩ (KV.ent2 r _)
theorem KV.append {es fs : List DictEntry} {ps qs : List (Int × Str)} (h : KV es ps) (k : KV fs qs) : KV (es ++ fs) (ps ++ qs) := by
  induction h with
  | nil => exact k
  | cons a _ ih => exact .cons a ih
theorem kv82 : KV b3all b3l := by
  rw [b3all_eq]
  have := (KV.ent (b3l.take 646) 328).append (KV.ent2 (b3l.drop 646) 2266)
  rwa [List.take_append_drop] at this
theorem KV.find {es : List DictEntry} {ps : List (Int × Str)} (h : KV es ps) (x : Int) : match ps.find? (fun p => p.1 == x) with
    | some p => ∃ t, findBy Value.isInt es.toArray x = some (.str p.2 t)
    | none => findBy Value.isInt es.toArray x = none := by
  unfold findBy
  rw [← Array.find?_toList]
  induction h with
  | nil => rfl
  | @cons e p es ps a _ ih =>
    obtain ⟨_, ⟨t, hk⟩, u, hv⟩ := a
    rw [List.find?_cons, List.find?_cons, hk]
    have : Value.isInt x (.int p.1 t) = (p.1 == x) := by simp [Value.isInt]
    rw [this]
    cases q : p.1 == x with
    | true => exact ⟨u, by simp [hv]⟩
    | false => exact ih
theorem hash82 : (b3l.all fun p => p.1 == hashInt p.1) = true := by kernel_rfl
theorem KV.keys {es : List DictEntry} {ps : List (Int × Str)} (h : KV es ps) (hh : (ps.all fun p => p.1 == hashInt p.1) = true) : ∀ e ∈ es, ∃ k t, e.key = .int k t ∧ e.hash = hashInt k := by
  induction h with
  | nil => intro e he; cases he
  | @cons e p es ps a _ ih =>
    rw [List.all_cons] at hh
    obtain ⟨h1, h2⟩ := Bool.and_eq_true_iff.mp hh
    obtain ⟨ha, ⟨t, hk⟩, _⟩ := a
    intro e' he
    rcases List.mem_cons.mp he with rfl | he
    · exact ⟨p.1, t, hk, by rw [ha]; exact beq_iff_eq.mp h1⟩
    · exact ih h2 e' he
section
variable {c : Cx} {env : Env} {m : Lm} {H : Hp} {pos : Pos} {Q : AV → Lm → Hp → Prop} {QF : AF → Lm → Hp → Prop} {QB : Bool → Lm → Hp → Prop}
theorem get82 (P : Params) : (KX P).lookup 82 = some (b3o 82 P) := by kernel_rfl
theorem data82 (P : Params) : (b3o 82 P).data = .dict b3all.toArray 650 := rfl
theorem map82 {w : World} {h : Heap} (X : (KX w.params).In h) : h.MapOf (intKind pw w) 82 (findBy Value.isInt b3all.toArray) := by
  refine ⟨_, _, _, X _ _ (get82 _), ⟨rfl, rfl, rfl⟩, data82 _, fun e he => ?_, fun k => rfl⟩
  obtain ⟨k, t, h1, h2⟩ := kv82.keys hash82 e (by simpa using he)
  exact ⟨k, by rw [h1]; simp [intKind, Value.isInt], h2⟩
theorem c_get82 {x : Nat} (Bk : BOk c.w c.hB) (h : Q (avO (b3p x)) m H) : WC c (.builtin "dict.get") [.ref 82, .int x] m H Q := fun vs rs => by
  cases rs with
  | cons r rs => cases rs with
    | cons r2 rs =>
      cases rs; cases r; obtain ⟨t, rfl⟩ := r2
      intro s S
      obtain ⟨mm, F⟩ := S.frame
      have M := map82 (Bk.X.keeps F.keep)
      refine call_meetsIn PySem.F.slot_dict_get M.typeIs PySem.F.entry_dict_get (PySem.F.args_dict_get_2 _ _) (meets_dict_get (intKind pw c.w) 82 (k := (x : Int)) (by simp [intKind, Value.isInt]) (by decide)) ⟨_, M, _, m, H, ?_, S, ⟨rfl, rfl, rfl⟩, h⟩
      have := kv82.find x
      unfold b3p
      revert this
      cases b3l.find? fun p => p.1 == (x : Int) with
      | none => intro e; rw [e]; rfl
      | some p => rintro ⟨t, e⟩; rw [e]; exact ⟨t, rfl⟩
theorem gm_get82 {QM : Value → List AV → Lm → Hp → Prop} (Bk : BOk c.w c.hB) (h : QM (.builtin "dict.get") [.ref 82] m H) : WGM c (.ref 82) "get" m H QM := fun v pl r s S => by
  cases r
  obtain ⟨mm, F⟩ := S.frame
  have ho := (Bk.X.keeps F.keep) _ _ (get82 _)
  exact getMethod_builtin ⟨_, ho, rfl⟩ PySem.F.plainAttrs_dict PySem.F.slot_dict_get PySem.F.type_dict_get (fun a e => by cases e; exact ⟨_, ho, rfl⟩) ⟨[.ref 82], m, H, .cons rfl .nil, S, .rfl', h⟩
theorem o_isnot {a : AV} (ha : ∀ v, rep a v → (v == .none) = (match a with | .none => true | _ => false)) (h : Q (.bool (match a with | .none => false | _ => true)) m H) : WO2 c (compareOp .IsNot) a .none m H Q := fun u v eu ev => by
  cases ev
  intro s S
  refine isNot_none ⟨_, m, H, ?_, S, .rfl', h⟩
  show Value.bool _ = Value.bool _
  rw [ha u eu]
  cases a <;> rfl
end
theorem fc127 {w : World} {hB : Heap} (Bk : BOk w hB) {x : Nat} (hx : b3p x ≠ none ∨ x < 128) : FC w hB (2 + 1) 127 [.str [x]] (fun _ => True) [] fun av H H' => av = .str (mapB3 x) ∧ H' = H := by
  refine FC.enter Bk (ok127 w) rfl fun A L fs H hA _ => ?_
  have E : EnvOk (callEnv fd127 L 127) L := ⟨by kernel_rfl, rfl, rfl, rfl⟩
  refine s_cons (x_as E (e_method _ (e_global Bk E.kind (by kernel_rfl) E.glob (by kernel_rfl) (gm_get82 Bk (cw_builtin (by unfold noStar; kernel_rfl) (a_cons (x_b Bk E (a_cons (x_l E rfl (a_nil (c_ord (a_nil (c_get82 Bk ?_))))))))))) rfl))
  cases e : b3p x with
  | some l =>
    refine s_cons (s_if (t_cmp (x_l E rfl (e_none (o_isnot (fun v r => by obtain ⟨t, rfl⟩ := r; rfl) ⟨_, rfl, ?_⟩)))))
    exact s_cons (s_return (x_l E rfl ⟨_, .inl rfl, .refl, by unfold mapB3; rw [e]; rfl, rfl⟩))
  | none =>
    refine s_cons (s_if (t_cmp (x_l E rfl (e_none (o_isnot (fun v r => by cases r; rfl) ⟨_, rfl, ?_⟩)))))
    refine s_nil (s_cons (s_return (x_ms _ F.slot_str_lower F.type_str_lower (x_l E rfl ⟨[x], rfl, a_nil (c_lower ?_ ⟨_, .inl rfl, .refl, ?_, rfl⟩)⟩) rfl)))
    · have hx' : x < 128 := hx.resolve_left fun h => h e
      have := low_ok x hx'
      show (Txt.lower ⟨#[x]⟩).cps.size ≤ _
      rw [← Array.length_toList, this]; simp
    · have hx' : x < 128 := hx.resolve_left fun h => h e
      unfold mapB3; rw [e]
      exact congrArg AV.str (low_ok x hx')
end Mine
end
section
open PySem PySem.W PySem.Calls PyProof.Rows
set_option Elab.async false
set_option maxRecDepth 100000
set_option maxHeartbeats 1000000
set_option linter.unusedVariables false
set_option linter.unusedSimpArgs false
namespace Mine
theorem ne_of {H : Hp} {a b : Addr} {x y : AO} (h1 : H a = some x) (h2 : H b = some y) (h : x ≠ y) : a ≠ b := fun q => by subst q; rw [h1] at h2; cases h2; exact h rfl
theorem clsOk (P : Params) : ClsOk (KX P) 52 := ⟨by kernel_rfl, by kernel_rfl, by kernel_rfl, by kernel_rfl, by kernel_rfl⟩
section
variable {c : Cx} {env : Env} {m : Lm} {H : Hp} {pos : Pos} {Q : AV → Lm → Hp → Prop} {QF : AF → Lm → Hp → Prop} {QB : Bool → Lm → Hp → Prop} {x C dx : Addr} {es : List (Str × AV)} {name : Str}
theorem gm_own {f : Addr} {QM : Value → List AV → Lm → Hp → Prop} (Bk : BOk c.w c.hB) (K : ClsOk (KX c.w.params) C) (ha : findIn (KX c.w.params) (.ref C) name = some none) (I : InstH H x C dx es) (e : es.lookup name = some (.ref f))
    (h : QM (.ref f) [] m H) : WGM c (.ref x) name m H QM := fun v pl r s S => by
  cases r
  obtain ⟨ds, n, I', re⟩ := inst_at S I
  obtain ⟨v, h1, h2⟩ := getL_some re e
  cases h2
  obtain ⟨mm, F⟩ := S.frame
  exact kmu_own F Bk.X I' K.plain ha (get_own F Bk.X I' K.plain K.hasd ha rfl h1 rfl ⟨[], m, H, .nil, S, ⟨rfl, rfl, rfl⟩, h⟩)
theorem s_augattr {o value : PySem.Expr} {op : Operator} {p' : Pos} (h : WE c env o m H fun ov m1 H1 => WGA c ov name m1 H1 fun old m2 H2 => WE c env value m2 H2 fun av m3 H3 => WO2 c (inplaceOp op) old av m3 H3 fun nv m4 H4 =>
      ∀ ow v, rep ov ow → rep nv v → W c (fun (_ : Unit) (_ : Unit) => True) (setAttr ow name v) m4 H4 fun _ m5 H5 => QF .next m5 H5) : WS c env (.AugAssign (.Attribute o name p') op value pos) m H QF := fun s S =>
  wpAny_AugAssign_AttributeAny (wmono (h s S) (fun ow s1 ov m1 H1 r1 S1 z1 q1 => wmono (q1 ow r1 s1 S1) (fun old s2 ol m2 H2 r2 S2 z2 q2 =>
    wmono (q2 s2 S2) (fun v s3 av m3 H3 r3 S3 z3 q3 => wmono (q3 _ _ r2 r3 s3 S3) (fun nw s4 nv m4 H4 r4 S4 z4 q4 =>
      wmono (q4 ow nw r1 r4 s4 S4) (fun _ s5 _ m5 H5 _ S5 z5 q5 => ⟨.next, m5, H5, rfl, S5, (((z1.trans z2).trans z3).trans z4).trans z5, q5⟩) fun _ _ x => x) fun _ _ x => x) fun _ _ x => x) fun _ _ x => x) fun _ _ x => x)
theorem o_iadd_int {a b : Int} (h : Q (.int (a + b)) m H) : WO2 c (inplaceOp .Add) (.int a) (.int b) m H Q := fun x y ⟨t, e⟩ ⟨u, e'⟩ => by
  subst e e'; exact fun s S => PyProof.Rows.iadd_int ⟨.int _, m, H, ⟨_, rfl⟩, S, ⟨rfl, rfl, rfl⟩, h⟩
end
noncomputable def lamA : Arguments := match (fBody (stm 12)).getD 1 (.Pass ⟨0, 0, 0, 0⟩) with
  | .Assign _ (.Lambda a _ _ _) _ => a
  | _ => ⟨[], [], none, [], [], none, []⟩
noncomputable def lamB : PySem.Expr := match (fBody (stm 12)).getD 1 (.Pass ⟨0, 0, 0, 0⟩) with
  | .Assign _ (.Lambda _ b _ _) _ => b
  | _ => .Constant .none 0 ⟨0, 0, 0, 0⟩
noncomputable def lamS : Scope := match (fBody (stm 12)).getD 1 (.Pass ⟨0, 0, 0, 0⟩) with
  | .Assign _ (.Lambda _ _ s _) _ => s
  | _ => default
structure LexK where
  (x dx pb sx sdx spb f c' cl sg : Addr)
  (pm ctv : Value)
noncomputable def chs (l : List Nat) : List (List Nat) := l.map fun c => [c]
noncomputable def lexD (K : LexK) (ln : Int) : List (Str × AV) := [("lineno", .int ln), ("instream", .ref K.sx), ("whitespace", .str [10, 9, 13, 32]), ("pushback", .ref K.pb)]
noncomputable def strD (K : LexK) : List (Str × AV) := [("lineno", .int 1), ("instream", .none), ("whitespace", .str [10, 9, 13, 32]), ("pushback", .ref K.spb), ("read", .ref K.f)]
noncomputable def lamQ : Str := "_law_lexer.<locals>.<lambda>"
noncomputable def lamO (K : LexK) : Obj := kla_obj "<lambda>" lamQ lamA lamB lamS [("signs", K.cl)] K.pm K.c' K.ctv
structure LexS (H : Hp) (K : LexK) : Prop where
  inst : H K.x = some (.inst 52 K.dx)
  sinst : H K.sx = some (.inst 52 K.sdx)
  sdict : H K.sdx = some (.dict (strD K))
  lam : H K.f = some (.raw (lamO K))
  code : H K.c' = some (.pat (codeP lamQ))
  cell : H K.cl = some (AOcell (some (.ref K.sg)))
structure Lex (H : Hp) (K : LexK) (ps : List (List Nat)) (inp : List Nat) (ln : Int) : Prop extends LexS H K where
  dict : H K.dx = some (.dict (lexD K ln))
  push : H K.pb = some (.list (aStrs ps))
  signs : H K.sg = some (.list (aStrs (chs inp.reverse)))
  n1 : K.pb ≠ K.sg
  n2 : K.dx ≠ K.sdx
  okc : ∀ n ∈ inp, n < 1114112
  len : inp.length ≤ 90000
  psl : ps.length ≤ 900
theorem okStrs_chs {l : List Nat} (h : ∀ n ∈ l, n < 1114112) : okStrs (chs l) := fun x hx n hn => by
  obtain ⟨c, hc, rfl⟩ := List.mem_map.mp hx
  simp at hn; subst hn; exact h _ hc
noncomputable def hd1 (l : List Nat) : List Nat := l.take 1
theorem read_lam {c : Cx} {m : Lm} {H : Hp} {Q : AV → Lm → Hp → Prop} {K : LexK} {inp : List Nat} (Bk : BOk c.w c.hB) (hA : AOk (9 + 1) c.A) (S : LexS H K) (hs : H K.sg = some (.list (aStrs (chs inp.reverse)))) (hok : ∀ n ∈ inp, n < 1114112) (hl : inp.length ≤ 90000)
    (h : ∀ H1, Keep [] H H1 → Q (.str (hd1 inp)) m (if inp = [] then H1 else hup H1 K.sg (.list (aStrs (chs inp.tail.reverse))))) : CC c (.ref K.f) [.int 1] m H Q := by
  refine cc_lambda (ps := ["count"]) Bk hA S.lam S.code rfl (fun vs hv => ?_) (fun x hx => ?_) (fun A L fs hA' => ?_) (by kernel_rfl) (by kernel_rfl) (by kernel_rfl) (fun x hx => ?_)
  · obtain ⟨v, rfl⟩ := len1 hv
    kernel_rfl
  · simp only [List.mem_cons, List.not_mem_nil, or_false] at hx; subst hx; kernel_rfl
  · have E : EnvOk (envX lamQ lamS L K.f (.ref K.c') [("signs", K.cl)]) L := ⟨by kernel_rfl, rfl, rfl, rfl⟩
    refine e_ifexp (t_boolop (t_and (t_cmp (x_l E rfl (e_int (o_eq_int ⟨_, rfl, ?_⟩))))))
    rw [if_pos (by decide)]
    refine t_and (t_cmp (e_free E.kind (by kernel_rfl) rfl S.cell (e_list (a_nil ⟨by decide, fun a ha => ?_⟩))))
    have k1 : Keep [] H (hup H a (.list [])) := Keep.hup (.inl ha)
    refine o_ne_strs (l := chs inp.reverse) (k := []) (d := 0) (okStrs_chs fun n hn => hok n (List.mem_reverse.mp hn)) (fun x hx => by cases hx) (AOk.less hA' (by (first | lia | omega))) (k1 _ _ hs (by simp)) hup_self ⟨_, rfl, ?_⟩
    cases inp with
    | nil =>
      rw [if_neg (by simp [chs])]
      refine e_str (l := []) (by kernel_rfl) ?_
      have := h _ k1
      rwa [if_pos rfl] at this
    | cons x r =>
      rw [if_pos (by simp [chs])]
      refine t_and_nil ?_
      rw [if_pos rfl]
      refine x_ml _ F.slot_list_pop F.type_list_pop (e_free E.kind (by kernel_rfl) rfl (k1 _ _ S.cell (by simp)) ⟨K.sg, _, rfl, k1 _ _ hs (by simp), a_nil (c_pop (l := aStrs (chs r.reverse)) (av := .str [x]) ?_ ?_ ?_)⟩) rfl
      · rw [k1 _ _ hs (by simp)]
        simp [chs, aStrs]
      · simp [aStrs, chs] at hl ⊢; (first | lia | omega)
      · have := h _ k1
        rwa [if_neg (by simp)] at this
  · have h : (lamS.names.all fun x => x.2 != .cell) = true := by kernel_rfl
    simpa using List.all_eq_true.mp h x hx
end Mine
end
section
open PySem PySem.W PySem.Calls PyProof.Rows
set_option Elab.async false
set_option maxRecDepth 100000
set_option maxHeartbeats 1000000
set_option linter.unusedVariables false
set_option linter.unusedSimpArgs false
namespace Mine
section
variable {H H1 : Hp} {K : LexK} {ps : List (List Nat)} {inp : List Nat} {ln : Int}
theorem LexS.keep {mu : List Addr} (S : LexS H K) (k : Keep mu H H1) (h : ∀ a ∈ mu, a = K.dx ∨ a = K.sg ∨ a = K.pb ∨ H a = none) (n2 : K.dx ≠ K.sdx) (hd : ∃ es, H K.dx = some (.dict es)) (hs : ∃ l, H K.sg = some (.list l)) (hp : ∃ l, H K.pb = some (.list l)) : LexS H1 K := by
  obtain ⟨es, hd⟩ := hd
  obtain ⟨l, hs⟩ := hs
  obtain ⟨l', hp⟩ := hp
  have key : ∀ b o, H b = some o → (∀ es, o = .dict es → b ≠ K.dx) → (∀ l, o ≠ .list l) → H1 b = some o := fun b o e h1 h2 => by
    refine k b o e fun hm => ?_
    rcases h b hm with q | q | q | q
    · subst q; rw [hd] at e; cases e; exact h1 _ rfl rfl
    · subst q; rw [hs] at e; cases e; exact h2 _ rfl
    · subst q; rw [hp] at e; cases e; exact h2 _ rfl
    · rw [q] at e; cases e
  exact ⟨key _ _ S.inst (fun _ h => by cases h) (fun _ h => by cases h), key _ _ S.sinst (fun _ h => by cases h) (fun _ h => by cases h), key _ _ S.sdict (fun _ _ => n2.symm) (fun _ h => by cases h), key _ _ S.lam (fun _ h => by cases h) (fun _ h => by cases h), key _ _ S.code (fun _ h => by cases h) (fun _ h => by cases h), key _ _ S.cell (fun _ h => by cases h) (fun _ h => by cases h)⟩
theorem Lex.kept {mu : List Addr} (S : Lex H K ps inp ln) (k : Keep mu H H1) (h : ∀ a ∈ mu, a = K.dx ∨ a = K.sg ∨ a = K.pb ∨ H a = none) : LexS H1 K :=
  S.toLexS.keep k h S.n2 ⟨_, S.dict⟩ ⟨_, S.signs⟩ ⟨_, S.push⟩
theorem Lex.keep (S : Lex H K ps inp ln) (k : Keep [] H H1) : Lex H1 K ps inp ln :=
  { S.kept k (fun a h => by cases h) with dict := k _ _ S.dict (by simp), push := k _ _ S.push (by simp), signs := k _ _ S.signs (by simp), n1 := S.n1, n2 := S.n2, okc := S.okc, len := S.len, psl := S.psl }
theorem Lex.dxsg (S : Lex H K ps inp ln) : K.dx ≠ K.sg := ne_of S.dict S.signs (by simp)
theorem Lex.dxpb (S : Lex H K ps inp ln) : K.dx ≠ K.pb := ne_of S.dict S.push (by simp)
theorem Lex.read {x : Nat} {r : List Nat} (S : Lex H K ps (x :: r) ln) : Lex (hup H K.sg (.list (aStrs (chs r.reverse)))) K ps r ln :=
  { S.kept (mu := [K.sg]) (Keep.hup (.inr (.head _))) (fun a h => by simp at h; exact .inr (.inl h)) with
    dict := (hup_ne S.dxsg).trans S.dict, push := (hup_ne S.n1).trans S.push, signs := hup_self, n1 := S.n1, n2 := S.n2
    okc := fun n hn => S.okc n (.tail _ hn), len := by have := S.len; simp at this; (first | lia | omega), psl := S.psl }
theorem Lex.line (S : Lex H K ps inp ln) (ln' : Int) : Lex (hup H K.dx (.dict (lexD K ln'))) K ps inp ln' :=
  { S.kept (mu := [K.dx]) (Keep.hup (.inr (.head _))) (fun a h => by simp at h; exact .inl h) with
    dict := hup_self, push := (hup_ne S.dxpb.symm).trans S.push, signs := (hup_ne S.dxsg.symm).trans S.signs, n1 := S.n1, n2 := S.n2, okc := S.okc, len := S.len, psl := S.psl }
theorem Lex.pushed (S : Lex H K ps inp ln) {ps' : List (List Nat)} (h : ps'.length ≤ 900) : Lex (hup H K.pb (.list (aStrs ps'))) K ps' inp ln :=
  { S.kept (mu := [K.pb]) (Keep.hup (.inr (.head _))) (fun a h => by simp at h; exact .inr (.inr (.inl h))) with
    dict := (hup_ne S.dxpb).trans S.dict, push := hup_self, signs := (hup_ne S.n1.symm).trans S.signs, n1 := S.n1, n2 := S.n2, okc := S.okc, len := S.len, psl := h }
end
noncomputable def nl (l : List Nat) : Int := (l.count 10 : Nat)
theorem fc35 {w : World} {hB : Heap} (Bk : BOk w hB) {K : LexK} {ps : List (List Nat)} {inp : List Nat} {ln : Int} : FC w hB (10 + 1) 35 [.ref K.x] (fun H => Lex H K ps inp ln) [K.dx, K.sg] fun av _ H' => av = .str (hd1 inp) ∧ Lex H' K ps inp.tail (ln + nl (hd1 inp)) := by
  refine FC.enter Bk (ok35 w) rfl fun A L fs H hA S => ?_
  have E : EnvOk (callEnv fd35 L 35) L := ⟨by kernel_rfl, rfl, rfl, rfl⟩
  refine s_cons (x_as E (e_method _ (e_attr (x_l E rfl (ga_own (es := lexD K ln) (av := .ref K.sx) Bk (clsOk w.params) (by kernel_rfl) ⟨S.inst, S.dict⟩ rfl (fun v r => by cases r; rfl) ?_)) (by with_unfolding_all rfl)) rfl))
  refine gm_own (es := strD K) (f := K.f) Bk (clsOk w.params) (by kernel_rfl) ⟨S.sinst, S.sdict⟩ rfl (cw_held (o := lamO K) rfl (a_cons (e_int (a_nil ⟨S.lam, (read_lam Bk hA S.toLexS S.signs S.okc S.len fun H1 k1 => ?_).wc⟩))))
  have key : ∃ H2, (if inp = [] then H1 else hup H1 K.sg (.list (aStrs (chs inp.tail.reverse)))) = H2 ∧ Keep [K.dx, K.sg] H H2 ∧ Lex H2 K ps inp.tail ln := by
    refine ⟨_, rfl, ?_⟩
    cases inp with
    | nil => rw [if_pos rfl]; exact ⟨k1.sub (by simp), S.keep k1⟩
    | cons x r =>
      rw [if_neg (by simp)]
      exact ⟨(k1.sub (by simp)).trans (Keep.hup (.inr (by simp))), (S.keep k1).read⟩
  obtain ⟨H2, e2, k2, S2⟩ := key
  rw [e2]
  clear e2 k1
  refine s_cons (s_if (t_cmp (x_l E rfl (e_str (l := [10]) (by kernel_rfl) (o_eq_str ⟨_, rfl, ?_⟩)))))
  by_cases hx : hd1 inp = [10]
  · rw [if_pos (by rw [hx]; rfl)]
    refine s_cons (s_augattr (x_l E rfl (ga_own (es := lexD K ln) (av := .int ln) Bk (clsOk w.params) (by kernel_rfl) ⟨S2.inst, S2.dict⟩ rfl (fun v r => by obtain ⟨t, rfl⟩ := r; rfl) (e_int (o_iadd_int fun ow v r1 r2 => ?_)))))
    cases r1
    refine sa_own (es := lexD K ln) Bk (clsOk w.params) (by kernel_rfl) ⟨S2.inst, S2.dict⟩ (by show 4 ≤ 900; decide) r2 (s_nil ?_)
    refine s_cons (s_return (x_l E rfl ⟨_, .inl rfl, k2.trans (Keep.hup (.inr (by simp))), rfl, ?_⟩))
    have := S2.line (ln + nl (hd1 inp))
    rw [hx] at this ⊢
    exact this
  · rw [if_neg (by simpa using hx)]
    refine s_nil (s_cons (s_return (x_l E rfl ⟨_, .inl rfl, k2, rfl, ?_⟩)))
    have : nl (hd1 inp) = 0 := by
      unfold nl hd1 at *
      cases inp with
      | nil => rfl
      | cons y r =>
        have hy : y ≠ 10 := fun q => hx (by subst q; rfl)
        simp [hy]
    rw [this, Int.add_zero]
    exact S2
end Mine
end
section
open PySem PySem.W PySem.Calls PyProof.Rows
set_option Elab.async false
set_option maxRecDepth 100000
set_option maxHeartbeats 1000000
set_option linter.unusedVariables false
set_option linter.unusedSimpArgs false
namespace Mine
noncomputable def wht : List Nat := [10, 9, 13, 32]
noncomputable def quo (t : List Nat) : List Nat → List Nat × List Nat
  | [] => (t, [])
  | c :: r => if c = 34 then (t, r) else if c = 92 then (match r with | [] => (t, []) | d :: r' => quo (t ++ [d]) r') else quo (t ++ [c]) r
noncomputable def bare (t : List Nat) : List Nat → List Nat × List Nat
  | [] => (t, [])
  | c :: r => if c ∈ wht then (t, r) else if c = 92 then (match r with | [] => (t, []) | d :: r' => bare (t ++ [d]) r') else bare (t ++ [c]) r
noncomputable def getTok : List Nat → List Nat × List Nat
  | [] => ([], [])
  | c :: r => if c ∈ wht then getTok r else if c = 34 then quo [] r else if c = 92 then (match r with | [] => ([], []) | d :: r' => bare [d] r') else bare [c] r
theorem nl_cons (x : Nat) (r : List Nat) : nl (x :: r) = nl [x] + nl r := by
  unfold nl; rw [List.count_cons, List.count_cons]; simp; (first | lia | omega)
theorem keep_hup2 {mu : List Addr} {H H1 : Hp} {a : Addr} {o : AO} (k : Keep mu H H1) (h : H a = none) : Keep mu H (hup H1 a o) := fun b bo e n => by
  have : b ≠ a := fun q => by subst q; rw [h] at e; cases e
  exact (hup_ne this).trans (k b bo e n)
theorem Lex.aside {H : Hp} {K : LexK} {ps : List (List Nat)} {inp : List Nat} {ln : Int} {a : Addr} {o : Obj} {y : AO} (S : Lex H K ps inp ln) (h : H a = some (.raw o)) (ho : o.cls ≠ .type "function") : Lex (hup H a y) K ps inp ln := by
  have key : ∀ b x, H b = some x → (∀ o', x = .raw o' → o'.cls = .type "function") → hup H a y b = some x := fun b x e hx => (hup_ne (ne_of e h (fun q => ho (hx o q)))).trans e
  exact { inst := key _ _ S.inst (by simp), sinst := key _ _ S.sinst (by simp), sdict := key _ _ S.sdict (by simp), lam := key _ _ S.lam (fun o' q => by cases q; rfl), code := key _ _ S.code (by simp), cell := key _ _ S.cell (by simp), dict := key _ _ S.dict (by simp), push := key _ _ S.push (by simp), signs := key _ _ S.signs (by simp), n1 := S.n1, n2 := S.n2, okc := S.okc, len := S.len, psl := S.psl }
structure GS (K : LexK) (it mo : Addr) (ct : Tok) (H0 : Hp) (T : Int) (m : Lm) (H1 : Hp) (tok inp : List Nat) (en : Bool) : Prop where
  lex : ∃ ln, Lex H1 K [] inp ln ∧ ln + nl inp = T
  itr : (en = true ∧ inp = [] ∧ H1 it = some (.raw citEnd)) ∨ (en = false ∧ H1 it = some (.raw (citO mo ct)))
  mth : H1 mo = some (.raw (methodObj (.ref 35) (.ref K.x)))
  keep : Keep [K.dx, K.sg] H0 H1
  ni : H0 it = none
  nm : H0 mo = none
  im : it ≠ mo
  self : Has m "self" (.ref K.x)
  fit : Has m "fiter" (.ref it)
  tk : Has m "token" (.str tok)
  tl : tok.length + inp.length ≤ 90000
section
variable {w : World} {hB : Heap} {A : Around} {L : Addr} {fs : List (Addr × Obj)} {K : LexK} {it mo : Addr} {ct : Tok} {H0 H1 H2 : Hp} {T : Int} {m m' : Lm} {tok inp : List Nat} {en : Bool}
theorem GS.push {v : AV} {x : Str} (G : GS K it mo ct H0 T m H1 tok inp en) (h1 : Has ((x, v) :: m) "self" (.ref K.x)) (h2 : Has ((x, v) :: m) "fiter" (.ref it)) (h3 : Has ((x, v) :: m) "token" (.str tok)) : GS K it mo ct H0 T ((x, v) :: m) H1 tok inp en :=
  { G with self := h1, fit := h2, tk := h3 }
theorem GS.ch {v : AV} (G : GS K it mo ct H0 T m H1 tok inp en) : GS K it mo ct H0 T (("ch", v) :: m) H1 tok inp en := G.push G.self G.fit G.tk
theorem gs_rc (Bk : BOk w hB) (hA : AOk 11 A) (G : GS K it mo ct H0 T m H1 tok inp en) {Q : AV → Lm → Hp → Prop} (h : ∀ H2, GS K it mo ct H0 T m H2 tok inp.tail en → Q (.str (hd1 inp)) m H2) : CC ⟨w, hB, A, L, fs⟩ (.ref 35) [.ref K.x] m H1 Q := by
  obtain ⟨ln, Lx, hT⟩ := G.lex
  refine cc_def (fc35 Bk (K := K) (ps := []) (inp := inp) (ln := ln)) rfl rfl hA Lx fun av H2 k ⟨e, L2⟩ => ?_
  subst e
  have kk : ∀ b o, H1 b = some (.raw o) → H2 b = some (.raw o) := fun b o e => k b _ e (by
    simp only [List.mem_cons, List.not_mem_nil, or_false, not_or]
    exact ⟨ne_of e Lx.dict (by simp), ne_of e Lx.signs (by simp)⟩)
  refine h H2 { G with lex := ⟨_, L2, ?_⟩, itr := ?_, mth := kk _ _ G.mth, keep := G.keep.trans k, tl := ?_ }
  · rw [← hT]
    cases inp with
    | nil => show ln + nl [] + nl [] = ln + nl []; simp [nl]
    | cons x r => rw [nl_cons x r]; show ln + nl [x] + nl r = _; (first | lia | omega)
  · rcases G.itr with ⟨e1, e2, e3⟩ | ⟨e1, e3⟩
    · exact .inl ⟨e1, by rw [e2]; rfl, kk _ _ e3⟩
    · exact .inr ⟨e1, kk _ _ e3⟩
  · have := G.tl; simp; (first | lia | omega)
theorem gs_next (Bk : BOk w hB) (hA : AOk 12 A) (G : GS K it mo ct H0 T m H1 tok inp false) {QN : Option AV → Lm → Hp → Prop} (h0 : inp = [] → ∀ H2, GS K it mo ct H0 T m H2 tok [] true → QN none m H2)
    (h1 : ∀ x r, inp = x :: r → ∀ H2, GS K it mo ct H0 T m H2 tok r false → QN (some (.str [x])) m H2) : WNext ⟨w, hB, A, L, fs⟩ it m H1 QN := by
  rcases G.itr with ⟨e1, _⟩ | ⟨_, e3⟩
  · cases e1
  obtain ⟨of, hf, hd⟩ := (ok35 w).look
  refine pn_cit (c := ⟨w, hB, A, L, fs⟩) Bk hA.1 hf hd e3 G.mth (gs_rc (A := A.in1) Bk hA.in1 G fun H2 G2 => ?_)
  rcases G2.itr with ⟨e1, _⟩ | ⟨_, e4⟩
  · cases e1
  refine ⟨e4, G2.mth, hd1 inp, rfl, fun e => ?_, fun e => ?_⟩
  · cases inp with
    | cons x r => cases e
    | nil =>
      refine h0 rfl _ { G2 with lex := ?_, itr := .inl ⟨rfl, rfl, hup_self⟩, mth := (hup_ne G.im.symm).trans G2.mth, keep := keep_hup2 G2.keep G.ni, tl := G2.tl }
      obtain ⟨ln, L2, e⟩ := G2.lex
      exact ⟨ln, L2.aside e4 (by simp [citO]), e⟩
  · cases inp with
    | nil => exact absurd rfl e
    | cons x r => exact h1 x r rfl H2 G2
theorem gs_end (hA : AOk 12 A) (G : GS K it mo ct H0 T m H1 tok inp true) {QN : Option AV → Lm → Hp → Prop} (h0 : QN none m H1) : WNext ⟨w, hB, A, L, fs⟩ it m H1 QN := by
  rcases G.itr with ⟨_, _, e3⟩ | ⟨e1, _⟩
  · exact pn_cit_end (c := ⟨w, hB, A, L, fs⟩) hA.1 e3 h0
  · cases e1
end
end Mine
end
section
open PySem PySem.W PySem.Calls PyProof.Rows
set_option Elab.async false
set_option maxRecDepth 100000
set_option maxHeartbeats 1000000
set_option linter.unusedVariables false
set_option linter.unusedSimpArgs false
namespace Mine
section
variable {c : Cx} {env : Env} {m : Lm} {H : Hp} {pos : Pos} {QB : Bool → Lm → Hp → Prop}
theorem t_val {e : PySem.Expr} (h : WE c env e m H fun av m1 H1 => ∀ v, rep av v → W c (fun b a => b = a) (truthy v) m1 H1 QB)
    (he : isTrue e env (eval e env) = (do let v ← eval e env; standAt e.pos; holding [v] (truthy v)) := by rfl) : WT c env e m H QB := fun s S =>
  wpAny_isTrue_value (wmono (h s S) (fun v s1 a m1 H1 r S1 z q => (q v r).from S1 z) fun _ _ x => x) he
end
theorem GS.lk {K : LexK} {it mo : Addr} {ct : Tok} {H0 H1 : Hp} {T : Int} {m : Lm} {tok inp : List Nat} {en : Bool} (G : GS K it mo ct H0 T m H1 tok inp en) : ∃ ln, InstH H1 K.x 52 K.dx (lexD K ln) := by
  obtain ⟨ln, Lx, _⟩ := G.lex
  exact ⟨ln, Lx.inst, Lx.dict⟩
section
variable {w : World} {hB : Heap} {A : Around} {L : Addr} {fs : List (Addr × Obj)} {K : LexK} {it mo : Addr} {ct : Tok} {H0 H1 : Hp} {T : Int} {m : Lm} {tok inp : List Nat} {en : Bool}
theorem gs_read {p p1 p2 p3 : Pos} {QF : AF → Lm → Hp → Prop} (pl : Sem Bool) (Bk : BOk w hB) (hA : AOk 12 A) (E : EnvOk (callEnv fd42 L 42) L) (G : GS K it mo ct H0 T m H1 tok inp en)
    (he : eval (.Call (.Attribute (.Name "self" p1) "_read_char" p2) [] [] p3) (callEnv fd42 L 42) = (do
          let ov ← eval (.Name "self" p1) (callEnv fd42 L 42)
          standAt p2.atName
          let __x ← holding [ov] (getMethod ov "_read_char" pl)
          match __x with
            | (f, first) => callWith p3 f first (backTo p3 (starEach [] (callEnv fd42 L 42))) (backToKw p3 (keywordEach [] (callEnv fd42 L 42)))))
    (h : ∀ H2, GS K it mo ct H0 T (("ch", .str (hd1 inp)) :: m) H2 tok inp.tail en → QF .next (("ch", .str (hd1 inp)) :: m) H2) :
    WS ⟨w, hB, A, L, fs⟩ (callEnv fd42 L 42) (.Assign [.Name "ch" p] (.Call (.Attribute (.Name "self" p1) "_read_char" p2) [] [] p3) pos) m H1 QF := by
  obtain ⟨ln, I⟩ := G.lk
  refine x_as E (e_method pl (x_l E G.self (gm_inst (es := lexD K ln) Bk (clsOk w.params) (by kernel_rfl) (by kernel_rfl) I rfl (cw_top Bk (by kernel_rfl) (by unfold noStar; kernel_rfl) (a_nil (gs_rc Bk (hA.less (by (first | lia | omega))) G fun H2 G2 => ?_).wc)))) he) (by kernel_rfl) (by kernel_rfl)
  exact h H2 G2.ch
theorem gs_add {p p1 : Pos} {x : List Nat} {QF : AF → Lm → Hp → Prop} (E : EnvOk (callEnv fd42 L 42) L) (G : GS K it mo ct H0 T m H1 tok inp en) (hc : Has m "ch" (.str x)) (hl : tok.length + x.length + inp.length ≤ 90000)
    (h : GS K it mo ct H0 T (("token", .str (tok ++ x)) :: m) H1 (tok ++ x) inp en → QF .next (("token", .str (tok ++ x)) :: m) H1) :
    WS ⟨w, hB, A, L, fs⟩ (callEnv fd42 L 42) (.AugAssign (.Name "token" p) .Add (.Name "ch" p1) pos) m H1 QF := by
  refine x_aug E G.tk (x_l E hc (o_iadd_str (by omega) ?_)) (by kernel_rfl)
  exact h { G with self := G.self, fit := G.fit, tk := rfl, tl := by simp; omega }
end
theorem getTok_w {c : Nat} {r : List Nat} (h : c ∈ wht) : getTok (c :: r) = getTok r := by rw [getTok.eq_def]; simp [h]
theorem getTok_q {r : List Nat} : getTok (34 :: r) = quo [] r := by rw [getTok.eq_def]; simp [wht]
theorem getTok_b {r : List Nat} : getTok (92 :: r) = bare (hd1 r) r.tail := by
  rw [getTok.eq_def]
  cases r with
  | nil => simp [wht, hd1, bare.eq_def]
  | cons d r => simp [wht, hd1]
theorem getTok_o {c : Nat} {r : List Nat} (h : c ∉ wht) (h1 : c ≠ 34) (h2 : c ≠ 92) : getTok (c :: r) = bare [c] r := by rw [getTok.eq_def]; simp [h, h1, h2]
theorem quo_nil {t : List Nat} : quo t [] = (t, []) := by rw [quo.eq_def]
theorem quo_q {t r : List Nat} : quo t (34 :: r) = (t, r) := by rw [quo.eq_def]; simp
theorem quo_b {t r : List Nat} : quo t (92 :: r) = quo (t ++ hd1 r) r.tail := by
  rw [quo.eq_def]
  cases r with
  | nil => simp [hd1, quo.eq_def]
  | cons d r => simp [hd1]
theorem quo_o {c : Nat} {t r : List Nat} (h1 : c ≠ 34) (h2 : c ≠ 92) : quo t (c :: r) = quo (t ++ [c]) r := by rw [quo.eq_def]; simp [h1, h2]
theorem bare_nil {t : List Nat} : bare t [] = (t, []) := by rw [bare.eq_def]
theorem bare_w {c : Nat} {t r : List Nat} (h : c ∈ wht) : bare t (c :: r) = (t, r) := by rw [bare.eq_def]; simp [h]
theorem bare_b {t r : List Nat} : bare t (92 :: r) = bare (t ++ hd1 r) r.tail := by
  rw [bare.eq_def]
  cases r with
  | nil => simp [wht, hd1, bare.eq_def]
  | cons d r => simp [wht, hd1]
theorem bare_o {c : Nat} {t r : List Nat} (h1 : c ∉ wht) (h2 : c ≠ 92) : bare t (c :: r) = bare (t ++ [c]) r := by rw [bare.eq_def]; simp [h1, h2]
theorem hd1_len {r : List Nat} : (hd1 r).length + r.tail.length = r.length := by cases r <;> simp [hd1]; (first | lia | omega)
theorem GS.post {K : LexK} {it mo : Addr} {ct : Tok} {H0 H1 : Hp} {m : Lm} {tok inp : List Nat} {en : Bool} {inp0 : List Nat} {ln : Int} (G : GS K it mo ct H0 (ln + nl inp0) m H1 tok inp en) :
    Keep [K.dx, K.sg, K.pb] H0 H1 ∧ Lex H1 K [] inp (ln + nl inp0 - nl inp) := by
  obtain ⟨l1, Lx, e⟩ := G.lex
  refine ⟨G.keep.sub (fun a h => by simp only [List.mem_cons, List.not_mem_nil, or_false] at h ⊢; rcases h with h | h <;> simp [h]), ?_⟩
  rw [show ln + nl inp0 - nl inp = l1 by (first | lia | omega)]; exact Lx
theorem fc42a {w : World} {hB : Heap} (Bk : BOk w hB) {K : LexK} {p : List Nat} {ps : List (List Nat)} {inp : List Nat} {ln : Int} : FC w hB (12 + 1) 42 [.ref K.x] (fun H => Lex H K (p :: ps) inp ln) [K.dx, K.sg, K.pb] fun av _ H' => av = .str p ∧ Lex H' K ps inp ln := by
  refine FC.enter Bk (ok42 w) rfl fun A L fs H hA S => ?_
  have E : EnvOk (callEnv fd42 L 42) L := ⟨by kernel_rfl, rfl, rfl, rfl⟩
  refine s_cons (s_if (t_val (e_attr (x_l E rfl (ga_own (es := lexD K ln) (av := .ref K.pb) Bk (clsOk w.params) (by kernel_rfl) ⟨S.inst, S.dict⟩ rfl (fun v r => by cases r; rfl) fun v r => ?_)))))
  cases r
  refine truth_list S.push (by have := S.psl; simp [aStrs] at this ⊢; (first | lia | omega)) ?_
  rw [if_pos (by rfl)]
  refine s_cons (s_return (x_ml _ F.slot_list_pop F.type_list_pop (e_attr (x_l E rfl (ga_own (es := lexD K ln) (av := .ref K.pb) Bk (clsOk w.params) (by kernel_rfl) ⟨S.inst, S.dict⟩ rfl (fun v r => by cases r; rfl) ⟨K.pb, _, rfl, S.push, a_cons (e_int (a_nil (c_pop0 (l := aStrs ps) (av := .str p) S.push ?_ ?_)))⟩))) rfl))
  · have := S.psl; simp [aStrs] at this ⊢; (first | lia | omega)
  · exact ⟨_, .inl rfl, Keep.hup (.inr (by simp)), rfl, S.pushed (by have := S.psl; simp at this ⊢; (first | lia | omega))⟩
theorem fc42 {w : World} {hB : Heap} (Bk : BOk w hB) {K : LexK} {inp : List Nat} {ln : Int} : FC w hB (12 + 1) 42 [.ref K.x] (fun H => Lex H K [] inp ln) [K.dx, K.sg, K.pb] fun av _ H' => av = .str (getTok inp).1 ∧ Lex H' K [] (getTok inp).2 (ln + nl inp - nl (getTok inp).2) := by
  refine FC.enter Bk (ok42 w) rfl fun A L fs H hA S => ?_
  have E : EnvOk (callEnv fd42 L 42) L := ⟨by kernel_rfl, rfl, rfl, rfl⟩
  refine s_cons (s_if (t_val (e_attr (x_l E rfl (ga_own (es := lexD K ln) (av := .ref K.pb) Bk (clsOk w.params) (by kernel_rfl) ⟨S.inst, S.dict⟩ rfl (fun v r => by cases r; rfl) fun v r => ?_)))))
  cases r
  refine truth_list S.push (by simp [aStrs]) ?_
  rw [if_neg (by simp [aStrs])]
  refine s_nil (s_cons (x_as E (e_str (l := []) (by kernel_rfl) (s_cons (x_as E (x_b Bk E (a_cons (e_attr (x_l E rfl (ga_bound (es := lexD K ln) (f := 35) Bk (clsOk w.params) (by kernel_rfl) (by kernel_rfl) (by kernel_rfl) (by kernel_rfl) (by decide) ⟨S.inst, S.dict⟩ rfl fun mo hmo => a_cons (e_str (l := []) (by kernel_rfl) (a_nil (c_iter2 (f := 35) (x := K.x) hup_self fun it ct hit => ?_)))))))))))))
  have him : it ≠ mo := fun q => by subst q; rw [hup_self] at hit; cases hit
  have hi0 : H it = none := by rwa [hup_ne him] at hit
  have k1 : Keep [K.dx, K.sg] H (hup (hup H mo (.raw (methodObj (.ref 35) (.ref K.x)))) it (.raw (citO mo ct))) := keep_hup2 (Keep.hup (.inl hmo)) hi0
  have G : GS K it mo ct H (ln + nl inp) (("fiter", .ref it) :: ("token", .str []) :: (List.zip [("self" : Str)] [AV.ref K.x]).reverse) (hup (hup H mo (.raw (methodObj (.ref 35) (.ref K.x)))) it (.raw (citO mo ct))) [] inp false :=
    { lex := ⟨ln, S.keep (keep_hup2 (Keep.hup (.inl hmo)) hi0), rfl⟩, itr := .inr ⟨rfl, hup_self⟩, mth := (hup_ne him.symm).trans hup_self, keep := k1, ni := hi0, nm := hmo, im := him, self := rfl, fit := rfl, tk := rfl, tl := by have := S.len; simp; (first | lia | omega) }
  generalize hup (hup H mo (.raw (methodObj (.ref 35) (.ref K.x)))) it (.raw (citO mo ct)) = H0' at G ⊢
  clear hit k1 him hi0 hmo
  have fin : ∀ {m1 H1 t r en}, GS K it mo ct H (ln + nl inp) m1 H1 t r en → (t, r) = getTok inp → ∃ av, (AF.ret (.str t) = .ret av ∨ (AF.ret (.str t) = .next ∧ av = .none)) ∧ Keep [K.dx, K.sg, K.pb] H H1 ∧ av = .str (getTok inp).1 ∧ Lex H1 K [] (getTok inp).2 (ln + nl inp - nl (getTok inp).2) := fun G e => by
    obtain ⟨k, Lx⟩ := G.post
    rw [← e]
    exact ⟨_, .inl rfl, k, rfl, Lx⟩
  refine s_cons (s_for (fun it' n m1 H1 => it' = it ∧ ∃ tok1 inp1 en, GS K it mo ct H (ln + nl inp) m1 H1 tok1 inp1 en ∧ ((en = false ∧ tok1 = [] ∧ getTok inp1 = getTok inp ∧ n = inp1.length + 1) ∨ (en = true ∧ (tok1, []) = getTok inp ∧ n = 0))) ?_ ?_)
  · refine x_l E G.fit ?_
    rcases G.itr with ⟨e1, _⟩ | ⟨_, e3⟩
    · cases e1
    intro x rx
    cases rx
    refine it_cit rfl e3 ?_
    exact ⟨it, _, rfl, rfl, [], inp, false, G, .inl ⟨rfl, rfl, rfl, rfl⟩⟩
  rintro it' n m1 H1 ⟨rfl, tok1, inp1, en, G1, hcase⟩
  rcases hcase with ⟨rfl, rfl, hg, rfl⟩ | ⟨rfl, hg, rfl⟩
  rotate_left 1
  · refine gs_end hA G1 (s_cons (s_return (x_l E G1.tk ?_)))
    rcases G1.itr with ⟨_, e, _⟩ | ⟨e, _⟩
    · subst e; exact fin G1 hg
    · cases e
  refine gs_next Bk hA G1 (fun e H2 G2 => s_cons (s_return (x_l E G2.tk (fin G2 (by rw [← hg, e]; rfl))))) fun x r hx H2 G2 => ?_
  subst hx
  refine asg_local E.kind (by kernel_rfl) E.loc ?_
  have G3 := G2.ch (v := .str [x])
  obtain ⟨l3, I3⟩ := G3.lk
  refine s_cons (s_if (t_cmp (x_l E rfl (e_attr (x_l E G3.self (ga_own (es := lexD K l3) (av := .str wht) Bk (clsOk w.params) (by kernel_rfl) I3 rfl (fun v r => by obtain ⟨t, rfl⟩ := r; rfl) (o_in_str ⟨_, rfl, ?_⟩)))))))
  by_cases hw : x ∈ wht
  · rw [if_pos (by simpa using hw)]
    refine s_cons (s_continue ?_)
    refine ⟨r.length + 1, by simp, rfl, [], r, false, G3, .inl ⟨rfl, rfl, ?_, rfl⟩⟩
    rw [← hg]; exact (getTok_w hw).symm
  rw [if_neg (by simpa using hw)]
  refine s_nil ?_
  have tl1 := G1.tl
  simp only [List.length_nil, List.length_cons, Nat.zero_add] at tl1
  refine s_cons (W.imp (Q := fun f m4 H4 => (f = .next ∧ ∃ t, GS K it' mo ct H (ln + nl inp) m4 H4 t [] true ∧ (t, []) = getTok inp) ∨ ∃ t, f = .ret (.str t) ∧ ∃ m5 r5 en5, GS K it' mo ct H (ln + nl inp) m5 H4 t r5 en5 ∧ (t, r5) = getTok inp) (s_if (t_cmp (x_l E rfl (e_str (l := [34]) (by kernel_rfl) (o_eq_str ⟨_, rfl, ?_⟩))))) ?_)
  rotate_left 1
  · rintro f m4 H4 (⟨rfl, t, G4, e4⟩ | ⟨t, rfl, m5, r5, en5, G5, e5⟩)
    · exact s_nil ⟨0, by (first | lia | omega), rfl, t, [], true, G4, .inr ⟨rfl, e4, rfl⟩⟩
    · exact fin G5 e5
  by_cases hq : x = 34
  · subst hq
    rw [if_pos (by simp)]
    refine s_cons (s_for (fun it2 n m1 H1 => it2 = it' ∧ ∃ tok1 inp1 en, GS K it' mo ct H (ln + nl inp) m1 H1 tok1 inp1 en ∧ quo tok1 inp1 = getTok inp ∧ n = inp1.length + (if en then 0 else 1)) ?_ ?_)
    · refine x_l E G3.fit ?_
      rcases G3.itr with ⟨e1, _⟩ | ⟨_, e3⟩
      · cases e1
      intro x rx
      cases rx
      refine it_cit rfl e3 ?_
      exact ⟨it', _, rfl, rfl, [], r, false, G3, by rw [← hg, getTok_q], rfl⟩
    rintro it2 n m6 H6 ⟨rfl, tok6, inp6, en6, G6, hg6, rfl⟩
    cases en6 with
    | true =>
      have hi : inp6 = [] := by rcases G6.itr with ⟨_, e, _⟩ | ⟨e, _⟩; exact e; cases e
      subst hi
      refine gs_end hA G6 (s_nil (.inl ⟨rfl, tok6, G6, by rw [← hg6, quo_nil]⟩))
    | false =>
    refine gs_next Bk hA G6 (fun e H7 G7 => s_nil (.inl ⟨rfl, tok6, G7, by rw [← hg6, e, quo_nil]⟩)) fun y r7 hy H7 G7 => ?_
    subst hy
    have tl6 := G6.tl
    simp only [List.length_cons] at tl6
    refine asg_local E.kind (by kernel_rfl) E.loc ?_
    have G8 := G7.ch (v := .str [y])
    refine s_cons (s_if (t_cmp (x_l E rfl (e_str (l := [34]) (by kernel_rfl) (o_eq_str ⟨_, rfl, ?_⟩)))))
    by_cases hy34 : y = 34
    · subst hy34
      rw [if_pos (by simp)]
      exact s_cons (s_return (x_l E G8.tk (.inr ⟨tok6, rfl, _, r7, false, G8, by rw [← hg6, quo_q]⟩)))
    rw [if_neg (by simpa using hy34)]
    refine s_cons (s_if (t_cmp (x_l E rfl (e_str (l := [92]) (by kernel_rfl) (o_eq_str ⟨_, rfl, ?_⟩)))))
    by_cases hy92 : y = 92
    · subst hy92
      rw [if_pos (by simp)]
      have hl := hd1_len (r := r7)
      refine s_cons (gs_read _ Bk hA E G8 rfl fun H9 G9 => s_nil (s_nil (s_cons (gs_add E G9 rfl (by (first | lia | omega)) fun G10 => s_nil ⟨_, ?_, rfl, _, _, _, G10, by rw [← hg6, quo_b], rfl⟩))))
      simp; (first | lia | omega)
    · rw [if_neg (by simpa using hy92)]
      refine s_nil (s_nil (s_cons (gs_add E G8 rfl (by simp; (first | lia | omega)) fun G10 => s_nil ⟨_, ?_, rfl, _, _, _, G10, by rw [← hg6, quo_o hy34 hy92], rfl⟩)))
      simp
  rw [if_neg (by simpa using hq)]
  refine s_cons (W.imp (Q := fun f m4 H4 => f = .next ∧ ∃ r4 y, GS K it' mo ct H (ln + nl inp) m4 H4 [] r4 false ∧ Has m4 "ch" (.str y) ∧ y.length + r4.length ≤ 90000 ∧ bare y r4 = getTok inp) (s_if (t_cmp (x_l E rfl (e_str (l := [92]) (by kernel_rfl) (o_eq_str ⟨_, rfl, ?_⟩))))) ?_)
  · by_cases h92 : x = 92
    · subst h92
      rw [if_pos (by simp)]
      have hl := hd1_len (r := r)
      exact s_cons (gs_read _ Bk hA E G3 rfl fun H9 G9 => s_nil ⟨rfl, _, _, G9, rfl, by (first | lia | omega), by rw [← hg, getTok_b]⟩)
    · rw [if_neg (by simpa using h92)]
      exact s_nil ⟨rfl, r, [x], G3, rfl, by simp; (first | lia | omega), by rw [← hg, getTok_o hw hq h92]⟩
  rintro f m4 H4 ⟨rfl, r4, y4, G4, hc4, hl4, hb4⟩
  refine s_cons (gs_add E G4 hc4 (by simpa using hl4) fun G5 => ?_)
  rw [List.nil_append] at G5 ⊢
  refine s_cons (s_for (fun it2 n m1 H1 => it2 = it' ∧ ∃ tok1 inp1 en, GS K it' mo ct H (ln + nl inp) m1 H1 tok1 inp1 en ∧ bare tok1 inp1 = getTok inp ∧ n = inp1.length + (if en then 0 else 1)) ?_ ?_)
  · refine x_l E G5.fit ?_
    rcases G5.itr with ⟨e1, _⟩ | ⟨_, e3⟩
    · cases e1
    intro x rx
    cases rx
    refine it_cit rfl e3 ?_
    exact ⟨it', _, rfl, rfl, _, _, false, G5, hb4, rfl⟩
  rintro it2 n m6 H6 ⟨rfl, tok6, inp6, en6, G6, hg6, rfl⟩
  cases en6 with
  | true =>
    have hi : inp6 = [] := by rcases G6.itr with ⟨_, e, _⟩ | ⟨e, _⟩; exact e; cases e
    subst hi
    refine gs_end hA G6 (s_nil (.inl ⟨rfl, tok6, G6, by rw [← hg6, bare_nil]⟩))
  | false =>
  refine gs_next Bk hA G6 (fun e H7 G7 => s_nil (.inl ⟨rfl, tok6, G7, by rw [← hg6, e, bare_nil]⟩)) fun y r7 hy H7 G7 => ?_
  subst hy
  have tl6 := G6.tl
  simp only [List.length_cons] at tl6
  refine asg_local E.kind (by kernel_rfl) E.loc ?_
  have G8 := G7.ch (v := .str [y])
  obtain ⟨l8, I8⟩ := G8.lk
  refine s_cons (s_if (t_cmp (x_l E rfl (e_attr (x_l E G8.self (ga_own (es := lexD K l8) (av := .str wht) Bk (clsOk w.params) (by kernel_rfl) I8 rfl (fun v r => by obtain ⟨t, rfl⟩ := r; rfl) (o_in_str ⟨_, rfl, ?_⟩)))))))
  by_cases hyw : y ∈ wht
  · rw [if_pos (by simpa using hyw)]
    exact s_cons (s_return (x_l E G8.tk (.inr ⟨tok6, rfl, _, r7, false, G8, by rw [← hg6, bare_w hyw]⟩)))
  rw [if_neg (by simpa using hyw)]
  refine s_cons (s_if (t_cmp (x_l E rfl (e_str (l := [92]) (by kernel_rfl) (o_eq_str ⟨_, rfl, ?_⟩)))))
  by_cases hy92 : y = 92
  · subst hy92
    rw [if_pos (by simp)]
    have hl := hd1_len (r := r7)
    refine s_cons (gs_read _ Bk hA E G8 rfl fun H9 G9 => s_nil (s_nil (s_cons (gs_add E G9 rfl (by (first | lia | omega)) fun G10 => s_nil ⟨_, ?_, rfl, _, _, _, G10, by rw [← hg6, bare_b], rfl⟩))))
    simp; (first | lia | omega)
  · rw [if_neg (by simpa using hy92)]
    refine s_nil (s_nil (s_cons (gs_add E G8 rfl (by simp; (first | lia | omega)) fun G10 => s_nil ⟨_, ?_, rfl, _, _, _, G10, by rw [← hg6, bare_o hyw hy92], rfl⟩)))
    simp
end Mine
end
section
open PySem PySem.W PySem.Calls PyProof.Rows
set_option Elab.async false
set_option maxRecDepth 100000
set_option maxHeartbeats 1000000
set_option linter.unusedVariables false
set_option linter.unusedSimpArgs false
namespace Mine
section
variable {c : Cx} {env : Env} {m : Lm} {H : Hp} {pos : Pos} {QF : AF → Lm → Hp → Prop}
theorem s_expr {e : PySem.Expr} (h : WE c env e m H fun _ m1 H1 => QF .next m1 H1) (hi : interactive env = false := by kernel_rfl) (hs : swapsWith e none pos.line env = pure false := by kernel_rfl) : WS c env (.Expr e pos) m H QF := fun s S =>
  wpAny_Expr_any (wmono (h s S) (fun v s1 av m1 H1 r S1 z q => ⟨.next, m1, H1, rfl, S1, z, q⟩) fun _ _ x => x) hi hs
theorem s_set {name : Str} {o value : PySem.Expr} {p' : Pos} (h : WE c env value m H fun av m1 H1 => WE c env o m1 H1 fun ov m2 H2 => ∀ ow v, rep ov ow → rep av v → W c (fun (_ : Unit) (_ : Unit) => True) (setAttr ow name v) m2 H2 fun _ m3 H3 => QF .next m3 H3)
    (hs : swapsWith value (some (.Attribute o name p')) pos.line env = pure false := by kernel_rfl) : WS c env (.Assign [.Attribute o name p'] value pos) m H QF := s_setattr (av := .none) h hs
end
theorem fc49 {w : World} {hB : Heap} (Bk : BOk w hB) {K : LexK} {ps : List (List Nat)} {t inp : List Nat} {ln : Int} (hps : ps.length + 1 ≤ 900) : FC w hB (2 + 1) 49 [.ref K.x, .str t] (fun H => Lex H K ps inp ln) [K.pb] fun av _ H' => av = .none ∧ Lex H' K (ps ++ [t]) inp ln := by
  refine FC.enter Bk (ok49 w) rfl fun A L fs H hA S => ?_
  have E : EnvOk (callEnv fd49 L 49) L := ⟨by kernel_rfl, rfl, rfl, rfl⟩
  refine s_cons (s_expr (x_ml _ F.slot_list_append F.type_list_append (e_attr (x_l E rfl (ga_own (es := lexD K ln) (av := .ref K.pb) Bk (clsOk w.params) (by kernel_rfl) ⟨S.inst, S.dict⟩ rfl (fun v r => by cases r; rfl) ⟨K.pb, _, rfl, S.push, a_cons (x_l E rfl (a_nil (c_append (l := aStrs ps) (av := .str t) S.push (by simp [aStrs]; (first | lia | omega)) (s_nil ?_))))⟩))) rfl))
  have e : aStrs ps ++ [AV.str t] = aStrs (ps ++ [t]) := by simp [aStrs]
  rw [e]
  exact ⟨.none, .inr ⟨rfl, rfl⟩, Keep.hup (.inr (by simp)), rfl, S.pushed (by simpa using hps)⟩
theorem fc28 {w : World} {hB : Heap} (Bk : BOk w hB) {x dx : Addr} {fp : AV} (hfp : ∀ v, rep fp v → handedIn v = true) : FC w hB (2 + 1) 28 [.ref x, fp] (fun H => InstH H x 52 dx []) [dx] fun av H H' => av = .none ∧ ∃ pb, H pb = none ∧ pb ≠ dx ∧ H' pb = some (.list []) ∧ InstH H' x 52 dx [("lineno", .int 1), ("instream", fp), ("whitespace", .str wht), ("pushback", .ref pb)] := by
  refine FC.enter Bk (ok28 w) rfl fun A L fs H hA I => ?_
  have E : EnvOk (callEnv fd28 L 28) L := ⟨by kernel_rfl, rfl, rfl, rfl⟩
  have hx : x ≠ dx := ne_of I.1 I.2 (by simp)
  have up : ∀ {H1 : Hp} {es es'}, InstH H1 x 52 dx es → InstH (hup H1 dx (.dict es')) x 52 dx es' := fun I => ⟨(hup_ne hx).trans I.1, hup_self⟩
  refine s_cons (s_set (e_int (x_l E rfl fun ow v r1 r2 => ?_)))
  cases r1
  refine sa_own Bk (clsOk w.params) (by kernel_rfl) I (Nat.le_of_ble_eq_true rfl) r2 ?_
  have I1 := up (es' := putE "lineno" (.int 1) []) I
  refine s_cons (s_set (x_l E rfl (x_l E rfl fun ow v r1 r2 => ?_)))
  cases r1
  refine sa_own Bk (clsOk w.params) (by kernel_rfl) I1 (Nat.le_of_ble_eq_true rfl) r2 ?_
  have I2 := up (es' := putE "instream" fp (putE "lineno" (.int 1) [])) I1
  refine s_cons (s_set (e_str (l := wht) (by kernel_rfl) (x_l E rfl fun ow v r1 r2 => ?_)))
  cases r1
  refine sa_own Bk (clsOk w.params) (by kernel_rfl) I2 (Nat.le_of_ble_eq_true rfl) r2 ?_
  have I3 := up (es' := putE "whitespace" (.str wht) (putE "instream" fp (putE "lineno" (.int 1) []))) I2
  refine s_cons (s_set (e_list (a_nil ⟨by decide, fun pb hpb => x_l E rfl fun ow v r1 r2 => ?_⟩)))
  cases r1
  have hpd : pb ≠ dx := fun q => by subst q; rw [hup_self] at hpb; cases hpb
  have hpx : pb ≠ x := fun q => by subst q; rw [I3.1] at hpb; cases hpb
  have I4 : InstH (hup _ pb (.list [])) x 52 dx _ := ⟨(hup_ne hpx.symm).trans I3.1, (hup_ne hpd.symm).trans I3.2⟩
  refine sa_own Bk (clsOk w.params) (by kernel_rfl) I4 (Nat.le_of_ble_eq_true rfl) r2 (s_nil ?_)
  have hp0 : H pb = none := by
    rw [hup_ne hpd, hup_ne hpd, hup_ne hpd] at hpb; exact hpb
  refine ⟨.none, .inr ⟨rfl, rfl⟩, ?_, rfl, pb, hp0, hpd, (hup_ne hpd).trans hup_self, up I4⟩
  have k1 : ∀ {H1 : Hp} {o : AO}, Keep [dx] H H1 → Keep [dx] H (hup H1 dx o) := fun k => k.trans (Keep.hup (.inr (.head _)))
  exact k1 (keep_hup2 (k1 (k1 (k1 .refl))) hp0)
end Mine
end
section
open PySem PySem.W PySem.Calls PyProof.Rows
set_option Elab.async false
set_option maxRecDepth 100000
set_option maxHeartbeats 1000000
set_option linter.unusedVariables false
set_option linter.unusedSimpArgs false
namespace Mine
noncomputable def lamPos : Pos := match (fBody (stm 12)).getD 1 (.Pass ⟨0, 0, 0, 0⟩) with
  | .Assign _ (.Lambda _ _ _ p) _ => p
  | _ => ⟨0, 0, 0, 0⟩
abbrev TabL (H : Hp) : Prop := TabAt H 141 lamPos lamQ
theorem TabAt.keep {H H1 : Hp} {P : Addr} {p : Pos} {q : Str} {mu : List Addr} (T : TabAt H P p q) (k : Keep mu H H1) (h : ∀ a ∈ mu, ∀ o, H a = some o → (∀ o', o ≠ .raw o') ∧ ∀ p, o ≠ .pat p) : TabAt H1 P p q := by
  rcases T with e | ⟨c', e, ec, hn⟩
  · exact .inl (k _ _ e fun hm => (h _ hm _ e).1 _ rfl)
  · exact .inr ⟨c', k _ _ e fun hm => (h _ hm _ e).1 _ rfl, k _ _ ec fun hm => (h _ hm _ ec).2 _ rfl, hn⟩
theorem TabAt.keep0 {H H1 : Hp} {P : Addr} {p : Pos} {q : Str} (T : TabAt H P p q) (k : Keep [] H H1) : TabAt H1 P p q := T.keep k fun a h => by cases h
theorem c_lexer {c : Cx} {m : Lm} {H : Hp} {Q : AV → Lm → Hp → Prop} {fp : AV} (Bk : BOk c.w c.hB) (hA : AOk 4 c.A) (hfp : ∀ v, rep fp v → handedIn v = true)
    (h : ∀ x dx pb H', Keep [] H H' → H x = none → H dx = none → H pb = none → H' pb = some (.list []) → InstH H' x 52 dx [("lineno", .int 1), ("instream", fp), ("whitespace", .str wht), ("pushback", .ref pb)] → Q (.ref x) m H') :
    WC c (.ref 52) [fp] m H Q := by
  refine c_class (d := 3) (fI := 28) Bk hA (by kernel_rfl) (by kernel_rfl) (by kernel_rfl) fun A x dx hA' hx hdx hne => ?_
  have I : InstH (hup (hup H dx (.dict [])) x (.inst 52 dx)) x 52 dx [] := ⟨hup_self, (hup_ne hne.symm).trans hup_self⟩
  refine cc_def (fc28 (dx := dx) Bk hfp) rfl rfl (hA'.less (by (first | lia | omega))) I fun av H' k ⟨e, pb, h1, h2, h3, h4⟩ => ⟨e, ?_⟩
  have hpx : pb ≠ x := fun q => by subst q; rw [hup_self] at h1; cases h1
  refine h x dx pb H' (fun a o e _ => ?_) hx hdx (by rwa [hup_ne hpx, hup_ne h2] at h1) h3 h4
  have ax : a ≠ x := fun q => by subst q; rw [hx] at e; cases e
  have ad : a ≠ dx := fun q => by subst q; rw [hdx] at e; cases e
  exact k a o ((hup_ne ax).trans ((hup_ne ad).trans e)) (by simpa using ad)
theorem fc146 {w : World} {hB : Heap} (Bk : BOk w hB) {sg : Addr} {inp : List Nat} (hok : ∀ n ∈ inp, n < 1114112) (hl : inp.length ≤ 90000) : FC w hB (6 + 1) 146 [.ref sg] (fun H => H sg = some (.list (aStrs (chs inp.reverse))) ∧ TabL H) [141] fun av H H' => TabL H' ∧ ∃ K : LexK, av = .ref K.x ∧ K.sg = sg ∧ H K.dx = none ∧ H K.pb = none ∧ Lex H' K [] inp 1 := by
  refine FC.enterC Bk (ok146 w) rfl fun A L fs H hA ⟨hsg, T⟩ hcn _ => ?_
  rw [cf146] at hcn
  have hcl : H (L + 1) = none := hcn _ _ (.head _)
  have E : EnvOk (callEnvC fd146 L 146) L := ⟨by kernel_rfl, rfl, rfl, rfl⟩
  have hH : cellsH (cellsFrom (L + 1) fd146.scope.names []) (bindCA (callEnvC fd146 L 146).kindOf (List.zip [("signs" : Str)] [AV.ref sg]) fun _ => none) H = hup H (L + 1) (AOcell (some (.ref sg))) := by
    rw [cf146]
    show hup H (L + 1) (AOcell _) = _
    congr 2
  rw [hH]
  clear hH
  have k0 : Keep [] H (hup H (L + 1) (AOcell (some (.ref sg)))) := Keep.hup (.inl hcl)
  have hc0 : hup H (L + 1) (AOcell (some (.ref sg))) (L + 1) = some (AOcell (some (.ref sg))) := hup_self
  generalize hup H (L + 1) (AOcell (some (.ref sg))) = H0 at k0 hc0 ⊢
  have T0 := T.keep0 k0
  refine s_cons (x_as E (x_f Bk E (a_cons (e_none (a_nil (c_lexer Bk (hA.less (by (first | lia | omega))) (fun v r => by cases r; rfl) fun sx sdx spb H1 k1 n1 n2 n3 hs1 I1 => ?_))))))
  have T1 := T0.keep0 k1
  refine s_cons (s_set (e_lambda (cd := 145) (P := 141) (clos := [("signs", L + 1)]) Bk (by kernel_rfl) rfl (by kernel_rfl) (by kernel_rfl) (by decide) (by kernel_rfl) T1 fun f c' pm ctv H2 k2 t2 tc hcn2 hf1 hf2 => x_l E rfl fun ow v r1 r2 => ?_))
  cases r1
  have n0 : ∀ {a}, H1 a ≠ none → a ≠ 141 → H2 a = H1 a := fun {a} h1 h2 => by
    cases e : H1 a with
    | none => exact absurd e h1
    | some o => exact k2 a o e (by simpa using h2)
  have ne141 : ∀ {a o}, H1 a = some o → (∀ o', o ≠ .raw o') → H2 a = some o := fun {a o} e ho => k2 a o e (by
    simp only [List.mem_singleton]
    intro q; subst q
    rcases T1 with e2 | ⟨_, e2, _⟩ <;> (rw [e2] at e; cases e; exact ho _ rfl))
  have hsx2 : H2 sx = some (.inst 52 sdx) := ne141 I1.1 (by simp)
  have hsd2 := ne141 I1.2 (by simp)
  have hsp2 : H2 spb = some (.list []) := ne141 hs1 (by simp)
  have hcl2 := ne141 (k1 _ _ hc0 (by simp)) (by simp)
  have hsg1 : H1 sg = some (.list (aStrs (chs inp.reverse))) := k1 _ _ (k0 _ _ hsg (by simp)) (by simp)
  have hsg2 := ne141 hsg1 (by simp)
  generalize hobj : AO.raw (kla_obj _ _ _ _ _ _ _ _ _) = ao
  have hao : ao = .raw (kla_obj "<lambda>" lamQ lamA lamB lamS [("signs", L + 1)] pm c' ctv) := hobj.symm
  clear hobj
  have k3 : Keep [] H2 (hup H2 f ao) := Keep.hup (.inl hf2)
  have hf3 : hup H2 f ao f = some ao := hup_self
  generalize hup H2 f ao = H3 at k3 hf3 ⊢
  have I3 : InstH H3 sx 52 sdx [("lineno", .int 1), ("instream", .none), ("whitespace", .str wht), ("pushback", .ref spb)] := ⟨k3 _ _ hsx2 (by simp), k3 _ _ hsd2 (by simp)⟩
  refine sa_own Bk (clsOk w.params) (by kernel_rfl) I3 (Nat.le_of_ble_eq_true rfl) r2 ?_
  have hput : putE "read" (.ref f) [("lineno", .int 1), ("instream", .none), ("whitespace", .str wht), ("pushback", .ref spb)] = ([("lineno", .int 1), ("instream", .none), ("whitespace", .str wht), ("pushback", .ref spb), ("read", .ref f)] : List (Str × AV)) := by rfl
  have hd4 : hup H3 sdx (.dict (putE "read" (.ref f) [("lineno", .int 1), ("instream", .none), ("whitespace", .str wht), ("pushback", .ref spb)])) sdx = some (.dict [("lineno", .int 1), ("instream", .none), ("whitespace", .str wht), ("pushback", .ref spb), ("read", .ref f)]) := by rw [hput]; exact hup_self
  have k4 : Keep [sdx] H3 (hup H3 sdx (.dict (putE "read" (.ref f) [("lineno", .int 1), ("instream", .none), ("whitespace", .str wht), ("pushback", .ref spb)]))) := Keep.hup (.inr (.head _))
  generalize hup H3 sdx (.dict (putE "read" (.ref f) [("lineno", .int 1), ("instream", .none), ("whitespace", .str wht), ("pushback", .ref spb)])) = H4 at hd4 k4 ⊢
  have to4 : ∀ {a o}, H2 a = some o → (∀ es, o ≠ .dict es) → H4 a = some o := fun {a o} e ho => k4 a o (k3 a o e (by simp)) (by
    simp only [List.mem_singleton]
    exact ne_of (k3 a o e (by simp)) I3.2 (ho _))
  refine s_cons (s_return (x_f Bk E (a_cons (x_l E rfl (a_nil (c_lexer Bk (hA.less (by (first | lia | omega))) (fun v r => by cases r; rfl) fun x dx pb H5 k5 m1 m2 m3 hp5 I5 => ?_))))))
  have t4 : H4 141 = some (tab1 lamPos c') := to4 t2 (by simp [tab1])
  have tc4 : H4 c' = some (.pat (codeP lamQ)) := to4 tc (by simp)
  have hsg4 : H4 sg = some (.list (aStrs (chs inp.reverse))) := to4 hsg2 (by simp)
  have hs4 : H4 sx = some (.inst 52 sdx) := to4 hsx2 (by simp)
  have hc4 : H4 (L + 1) = some (AOcell (some (.ref sg))) := to4 hcl2 (by simp)
  have hf4 : H4 f = some ao := k4 f ao hf3 (by
    simp only [List.mem_singleton]
    exact ne_of hf3 I3.2 (by rw [hao]; simp))
  have back : ∀ {a}, H4 a = none → H a = none := fun {a} e => by
    cases q : H a with
    | none => rfl
    | some o =>
      have q1 := k1 a o (k0 a o q (by simp)) (by simp)
      by_cases h141 : a = 141
      · subst h141; rw [t4] at e; cases e
      have q2 := k2 a o q1 (by simpa using h141)
      have q3 := k3 a o q2 (by simp)
      by_cases hsd : a = sdx
      · subst hsd; rw [hd4] at e; cases e
      · rw [k4 a o q3 (by simpa using hsd)] at e; cases e
  refine ⟨_, .inl rfl, fun a o e hn => ?_, .inr ⟨c', k5 _ _ t4 (by simp), k5 _ _ tc4 (by simp), hcn2⟩, ⟨x, dx, pb, sx, sdx, spb, f, c', L + 1, sg, pm, ctv⟩, rfl, rfl, back m2, back m3, ?_⟩
  · have q1 := k1 a o (k0 a o e (by simp)) (by simp)
    have q3 := k3 a o (k2 a o q1 hn) (by simp)
    refine k5 a o (k4 a o q3 ?_) (by simp)
    simp only [List.mem_singleton]
    intro q; subst q
    have := k0 a o e (by simp)
    rw [n2] at this; cases this
  · exact { inst := I5.1, sinst := k5 _ _ hs4 (by simp), sdict := k5 _ _ hd4 (by simp), lam := (k5 _ _ hf4 (by simp)).trans (congrArg some hao), code := k5 _ _ tc4 (by simp), cell := k5 _ _ hc4 (by simp), dict := I5.2, push := hp5, signs := k5 _ _ hsg4 (by simp), n1 := fun q => by
              have q' : pb = sg := q
              subst q'; rw [m3] at hsg4; cases hsg4
            n2 := fun q => by
              have q' : dx = sdx := q
              subst q'; rw [m2] at hd4; cases hd4
            okc := hok, len := hl, psl := by decide }
end Mine
end
section
open PySem PySem.W PySem.Calls PyProof.Rows
set_option Elab.async false
set_option maxRecDepth 100000
set_option maxHeartbeats 1000000
set_option linter.unusedVariables false
set_option linter.unusedSimpArgs false
namespace Mine
section
variable {c : Cx} {env : Env} {m : Lm} {H : Hp} {pos : Pos} {Q : AV → Lm → Hp → Prop} {QF : AF → Lm → Hp → Prop}
theorem e_neg {e : PySem.Expr} (h : WE c env e m H fun av m1 H1 => ∃ i, av = .int i ∧ Q (.int (-i)) m1 H1) : WE c env (.UnaryOp .USub e pos) m H Q := fun s S =>
  wpAny_UnaryOp (wmono (h s S) (fun v s1 av m1 H1 r S1 z ⟨i, e, q⟩ => by
    subst e; obtain ⟨t, rfl⟩ := r
    exact PyProof.Rows.neg_int ⟨.int (-i), m1, H1, ⟨_, rfl⟩, S1, ⟨z.1, z.2.1, z.2.2⟩, q⟩) fun _ _ x => x)
theorem fm_congr {α β : Type} {f g : α → Option β} : ∀ {l : List α}, (∀ x ∈ l, f x = g x) → l.filterMap f = l.filterMap g
  | [], _ => rfl
  | x :: l, h => by rw [List.filterMap_cons, List.filterMap_cons, h x (.head _), fm_congr fun y hy => h y (.tail _ hy)]
theorem range_pick {α : Type} (l : List α) : (List.range l.length).filterMap (fun k => l[k]?) = l := by
  induction l with
  | nil => rfl
  | cons x l ih =>
    rw [List.length_cons, List.range_succ_eq_map, List.filterMap_cons, List.filterMap_map]
    simp only [List.getElem?_cons_zero]
    congr 1
theorem lsl_rev {α : Type} (l : List α) : lsl l none none (some (-1)) = l.reverse := by
  have h1 : sliceRange (sliceBounds none none (some (-1)) l.length).1 (sliceBounds none none (some (-1)) l.length).2.1 (sliceBounds none none (some (-1)) l.length).2.2 = (List.range l.length).map fun k => l.length - 1 - k := by
    show sliceRange ((l.length : Int) - 1) (-1) (-1) = _
    unfold sliceRange
    have hc : (if ((l.length : Int) - 1) > -1 then ((l.length : Int) - 1 - -1 - -1 - 1) / (- -1) else 0).toNat = l.length := by
      rw [show (- -1 : Int) = 1 from rfl, Int.ediv_one]
      split <;> (first | lia | omega)
    rw [if_neg (by (first | lia | omega))]
    dsimp only
    rw [hc]
    exact List.map_congr_left fun k hk => by have := List.mem_range.mp hk; (first | lia | omega)
  unfold lsl
  rw [h1, List.filterMap_map]
  conv => rhs; rw [← range_pick l.reverse]
  rw [List.length_reverse]
  refine fm_congr fun k hk => ?_
  have := List.mem_range.mp hk
  show l[l.length - 1 - k]? = _
  rw [List.getElem?_reverse this]
theorem subTail {A : Around} {E : Value → Shared → Prop} {s : Shared} {value slice : PySem.Expr} {o i : Value} {T id : String} {ops : List Value} {Q : Value → Shared → Prop} {w : World} (hT : s.TypeIs o T)
    (hl : typeLookup (.type T) "__getitem__" = pure (some (.builtin id))) (h : wpAny (model pw w) A (getItem o i) Q E s) (hs : subscripted slice false o i = operate ops (getItem o i)) : wpAny (model pw w) A (subscriptTail value slice o i) Q E s := by
  unfold subscriptTail
  refine wpAny_bind ?_
  rw [getitemInPython_of_ne hT.not_modules]
  refine wpAny_bind (wpAny_specialOf hT hl ?_)
  have fin : wpAny (model pw w) A (subscripted slice false o i) (fun r s₃ => wpAny (model pw w) A (letTemporaryGo value o r >>= fun _ => pure r) Q E s₃) E s := by
    rw [hs]
    exact wpAny_operating (wpAny_mono h (fun r s₃ h₃ => wpAny_bind (wpAny_letTemporaryGo (wpAny_pure h₃))) fun _ _ x => x)
  first
    | exact wpAny_pure (wpAny_bind fin)
    | exact wpAny_bind (wpAny_pure (wpAny_bind fin))
    | exact wpAny_bind fin
theorem tailOn {A : Around} {E : Value → Shared → Prop} {s : Shared} {value slice : PySem.Expr} {o i : Value} {ops : List Value} {Q : Value → Shared → Prop} {w : World} (h : ItemOn (model pw w) A E o i Q s)
    (hs : subscripted slice false o i = operate ops (getItem o i)) : wpAny (model pw w) A (subscriptTail value slice o i) Q E s := by
  obtain ⟨T, id, hl, hT, h⟩ := h
  exact subTail hT hl h hs
noncomputable def opSub (value slice : PySem.Expr) : Prop := ∀ o i, ∃ ops, subscripted slice false o i = operate ops (getItem o i)
theorem x_slice_gen (LP : Hp → Addr → List AV → Prop) (hLP : ∀ {m H h a l}, LP H a l → ASt c m H h → ∃ vs, h.IsList a vs.toArray ∧ Reps l vs) {value : PySem.Expr} {lo hi st : Option PySem.Expr} {p : Pos} (hp : opSub value (.Slice lo hi st p))
    (h : WE c env value m H fun ov m1 H1 => ∃ a l, ov = .ref a ∧ l.length ≤ 100000 ∧ WPart c env lo m1 H1 fun l1 m2 H2 => WPart c env hi m2 H2 fun l2 m3 H3 => WPart c env st m3 H3 fun l3 m4 H4 => LP H4 a l ∧ l3 ≠ some 0 ∧ ∀ d, H4 d = none → Q (.ref d) m4 (hup H4 d (.list (lsl l l1 l2 l3)))) :
    WE c env (.Subscript value (.Slice lo hi st p) pos) m H Q := fun s S => by
  refine Subscript_ (wmono (h s S) (fun o s1 ov m1 H1 r S1 z1 ⟨a, l, e1, hz, q⟩ => ?_) fun _ _ x => x)
  subst e1; cases r
  refine wpAny_Slice (wmono (WPart.run q s1 S1) (fun v1 s2 p1 m2 H2 r1 S2 z2 q => wmono (WPart.run q s2 S2) (fun v2 s3 p2 m3 H3 r2 S3 z3 q => wmono (WPart.run q s3 S3) (fun v3 s4 p3 m4 H4 r3 S4 z4 ⟨ea, h0, q⟩ => ?_) fun _ _ x => x) fun _ _ x => x) fun _ _ x => x)
  obtain ⟨vs, hl, rr⟩ := hLP ea S4
  obtain ⟨ops, hs⟩ := hp (.ref a) (.ref s4.heap.objs.size)
  refine subTail (Heap.IsList.typeIs (s := { s4 with heap := s4.heap.push _ }) (hl.push _)) list_getitem_lookup (wpAny_getItem_list_slice (hl.push _) (Heap.IsSliceOf.new ..) r1 r2 r3 h0 ?_ ?_) hs
  · have S5 := S4.push { cls := .type "slice", data := .fields #[v1, v2, v3] }
    refine ⟨.ref _, m4, _, rfl, S5.newPush (ao := .list (lsl l p1 p2 p3)) ⟨(lsl vs p1 p2 p3), 0, ?_, ?_⟩ rfl, ((z1.trans z2).trans z3).trans z4, q _ S5.free⟩
    · unfold slicePick lsl; simp
    · unfold lsl; rw [rr.length]; exact rr.pick _
  · rw [sizeLine_eq]; have := rr.length; simp; (first | lia | omega)
theorem x_slice_list {value : PySem.Expr} {lo hi st : Option PySem.Expr} {p : Pos} (hp : opSub value (.Slice lo hi st p))
    (h : WE c env value m H fun ov m1 H1 => ∃ a l, ov = .ref a ∧ l.length ≤ 100000 ∧ WPart c env lo m1 H1 fun l1 m2 H2 => WPart c env hi m2 H2 fun l2 m3 H3 => WPart c env st m3 H3 fun l3 m4 H4 => H4 a = some (.list l) ∧ l3 ≠ some 0 ∧ ∀ d, H4 d = none → Q (.ref d) m4 (hup H4 d (.list (lsl l l1 l2 l3)))) :
    WE c env (.Subscript value (.Slice lo hi st p) pos) m H Q :=
  x_slice_gen (fun H a l => H a = some (.list l)) (fun e S => isList_at S e) hp h
theorem x_slice_str {value : PySem.Expr} {lo hi : Option PySem.Expr} {p : Pos} (hp : opSub value (.Slice lo hi none p))
    (h : WE c env value m H fun ov m1 H1 => ∃ l, ov = .str l ∧ l.length ≤ 1000000 ∧ WPart c env lo m1 H1 fun l1 m2 H2 => WPart c env hi m2 H2 fun l2 m3 H3 => Q (.str (sl l l1 l2)) m3 H3) :
    WE c env (.Subscript value (.Slice lo hi none p) pos) m H Q := fun s S => by
  refine Subscript_ (wmono (h s S) (fun o s1 ov m1 H1 r S1 z1 ⟨l, e1, hz, q⟩ => ?_) fun _ _ x => x)
  subst e1; obtain ⟨t, rfl⟩ := r
  refine wpAny_Slice (wmono (WPart.run q s1 S1) (fun v1 s2 p1 m2 H2 r1 S2 z2 q => wmono (WPart.run q s2 S2) (fun v2 s3 p2 m3 H3 r2 S3 z3 q => ?_) fun _ _ x => x) fun _ _ x => x)
  refine wpAny_evalPart_none ?_
  obtain ⟨ops, hs⟩ := hp (.str ⟨l.toArray⟩ t) (.ref s3.heap.objs.size)
  have hsz : (⟨l.toArray⟩ : Str).length ≤ sizeLine := by rw [sizeLine_eq]; show l.toArray.size ≤ _; simp; (first | lia | omega)
  cases r1 with
  | none => cases r2 with
    | none => exact tailOn (SBH.sliceItem_nn ASt.kept S3 (fun h' t' k S' => ⟨.str (sl l none none), m3, H3, ⟨t', rfl⟩, S', (z1.trans z2).trans z3, q⟩) hsz) hs
    | int j u => exact tailOn (SBH.sliceItem_ns ASt.kept S3 (fun h' t' k S' => ⟨.str (sl l none (some j)), m3, H3, ⟨t', rfl⟩, S', (z1.trans z2).trans z3, q⟩) hsz) hs
  | int i u => cases r2 with
    | none => exact tailOn (SBH.sliceItem_sn ASt.kept S3 (fun h' t' k S' => ⟨.str (sl l (some i) none), m3, H3, ⟨t', rfl⟩, S', (z1.trans z2).trans z3, q⟩) hsz) hs
    | int j u => exact tailOn (SBH.sliceItem_ss ASt.kept S3 (fun h' t' k S' => ⟨.str (sl l (some i) (some j)), m3, H3, ⟨t', rfl⟩, S', (z1.trans z2).trans z3, q⟩) hsz) hs
theorem e_item {value index : PySem.Expr} (hp : opSub value index) (h : WE c env value m H fun ov m1 H1 => ∃ a : Addr, ov = .ref a ∧ WE c env index m1 H1 fun iv m2 H2 => ∃ (i : Nat) (l : List AV) (x : AV), iv = .int i ∧ i ≤ 1000000 ∧ H2 a = some (.list l) ∧ l[i]? = some x ∧ Q x m2 H2) :
    WE c env (.Subscript value index pos) m H Q := fun s S => by
  refine Subscript_ (wmono (h s S) (fun o s1 ov m1 H1 r S1 z1 ⟨a, e1, q⟩ => ?_) fun _ _ x => x)
  subst e1; cases r
  refine wmono (q s1 S1) (fun iv s2 i m2 H2 r2 S2 z2 ⟨k, l, x, e2, hk, ea, hx, q⟩ => ?_) fun _ _ x => x
  subst e2; obtain ⟨t, rfl⟩ := r2
  obtain ⟨vs, hl, rr⟩ := isList_at S2 ea
  obtain ⟨v, hv, rv⟩ := rr.nth hx
  obtain ⟨ops, hs⟩ := hp (.ref a) (.int k t)
  exact subTail hl.typeIs list_getitem_lookup (wpAny_getItem_list hl (by (first | lia | omega)) (by (first | lia | omega)) (by simpa using hv) ⟨x, m2, H2, rv, S2, z1.trans z2, q⟩) hs
end
inductive PP (H : Hp) : List Addr → List (Nat × List Nat) → Prop
  | nil : PP H [] []
  | cons {r rs p ps} : H r = some (.list [.str [p.1], .str p.2]) → PP H rs ps → PP H (r :: rs) (p :: ps)
noncomputable def PairsAt (H : Hp) (a : Addr) (l : List (Nat × List Nat)) : Prop := ∃ rs, H a = some (.list (rs.map .ref)) ∧ PP H rs l
theorem PP.keep {H H1 : Hp} (k : Keep [] H H1) {rs l} (h : PP H rs l) : PP H1 rs l := by
  induction h with
  | nil => exact .nil
  | cons e _ ih => exact .cons (k _ _ e (by simp)) ih
theorem PairsAt.keep {H H1 : Hp} (k : Keep [] H H1) {a l} (h : PairsAt H a l) : PairsAt H1 a l := by
  obtain ⟨rs, e, p⟩ := h
  exact ⟨rs, k _ _ e (by simp), p.keep k⟩
theorem PP.get {H : Hp} {rs l} (h : PP H rs l) : ∀ {i : Nat} {r : Addr}, rs[i]? = some r → ∃ p, l[i]? = some p ∧ H r = some (.list [.str [p.1], .str p.2]) := by
  induction h with
  | nil => intro i r e; simp at e
  | @cons r0 rs p ps e0 _ ih =>
    intro i r e
    cases i with
    | zero => simp at e; subst e; exact ⟨p, rfl, e0⟩
    | succ i => simpa using ih (i := i) (by simpa using e)
theorem PP.length {H : Hp} {rs l} (h : PP H rs l) : rs.length = l.length := by
  induction h with
  | nil => rfl
  | cons _ _ ih => simp [ih]
noncomputable def whs : List (List Nat) := [[10], [9], [13], [32]]
noncomputable def grd (b : Bool) (p : Nat × List Nat) : Bool := decide ([p.1] ∈ [[34], [92]]) || (b && decide (p.2.take 1 ∈ whs))
noncomputable def part (k : Nat) (p : Nat × List Nat) : List Nat := if k = 0 then [p.1] else p.2
noncomputable def wr1 (k : Nat) (b : Bool) (p : Nat × List Nat) : List Nat := (if grd b p then [92] else []) ++ part k p
noncomputable def wr (l : List (Nat × List Nat)) (k : Nat) (b : Bool) : List Nat := l.flatMap (wr1 k b)
theorem fc153 {w : World} {hB : Heap} (Bk : BOk w hB) {l : List Nat} (hok : ∀ n ∈ l, n < 1114112) (hl : l.length ≤ 90000) : FC w hB (13 + 1) 153 [.str l] (fun H => TabL H) [141] fun av H H' => av = .str (getTok l).1 ∧ TabL H' := by
  refine FC.enter Bk (ok153 w) rfl fun A L fs H hA T => ?_
  have E : EnvOk (callEnv fd153 L 153) L := ⟨by kernel_rfl, rfl, rfl, rfl⟩
  refine s_cons (s_return (e_method _ (x_f (f := 146) Bk E (a_cons (x_slice_list (fun o i => ⟨_, by with_unfolding_all rfl⟩) (x_t Bk E (a_cons (x_l E rfl (a_nil (c_list_str hA.1 (by (first | lia | omega)) fun a ha => ⟨a, _, rfl, by simp [aStrs]; (first | lia | omega), e_neg (e_int ⟨1, rfl, -1, rfl, hup_self, by decide, fun d hd => a_nil ?_⟩)⟩)))))))) rfl))
  have k1 : Keep [] H (hup H a (.list (aStrs (l.map fun x => [x])))) := Keep.hup (.inl ha)
  have k2 : Keep [] H (hup (hup H a (.list (aStrs (l.map fun x => [x])))) d (.list (lsl (aStrs (l.map fun x => [x])) none none (some (-1))))) := k1.trans (Keep.hup (.inl hd))
  have hd0 : H d = none := by
    have : d ≠ a := fun q => by subst q; rw [hup_self] at hd; cases hd
    rwa [hup_ne this] at hd
  have hsg : hup (hup H a (.list (aStrs (l.map fun x => [x])))) d (.list (lsl (aStrs (l.map fun x => [x])) none none (some (-1)))) d = some (.list (aStrs (chs l.reverse))) := by
    rw [hup_self, lsl_rev]; simp [aStrs, chs]
  generalize hup (hup H a (.list (aStrs (l.map fun x => [x])))) d (.list (lsl (aStrs (l.map fun x => [x])) none none (some (-1)))) = H2 at k2 hsg ⊢
  refine c_def (fc146 Bk hok hl) rfl rfl (hA.less (by (first | lia | omega))) ⟨hsg, T.keep0 k2⟩ fun av H3 k3 ⟨T3, K, e, esg, nd, np, Lx⟩ => ?_
  subst e
  refine gm_inst (es := lexD K 1) Bk (clsOk w.params) (by kernel_rfl) (by kernel_rfl) ⟨Lx.inst, Lx.dict⟩ rfl (cw_top Bk (by kernel_rfl) (by unfold noStar; kernel_rfl) (a_nil (c_def (fc42 Bk (K := K)) rfl rfl hA Lx fun av H4 k4 ⟨e, L4⟩ => ?_)))
  subst e
  refine ⟨_, .inl rfl, fun b o e hn => ?_, rfl, T3.keep k4 fun b hb o e => ?_⟩
  · have e2 := k2 b o e (by simp)
    have e3 := k3 b o e2 hn
    refine k4 b o e3 ?_
    simp only [List.mem_cons, List.not_mem_nil, or_false, not_or]
    refine ⟨(fun q => ?_), (fun q => ?_), (fun q => ?_)⟩
    · rw [q, nd] at e2; cases e2
    · rw [q, esg, hd0] at e; cases e
    · rw [q, np] at e2; cases e2
  · simp only [List.mem_cons, List.not_mem_nil, or_false] at hb
    rcases hb with rfl | rfl | rfl
    · rw [Lx.dict] at e; cases e; simp
    · rw [Lx.signs] at e; cases e; simp
    · rw [Lx.push] at e; cases e; simp
end Mine
end
section
open PySem PySem.W PySem.Calls PyProof.Rows
set_option Elab.async false
set_option maxRecDepth 100000
set_option maxHeartbeats 1000000
set_option linter.unusedVariables false
set_option linter.unusedSimpArgs false
namespace Mine
noncomputable def strip1 (l : List Nat) : Nat := if 0 ≤ fnd l [10] then (fnd l [10]).toNat else l.length
noncomputable def strip2 (l : List Nat) : Nat := if 0 ≤ fnd4 l [58] (strip1 l) then (fnd4 l [58] (strip1 l)).toNat else strip1 l
noncomputable def strip3 (l : List Nat) : Int := if 0 ≤ rfnd4 l [46] (strip2 l) then rfnd4 l [46] (strip2 l) + 1 else 0
noncomputable def stripO (l : List Nat) : List Nat := sl l (some (strip3 l)) (some (strip2 l))
theorem fc63 {w : World} {hB : Heap} (Bk : BOk w hB) {l : List Nat} (hz : l.length ≤ 100000) : FC w hB (2 + 1) 63 [.str l] (fun _ => True) [] fun av _ _ => av = .str (stripO l) := by
  refine FC.enter Bk (ok63 w) rfl fun A L fs H hA _ => ?_
  have E : EnvOk (callEnv fd63 L 63) L := ⟨by kernel_rfl, rfl, rfl, rfl⟩
  refine s_cons (s_swap (names := ["start", "end"]) E hA.1 (by simp only [List.mem_cons, List.not_mem_nil, or_false]; rintro n (rfl | rfl) <;> kernel_rfl) (by kernel_rfl) (by decide) ?_) 
  refine a_cons (e_int ?_)
  refine a_cons (x_b Bk E (a_cons (x_l E rfl (a_nil (c_len_str (by (first | lia | omega)) (a_nil ⟨rfl, ?_⟩))))))
  refine s_cons (x_as E (x_ms _ F.slot_str_find F.type_str_find (x_l E rfl ⟨l, rfl, a_cons (e_str (l := [10]) (by kernel_rfl) (a_nil (c_find ?_)))⟩) rfl))
  refine s_cons (W.imp (Q := fun f m1 H1 => f = .next ∧ H1 = H ∧ Has m1 "msg" (.str l) ∧ Has m1 "start" (.int 0) ∧ Has m1 "end" (.int (strip1 l))) (s_if (t_cmp (x_l E rfl (e_int (o_ge_int ⟨_, rfl, ?_⟩))))) ?_)
  · by_cases h : 0 ≤ fnd l [10]
    · rw [if_pos (by simpa using h)]
      refine s_cons (x_as E (x_l E rfl (s_nil ⟨rfl, rfl, rfl, rfl, ?_⟩)))
      show some (AV.int (fnd l [10])) = _
      unfold strip1; rw [if_pos h, Int.toNat_of_nonneg h]
    · rw [if_neg (by simpa using h)]
      refine s_nil ⟨rfl, rfl, rfl, rfl, ?_⟩
      unfold strip1; rw [if_neg h]; rfl
  rintro f m1 H1 ⟨rfl, rfl, h1, h2, h3⟩
  refine s_cons (x_as E (x_ms _ F.slot_str_find F.type_str_find (x_l E h1 ⟨l, rfl, a_cons (e_str (l := [58]) (by kernel_rfl) (a_cons (e_int (a_cons (x_l E h3 (a_nil (c_find4 ?_)))))))⟩) rfl))
  refine s_cons (W.imp (Q := fun f m1 H1' => f = .next ∧ H1' = H1 ∧ Has m1 "msg" (.str l) ∧ Has m1 "start" (.int 0) ∧ Has m1 "end" (.int (strip2 l))) (s_if (t_cmp (x_l E rfl (e_int (o_ge_int ⟨_, rfl, ?_⟩))))) ?_)
  · by_cases h : 0 ≤ fnd4 l [58] (strip1 l)
    · rw [if_pos (by simpa using h)]
      refine s_cons (x_as E (x_l E rfl (s_nil ⟨rfl, rfl, h1, h2, ?_⟩)))
      show some (AV.int (fnd4 l [58] (strip1 l))) = _
      unfold strip2; rw [if_pos h, Int.toNat_of_nonneg h]
    · rw [if_neg (by simpa using h)]
      refine s_nil ⟨rfl, rfl, h1, h2, ?_⟩
      unfold strip2; rw [if_neg h]; exact h3
  clear h1 h2 h3
  rintro f m2 H2 ⟨rfl, rfl, h1, h2, h3⟩
  refine s_cons (x_as E (x_ms _ F.slot_str_rfind F.type_str_rfind (x_l E h1 ⟨l, rfl, a_cons (e_str (l := [46]) (by kernel_rfl) (a_cons (e_int (a_cons (x_l E h3 (a_nil (c_rfind4 ?_)))))))⟩) rfl))
  refine s_cons (W.imp (Q := fun f m1 H1' => f = .next ∧ H1' = H2 ∧ Has m1 "msg" (.str l) ∧ Has m1 "start" (.int (strip3 l)) ∧ Has m1 "end" (.int (strip2 l))) (s_if (t_cmp (x_l E rfl (e_int (o_ge_int ⟨_, rfl, ?_⟩))))) ?_)
  · by_cases h : 0 ≤ rfnd4 l [46] (strip2 l)
    · rw [if_pos (by simpa using h)]
      refine s_cons (x_as E (e_binop (x_l E rfl (e_int (o_add_int (s_nil ⟨rfl, rfl, h1, ?_, h3⟩))))))
      show some (AV.int (rfnd4 l [46] (strip2 l) + 1)) = _
      unfold strip3; rw [if_pos h]
    · rw [if_neg (by simpa using h)]
      refine s_nil ⟨rfl, rfl, h1, ?_, h3⟩
      unfold strip3; rw [if_neg h]; exact h2
  clear h1 h2 h3
  rintro f m3 H3 ⟨rfl, rfl, h1, h2, h3⟩
  refine s_cons (s_return (x_slice_str (fun o i => ⟨_, by with_unfolding_all rfl⟩) (x_l E h1 ⟨l, rfl, by (first | lia | omega), x_l E h2 ⟨_, rfl, x_l E h3 ⟨_, rfl, _, .inl rfl, .refl, rfl⟩⟩⟩)))
end Mine
end
section
open PySem PySem.W PySem.Calls PyProof.Rows
set_option Elab.async false
set_option maxRecDepth 100000
set_option maxHeartbeats 1000000
set_option linter.unusedVariables false
set_option linter.unusedSimpArgs false
namespace Mine
noncomputable def Small (l : List (Nat × List Nat)) : Prop := l.length ≤ 12 ∧ ∀ p ∈ l, p.2.length ≤ 10
theorem wr1_len {k : Nat} {b : Bool} {p : Nat × List Nat} (h : p.2.length ≤ 10) : (wr1 k b p).length ≤ 11 := by
  unfold wr1 part
  rw [List.length_append]
  have : (if grd b p then [92] else ([] : List Nat)).length ≤ 1 := by split <;> simp
  have : (if k = 0 then [p.1] else p.2).length ≤ 10 := by
    split
    · simp
    · exact h
  (first | lia | omega)
theorem wr_len {k : Nat} {b : Bool} : ∀ {l : List (Nat × List Nat)}, (∀ p ∈ l, p.2.length ≤ 10) → (wr l k b).length ≤ 11 * l.length
  | [], _ => by simp [wr]
  | p :: l, h => by
    have h1 := wr_len (k := k) (b := b) (l := l) fun q hq => h q (.tail _ hq)
    have h2 := wr1_len (k := k) (b := b) (h p (.head _))
    unfold wr at h1 ⊢
    rw [List.flatMap_cons, List.length_append, List.length_cons]; (first | lia | omega)
theorem wr_take {k : Nat} {b : Bool} {l : List (Nat × List Nat)} {i : Nat} {p : Nat × List Nat} (h : l[i]? = some p) : wr (l.take (i + 1)) k b = wr (l.take i) k b ++ wr1 k b p := by
  unfold wr
  rw [List.take_add_one, h, List.flatMap_append]
  simp
theorem pick_run {α : Type} (l : List α) (a : Nat) : ∀ k, ((List.range k).map fun j => a + j).filterMap (fun i => l[i]?) = (l.drop a).take k
  | 0 => by simp
  | k + 1 => by
    rw [List.range_succ, List.map_append, List.filterMap_append, pick_run l a k, List.take_add_one]
    congr 1
    rw [List.map_cons, List.map_nil, List.getElem?_drop, List.filterMap_cons]
    cases h : l[a + k]? <;> simp
theorem range1 {a b : Nat} (h : a ≤ b) : sliceRange (a : Int) (b : Int) 1 = (List.range (b - a)).map fun j => a + j := by
  unfold sliceRange
  have hc : (if (1 : Int) > 0 then (if (a : Int) < b then ((b : Int) - a + 1 - 1) / 1 else 0) else (if (a : Int) > b then ((a : Int) - b - 1 - 1) / (-1) else 0)).toNat = b - a := by
    rw [if_pos (by decide), Int.ediv_one]
    split <;> (first | lia | omega)
  dsimp only
  rw [hc]
  exact List.map_congr_left fun k _ => by (first | lia | omega)
theorem sl_run {l : List Nat} {lo hi : Option Int} {a b : Nat} (h : Builtin.Str.strSliceIndices lo hi 1 l.length = sliceRange (a : Int) (b : Int) 1) (hab : a ≤ b) (hb : b ≤ l.length) : sl l lo hi = (l.drop a).take (b - a) := by
  unfold sl Txt.slice
  have hl : (⟨l.toArray⟩ : Str).length = l.length := by show l.toArray.size = _; simp
  rw [hl, h, range1 hab]
  split
  · rename_i q
    have q' : b - a = l.length := by simpa using q
    have ha : a = 0 := by (first | lia | omega)
    subst ha
    have hbl : b = l.length := by (first | lia | omega)
    subst hbl
    simp
  · show (((List.range (b - a)).map fun j => a + j).filterMap (fun i => l.toArray[i]?)).toArray.toList = _
    rw [← pick_run l a (b - a)]
    simp
theorem sl_first (l : List Nat) : sl l none (some 1) = l.take 1 := by
  rw [sl_run (a := 0) (b := min 1 l.length) ?_ (Nat.zero_le _) (Nat.min_le_right _ _)]
  · rw [List.drop_zero, Nat.sub_zero]
    cases l <;> simp
  · show sliceRange 0 (max 0 (min 1 (l.length : Int))) 1 = _
    congr 1
    (first | lia | omega)
section
variable {c : Cx} {env : Env} {m : Lm} {H : Hp} {pos : Pos} {Q : AV → Lm → Hp → Prop}
theorem e_or2 {x y : PySem.Expr} (h : WE c env x m H fun av m1 H1 => ∃ p, av = .bool p ∧ if p then Q (.bool true) m1 H1 else WE c env y m1 H1 Q) : WE c env (.BoolOp .Or [x, y] pos) m H Q := fun s S => by
  show wpAny _ _ (eval (.BoolOp .Or [x, y] pos) env) _ _ _
  rw [arm_eval_BoolOp]
  refine wpAny_bind (wmono (h s S) (fun v s1 av m1 H1 r S1 z ⟨p, e, q⟩ => ?_) fun _ _ x => x)
  subst e; cases r
  refine wpAny_bind (wpAny_standAt (wpAny_bind (wpAny_holding (wpAny_truthy_bool ?_))))
  cases p with
  | true => exact wpAny_pure ⟨.bool true, m1, H1, rfl, S1, z, by simpa using q⟩
  | false =>
    rw [if_neg (by decide)] at q
    exact q.from S1 z
theorem e_and2 {x y : PySem.Expr} (h : WE c env x m H fun av m1 H1 => ∃ p, av = .bool p ∧ if p then WE c env y m1 H1 Q else Q (.bool false) m1 H1) : WE c env (.BoolOp .And [x, y] pos) m H Q := fun s S => by
  show wpAny _ _ (eval (.BoolOp .And [x, y] pos) env) _ _ _
  rw [arm_eval_BoolOp]
  refine wpAny_bind (wmono (h s S) (fun v s1 av m1 H1 r S1 z ⟨p, e, q⟩ => ?_) fun _ _ x => x)
  subst e; cases r
  refine wpAny_bind (wpAny_standAt (wpAny_bind (wpAny_holding (wpAny_truthy_bool ?_))))
  cases p with
  | false => exact wpAny_pure ⟨.bool false, m1, H1, rfl, S1, z, by simpa using q⟩
  | true =>
    rw [if_pos rfl] at q
    exact q.from S1 z
end
structure FI (m : Lm) (a : Addr) (k : Nat) (b : Bool) (t : List Nat) : Prop where
  h1 : Has m "items" (.ref a)
  h2 : Has m "part" (.int k)
  h3 : Has m "bare" (.bool b)
  h4 : Has m "text" (.str t)
structure FJ (H2 : Hp) (a : Addr) (k : Nat) (b : Bool) (t : List Nat) (r : Addr) (g : Bool) (f : AF) (m : Lm) (H4 : Hp) : Prop where
  hf : f = .next
  hk : Keep [] H2 H4
  h1 : Has m "items" (.ref a)
  h2 : Has m "part" (.int k)
  h3 : Has m "bare" (.bool b)
  h4 : Has m "text" (.str t)
  h5 : Has m "pair" (.ref r)
  h6 : Has m "guard" (.bool g)
theorem fc160 {w : World} {hB : Heap} (Bk : BOk w hB) {a : Addr} {l : List (Nat × List Nat)} {k : Nat} {b : Bool} (hk : k ≤ 1) (hs : Small l) : FC w hB (2 + 1) 160 [.ref a, .int k, .bool b] (fun H => PairsAt H a l) [] fun av H H' => av = .str (wr l k b) := by
  refine FC.enter Bk (ok160 w) rfl fun A L fs H hA P => ?_
  have E : EnvOk (callEnv fd160 L 160) L := ⟨by kernel_rfl, rfl, rfl, rfl⟩
  obtain ⟨rs, hrs, PPs⟩ := P
  have hlen : (rs.map AV.ref).length = l.length := by rw [List.length_map]; exact PPs.length
  refine s_cons (x_as E (e_str (l := []) (by kernel_rfl) ?_))
  refine s_cons (s_for (fun it n m1 H1 => ∃ i, i ≤ l.length ∧ n = l.length - i ∧ H it = none ∧ H1 it = some (.pat (liP a i)) ∧ Keep [] H H1 ∧ FI m1 a k b (wr (l.take i) k b)) ?_ ?_)
  · refine x_l E rfl (it_list hrs fun it hit => ⟨it, _, rfl, 0, Nat.zero_le _, rfl, hit, hup_self, Keep.hup (.inl hit), rfl, rfl, rfl, ?_⟩)
    rfl
  rintro it n m1 H1 ⟨i, hi, rfl, hit, ei, kp, h1, h2, h3, h4⟩
  refine nx_list hA.1 ei (kp _ _ hrs (by simp)) (fun x hx => ?_) (fun hle => ?_)
  · rw [List.getElem?_map] at hx
    cases hr : rs[i]? with
    | none => rw [hr] at hx; cases hx
    | some r =>
    rw [hr] at hx; cases hx
    obtain ⟨p, hp, hpH⟩ := PPs.get hr
    have hilt : i < l.length := by
      rcases Nat.lt_or_ge i l.length with h | h
      · exact h
      · rw [List.getElem?_eq_none h] at hp; cases hp
    have hpm : p ∈ l := List.mem_of_getElem? hp
    have kp2 : Keep [] H (hup H1 it (.pat (liP a (i + 1)))) := keep_hup2 kp hit
    have hit2 : hup H1 it (.pat (liP a (i + 1))) it = some (.pat (liP a (i + 1))) := hup_self
    generalize hup H1 it (.pat (liP a (i + 1))) = H2 at kp2 hit2 ⊢
    refine asg_local E.kind (by kernel_rfl) E.loc ?_
    have hb0 : H2 r = some (.list [.str [p.1], .str p.2]) := kp2 _ _ hpH (by simp)
    have hwl := wr_len (k := k) (b := b) (l := l.take i) fun q hq => hs.2 q (List.mem_of_mem_take hq)
    have hw1 := wr1_len (k := k) (b := b) (hs.2 p hpm)
    have hl12 := hs.1
    have hp10 : p.2.length ≤ 1000000 := by have := hs.2 p hpm; (first | lia | omega)
    have htl : (l.take i).length ≤ l.length := by rw [List.length_take]; (first | lia | omega)
    refine s_cons (W.imp (Q := FJ H2 a k b (wr (l.take i) k b) r (grd b p)) (x_as E (e_or2 (e_cmp (e_item (fun o i => ⟨_, by with_unfolding_all rfl⟩) (x_l E rfl ⟨r, rfl, e_int ⟨0, _, .str [p.1], rfl, by decide, hb0, rfl, e_list (a_cons (e_str (l := [34]) (by kernel_rfl) (a_cons (e_str (l := [92]) (by kernel_rfl) (a_nil ⟨by show 2 ≤ 1000; decide, fun q hq => o_in_strs (l := [[34], [92]]) hup_self ⟨_, rfl, ?_⟩⟩)))))⟩⟩))))) ?_)
    · have kq : Keep [] H2 (hup H2 q (.list [.str [34], .str [92]])) := Keep.hup (.inl hq)
      cases hg : decide ([p.1] ∈ [[34], [92]]) with
      | true =>
        rw [if_pos rfl]
        exact ⟨rfl, kq, h1, h2, h3, h4, rfl, by show some _ = some _; unfold grd; rw [hg]; rfl⟩
      | false =>
        rw [if_neg (by decide)]
        refine e_and2 (x_l E h3 ⟨b, rfl, ?_⟩)
        cases b with
        | false =>
          rw [if_neg (by decide)]
          exact ⟨rfl, kq, h1, h2, h3, h4, rfl, by show some _ = some _; unfold grd; rw [hg]; rfl⟩
        | true =>
          rw [if_pos rfl]
          refine e_cmp (x_slice_str (fun o i => ⟨_, by with_unfolding_all rfl⟩) (e_item (fun o i => ⟨_, by with_unfolding_all rfl⟩) (x_l E rfl ⟨r, rfl, e_int ⟨1, _, .str p.2, rfl, by decide, kq _ _ hb0 (by simp), rfl, p.2, rfl, hp10, e_int ⟨1, rfl, ?_⟩⟩⟩)))
          refine e_list (a_cons (e_str (l := [10]) (by kernel_rfl) (a_cons (e_str (l := [9]) (by kernel_rfl) (a_cons (e_str (l := [13]) (by kernel_rfl) (a_cons (e_str (l := [32]) (by kernel_rfl) (a_nil ⟨by show 4 ≤ 1000; decide, fun q2 hq2 => o_in_strs (l := whs) hup_self ?_⟩)))))))))
          exact ⟨rfl, kq.trans (Keep.hup (.inl hq2)), h1, h2, h3, h4, rfl, by show some _ = some _; unfold grd; rw [hg, sl_first]; rfl⟩
    rintro f m4 H4 ⟨rfl, k4, g1, g2, g3, g4, g5, g6⟩
    refine s_cons (x_as E (e_binop (e_binop (x_l E g4 (e_ifexp (t_bool E.kind (by kernel_rfl) E.loc g6 ?_))))))
    have hk2 : ([.str [p.1], .str p.2] : List AV)[k]? = some (.str (part k p)) := by
      match k, hk with
      | 0, _ => rfl
      | 1, _ => rfl
    have hr4 := k4 _ _ hb0 (by simp)
    have hi4 := k4 _ _ hit2 (by simp)
    have hpl : (part k p).length ≤ 11 := by
      have : (wr1 k b p).length = (if grd b p then [92] else ([] : List Nat)).length + (part k p).length := by unfold wr1; rw [List.length_append]
      (first | lia | omega)
    cases hg : grd b p with
    | true =>
      rw [if_pos rfl]
      refine e_str (l := [92]) (by kernel_rfl) (o_add_str (by simp; (first | lia | omega)) (e_item (fun o i => ⟨_, by with_unfolding_all rfl⟩) (x_l E g5 ⟨r, rfl, x_l E g2 ⟨k, _, .str (part k p), rfl, by (first | lia | omega), hr4, hk2, o_add_str (by simp; (first | lia | omega)) (s_nil ⟨_, ?_, i + 1, hilt, rfl, hit, hi4, kp2.trans k4, g1, g2, g3, ?_⟩)⟩⟩)))
      · (first | lia | omega)
      · show some (AV.str _) = some (AV.str _)
        rw [wr_take hp]; unfold wr1; rw [hg]; simp
    | false =>
      rw [if_neg (by decide)]
      refine e_str (l := []) (by kernel_rfl) (o_add_str (by simp; (first | lia | omega)) (e_item (fun o i => ⟨_, by with_unfolding_all rfl⟩) (x_l E g5 ⟨r, rfl, x_l E g2 ⟨k, _, .str (part k p), rfl, by (first | lia | omega), hr4, hk2, o_add_str (by simp; (first | lia | omega)) (s_nil ⟨_, ?_, i + 1, hilt, rfl, hit, hi4, kp2.trans k4, g1, g2, g3, ?_⟩)⟩⟩)))
      · (first | lia | omega)
      · show some (AV.str _) = some (AV.str _)
        rw [wr_take hp]; unfold wr1; rw [hg]; simp
  · have : i = l.length := by
      rw [hlen] at hle; (first | lia | omega)
    subst this
    rw [List.take_length] at h4
    refine s_cons (s_return (x_l E h4 ⟨_, .inl rfl, fun b o e _ => ?_, rfl⟩))
    have : b ≠ it := fun q => by subst q; rw [hit] at e; cases e
    show (if b = it then none else H1 b) = some o
    rw [if_neg this]; exact kp b o e (by simp)
end Mine
end
section
open PySem PySem.W PySem.Calls PyProof.Rows
set_option Elab.async false
set_option maxRecDepth 100000
set_option maxHeartbeats 1000000
set_option linter.unusedVariables false
set_option linter.unusedSimpArgs false
namespace Mine
noncomputable def prepL (l : List Nat) : List (List Nat) := (l.filter fun x => !inB1 x).map mapB3
noncomputable def prep (l : List Nat) : List Nat := (prepL l).flatten
theorem prepL_take {l : List Nat} {i x : Nat} (h : l[i]? = some x) : prepL (l.take (i + 1)) = prepL (l.take i) ++ (if inB1 x then [] else [mapB3 x]) := by
  unfold prepL
  rw [List.take_add_one, h, List.filter_append, List.map_append]
  congr 1
  show (List.filter (fun x => !inB1 x) [x]).map mapB3 = _
  rw [List.filter_cons]
  cases inB1 x <;> rfl
theorem truth_bool {c : Cx} {m : Lm} {H : Hp} {b : Bool} {v : Value} {QB : Bool → Lm → Hp → Prop} (r : rep (.bool b) v) (h : QB b m H) : W c (fun b a => b = a) (truthy v) m H QB := fun s S => by
  cases r; exact wpAny_truthy_bool ⟨b, m, H, rfl, S, .rfl', h⟩
theorem keep_drop {mu : List Addr} {H H1 : Hp} {a : Addr} (k : Keep mu H H1) (h : H a = none) : Keep mu H (hdrop H1 a) := fun b o e n => by
  have : b ≠ a := fun q => by subst q; rw [h] at e; cases e
  show (if b = a then none else H1 b) = some o
  rw [if_neg this]; exact k b o e n
theorem drop_ne {H1 : Hp} {a b : Addr} (h : b ≠ a) : hdrop H1 a b = H1 b := if_neg h
section
variable {c : Cx} {env : Env} {m : Lm} {H : Hp} {pos : Pos} {Q : AV → Lm → Hp → Prop}
theorem x_comp {elt target iter : PySem.Expr} {ifs : List PySem.Expr} {scope : Scope} (cl : List (Str × Addr)) (I : Addr → Addr → Nat → List AV → Hp → Prop) (E : Addr → Hp → Prop)
    (h : WE c env iter m H fun av m1 H1 => WIter c av m1 H1 fun iv m2 H2 => ∃ it n, iv = .ref it ∧ (∀ acc, H2 acc = none → I it acc n [] (hup H2 acc (.list []))) ∧ ∀ acc H', E acc H' → Q (.ref acc) m2 H')
    (self : ∀ C fs it acc n H3, I it acc n [] H3 → WIter (c.inC C fs) (.ref it) [] H3 fun iv m4 H4 => iv = .ref it ∧ I it acc n [] H4)
    (turn : ∀ C fs it acc n ys H3, I it acc n ys H3 → WNext (c.inC C fs) it [] H3 fun r m4 H4 => match r with
      | none => E acc H4
      | some a => WAsg (c.inC C fs) (compEnvC scope cl C env) target a [] H4 fun _ m5 H5 => W (c.inC C fs) (fun b a => b = a) (ifsT ifs (compEnvC scope cl C env)) m5 H5 fun ok m6 H6 =>
        if ok then WE (c.inC C fs) (compEnvC scope cl C env) elt m6 H6 fun b m7 H7 => H7 acc = some (.list ys) ∧ ys.length ≤ 1000 ∧ ∃ k, k < n ∧ I it acc k (ys ++ [b]) (hup H7 acc (.list (ys ++ [b])))
        else ∃ k, k < n ∧ I it acc k ys H6)
    (hclos : closureFor scope env = pure cl := by kernel_rfl) (hc : (scope.names.all fun y => y.2 != .cell) = true := by kernel_rfl) (hkind : scope.kind = .function := by kernel_rfl)
    (hn : (scope.names.all fun y => y.2 != .local || scope.names.lookup y.1 == some .local) = true := by kernel_rfl)
    (hs : ∀ x, foldedSetIterable iter env x = pure x := by intro _; with_unfolding_all rfl) (ht : ∀ it v, letOwnedTupleGo target it v = pure () := by intro _ _; with_unfolding_all rfl) :
    WE c env (.ListComp elt [⟨target, iter, ifs, 0⟩] scope pos) m H Q :=
  e_comp I E hclos (fun y hy => by simpa using List.all_eq_true.mp hc y hy) hkind (fun y hy hl => by simpa [hl] using List.all_eq_true.mp hn y hy) h self turn hs ht
end
theorem compE {env : Env} {L C : Addr} {scope : Scope} {cl : List (Str × Addr)} (E : EnvOk env L) (hk : scope.kind = .function) : EnvOk (compEnvC scope cl C env) C := ⟨hk, rfl, E.glob, E.bi⟩
theorem x_asg {c : Cx} {env : Env} {m : Lm} {H : Hp} {n : Str} {p : Pos} {av : AV} {QU : Unit → Lm → Hp → Prop} (E : EnvOk env c.L) (h : QU () ((n, av) :: m) H) (hx : env.kindOf n = some .local := by kernel_rfl) : WAsg c env (.Name n p) av m H QU := asg_local E.kind hx E.loc h
structure CI (Hb : Hp) (N : Nat) (it acc : Addr) (n : Nat) (ys : List AV) (H1 : Hp) (yv : List AV) (io : AO) (i : Nat) : Prop where
  hi : i ≤ N
  hn : n = N - i
  hy : ys = yv
  ei : H1 it = some io
  ea : H1 acc = some (.list ys)
  k : Keep [] Hb H1
  h7 : Hb it = none
  h8 : Hb acc = none
  h9 : it ≠ acc
theorem fc139 {w : World} {hB : Heap} (Bk : BOk w hB) {l : List Nat} (hl : l.length ≤ 900) (hp : ∀ x ∈ l, inB1 x = false → b3p x ≠ none ∨ x < 128) (hz : (prep l).length ≤ 100000) : FC w hB (4 + 1) 139 [.str l] (fun _ => True) [] fun av H H' => av = .str (prep l) := by
  refine FC.enter Bk (ok139 w) rfl fun A L fs H hA _ => ?_
  have E : EnvOk (callEnv fd139 L 139) L := ⟨by kernel_rfl, rfl, rfl, rfl⟩
  refine s_cons (s_return (x_ms _ PySem.F.slot_str_join PySem.F.type_str_join (e_str (l := []) (by kernel_rfl) ⟨[], rfl, a_cons (x_comp [] (fun it acc n ys H1 => ∃ i : Nat, CI H (l.length) it acc n ys H1 (aStrs (prepL (l.take i))) (.pat (siP l i)) i)
    (fun acc H1 => H1 acc = some (.list (aStrs (prepL l))) ∧ Keep [] H H1) ?_ ?_ ?_)⟩) rfl))
  · refine x_l E rfl (it_str fun it hit => ⟨it, l.length, rfl, fun acc ha => ?_, fun acc H1 ⟨e1, k1⟩ => a_nil (c_join e1 hz ⟨_, .inl rfl, k1, rfl⟩)⟩)
    have hne : acc ≠ it := fun q => by subst q; rw [hup_self] at ha; cases ha
    have ha0 : H acc = none := by rwa [hup_ne hne] at ha
    exact ⟨0, Nat.zero_le _, rfl, by simp [prepL, aStrs], (hup_ne hne.symm).trans hup_self, hup_self, keep_hup2 (Keep.hup (.inl hit)) ha0, hit, ha0, hne.symm⟩
  · rintro C fs' it acc n H3 ⟨i, h1, h2, h3, h4, h5, h6, h7, h8, h9⟩
    exact it_str_self h4 ⟨rfl, i, h1, h2, h3, h4, h5, h6, h7, h8, h9⟩
  · rintro C fs' it acc n ys H3 ⟨i, h1, rfl, rfl, h4, h5, h6, h7, h8, h9⟩
    refine nx_str hA.1 h4 (fun x hx => ?_) (fun hle => ?_)
    · have hxl : x ∈ l := List.mem_of_getElem? hx
      have hilt : i < l.length := by
        rcases Nat.lt_or_ge i l.length with h | h
        · exact h
        · rw [List.getElem?_eq_none h] at hx; cases hx
      have k4 : Keep [] H (hup H3 it (.pat (siP l (i + 1)))) := keep_hup2 h6 h7
      have ei : hup H3 it (.pat (siP l (i + 1))) it = some (.pat (siP l (i + 1))) := hup_self
      have ea : hup H3 it (.pat (siP l (i + 1))) acc = some (.list (aStrs (prepL (l.take i)))) := (hup_ne h9.symm).trans h5
      generalize hup H3 it (.pat (siP l (i + 1))) = H4 at k4 ei ea ⊢
      refine x_asg (compE E rfl) ?_
      refine ifs_one (t_not (t_val (x_f (f := 81) Bk (compE E rfl) (a_cons (x_l (compE E rfl) rfl (a_nil (c_def (fc81 Bk) rfl rfl (hA.less (by (first | lia | omega))) trivial fun av H5 k5 ⟨e1, e2⟩ v r => ?_)))))))
      subst e1 e2
      refine truth_bool r ?_
      cases hb : inB1 x with
      | true =>
        rw [if_neg (by decide)]
        exact ⟨_, by (first | lia | omega), i + 1, hilt, rfl, by rw [prepL_take hx, hb]; simp, ei, ea, k4, h7, h8, h9⟩
      | false =>
        rw [if_pos (by decide)]
        refine x_f (f := 127) Bk (compE E rfl) (a_cons (x_l (compE E rfl) rfl (a_nil (c_def (fc127 Bk (hp x hxl hb)) rfl rfl (hA.less (by (first | lia | omega))) trivial fun av H5 k5 ⟨e1, e2⟩ => ?_))))
        subst e1 e2
        have hlen : (aStrs (prepL (l.take i))).length ≤ 900 := by
          unfold aStrs prepL
          rw [List.length_map, List.length_map]
          have := List.length_filter_le (fun x => !inB1 x) (l.take i)
          have := List.length_take (i := i) (l := l)
          (first | lia | omega)
        exact ⟨ea, by (first | lia | omega), _, by (first | lia | omega), i + 1, hilt, rfl, by rw [prepL_take hx, hb]; simp [aStrs], (hup_ne h9).trans ei, hup_self, keep_hup2 k4 h8, h7, h8, h9⟩
    · have : i = l.length := by (first | lia | omega)
      subst this
      rw [List.take_length] at h5
      exact ⟨(drop_ne h9.symm).trans h5, keep_drop h6 h7⟩
end Mine
end
section
open PySem PySem.W PySem.Calls PyProof.Rows
set_option Elab.async false
set_option maxRecDepth 100000
set_option maxHeartbeats 1000000
set_option linter.unusedVariables false
set_option linter.unusedSimpArgs false
namespace Mine
noncomputable def nzs : List Int := [173, 847, 6150, 6155, 6156, 6157, 8203, 8204, 8205, 8288, 65279] ++ rangeInts 65024 1 16
noncomputable def bss : List Int := [119808, 119860, 119912, 120016, 120172, 120224, 120276, 120328, 120380, 120432]
noncomputable def ons : List (List Nat) := [[10, 10], [9, 9], [13, 13], [32, 32], [34, 34], [92, 92], [46, 46], [58, 58], [890, 32, 953], [13255, 99, 111, 46]]
noncomputable def cts : List (List Nat) := [[223, 115, 115], [329, 700, 110], [7834, 97, 702], [8481, 116, 101, 108], [64259, 102, 102, 105], [383, 115]]
noncomputable def pairOf (l : List Nat) : Nat × List Nat := (l.headD 0, l.tail)
noncomputable def drawn (n : Int) : List (Nat × List Nat) :=
  let rest := n.fdiv 4
  let kind := n.fmod 4
  if kind = 1 then List.replicate (1 + (rest.fdiv 27).fmod 3).toNat ((nzs.getD (rest.fmod 27).toNat 0).toNat, [])
  else if kind = 2 then [((rest.fmod 128).toNat, [if 64 < rest.fmod 128 ∧ rest.fmod 128 < 91 then (rest.fmod 128 + 32).toNat else (rest.fmod 128).toNat])]
  else if kind = 3 then (if 5 < rest.fmod 16 then [((bss.getD (rest.fmod 16 - 6).toNat 0 + (rest.fdiv 16).fmod 26).toNat, [(97 + (rest.fdiv 16).fmod 26).toNat])] else [pairOf (cts.getD (rest.fmod 16).toNat [])])
  else [pairOf (ons.getD (rest.fmod 10).toNat [])]
theorem fmod_bd {a b : Int} (h : 0 < b) : 0 ≤ a.fmod b ∧ a.fmod b < b := ⟨Int.fmod_nonneg_of_pos a h, Int.fmod_lt_of_pos a h⟩
section
variable {c : Cx} {env : Env} {m : Lm} {H : Hp} {pos : Pos} {Q : AV → Lm → Hp → Prop} {QB : Bool → Lm → Hp → Prop}
theorem t_chain {x y z : PySem.Expr} {op1 op2 : CmpOp} (h : WE c env x m H fun a m1 H1 => WE c env y m1 H1 fun b m2 H2 => WO2 c (compareOp op1) a b m2 H2 fun r m3 H3 => ∃ p, r = .bool p ∧ if p then WE c env z m3 H3 fun d m4 H4 => WO2 c (compareOp op2) b d m4 H4 fun r2 m5 H5 => ∃ q, r2 = .bool q ∧ QB q m5 H5 else QB false m3 H3)
    (hm : lastMarks [op1, op2] [y, z] = false := by with_unfolding_all rfl) : WT c env (.Compare x [op1, op2] [y, z] pos) m H QB := fun s S =>
  isTrue_chain (wmono (h s S) (fun a s1 av m1 H1 r1 S1 z1 q1 => test_link (wmono (q1 s1 S1) (fun b s2 bv m2 H2 r2 S2 z2 q2 =>
    wmono (q2 a b r1 r2 s2 S2) (fun t s3 tv m3 H3 r3 S3 z3 ⟨p, e, q3⟩ => by
      subst e; cases r3
      refine wpAny_truthy_bool ?_
      cases p with
      | false => exact ⟨false, m3, H3, rfl, S3, (z1.trans z2).trans z3, by simpa using q3⟩
      | true =>
        rw [if_pos rfl] at q3 ⊢
        refine test_last (wmono (q3 s3 S3) (fun d s4 dv m4 H4 r4 S4 z4 q4 => wmono (q4 b d r2 r4 s4 S4) (fun t2 s5 t2v m5 H5 r5 S5 z5 ⟨q, e, q5⟩ => ?_) fun _ _ x => x) fun _ _ x => x)
        subst e; cases r5
        exact wpAny_truthy_bool ⟨q, m5, H5, rfl, S5, (((z1.trans z2).trans z3).trans z4).trans z5, q5⟩) fun _ _ x => x) fun _ _ x => x)) fun _ _ x => x) hm
theorem e_item_str {value index : PySem.Expr} (hp : opSub value index) (h : WE c env value m H fun ov m1 H1 => ∃ l, ov = .str l ∧ WE c env index m1 H1 fun iv m2 H2 => ∃ (i : Nat) (x : Nat), iv = .int i ∧ i ≤ 1000000 ∧ l[i]? = some x ∧ Q (.str [x]) m2 H2) :
    WE c env (.Subscript value index pos) m H Q := fun s S => by
  refine Subscript_ (wmono (h s S) (fun o s1 ov m1 H1 r S1 z1 ⟨l, e1, q⟩ => ?_) fun _ _ x => x)
  subst e1; obtain ⟨t, rfl⟩ := r
  refine wmono (q s1 S1) (fun iv s2 k m2 H2 r2 S2 z2 ⟨i, x, e2, hk, hx, q⟩ => ?_) fun _ _ x => x
  subst e2; obtain ⟨u, rfl⟩ := r2
  obtain ⟨ops, hs⟩ := hp (.str ⟨l.toArray⟩ t) (.int i u)
  have hlt : i < l.length := by
    rcases Nat.lt_or_ge i l.length with h | h
    · exact h
    · rw [List.getElem?_eq_none h] at hx; cases hx
  have hl : (⟨l.toArray⟩ : Str).length = l.length := by show l.toArray.size = _; simp
  refine tailOn (w := c.w) (SB.item (prog := pw) (w := c.w) (A := c.A) (by unfold fitsSsize; rw [decide_eq_false (by (first | lia | omega)), decide_eq_false (by (first | lia | omega))]; rfl) (charAt_isSome (by (first | lia | omega)) (by rw [hl]; (first | lia | omega))) ⟨.str [x], m2, H2, ⟨s2.toks, ?_⟩, S2, ⟨(z1.trans z2).1, (z1.trans z2).2.1, (z1.trans z2).2.2⟩, q⟩) hs
  rw [item_meets (n := x) (by (first | lia | omega)) (by simpa using hx)]
theorem c_list_range {r : Addr} (hh : c.A.handled = none) (e : H r = some (.pat (rgP 65024 65040))) (h : ∀ d, H d = none → Q (.ref d) m (hup H d (.list (aInts (rangeInts 65024 1 16))))) : WC c (.type "list") [.ref r] m H Q := fun vs rs => by
  cases rs with
  | cons r1 rs =>
    cases rs; cases r1
    intro s S
    obtain ⟨mm, nw, F, N, hlt, back, more⟩ := S.news
    obtain ⟨o, h1, t, u, v, rfl⟩ := S.at_ e
    refine list_rangeD (a := 65024) (b := 65040) (c := 1) (n := 16) hh F N h1 (by decide) (by decide) (by decide) fun h' tk ys F' N' hk hn hl hp hc => ?_
    obtain ⟨n, hx⟩ := hp.1
    exact ⟨.ref _, m, _, rfl, S.new (ao := .list (aInts (rangeInts 65024 1 16))) hk hx (Heap.get?_none_of_le (Nat.le_refl _)) ⟨ys, n, rfl, reps_of_ints hc⟩, ⟨rfl, rfl, rfl⟩, h _ S.free⟩
end
noncomputable def intOf : PySem.Expr → Option Int
  | .Constant (.int i) _ _ => some i
  | _ => none
noncomputable def strOf : PySem.Expr → Option (List Nat)
  | .Constant (.str x) _ _ => some x.cps.toList
  | _ => none
noncomputable def intsOf : List PySem.Expr → Option (List Int)
  | [] => some []
  | e :: r => (intOf e).bind fun i => (intsOf r).map (i :: ·)
noncomputable def strsOf : List PySem.Expr → Option (List (List Nat))
  | [] => some []
  | e :: r => (strOf e).bind fun i => (strsOf r).map (i :: ·)
theorem intOf_is {e : PySem.Expr} {i : Int} (h : intOf e = some i) : ∃ k p, e = .Constant (.int i) k p := by
  unfold intOf at h
  split at h
  · cases h; exact ⟨_, _, rfl⟩
  · cases h
theorem strOf_is {e : PySem.Expr} {l : List Nat} (h : strOf e = some l) : ∃ x k p, e = .Constant (.str x) k p ∧ l = x.cps.toList := by
  unfold strOf at h
  split at h
  · cases h; exact ⟨_, _, _, rfl, rfl⟩
  · cases h
section
variable {c : Cx} {env : Env} {m : Lm} {H : Hp} {pos : Pos}
theorem a_ints {es : List PySem.Expr} : ∀ {ns : List Int} {QA : List AV → Lm → Hp → Prop}, intsOf es = some ns → QA (aInts ns) m H → WArgs c env es m H QA := by
  induction es with
  | nil => intro ns QA e h; cases e; exact h
  | cons x r ih =>
    intro ns QA e h
    unfold intsOf at e
    obtain ⟨i, e1, e2⟩ := Option.bind_eq_some_iff.mp e
    obtain ⟨ns', e3, e4⟩ := Option.map_eq_some_iff.mp e2
    subst e4
    obtain ⟨k, p, rfl⟩ := intOf_is e1
    exact a_cons (e_int (ih e3 h)) rfl
theorem a_strs {es : List PySem.Expr} : ∀ {ns : List (List Nat)} {QA : List AV → Lm → Hp → Prop}, strsOf es = some ns → QA (aStrs ns) m H → WArgs c env es m H QA := by
  induction es with
  | nil => intro ns QA e h; cases e; exact h
  | cons y r ih =>
    intro ns QA e h
    unfold strsOf at e
    obtain ⟨i, e1, e2⟩ := Option.bind_eq_some_iff.mp e
    obtain ⟨ns', e3, e4⟩ := Option.map_eq_some_iff.mp e2
    subst e4
    obtain ⟨x, k, p, rfl, rfl⟩ := strOf_is e1
    exact a_cons (e_str (l := x.cps.toList) (by cases x; simp) (ih e3 h)) rfl
end
theorem wp_none {c : Cx} {env : Env} {m : Lm} {H : Hp} {Q : Option Int → Lm → Hp → Prop} (h : Q none m H) : WPart c env none m H Q := h
noncomputable def nz0 : List Int := [173, 847, 6150, 6155, 6156, 6157, 8203, 8204, 8205, 8288, 65279]
theorem PP.rep {H : Hp} {a : Addr} {p : Nat × List Nat} (h : H a = some (.list [.str [p.1], .str p.2])) : ∀ k : Nat, PP H (List.replicate k a) (List.replicate k p)
  | 0 => .nil
  | k + 1 => by rw [List.replicate_succ, List.replicate_succ]; exact .cons h (PP.rep h k)
theorem PairsAt.one {H : Hp} {r a : Addr} {p : Nat × List Nat} (h1 : H r = some (.list [.ref a])) (h2 : H a = some (.list [.str [p.1], .str p.2])) : PairsAt H r [p] := ⟨[a], h1, .cons h2 .nil⟩
theorem flat_rep {α : Type} (x : α) : ∀ k : Nat, (List.replicate k [x]).flatten = List.replicate k x
  | 0 => rfl
  | k + 1 => by rw [List.replicate_succ, List.flatten_cons, flat_rep x k]; rfl
theorem sl_rest (l : List Nat) : sl l (some 1) none = l.tail := by
  rw [sl_run (a := min 1 l.length) (b := l.length) ?_ (Nat.min_le_right _ _) (Nat.le_refl _)]
  · cases l <;> simp
  · show sliceRange (max 0 (min 1 (l.length : Int))) (l.length : Int) 1 = _
    congr 1
    (first | lia | omega)
theorem nzs_eq : aInts nz0 ++ aInts (rangeInts 65024 1 16) = aInts nzs := by unfold aInts nzs nz0; rw [← List.map_append]
theorem nzs_get : ∀ k, k < 27 → ∃ v : Nat, nzs[k]? = some (v : Int) ∧ nzs.getD k 0 = v ∧ v ≤ 1114111 := by
  have : ∀ k, k < 27 → nzs[k]? = some (((nzs.getD k 0).toNat : Nat) : Int) ∧ nzs.getD k 0 = ((nzs.getD k 0).toNat : Nat) ∧ (nzs.getD k 0).toNat ≤ 1114111 := by decide +kernel
  exact fun k hk => ⟨_, this k hk⟩
theorem bss_get : ∀ k, k < 10 → ∃ v : Nat, bss[k]? = some (v : Int) ∧ bss.getD k 0 = v ∧ v ≤ 120500 := by
  have : ∀ k, k < 10 → bss[k]? = some (((bss.getD k 0).toNat : Nat) : Int) ∧ bss.getD k 0 = ((bss.getD k 0).toNat : Nat) ∧ (bss.getD k 0).toNat ≤ 120500 := by decide +kernel
  exact fun k hk => ⟨_, this k hk⟩
theorem ons_get : ∀ k, k < 10 → ∃ x r, ons[k]? = some (x :: r) ∧ ons.getD k [] = x :: r ∧ r.length ≤ 10 := by
  have : ∀ k, k < 10 → ons[k]? = some ((ons.getD k []).headD 0 :: (ons.getD k []).tail) ∧ ons.getD k [] = (ons.getD k []).headD 0 :: (ons.getD k []).tail ∧ (ons.getD k []).tail.length ≤ 10 := by decide +kernel
  exact fun k hk => ⟨_, _, this k hk⟩
theorem cts_get : ∀ k, k < 6 → ∃ x r, cts[k]? = some (x :: r) ∧ cts.getD k [] = x :: r ∧ r.length ≤ 10 := by
  have : ∀ k, k < 6 → cts[k]? = some ((cts.getD k []).headD 0 :: (cts.getD k []).tail) ∧ cts.getD k [] = (cts.getD k []).headD 0 :: (cts.getD k []).tail ∧ (cts.getD k []).tail.length ≤ 10 := by decide +kernel
  exact fun k hk => ⟨_, _, this k hk⟩
theorem fmod_nat {a : Int} {b : Nat} (h : 0 < b) : ∃ k : Nat, a.fmod b = k ∧ k < b := by
  have h1 := fmod_bd (a := a) (b := b) (by omega)
  exact ⟨(a.fmod b).toNat, by omega, by omega⟩
theorem int_get {l : List Int} {k : Nat} {v : Int} (h : l[k]? = some v) : (aInts l)[k]? = some (.int v) := by unfold aInts; rw [List.getElem?_map, h]; rfl
theorem str_get {l : List (List Nat)} {k : Nat} {v : List Nat} (h : l[k]? = some v) : (aStrs l)[k]? = some (.str v) := by unfold aStrs; rw [List.getElem?_map, h]; rfl
theorem fc134 {w : World} {hB : Heap} (Bk : BOk w hB) {n : Int} : FC w hB (4 + 1) 134 [.int n] (fun _ => True) [] fun av H H' => ∃ r, av = .ref r ∧ PairsAt H' r (drawn n) := by
  refine FC.enter Bk (ok134 w) rfl fun A L fs H hA _ => ?_
  have E : EnvOk (callEnv fd134 L 134) L := ⟨by kernel_rfl, rfl, rfl, rfl⟩
  refine s_cons (s_unpack (x_b Bk E (a_cons (x_l E rfl (a_cons (e_int (a_nil (c_divmod (by decide) (by kernel_rfl) fun d hd v r => ?_))))))) (by kernel_rfl) (by kernel_rfl))
  cases r
  have k0 : Keep [] H (hup H d (.tup [.int (n.fdiv 4), .int (n.fmod 4)])) := Keep.hup (.inl hd)
  refine as_two E hA.1 (by kernel_rfl) (by kernel_rfl) (.inr hup_self) |>.mono fun _ m1 H1 ⟨e1, e2⟩ => ?_
  subst e1 e2
  generalize hup H d (.tup [.int (n.fdiv 4), .int (n.fmod 4)]) = H1 at k0 ⊢
  have hrest : ∀ (m2 : Lm) (H2 : Hp) (x : Nat) (o : List Nat) (ol : List Nat), Keep [] H H2 → Has m2 "one" (.str ol) → ol = x :: o → o.length ≤ 10 → drawn n = [(x, o)] → WSS ⟨w, hB, A, L, fs⟩ (callEnv fd134 L 134) ((fBody (stm 10)).drop 5) m2 H2 fun fl m' H' => ∃ av, (fl = .ret av ∨ (fl = .next ∧ av = .none)) ∧ Keep [] H H' ∧ ∃ r, av = .ref r ∧ PairsAt H' r (drawn n) := by
    intro m2 H2 x o ol kk h1 ho hl hd
    subst ho
    refine s_cons (s_return (e_list (a_cons (e_list (a_cons (e_item_str (fun o i => ⟨_, by with_unfolding_all rfl⟩) (x_l E h1 ⟨x :: o, rfl, e_int ⟨0, x, rfl, by decide, rfl, ?_⟩⟩)))))))
    refine a_cons (x_slice_str (fun o i => ⟨_, by with_unfolding_all rfl⟩) (x_l E h1 ⟨x :: o, rfl, by simp; omega, e_int ⟨1, rfl, wp_none ?_⟩⟩))
    refine a_nil ⟨by show 2 ≤ 1000; decide, fun a ha => a_nil ⟨by show 1 ≤ 1000; decide, fun b hb => ?_⟩⟩
    rw [sl_rest] at hb ⊢
    refine ⟨_, .inl rfl, (kk.trans (Keep.hup (.inl ha))).trans (Keep.hup (.inl hb)), b, rfl, ?_⟩
    rw [hd]
    exact PairsAt.one hup_self ((Keep.hup (mu := []) (.inl hb)) _ _ hup_self (by simp))
  refine s_cons (s_if (t_cmp (x_l E rfl (e_int (o_eq_int ⟨_, rfl, ?_⟩)))))
  by_cases h1 : n.fmod 4 = 1
  · rw [if_pos (beq_iff_eq.mpr h1)]
    refine s_cons ?_
    with_reducible refine s_assign E.kind ?_ E.loc ?_ ?_
    · kernel_rfl
    · kernel_rfl
    refine e_binop ?_
    refine e_list ?_
    refine a_ints (ns := nz0) ?_ ?_
    · kernel_rfl
    refine ⟨by rw [aInts, List.length_map]; decide, fun a ha => ?_⟩
    have ka : Keep [] H (hup H1 a (.list (aInts nz0))) := k0.trans (Keep.hup (.inl ha))
    have ea : hup H1 a (.list (aInts nz0)) a = some (.list (aInts nz0)) := hup_self
    generalize hup H1 a (.list (aInts nz0)) = H2 at ka ea ⊢
    refine x_t (T := "list") Bk E (a_cons (x_t (T := "range") Bk E (a_cons (e_int (a_cons (e_int (a_nil (c_range2 fun r hr => ?_))))))))
    have kr : Keep [] H (hup H2 r (.pat (rgP 65024 65040))) := ka.trans (Keep.hup (.inl hr))
    have er : hup H2 r (.pat (rgP 65024 65040)) r = some (.pat (rgP 65024 65040)) := hup_self
    have ea2 : hup H2 r (.pat (rgP 65024 65040)) a = some (.list (aInts nz0)) := (Keep.hup (mu := []) (.inl hr)) _ _ ea (by simp)
    generalize hup H2 r (.pat (rgP 65024 65040)) = H3 at kr er ea2 ⊢
    refine a_nil (c_list_range hA.1 er fun b hb => ?_)
    have kb : Keep [] H (hup H3 b (.list (aInts (rangeInts 65024 1 16)))) := kr.trans (Keep.hup (.inl hb))
    have eb : hup H3 b (.list (aInts (rangeInts 65024 1 16))) b = some (.list (aInts (rangeInts 65024 1 16))) := hup_self
    have ea3 : hup H3 b (.list (aInts (rangeInts 65024 1 16))) a = some (.list (aInts nz0)) := (Keep.hup (mu := []) (.inl hb)) _ _ ea2 (by simp)
    generalize hup H3 b (.list (aInts (rangeInts 65024 1 16))) = H4 at kb eb ea3 ⊢
    refine o_add_list ea3 eb (by rw [aInts, aInts, List.length_map, List.length_map]; decide) fun e he => ?_
    rw [nzs_eq]
    have ke : Keep [] H (hup H4 e (.list (aInts nzs))) := kb.trans (Keep.hup (.inl he))
    have ee : hup H4 e (.list (aInts nzs)) e = some (.list (aInts nzs)) := hup_self
    generalize hup H4 e (.list (aInts nzs)) = H5 at ke ee ⊢
    obtain ⟨k, hk, hk27⟩ := fmod_nat (a := n.fdiv 4) (b := 27) (by decide)
    obtain ⟨j, hj, hj3⟩ := fmod_nat (a := (n.fdiv 4).fdiv 27) (b := 3) (by decide)
    obtain ⟨v, hv, hvd, hvl⟩ := nzs_get k hk27
    have hdr : drawn n = List.replicate (1 + j) (v, []) := by
      have hk' : (n.fdiv 4).fmod 27 = (k : Int) := hk
      have hj' : ((n.fdiv 4).fdiv 27).fmod 3 = (j : Int) := hj
      unfold drawn
      rw [if_pos h1, hk', hj']
      have e1 : (1 + (j : Int)).toNat = 1 + j := by omega
      rw [e1, Int.toNat_natCast, hvd, Int.toNat_natCast]
    have hi27 : (n.fdiv 4).fmod 27 = (k : Int) := hk
    have hi3 : ((n.fdiv 4).fdiv 27).fmod 3 = (j : Int) := hj
    refine s_cons (s_return (e_binop (e_list (a_cons (e_list (a_cons (x_b (id := "chr") Bk E (a_cons (e_item (fun o i => ⟨_, by with_unfolding_all rfl⟩) (x_l E rfl ⟨e, rfl, e_binop (x_l E rfl (e_int (o_mod_int (by decide) ?_)))⟩))))))))))
    refine ⟨k, _, _, by rw [hi27], by omega, ee, int_get hv, a_nil (c_chr (by omega) (by omega) ?_)⟩
    refine a_cons (e_str (l := []) (by kernel_rfl) (a_nil ⟨by show 2 ≤ 1000; decide, fun p hp => a_nil ⟨by show 1 ≤ 1000; decide, fun q hq => ?_⟩⟩))
    rw [Int.toNat_natCast] at hq ⊢
    have kp : Keep [] H (hup H5 p (.list [.str [v], .str []])) := ke.trans (Keep.hup (.inl hp))
    have ep : hup H5 p (.list [.str [v], .str []]) p = some (.list [.str [v], .str []]) := hup_self
    generalize hup H5 p (.list [.str [v], .str []]) = H6 at kp ep hq ⊢
    have kq : Keep [] H (hup H6 q (.list [.ref p])) := kp.trans (Keep.hup (.inl hq))
    have eq : hup H6 q (.list [.ref p]) q = some (.list [.ref p]) := hup_self
    have ep2 : hup H6 q (.list [.ref p]) p = some (.list [.str [v], .str []]) := (Keep.hup (mu := []) (.inl hq)) _ _ ep (by simp)
    generalize hup H6 q (.list [.ref p]) = H7 at kq eq ep2 ⊢
    refine e_binop (e_int (e_binop (e_binop (x_l E rfl (e_int (o_fdiv_int (by decide) (by kernel_rfl) (e_int (o_mod_int (by decide) (o_add_int ?_)))))))))
    rw [hi3]
    refine o_mul_list eq (by omega) (by show 1 * _ ≤ _; omega) (by omega) fun z hz => ⟨_, .inl rfl, kq.trans (Keep.hup (.inl hz)), z, rfl, ?_⟩
    rw [hdr]
    have e1 : (1 + (j : Int)).toNat = 1 + j := by omega
    rw [e1, flat_rep]
    exact ⟨List.replicate (1 + j) p, by rw [hup_self, List.map_replicate], PP.rep (p := (v, [])) ((Keep.hup (mu := []) (.inl hz)) _ _ ep2 (by simp)) _⟩
  rw [if_neg (fun q => h1 (beq_iff_eq.mp q))]
  refine s_nil ?_
  refine s_cons (s_if (t_cmp (x_l E rfl (e_int (o_eq_int ⟨_, rfl, ?_⟩)))))
  by_cases h2 : n.fmod 4 = 2
  · rw [if_pos (beq_iff_eq.mpr h2)]
    obtain ⟨k, hk, hk128⟩ := fmod_nat (a := n.fdiv 4) (b := 128) (by decide)
    have hk' : (n.fdiv 4).fmod 128 = (k : Int) := hk
    have hdr : drawn n = [(k, [if 64 < k ∧ k < 91 then k + 32 else k])] := by
      unfold drawn
      rw [if_neg h1, if_pos h2, hk']
      by_cases hc : 64 < k ∧ k < 91
      · rw [if_pos hc, if_pos (by omega), Int.toNat_natCast]
        congr 3
      · rw [if_neg hc, if_neg (by omega), Int.toNat_natCast]
    refine s_cons (x_as E (e_binop (x_l E rfl (e_int (o_mod_int (by decide) ?_)))))
    rw [hk']
    have fin : ∀ (m2 : Lm) (i : Int), i = ((if 64 < k ∧ k < 91 then k + 32 else k : Nat) : Int) → WC ⟨w, hB, A, L, fs⟩ (.builtin "chr") [.int i] m2 H1 fun b m3 H3 => 2 ≤ 1000 ∧ ∀ a, H3 a = none → 1 ≤ 1000 ∧ ∀ c, (hup H3 a (.list [.str [(k : Int).toNat], b])) c = none → ∃ av, (AF.ret (.ref c) = .ret av ∨ (AF.ret (.ref c) = .next ∧ av = .none)) ∧ Keep [] H (hup (hup H3 a (.list [.str [(k : Int).toNat], b])) c (.list [.ref a])) ∧ ∃ r, av = .ref r ∧ PairsAt (hup (hup H3 a (.list [.str [(k : Int).toNat], b])) c (.list [.ref a])) r (drawn n) := by
      intro m2 i hi
      subst hi
      refine c_chr (by omega) (by split <;> omega) ⟨by decide, fun a ha => ⟨by decide, fun c hc => ⟨_, .inl rfl, (k0.trans (Keep.hup (.inl ha))).trans (Keep.hup (.inl hc)), c, rfl, ?_⟩⟩⟩
      rw [hdr]
      exact PairsAt.one hup_self ((Keep.hup (mu := []) (.inl hc)) _ _ hup_self (by simp))
    refine s_cons (s_return (e_list (a_cons (e_list (a_cons (x_b (id := "chr") Bk E (a_cons (x_l E rfl (a_nil (c_chr (by omega) (by omega) ?_)))))))))) 
    refine a_cons (x_b (id := "chr") Bk E (a_cons (e_ifexp (t_chain (e_int (x_l E rfl (o_lt_int ⟨_, rfl, ?_⟩)))))))
    by_cases hc1 : (64 : Int) < k
    · rw [if_pos (decide_eq_true hc1)]
      refine e_int (o_lt_int ⟨_, rfl, ?_⟩)
      by_cases hc2 : (k : Int) < 91
      · rw [if_pos (decide_eq_true hc2)]
        refine e_binop (x_l E rfl (e_int (o_add_int (a_nil (fin _ _ ?_)))))
        rw [if_pos (by omega)]; omega
      · rw [if_neg (by rw [decide_eq_false hc2]; decide)]
        refine x_l E rfl (a_nil (fin _ _ ?_))
        rw [if_neg (by omega)]
    · rw [if_neg (by rw [decide_eq_false hc1]; decide), if_neg (by decide)]
      refine x_l E rfl (a_nil (fin _ _ ?_))
      rw [if_neg (by omega)]
  rw [if_neg (fun q => h2 (beq_iff_eq.mp q))]
  refine s_nil ?_
  obtain ⟨k, hk, hk10⟩ := fmod_nat (a := n.fdiv 4) (b := 10) (by decide)
  have hk' : (n.fdiv 4).fmod 10 = (k : Int) := hk
  obtain ⟨x0, r0, hx0, hd0, hl0⟩ := ons_get k hk10
  refine s_cons ?_
  with_reducible refine s_assign E.kind ?_ E.loc ?_ ?_
  · kernel_rfl
  · kernel_rfl
  refine e_item (fun o i => ⟨_, by with_unfolding_all rfl⟩) ?_
  refine e_list ?_
  refine a_strs (ns := ons) ?_ ?_
  · kernel_rfl
  refine ⟨by rw [aStrs, List.length_map]; decide, fun a ha => ⟨a, rfl, e_binop (x_l E rfl (e_int (o_mod_int (by decide) ?_)))⟩⟩
  rw [hk']
  refine ⟨k, _, _, rfl, by omega, hup_self, str_get hx0, ?_⟩
  have ka : Keep [] H (hup H1 a (.list (aStrs ons))) := k0.trans (Keep.hup (.inl ha))
  generalize hup H1 a (.list (aStrs ons)) = H2 at ka ⊢
  refine s_cons (s_if (t_cmp (x_l E rfl (e_int (o_eq_int ⟨_, rfl, ?_⟩)))))
  by_cases h3 : n.fmod 4 = 3
  · rw [if_pos (beq_iff_eq.mpr h3)]
    obtain ⟨p, hp, hp16⟩ := fmod_nat (a := n.fdiv 4) (b := 16) (by decide)
    have hp' : (n.fdiv 4).fmod 16 = (p : Int) := hp
    obtain ⟨q, hq, hq26⟩ := fmod_nat (a := (n.fdiv 4).fdiv 16) (b := 26) (by decide)
    have hq' : ((n.fdiv 4).fdiv 16).fmod 26 = (q : Int) := hq
    refine s_cons (s_swap (names := ["coat", "letter"]) E hA.1 (by simp only [List.mem_cons, List.not_mem_nil, or_false]; rintro n (rfl | rfl) <;> kernel_rfl) (by kernel_rfl) (by decide) ?_)
    refine a_cons (e_binop (x_l E rfl (e_int (o_mod_int (by decide) ?_))))
    rw [hp']
    refine a_cons (e_binop (e_binop (x_l E rfl (e_int (o_fdiv_int (by decide) (by kernel_rfl) (e_int (o_mod_int (by decide) (a_nil ⟨rfl, ?_⟩))))))))
    rw [hq']
    refine s_cons (s_if (t_cmp (x_l E rfl (e_int (o_gt_int ⟨_, rfl, ?_⟩)))))
    by_cases h5 : (5 : Int) < p
    · rw [if_pos (decide_eq_true h5)]
      obtain ⟨v, hv, hvd, hvl⟩ := bss_get (p - 6) (by omega)
      have hdr : drawn n = [(v + q, [97 + q])] := by
        unfold drawn
        rw [if_neg h1, if_neg h2, if_pos h3, hp', hq', if_pos h5]
        have e1 : ((p : Int) - 6).toNat = p - 6 := by omega
        rw [e1, hvd]
        have e2 : ((v : Int) + (q : Int)).toNat = v + q := by omega
        have e3 : (97 + (q : Int)).toNat = 97 + q := by omega
        rw [e2, e3]
      refine s_cons ?_
      with_reducible refine s_assign E.kind ?_ E.loc ?_ ?_
      · kernel_rfl
      · kernel_rfl
      refine e_list ?_
      refine a_ints (ns := bss) ?_ ?_
      · kernel_rfl
      refine ⟨by rw [aInts, List.length_map]; decide, fun b hb => ?_⟩
      have kb : Keep [] H (hup H2 b (.list (aInts bss))) := ka.trans (Keep.hup (.inl hb))
      have eb : hup H2 b (.list (aInts bss)) b = some (.list (aInts bss)) := hup_self
      generalize hup H2 b (.list (aInts bss)) = H3 at kb eb ⊢
      refine s_cons (s_return (e_list (a_cons (e_list (a_cons (x_b (id := "chr") Bk E (a_cons (e_binop (e_item (fun o i => ⟨_, by with_unfolding_all rfl⟩) (x_l E rfl ⟨b, rfl, e_binop (x_l E rfl (e_int (o_sub_int ⟨p - 6, _, _, ?_, by omega, eb, int_get hv, ?_⟩)))⟩))))))))))
      · congr 1; omega
      refine x_l E rfl (o_add_int (a_nil (c_chr (by omega) (by omega) ?_)))
      refine a_cons (x_b (id := "chr") Bk E (a_cons (e_binop (e_int (x_l E rfl (o_add_int (a_nil (c_chr (by omega) (by omega) ?_))))))))
      have e2 : ((v : Int) + (q : Int)).toNat = v + q := by omega
      have e3 : (97 + (q : Int)).toNat = 97 + q := by omega
      rw [e2, e3]
      refine a_nil ⟨by show 2 ≤ 1000; decide, fun y hy => a_nil ⟨by show 1 ≤ 1000; decide, fun z hz => ?_⟩⟩
      refine ⟨_, .inl rfl, (kb.trans (Keep.hup (.inl hy))).trans (Keep.hup (.inl hz)), z, rfl, ?_⟩
      rw [hdr]
      exact PairsAt.one hup_self ((Keep.hup (mu := []) (.inl hz)) _ _ hup_self (by simp))
    · rw [if_neg (by rw [decide_eq_false h5]; decide)]
      refine s_nil ?_
      obtain ⟨x1, r1, hx1, hd1, hl1⟩ := cts_get p (by omega)
      have hdr : drawn n = [(x1, r1)] := by
        unfold drawn
        rw [if_neg h1, if_neg h2, if_pos h3, hp', if_neg h5, Int.toNat_natCast, hd1]; rfl
      refine s_cons ?_
      with_reducible refine s_assign E.kind ?_ E.loc ?_ ?_
      · kernel_rfl
      · kernel_rfl
      refine e_item (fun o i => ⟨_, by with_unfolding_all rfl⟩) ?_
      refine e_list ?_
      refine a_strs (ns := cts) ?_ ?_
      · kernel_rfl
      refine ⟨by rw [aStrs, List.length_map]; decide, fun b hb => ⟨b, rfl, x_l E rfl ⟨p, _, _, rfl, by omega, hup_self, str_get hx1, s_nil ?_⟩⟩⟩
      exact hrest _ _ x1 r1 _ (ka.trans (Keep.hup (.inl hb))) rfl rfl hl1 hdr
  · rw [if_neg (fun q => h3 (beq_iff_eq.mp q))]
    refine s_nil ?_
    have hdr : drawn n = [(x0, r0)] := by
      unfold drawn
      rw [if_neg h1, if_neg h2, if_neg h3, hk', Int.toNat_natCast, hd0]; rfl
    exact hrest _ _ x0 r0 _ ka rfl rfl hl0 hdr
end Mine
end
section
open PySem PySem.W PySem.Calls PyProof.Rows
set_option Elab.async false
set_option maxRecDepth 100000
set_option maxHeartbeats 1000000
set_option linter.unusedVariables false
set_option linter.unusedSimpArgs false
namespace Mine
abbrev Pr2 := Nat × List Nat
noncomputable def isW (f : List Nat) : Bool := decide (f.take 1 ∈ whs)
noncomputable def stepL (n : Nat) (p : Pr2) : Nat := if p.2 = [] then n + 1 else if p.1 = 92 then n else 0
noncomputable def lostA (l : List Pr2) : Nat := l.foldl stepL 0
noncomputable def liveAt (t : Nat) (l : List Pr2) (i : Nat) : Bool := match l[i]? with
  | none => false
  | some p => isW p.2 && decide (0 < lostA (l.take i) % 2 ^ t)
noncomputable def stopAt (mn : Nat) (l : List Pr2) (i : Nat) : Bool := match l[i]? with
  | none => false
  | some p => decide (0 < mn) && decide ([p.1] ∈ [[58], [10]])
noncomputable def lastOne (f : List Nat) : List Nat := f.drop (f.length - 1)
noncomputable def dotAt (mn : Nat) (l : List Pr2) (i : Nat) : Bool := match l[i]? with
  | none => false
  | some p => decide (0 < mn) && decide (lastOne p.2 = [46])
noncomputable def idxs (P : Nat → Bool) (n : Nat) : List Nat := (List.range n).filter P
noncomputable def firstIdx (P : Nat → Bool) (n : Nat) : Nat := ((List.range n).find? P).getD n
noncomputable def lastEnd (P : Nat → Bool) : Nat → Nat
  | 0 => 0
  | n + 1 => if P n then n + 1 else lastEnd P n
noncomputable def headOf (l : List Pr2) (t mn : Nat) : Nat := firstIdx (fun i => stopAt mn l i || (decide (mn < 2) && liveAt t l i)) l.length
noncomputable def startOf (l : List Pr2) (t mn : Nat) : Nat := lastEnd (dotAt mn l) (headOf l t mn)
noncomputable def endOf (l : List Pr2) (t mn : Nat) : Nat := firstIdx (fun i => liveAt t l i && decide (startOf l t mn ≤ i)) (headOf l t mn)
noncomputable def bsl (n : Nat) : List Nat := List.replicate n 92
noncomputable def runN (L t lost kept more : Nat) : Nat := (2 ^ L * (lost + kept + more) - lost - more) / 2 ^ t
noncomputable def stepB (L t : Nat) (s : Nat × Nat × List Nat) (p : Pr2) : Nat × Nat × List Nat :=
  if p.2 = [] then (s.1 + 1, s.2.1, s.2.2) else if p.1 = 92 then (s.1, s.2.1 + 1, s.2.2) else (0, 0, s.2.2 ++ bsl (runN L t s.1 s.2.1 1) ++ p.2)
noncomputable def bodA (L t : Nat) (l : List Pr2) : Nat × Nat × List Nat := l.foldl (stepB L t) (0, 0, [])
noncomputable def moreOf (l : List Pr2) (t mn : Nat) : Nat := if endOf l t mn < l.length then 1 else 0
noncomputable def cutOf (l : List Pr2) (t mn : Nat) : List Pr2 := (l.drop (startOf l t mn)).take (endOf l t mn - startOf l t mn)
noncomputable def toldL (l : List Pr2) (L t mn : Nat) : List Nat :=
  (bodA L t (cutOf l t mn)).2.2 ++ bsl (runN L t (bodA L t (cutOf l t mn)).1 (bodA L t (cutOf l t mn)).2.1 (moreOf l t mn))

theorem take_succ' {α : Type} {l : List α} {i : Nat} {p : α} (h : l[i]? = some p) : l.take (i + 1) = l.take i ++ [p] := by
  rw [List.take_add_one, h]; rfl
theorem lostA_take {l : List Pr2} {i : Nat} {p : Pr2} (h : l[i]? = some p) : lostA (l.take (i + 1)) = stepL (lostA (l.take i)) p := by
  unfold lostA; rw [take_succ' h, List.foldl_append]; rfl
theorem bodA_take {L t : Nat} {l : List Pr2} {i : Nat} {p : Pr2} (h : l[i]? = some p) : bodA L t (l.take (i + 1)) = stepB L t (bodA L t (l.take i)) p := by
  unfold bodA; rw [take_succ' h, List.foldl_append]; rfl
theorem idxs_succ (P : Nat → Bool) (n : Nat) : idxs P (n + 1) = idxs P n ++ (if P n then [n] else []) := by
  unfold idxs
  rw [List.range_succ, List.filter_append]
  congr 1
  rw [List.filter_cons, List.filter_nil]
theorem mem_idxs {P : Nat → Bool} {n i : Nat} : i ∈ idxs P n ↔ i < n ∧ P i = true := by
  unfold idxs; rw [List.mem_filter, List.mem_range]
theorem idxs_len {P : Nat → Bool} {n : Nat} : (idxs P n).length ≤ n := by
  unfold idxs
  have := List.length_filter_le P (List.range n)
  rwa [List.length_range] at this
theorem firstIdx_spec (P : Nat → Bool) (n : Nat) : (firstIdx P n = n ∧ ∀ i, i < n → P i = false) ∨ (firstIdx P n < n ∧ P (firstIdx P n) = true ∧ ∀ i, i < firstIdx P n → P i = false) := by
  unfold firstIdx
  cases h : (List.range n).find? P with
  | none =>
    refine .inl ⟨rfl, fun i hi => ?_⟩
    have := List.find?_eq_none.mp h i (List.mem_range.mpr hi)
    simpa using this
  | some k =>
    refine .inr ?_
    show k < n ∧ P k = true ∧ _
    refine ⟨List.mem_range.mp (List.mem_of_find?_eq_some h), List.find?_some h, fun i hi => ?_⟩
    have := (List.find?_range_eq_some.mp h).2.2 i hi
    simpa using this
theorem firstIdx_le (P : Nat → Bool) (n : Nat) : firstIdx P n ≤ n := by
  rcases firstIdx_spec P n with ⟨h, _⟩ | ⟨h, _⟩ <;> (first | lia | omega)
theorem firstIdx_of {P : Nat → Bool} {n x : Nat} (h : x = n ∨ (x < n ∧ P x = true)) (k : ∀ i, i < n → P i = true → x ≤ i) (hn : x ≤ n) : x = firstIdx P n := by
  rcases firstIdx_spec P n with ⟨h1, h2⟩ | ⟨h1, h2, h3⟩
  · rcases h with h | ⟨h, h'⟩
    · (first | lia | omega)
    · rw [h2 x h] at h'; cases h'
  · have := k _ h1 h2
    rcases h with h | ⟨h, h'⟩
    · (first | lia | omega)
    · rcases Nat.lt_or_ge x (firstIdx P n) with q | q
      · rw [h3 x q] at h'; cases h'
      · (first | lia | omega)
theorem lastEnd_le (P : Nat → Bool) : ∀ n, lastEnd P n ≤ n
  | 0 => Nat.le_refl _
  | n + 1 => by unfold lastEnd; have := lastEnd_le P n; split <;> (first | lia | omega)
theorem lastEnd_spec (P : Nat → Bool) : ∀ n, (lastEnd P n = 0 ∨ ∃ i, i < n ∧ P i = true ∧ lastEnd P n = i + 1) ∧ ∀ i, i < n → P i = true → i + 1 ≤ lastEnd P n
  | 0 => ⟨.inl rfl, fun i h => by (first | lia | omega)⟩
  | n + 1 => by
    obtain ⟨h1, h2⟩ := lastEnd_spec P n
    unfold lastEnd
    cases e : P n with
    | true =>
      rw [if_pos rfl]
      exact ⟨.inr ⟨n, by (first | lia | omega), e, rfl⟩, fun i hi _ => by (first | lia | omega)⟩
    | false =>
      rw [if_neg (by decide)]
      refine ⟨?_, fun i hi hp => ?_⟩
      · rcases h1 with h1 | ⟨i, hi, hp, he⟩
        · exact .inl h1
        · exact .inr ⟨i, by (first | lia | omega), hp, he⟩
      · rcases Nat.lt_or_ge i n with q | q
        · exact h2 i q hp
        · have : i = n := by (first | lia | omega)
          subst this; rw [e] at hp; cases hp
theorem lastEnd_of {P : Nat → Bool} {n x : Nat} (h : x = 0 ∨ ∃ i, i < n ∧ P i = true ∧ x = i + 1) (k : ∀ i, i < n → P i = true → i + 1 ≤ x) : x = lastEnd P n := by
  obtain ⟨h1, h2⟩ := lastEnd_spec P n
  have a : x ≤ lastEnd P n := by
    rcases h with h | ⟨i, hi, hp, he⟩
    · (first | lia | omega)
    · have := h2 i hi hp; (first | lia | omega)
  have b : lastEnd P n ≤ x := by
    rcases h1 with h | ⟨i, hi, hp, he⟩
    · (first | lia | omega)
    · have := k i hi hp; (first | lia | omega)
  (first | lia | omega)
theorem runN_le {L t lost kept more : Nat} (hL : L ≤ 3) : runN L t lost kept more ≤ 8 * (lost + kept + more) := by
  unfold runN
  refine Nat.le_trans (Nat.div_le_self _ _) ?_
  have h8 : 2 ^ L ≤ 8 := by
    match L, hL with
    | 0, _ => decide
    | 1, _ => decide
    | 2, _ => decide
    | 3, _ => decide
  have : 2 ^ L * (lost + kept + more) ≤ 8 * (lost + kept + more) := Nat.mul_le_mul_right _ h8
  omega
theorem bodA_len {L t : Nat} (hL : L ≤ 3) : ∀ {l : List Pr2} {s : Nat × Nat × List Nat}, (∀ p ∈ l, p.2.length ≤ 10) → (l.foldl (stepB L t) s).1 + (l.foldl (stepB L t) s).2.1 ≤ s.1 + s.2.1 + l.length ∧ (l.foldl (stepB L t) s).2.2.length ≤ s.2.2.length + l.length * (8 * (s.1 + s.2.1 + l.length) + 10)
  | [], s, _ => by simp
  | p :: l, s, h => by
    obtain ⟨h1, h2⟩ := bodA_len hL (l := l) (s := stepB L t s p) (t := t) fun q hq => h q (.tail _ hq)
    rw [List.foldl_cons]
    have hp := h p (.head _)
    have hr := runN_le (L := L) (t := t) (lost := s.1) (kept := s.2.1) (more := 1) hL
    have key : (stepB L t s p).1 + (stepB L t s p).2.1 ≤ s.1 + s.2.1 + 1 ∧ (stepB L t s p).2.2.length ≤ s.2.2.length + (8 * (s.1 + s.2.1 + 1) + 10) := by
      unfold stepB
      split
      · exact ⟨by show s.1 + 1 + s.2.1 ≤ _; (first | lia | omega), by show s.2.2.length ≤ _; (first | lia | omega)⟩
      split
      · exact ⟨by show s.1 + (s.2.1 + 1) ≤ _; (first | lia | omega), by show s.2.2.length ≤ _; (first | lia | omega)⟩
      · refine ⟨by show 0 + 0 ≤ _; (first | lia | omega), ?_⟩
        show (s.2.2 ++ bsl (runN L t s.1 s.2.1 1) ++ p.2).length ≤ _
        rw [List.length_append, List.length_append, bsl, List.length_replicate]; (first | lia | omega)
    generalize stepB L t s p = s' at key h1 h2 ⊢
    generalize l.foldl (stepB L t) s' = z at h1 h2 ⊢
    rw [List.length_cons]
    refine ⟨by (first | lia | omega), ?_⟩
    have e1 : 8 * (s'.1 + s'.2.1 + l.length) + 10 ≤ 8 * (s.1 + s.2.1 + (l.length + 1)) + 10 := by (first | lia | omega)
    have e2 := Nat.mul_le_mul_left l.length e1
    rw [Nat.add_mul, Nat.one_mul]
    (first | lia | omega)
end Mine
end
section
open PySem PySem.W PySem.Calls PyProof.Rows
set_option Elab.async false
set_option maxRecDepth 100000
set_option maxHeartbeats 1000000
set_option linter.unusedVariables false
set_option linter.unusedSimpArgs false
namespace Mine
noncomputable def aNats (l : List Nat) : List AV := l.map fun (n : Nat) => AV.int (n : Int)
theorem aNats_ints (l : List Nat) : aNats l = aInts (l.map Int.ofNat) := by unfold aNats aInts; rw [List.map_map]; rfl
theorem aNats_append (l k : List Nat) : aNats l ++ aNats k = aNats (l ++ k) := by unfold aNats; rw [List.map_append]
theorem aNats_len {l : List Nat} : (aNats l).length = l.length := by unfold aNats; rw [List.length_map]
theorem Keep.past {H0 H1 H2 : Hp} {mu : List Addr} (k : Keep [] H0 H1) (k2 : Keep mu H1 H2) (h : ∀ a ∈ mu, H0 a = none) : Keep [] H0 H2 := fun a o e _ =>
  k2 a o (k a o e (by simp)) (fun q => by rw [h a q] at e; cases e)
section
variable {c : Cx} {env : Env} {m : Lm} {H : Hp} {pos : Pos} {Q : AV → Lm → Hp → Prop} {QF : AF → Lm → Hp → Prop} {QB : Bool → Lm → Hp → Prop}
theorem x_c {x : Str} {av : AV} (E : EnvOk env c.L) (a : Addr) (e : H a = some (AOcell (some av))) (h : Q av m H) (hx : env.kindOf x = some .cell := by kernel_rfl) (hc : env.cells.lookup x = some a := by kernel_rfl)
    (hd : (x == ("__debug__" : Str)) = false := by decide) : WE c env (.Name x pos) m H Q := e_cell E.kind hx hc e h hd
theorem x_pow2 {e : PySem.Expr} {p : Pos} {k : Nat} (h : WE c env e m H fun av m1 H1 => ∃ t : Nat, av = .int t ∧ t ≤ 10 ∧ Q (.int ((2 ^ t : Nat) : Int)) m1 H1) : WE c env (.BinOp (.Constant (.int 2) k p) .Pow e pos) m H Q := by
  refine e_binop (e_int (h.imp fun av m1 H1 ⟨t, e, ht, q⟩ => ?_))
  subst e
  refine o_pow_int (by (first | lia | omega)) ?_ ?_
  · have : Builtin.Int.intBits 2 = 2 := by decide +kernel
    rw [this]
    have : (2 : Int) ^ 27 = 134217728 := by decide
    (first | lia | omega)
  · rw [Int.toNat_natCast]
    exact q
theorem nat_fmod (a b : Nat) : (a : Int).fmod (b : Int) = ((a % b : Nat) : Int) := by
  rw [Int.fmod_eq_emod_of_nonneg _ (Int.natCast_nonneg b), Int.natCast_emod]
theorem nat_fdiv (a b : Nat) : (a : Int).fdiv (b : Int) = ((a / b : Nat) : Int) := by
  rw [Int.fdiv_eq_ediv_of_nonneg _ (Int.natCast_nonneg b), Int.natCast_ediv]
theorem two_pos (t : Nat) : ((2 ^ t : Nat) : Int) ≠ 0 := by have := Nat.two_pow_pos t; (first | lia | omega)
end
structure TB (L a : Addr) (l : List Pr2) (mn : Nat) (H : Hp) : Prop where
  ci : H (L + 1) = some (AOcell (some (.ref a)))
  cm : H (L + 1 + 1) = some (AOcell (some (.int mn)))
  pr : PairsAt H a l
theorem TB.keep {L a : Addr} {l : List Pr2} {mn : Nat} {H H1 : Hp} (T : TB L a l mn H) (k : Keep [] H H1) : TB L a l mn H1 := ⟨k _ _ T.ci (by simp), k _ _ T.cm (by simp), T.pr.keep k⟩
noncomputable abbrev env165 (L : Addr) : Env := callEnvC fd165 L 165
theorem envOk165 (L : Addr) : EnvOk (env165 L) L := ⟨by kernel_rfl, rfl, rfl, rfl⟩
structure TA1 (L a : Addr) (l : List Pr2) (Ly t mn : Nat) (H0 : Hp) (lv sp : Addr) (i : Nat) (m : Lm) (H : Hp) : Prop where
  keep : Keep [] H0 H
  lvn : H0 lv = none
  spn : H0 sp = none
  ne : lv ≠ sp
  lves : H lv = some (.list (aNats (idxs (liveAt t l) i)))
  sps : H sp = some (.list (aNats (idxs (stopAt mn l) i)))
  lost : Has m "lost" (.int (lostA (l.take i)))
  lives : Has m "lives" (.ref lv)
  stops : Has m "stops" (.ref sp)
  layers : Has m "layers" (.int Ly)
  turns : Has m "turns" (.int t)
theorem liveAt_eq {t : Nat} {l : List Pr2} {i : Nat} {p : Pr2} (h : l[i]? = some p) : liveAt t l i = (decide (p.2.take 1 ∈ whs) && decide (0 < lostA (l.take i) % 2 ^ t)) := by unfold liveAt isW; rw [h]
theorem stopAt_eq {mn : Nat} {l : List Pr2} {i : Nat} {p : Pr2} (h : l[i]? = some p) : stopAt mn l i = (decide (0 < mn) && decide ([p.1] ∈ [[58], [10]])) := by unfold stopAt; rw [h]
theorem dotAt_eq {mn : Nat} {l : List Pr2} {i : Nat} {p : Pr2} (h : l[i]? = some p) : dotAt mn l i = (decide (0 < mn) && decide (lastOne p.2 = [46])) := by unfold dotAt; rw [h]
theorem nats_yes {P : Nat → Bool} {i : Nat} (h : P i = true) : aNats (idxs P i) ++ [AV.int i] = aNats (idxs P (i + 1)) := by
  rw [idxs_succ, h, if_pos rfl, ← aNats_append]; rfl
theorem nats_no {P : Nat → Bool} {i : Nat} (h : P i = false) : aNats (idxs P i) = aNats (idxs P (i + 1)) := by
  rw [idxs_succ, h, if_neg (by decide), List.append_nil]
theorem told1_body {w : World} {hB : Heap} (Bk : BOk w hB) {A : Around} {L a : Addr} {fs : List (Addr × Obj)} {l : List Pr2} {Ly t mn : Nat} {H0 H2 : Hp} {m1 : Lm} {lv sp it : Addr} {i : Nat} {p : Pr2} {body : List Stmt} (hA : A.handled = none) (hs : Small l) (ht : t ≤ 3)
    (T : TB L a l mn H0) (S : TA1 L a l Ly t mn H0 lv sp i m1 H2) (hp : l[i]? = some p) {io : AO} (hio : H2 it = some io) (hl1 : it ≠ lv) (hl2 : it ≠ sp) (hb : ∃ st, (fBody (stm 15))[1]? = some st ∧ (match st with | .For _ _ b _ _ => b | _ => []) = body) :
    WSS ⟨w, hB, A, L, fs⟩ (env165 L) body (("place", .int i) :: m1) H2 fun f m4 H4 => f = .next ∧ TA1 L a l Ly t mn H0 lv sp (i + 1) m4 H4 ∧ H4 it = some io := by
  have E := envOk165 L
  obtain ⟨st, hst, hbd⟩ := hb
  cases hst
  subst hbd
  obtain ⟨rs, hrs, PPs⟩ := T.pr
  have hrl : rs.length = l.length := PPs.length
  have hl12 := hs.1
  have hilt : i < l.length := by
    rcases Nat.lt_or_ge i l.length with h | h
    · exact h
    · rw [List.getElem?_eq_none h] at hp; cases hp
  have hr : rs[i]? = some rs[i] := List.getElem?_eq_getElem (by (first | lia | omega))
  obtain ⟨p', hp', hpH⟩ := PPs.get hr
  have : p' = p := Option.some.inj (hp'.symm.trans hp)
  subst this
  generalize rs[i] = r at hr hpH
  have hp10 : p'.2.length ≤ 1000000 := by have := hs.2 p' (List.mem_of_getElem? hp); (first | lia | omega)
  refine s_cons (s_unpack (e_item (fun o i => ⟨_, by with_unfolding_all rfl⟩) (x_c E (L + 1) (S.keep _ _ T.ci (by simp)) ⟨a, rfl, x_l E rfl ⟨i, _, .ref r, rfl, by (first | lia | omega), S.keep _ _ hrs (by simp), by rw [List.getElem?_map, hr]; rfl, fun v rv => ?_⟩⟩)) (by kernel_rfl) (by kernel_rfl))
  cases rv
  refine as_two E hA (by kernel_rfl) (by kernel_rfl) (.inl (S.keep _ _ hpH (by simp))) |>.mono fun _ m3 H3 ⟨e1, e2⟩ => ?_
  subst e1
  have e2 := e2.symm
  subst e2
  have hlA : lostA (l.take (i + 1)) = stepL (lostA (l.take i)) p' := lostA_take hp
  generalize hm0 : (Str.ofString "fold", AV.str p'.2) :: (Str.ofString "sign", AV.str [p'.1]) :: (Str.ofString "place", AV.int i) :: m1 = m3
  have g1 : Has m3 "lost" (.int (lostA (l.take i))) := by rw [← hm0]; exact S.lost
  have g2 : Has m3 "lives" (.ref lv) := by rw [← hm0]; exact S.lives
  have g3 : Has m3 "stops" (.ref sp) := by rw [← hm0]; exact S.stops
  have g4 : Has m3 "layers" (.int Ly) := by rw [← hm0]; exact S.layers
  have g5 : Has m3 "turns" (.int t) := by rw [← hm0]; exact S.turns
  have g6 : Has m3 "fold" (.str p'.2) := by rw [← hm0]; rfl
  have g7 : Has m3 "sign" (.str [p'.1]) := by rw [← hm0]; rfl
  have g8 : Has m3 "place" (.int i) := by rw [← hm0]; rfl
  clear hm0
  have hid : (idxs (liveAt t l) i).length ≤ i := idxs_len
  have hid2 : (idxs (stopAt mn l) i).length ≤ i := idxs_len
  refine s_cons (W.imp (Q := fun f m4 H4 => f = .next ∧ m4 = m3 ∧ Keep [lv] H2 H4 ∧ H4 lv = some (.list (aNats (idxs (liveAt t l) (i + 1))))) (s_if (t_boolop (t_and (t_cmp (x_slice_str (fun o i => ⟨_, by with_unfolding_all rfl⟩) (x_l E g6 ⟨p'.2, rfl, hp10, e_int ⟨1, rfl, ?_⟩⟩)))))) ?_)
  · refine e_list (a_cons (e_str (l := [10]) (by kernel_rfl) (a_cons (e_str (l := [9]) (by kernel_rfl) (a_cons (e_str (l := [13]) (by kernel_rfl) (a_cons (e_str (l := [32]) (by kernel_rfl) (a_nil ⟨by show 4 ≤ 1000; decide, fun q hq => o_in_strs (l := whs) hup_self ⟨_, rfl, ?_⟩⟩)))))))))
    have kq : Keep [] H2 (hup H2 q (.list [.str [10], .str [9], .str [13], .str [32]])) := Keep.hup (.inl hq)
    have elv := kq _ _ S.lves (by simp)
    rw [sl_first]
    generalize hup H2 q (.list [.str [10], .str [9], .str [13], .str [32]]) = H3 at kq elv ⊢
    cases h1 : decide (p'.2.take 1 ∈ whs) with
    | false =>
      rw [if_neg (by decide), if_neg (by decide)]
      exact s_nil ⟨rfl, rfl, kq.sub (by simp), by rw [← nats_no (by rw [liveAt_eq hp, h1]; rfl)]; exact elv⟩
    | true =>
      rw [if_pos rfl]
      refine t_and (t_cmp (e_binop (x_l E g1 (x_pow2 (x_l E g5 ⟨t, rfl, by (first | lia | omega), o_mod_int (two_pos t) (e_int (o_gt_int ⟨_, rfl, ?_⟩))⟩)))))
      rw [nat_fmod]
      by_cases h2 : 0 < lostA (l.take i) % 2 ^ t
      · rw [if_pos (decide_eq_true (by (first | lia | omega)))]
        refine t_and_nil ?_
        rw [if_pos rfl]
        refine s_cons (s_expr (x_ml _ F.slot_list_append F.type_list_append (x_l E g2 ⟨lv, _, rfl, elv, a_cons (x_l E g8 (a_nil (c_append elv (by rw [aNats_len]; (first | lia | omega)) (s_nil ?_))))⟩) rfl))
        refine ⟨rfl, rfl, (kq.sub (by simp)).trans (Keep.hup (.inr (by simp))), ?_⟩
        rw [hup_self, nats_yes (by rw [liveAt_eq hp, h1, decide_eq_true h2]; rfl)]
      · rw [if_neg (by rw [decide_eq_false (by (first | lia | omega))]; decide), if_neg (by decide)]
        exact s_nil ⟨rfl, rfl, kq.sub (by simp), by rw [← nats_no (by rw [liveAt_eq hp, decide_eq_false h2, Bool.and_false])]; exact elv⟩
  rintro f m4 H4 ⟨rfl, rfl, k4, elv⟩
  have esp : H4 sp = some (.list (aNats (idxs (stopAt mn l) i))) := k4 _ _ S.sps (by simpa using S.ne.symm)
  have K4 : Keep [] H0 H4 := S.keep.past k4 (by simp [S.lvn])
  have eit : H4 it = some io := k4 _ _ hio (by simpa using hl1)
  clear k4
  refine s_cons (W.imp (Q := fun f m5 H5 => f = .next ∧ m5 = m4 ∧ Keep [sp] H4 H5 ∧ H5 sp = some (.list (aNats (idxs (stopAt mn l) (i + 1))))) (s_if (t_boolop (t_and (t_cmp (x_c E (L + 1 + 1) (K4 _ _ T.cm (by simp)) (e_int (o_gt_int ⟨_, rfl, ?_⟩))))))) ?_)
  · by_cases h1 : 0 < mn
    · rw [if_pos (decide_eq_true (by (first | lia | omega)))]
      refine t_and (t_cmp (x_l E g7 (e_list (a_cons (e_str (l := [58]) (by kernel_rfl) (a_cons (e_str (l := [10]) (by kernel_rfl) (a_nil ⟨by show 2 ≤ 1000; decide, fun q hq => o_in_strs (l := [[58], [10]]) hup_self ⟨_, rfl, ?_⟩⟩))))))))
      have kq : Keep [] H4 (hup H4 q (.list [.str [58], .str [10]])) := Keep.hup (.inl hq)
      have esp2 := kq _ _ esp (by simp)
      generalize hup H4 q (.list [.str [58], .str [10]]) = H5 at kq esp2 ⊢
      cases h2 : decide ([p'.1] ∈ [[58], [10]]) with
      | false =>
        rw [if_neg (by decide), if_neg (by decide)]
        exact s_nil ⟨rfl, rfl, kq.sub (by simp), by rw [← nats_no (by rw [stopAt_eq hp, h2, Bool.and_false])]; exact esp2⟩
      | true =>
        rw [if_pos rfl]
        refine t_and_nil ?_
        rw [if_pos rfl]
        refine s_cons (s_expr (x_ml _ F.slot_list_append F.type_list_append (x_l E g3 ⟨sp, _, rfl, esp2, a_cons (x_l E g8 (a_nil (c_append esp2 (by rw [aNats_len]; (first | lia | omega)) (s_nil ?_))))⟩) rfl))
        refine ⟨rfl, rfl, (kq.sub (by simp)).trans (Keep.hup (.inr (by simp))), ?_⟩
        rw [hup_self, nats_yes (by rw [stopAt_eq hp, h2, decide_eq_true h1]; rfl)]
    · rw [if_neg (by rw [decide_eq_false (by (first | lia | omega))]; decide), if_neg (by decide)]
      exact s_nil ⟨rfl, rfl, Keep.refl, by rw [← nats_no (by rw [stopAt_eq hp, decide_eq_false h1, Bool.false_and])]; exact esp⟩
  rintro f m5 H5 ⟨rfl, rfl, k5, esp5⟩
  have elv5 : H5 lv = some (.list (aNats (idxs (liveAt t l) (i + 1)))) := k5 _ _ elv (by simpa using S.ne)
  have K5 : Keep [] H0 H5 := K4.past k5 (by simp [S.spn])
  have eit5 : H5 it = some io := k5 _ _ eit (by simpa using hl2)
  have fin : ∀ v : Nat, v = stepL (lostA (l.take i)) p' → ∀ m6, Has m6 "lost" (.int v) → Has m6 "lives" (.ref lv) → Has m6 "stops" (.ref sp) → Has m6 "layers" (.int Ly) → Has m6 "turns" (.int t) → TA1 L a l Ly t mn H0 lv sp (i + 1) m6 H5 := by
    intro v hv m6 q1 q2 q3 q4 q5
    exact ⟨K5, S.lvn, S.spn, S.ne, elv5, esp5, by rw [hlA, ← hv]; exact q1, q2, q3, q4, q5⟩
  refine s_cons (W.imp (Q := fun f m6 H6 => f = .next ∧ H6 = H5 ∧ TA1 L a l Ly t mn H0 lv sp (i + 1) m6 H6) (s_if (t_cmp (x_l E g6 (e_str (l := []) (by kernel_rfl) (o_eq_str ⟨_, rfl, ?_⟩))))) ?_)
  · by_cases h1 : p'.2 = []
    · rw [if_pos (by rw [h1]; rfl)]
      refine s_cons (x_as E (e_binop (x_l E g1 (e_int (o_add_int (s_nil ⟨rfl, rfl, ?_⟩))))))
      exact fin (lostA (l.take i) + 1) (by unfold stepL; rw [if_pos h1]) _ rfl g2 g3 g4 g5
    · rw [if_neg (fun q => h1 (beq_iff_eq.mp q))]
      refine s_cons (W.imp (Q := fun f m6 H6 => f = .next ∧ H6 = H5 ∧ TA1 L a l Ly t mn H0 lv sp (i + 1) m6 H6) (s_if (t_cmp (x_l E g7 (e_str (l := [92]) (by kernel_rfl) (o_ne_str ⟨_, rfl, ?_⟩))))) ?_)
      · by_cases h2 : p'.1 = 92
        · rw [if_neg (by rw [h2]; decide)]
          exact s_nil ⟨rfl, rfl, fin _ (by unfold stepL; rw [if_neg h1, if_pos h2]) _ g1 g2 g3 g4 g5⟩
        · rw [if_pos (by simpa using h2)]
          refine s_cons (x_as E (e_int (s_nil ⟨rfl, rfl, ?_⟩)))
          exact fin 0 (by unfold stepL; rw [if_neg h1, if_neg h2]) _ rfl g2 g3 g4 g5
      · rintro f m6 H6 ⟨rfl, rfl, q⟩
        exact s_nil ⟨rfl, rfl, q⟩
  · rintro f m6 H6 ⟨rfl, rfl, q⟩
    exact s_nil ⟨rfl, q, eit5⟩
theorem told1 {w : World} {hB : Heap} (Bk : BOk w hB) {A : Around} {L a : Addr} {fs : List (Addr × Obj)} {l : List Pr2} {Ly t mn : Nat} {H0 : Hp} {m : Lm} {QF : AF → Lm → Hp → Prop} (hA : A.handled = none) (hs : Small l) (ht : t ≤ 3)
    (T : TB L a l mn H0) (hL : Has m "layers" (.int Ly)) (hT : Has m "turns" (.int t))
    (h : ∀ lv sp m1 H1, TA1 L a l Ly t mn H0 lv sp l.length m1 H1 → WSS ⟨w, hB, A, L, fs⟩ (env165 L) ((fBody (stm 15)).drop 2) m1 H1 QF) : WSS ⟨w, hB, A, L, fs⟩ (env165 L) (fBody (stm 15)) m H0 QF := by
  have E := envOk165 L
  refine s_cons (s_swap (names := ["lost", "lives", "stops"]) E hA (by simp only [List.mem_cons, List.not_mem_nil, or_false]; rintro n (rfl | rfl | rfl) <;> kernel_rfl) (by kernel_rfl) (by decide) ?_)
  refine a_cons (e_int (a_cons (e_list (a_nil ⟨by decide, fun lv hlv => a_cons (e_list (a_nil ⟨by decide, fun sp hsp => a_nil ⟨rfl, ?_⟩⟩))⟩))))
  have kl : Keep [] H0 (hup H0 lv (.list [])) := Keep.hup (.inl hlv)
  have el : hup H0 lv (.list []) lv = some (.list []) := hup_self
  have hne : lv ≠ sp := fun q => by subst q; rw [el] at hsp; cases hsp
  have hsp0 : H0 sp = none := by rwa [hup_ne hne.symm] at hsp
  generalize hup H0 lv (.list []) = H1 at kl el hsp ⊢
  have ks : Keep [] H0 (hup H1 sp (.list [])) := kl.trans (Keep.hup (.inl hsp))
  have es : hup H1 sp (.list []) sp = some (.list []) := hup_self
  have el2 : hup H1 sp (.list []) lv = some (.list []) := (hup_ne hne).trans el
  generalize hup H1 sp (.list []) = H2 at ks es el2 ⊢
  have start : TA1 L a l Ly t mn H0 lv sp 0 (List.zip (["lost", "lives", "stops"] : List Str) [AV.int 0, AV.ref lv, AV.ref sp] ++ m) H2 := ⟨ks, hlv, hsp0, hne, el2, es, rfl, rfl, rfl, hL, hT⟩
  generalize List.zip (["lost", "lives", "stops"] : List Str) [AV.int 0, AV.ref lv, AV.ref sp] ++ m = m2 at start ⊢
  clear ks es el2 kl el hsp
  obtain ⟨rs, hrs, PPs⟩ := T.pr
  have hrl : rs.length = l.length := PPs.length
  have hl12 := hs.1
  refine s_cons (s_for (fun it n m1 H1 => ∃ i, i ≤ l.length ∧ n = l.length - i ∧ H0 it = none ∧ H1 it = some (.raw (riO i ((l.length : Int) - i))) ∧ TA1 L a l Ly t mn H0 lv sp i m1 H1) ?_ ?_)
  · refine x_t (T := "range") Bk E (a_cons (x_b (id := "len") Bk E (a_cons (x_c E (L + 1) (start.keep _ _ T.ci (by simp)) (a_nil (c_len_list (l := rs.map AV.ref) (start.keep _ _ hrs (by simp)) (by rw [List.length_map]; (first | lia | omega)) (a_nil (c_range1 fun r hr => ?_))))))))
    rw [List.length_map, hrl]
    have er : hup H2 r (.pat (rgP 0 l.length)) r = some (.pat (rgP 0 l.length)) := hup_self
    have kr : Keep [] H2 (hup H2 r (.pat (rgP 0 l.length))) := Keep.hup (.inl hr)
    generalize hup H2 r (.pat (rgP 0 l.length)) = H3 at er kr ⊢
    refine it_range (by (first | lia | omega)) er fun it hit => ⟨it, _, rfl, 0, Nat.zero_le _, rfl, ?_, ?_, ?_⟩
    · cases e : H0 it with
      | none => rfl
      | some o => have := kr _ _ (start.keep _ _ e (by simp)) (by simp); rw [hit] at this; cases this
    · rw [hup_self]; simp
    · have k3 : Keep [] H2 (hup H3 it (.raw (riO 0 l.length))) := kr.trans (Keep.hup (.inl hit))
      exact { start with keep := start.keep.trans k3, lves := k3 _ _ start.lves (by simp), sps := k3 _ _ start.sps (by simp) }
  rintro it n m1 H1 ⟨i, hi, rfl, hit, ei, S1⟩
  refine nx_range hA ei (fun hlt => ?_) (fun hle => ?_)
  · have hilt : i < l.length := by (first | lia | omega)
    have hl1 : it ≠ lv := ne_of ei S1.lves (by simp)
    have hl2 : it ≠ sp := ne_of ei S1.sps (by simp)
    have e2 : hup H1 it (.raw (riO ((i : Int) + 1) ((l.length : Int) - i - 1))) it = some (.raw (riO ((i : Int) + 1) ((l.length : Int) - i - 1))) := hup_self
    have S2 : TA1 L a l Ly t mn H0 lv sp i m1 (hup H1 it (.raw (riO ((i : Int) + 1) ((l.length : Int) - i - 1)))) := { S1 with keep := keep_hup2 S1.keep hit, lves := (hup_ne hl1.symm).trans S1.lves, sps := (hup_ne hl2.symm).trans S1.sps }
    generalize hup H1 it (.raw (riO ((i : Int) + 1) ((l.length : Int) - i - 1))) = H2 at e2 S2 ⊢
    refine asg_local E.kind (by kernel_rfl) E.loc ?_
    refine W.imp (told1_body Bk hA hs ht T S2 (List.getElem?_eq_getElem hilt) e2 hl1 hl2 ⟨_, rfl, rfl⟩) ?_
    rintro f m4 H4 ⟨rfl, S4, e4⟩
    refine ⟨_, ?_, i + 1, hilt, rfl, hit, ?_, S4⟩
    · (first | lia | omega)
    · rw [e4]
      congr 3
      (first | lia | omega)
  · have : i = l.length := by (first | lia | omega)
    subst this
    have hl1 : it ≠ lv := ne_of ei S1.lves (by simp)
    have hl2 : it ≠ sp := ne_of ei S1.sps (by simp)
    refine h lv sp _ _ { S1 with keep := keep_drop S1.keep hit, lves := (drop_ne hl1.symm).trans S1.lves, sps := (drop_ne hl2.symm).trans S1.sps }
end Mine
end
section
open PySem PySem.W PySem.Calls PyProof.Rows
set_option Elab.async false
set_option maxRecDepth 100000
set_option maxHeartbeats 1000000
set_option linter.unusedVariables false
set_option linter.unusedSimpArgs false
namespace Mine
theorem nats_min {l : List Nat} {x : Int} (h : x ∈ l.map Int.ofNat) (k : ∀ y ∈ l.map Int.ofNat, x ≤ y) : ∃ n : Nat, x = (n : Int) ∧ n ∈ l ∧ ∀ y ∈ l, n ≤ y := by
  obtain ⟨n, hn, rfl⟩ := List.mem_map.mp h
  exact ⟨n, rfl, hn, fun y hy => by have := k _ (List.mem_map.mpr ⟨y, hy, rfl⟩); exact Int.ofNat_le.mp this⟩
theorem nats_max {l : List Nat} {x : Int} (h : x ∈ l.map Int.ofNat) (k : ∀ y ∈ l.map Int.ofNat, y ≤ x) : ∃ n : Nat, x = (n : Int) ∧ n ∈ l ∧ ∀ y ∈ l, y ≤ n := by
  obtain ⟨n, hn, rfl⟩ := List.mem_map.mp h
  exact ⟨n, rfl, hn, fun y hy => by have := k _ (List.mem_map.mpr ⟨y, hy, rfl⟩); exact Int.ofNat_le.mp this⟩
theorem sl_last (l : List Nat) : sl l (some (-1)) none = lastOne l := by
  rw [sl_run (a := l.length - 1) (b := l.length) ?_ (Nat.sub_le _ _) (Nat.le_refl _)]
  · unfold lastOne
    rw [List.take_of_length_le]
    rw [List.length_drop]; (first | lia | omega)
  · show sliceRange (max 0 (min (-1 + (l.length : Int)) (l.length : Int))) (l.length : Int) 1 = _
    congr 1
    (first | lia | omega)
section
variable {w : World} {hB : Heap} {A : Around} {L a : Addr} {fs : List (Addr × Obj)} {l : List Pr2} {Ly t mn : Nat} {H0 H1 : Hp} {m1 : Lm} {lv sp : Addr} {QF : AF → Lm → Hp → Prop}
theorem told2 (Bk : BOk w hB) (hA : A.handled = none) (hs : Small l) (T : TB L a l mn H0) (S : TA1 L a l Ly t mn H0 lv sp l.length m1 H1)
    (h : ∀ H2, Keep [] H1 H2 → WSS ⟨w, hB, A, L, fs⟩ (env165 L) ((fBody (stm 15)).drop 3) (("head", .int (headOf l t mn)) :: m1) H2 QF) : WSS ⟨w, hB, A, L, fs⟩ (env165 L) ((fBody (stm 15)).drop 2) m1 H1 QF := by
  have E := envOk165 L
  have hl12 := hs.1
  obtain ⟨rs, hrs, PPs⟩ := T.pr
  have hrl : rs.length = l.length := PPs.length
  have i1 : (idxs (liveAt t l) l.length).length ≤ l.length := idxs_len
  have i2 : (idxs (stopAt mn l) l.length).length ≤ l.length := idxs_len
  refine s_cons (x_as E (x_b (id := "min") Bk E (a_cons (e_binop (e_binop (x_l E S.stops (W.imp (Q := fun av m2 H2 => m2 = m1 ∧ ∃ b, av = .ref b ∧ Keep [] H1 H2 ∧ H2 b = some (.list (aNats (if mn < 2 then idxs (liveAt t l) l.length else [])))) (e_ifexp (t_cmp (x_c E (L + 1 + 1) (S.keep _ _ T.cm (by simp)) (e_int (o_lt_int ⟨_, rfl, ?_⟩))))) ?_)))))))
  · by_cases h1 : mn < 2
    · rw [if_pos (decide_eq_true (by (first | lia | omega)))]
      exact x_l E S.lives ⟨rfl, lv, rfl, .refl, by rw [if_pos h1]; exact S.lves⟩
    · rw [if_neg (by rw [decide_eq_false (by (first | lia | omega))]; decide)]
      exact e_list (a_nil ⟨by decide, fun b hb => ⟨rfl, b, rfl, Keep.hup (.inl hb), by rw [if_neg h1]; exact hup_self⟩⟩)
  rintro av m2 H2 ⟨rfl, b, rfl, k2, eb⟩
  have hlen : (if mn < 2 then idxs (liveAt t l) l.length else []).length ≤ l.length := by
    split
    · exact i1
    · exact Nat.zero_le _
  generalize hlv : (if mn < 2 then idxs (liveAt t l) l.length else []) = lvs at eb hlen
  refine o_add_list (k2 _ _ S.sps (by simp)) eb (by rw [aNats_len, aNats_len]; (first | lia | omega)) fun d hd => ?_
  rw [aNats_append]
  have k3 : Keep [] H1 (hup H2 d (.list (aNats (idxs (stopAt mn l) l.length ++ lvs)))) := k2.trans (Keep.hup (.inl hd))
  have e3 : hup H2 d (.list (aNats (idxs (stopAt mn l) l.length ++ lvs))) d = some (.list (aNats (idxs (stopAt mn l) l.length ++ lvs))) := hup_self
  generalize hup H2 d (.list (aNats (idxs (stopAt mn l) l.length ++ lvs))) = H3 at k3 e3 ⊢
  refine e_list (a_cons (x_b (id := "len") Bk E (a_cons (x_c E (L + 1) (k3 _ _ (S.keep _ _ T.ci (by simp)) (by simp)) (a_nil (c_len_list (l := rs.map AV.ref) (k3 _ _ (S.keep _ _ hrs (by simp)) (by simp)) (by rw [List.length_map]; (first | lia | omega)) (a_nil ⟨by show 1 ≤ 1000; decide, fun e he => ?_⟩)))))))
  rw [List.length_map, hrl]
  have k4 : Keep [] H3 (hup H3 e (.list [.int l.length])) := Keep.hup (.inl he)
  have e4 : hup H3 e (.list [.int l.length]) e = some (.list (aNats [l.length])) := hup_self
  have e3' := k4 _ _ e3 (by simp)
  generalize hup H3 e (.list [.int l.length]) = H4 at k4 e4 e3' ⊢
  refine o_add_list e3' e4 (by rw [aNats_len, aNats_len, List.length_append, List.length_singleton]; (first | lia | omega)) fun f hf => ?_
  rw [aNats_append, aNats_ints]
  refine a_nil (c_min (l := (idxs (stopAt mn l) l.length ++ lvs ++ [l.length]).map Int.ofNat) hA hup_self (by simp) fun x hx hle => ?_)
  obtain ⟨n, rfl, hn, hmin⟩ := nats_min hx hle
  have hnh : n = headOf l t mn := by
    unfold headOf
    have hmem : ∀ i, i ∈ lvs ↔ (mn < 2 ∧ i < l.length ∧ liveAt t l i = true) := fun i => by
      rw [← hlv]
      split
      · rename_i q; rw [mem_idxs]; simp [q]
      · rename_i q; simp [q]
    refine firstIdx_of ?_ (fun i hi hp => ?_) (hmin _ (by simp))
    · rw [List.mem_append, List.mem_append, mem_idxs, hmem, List.mem_singleton] at hn
      rcases hn with (⟨h1, h2⟩ | ⟨h1, h2, h3⟩) | h1
      · exact .inr ⟨h1, by rw [h2]; rfl⟩
      · exact .inr ⟨h2, by rw [h3, decide_eq_true h1, Bool.true_and, Bool.or_true]⟩
      · exact .inl h1
    · refine hmin i ?_
      rw [List.mem_append, List.mem_append, mem_idxs, hmem]
      rcases Bool.or_eq_true_iff.mp hp with q | q
      · exact .inl (.inl ⟨hi, q⟩)
      · obtain ⟨q1, q2⟩ := Bool.and_eq_true_iff.mp q
        exact .inl (.inr ⟨of_decide_eq_true q1, hi, q2⟩)
  subst hnh
  exact h _ ((k3.trans k4).trans (Keep.hup (.inl hf)))
theorem told3 (Bk : BOk w hB) (hA : A.handled = none) (hs : Small l) (T : TB L a l mn H1) {hd : Nat} (hc : ∃ o, H1 (L + 1 + 1 + 1) = some (AOcell o)) (hh : Has m1 "head" (.int hd)) (hdl : hd ≤ l.length)
    (h : ∀ H2, Keep [] H1 H2 → WSS ⟨w, hB, A, L, fs⟩ (env165 L) ((fBody (stm 15)).drop 4) m1 (hup H2 (L + 1 + 1 + 1) (AOcell (some (.int (lastEnd (dotAt mn l) hd))))) QF) : WSS ⟨w, hB, A, L, fs⟩ (env165 L) ((fBody (stm 15)).drop 3) m1 H1 QF := by
  have E := envOk165 L
  have hl12 := hs.1
  obtain ⟨o, hc⟩ := hc
  obtain ⟨rs, hrs, PPs⟩ := T.pr
  have hrl : rs.length = l.length := PPs.length
  refine s_cons (s_assign_cell (a := L + 1 + 1 + 1) E.kind (by kernel_rfl) (by kernel_rfl) (by kernel_rfl) (x_b (id := "max") Bk E (a_cons (e_binop (e_list (a_cons (e_int (a_nil ⟨by show 1 ≤ 1000; decide, fun z hz => ?_⟩))))))))
  have k2 : Keep [] H1 (hup H1 z (.list [.int 0])) := Keep.hup (.inl hz)
  have e2 : hup H1 z (.list [.int 0]) z = some (.list (aNats [0])) := hup_self
  generalize hup H1 z (.list [.int 0]) = H2 at k2 e2 ⊢
  have gl : ∀ i, (aNats ((idxs (dotAt mn l) i).map (· + 1))).length ≤ i := fun i => by rw [aNats_len, List.length_map]; exact idxs_len
  refine x_comp [("manner", L + 1 + 1), ("items", L + 1)] (fun it acc n ys H3 => ∃ i : Nat, CI H2 (hd) it acc n ys H3 (aNats ((idxs (dotAt mn l) i).map (· + 1))) (.raw (riO i ((hd : Int) - i))) i)
    (fun acc H3 => H3 acc = some (.list (aNats ((idxs (dotAt mn l) hd).map (· + 1)))) ∧ Keep [] H2 H3) ?_ ?_ ?_
  · refine x_t (T := "range") Bk E (a_cons (x_l E hh (a_nil (c_range1 fun r hr => ?_))))
    have er : hup H2 r (.pat (rgP 0 hd)) r = some (.pat (rgP 0 hd)) := hup_self
    have kr : Keep [] H2 (hup H2 r (.pat (rgP 0 hd))) := Keep.hup (.inl hr)
    generalize hup H2 r (.pat (rgP 0 hd)) = H3 at er kr ⊢
    refine it_range (by (first | lia | omega)) er fun it hit => ⟨it, hd, rfl, fun acc ha => ?_, fun acc H4 ⟨e4, k4⟩ => ?_⟩
    · have hne : acc ≠ it := fun q => by subst q; rw [hup_self] at ha; cases ha
      have ha0 : H3 acc = none := by rwa [hup_ne hne] at ha
      have back : ∀ {b}, H3 b = none → H2 b = none := fun {b} e => by
        cases q : H2 b with
        | none => rfl
        | some o => rw [kr _ _ q (by simp)] at e; cases e
      exact ⟨0, Nat.zero_le _, rfl, rfl, by rw [hup_ne hne.symm, hup_self]; simp, hup_self, kr.trans (keep_hup2 (Keep.hup (.inl hit)) ha0), back hit, back ha0, hne.symm⟩
    · have hz4 := k4 _ _ e2 (by simp)
      have hgl := gl hd
      refine o_add_list hz4 e4 (by rw [aNats_len, List.length_singleton]; (first | lia | omega)) fun f hf => ?_
      rw [aNats_append, aNats_ints]
      refine a_nil (c_max (l := ([0] ++ (idxs (dotAt mn l) hd).map (· + 1)).map Int.ofNat) hA hup_self (by simp) fun x hx hle => ?_)
      obtain ⟨n, rfl, hn, hmax⟩ := nats_max hx hle
      have hnh : n = lastEnd (dotAt mn l) hd := by
        refine lastEnd_of ?_ fun i hi hp => hmax _ ?_
        · rw [List.mem_append, List.mem_singleton, List.mem_map] at hn
          rcases hn with h1 | ⟨i, h1, h2⟩
          · exact .inl h1
          · rw [mem_idxs] at h1
            exact .inr ⟨i, h1.1, h1.2, h2.symm⟩
        · rw [List.mem_append, List.mem_map]
          exact .inr ⟨i, mem_idxs.mpr ⟨hi, hp⟩, rfl⟩
      subst hnh
      have k5 := ((k2.trans k4).trans (Keep.hup (mu := []) (o := .list (aInts (([0] ++ (idxs (dotAt mn l) hd).map (· + 1)).map Int.ofNat))) (.inl hf)))
      exact ⟨⟨o, k5 _ _ hc (by simp)⟩, h _ k5⟩
  · rintro C fs' it acc n H3 ⟨i, h1, h2, h3, h4, h5, h6, h7, h8, h9⟩
    exact it_range_self h4 ⟨rfl, i, h1, h2, h3, h4, h5, h6, h7, h8, h9⟩
  · rintro C fs' it acc n ys H3 ⟨i, h1, rfl, rfl, h4, h5, h6, h7, h8, h9⟩
    refine nx_range hA h4 (fun hlt => ?_) (fun hle => ?_)
    · have hilt : i < hd := by (first | lia | omega)
      have k4 : Keep [] H2 (hup H3 it (.raw (riO ((i : Int) + 1) ((hd : Int) - i - 1)))) := keep_hup2 h6 h7
      have ei : hup H3 it (.raw (riO ((i : Int) + 1) ((hd : Int) - i - 1))) it = some (.raw (riO ((i : Int) + 1) ((hd : Int) - i - 1))) := hup_self
      have ea : hup H3 it (.raw (riO ((i : Int) + 1) ((hd : Int) - i - 1))) acc = some (.list (aNats ((idxs (dotAt mn l) i).map (· + 1)))) := (hup_ne h9.symm).trans h5
      generalize hup H3 it (.raw (riO ((i : Int) + 1) ((hd : Int) - i - 1))) = H4 at k4 ei ea ⊢
      have ei' : H4 it = some (.raw (riO ((i + 1 : Nat) : Int) ((hd : Int) - ((i + 1 : Nat) : Int)))) := by
        rw [ei]
        congr 3
        (first | lia | omega)
      have hp : l[i]? = some l[i] := List.getElem?_eq_getElem (by (first | lia | omega))
      have hr : rs[i]? = some rs[i] := List.getElem?_eq_getElem (by (first | lia | omega))
      obtain ⟨p, hp', hpH⟩ := PPs.get hr
      generalize rs[i] = r at hr hpH
      have hp10 : p.2.length ≤ 1000000 := by have := hs.2 p (List.mem_of_getElem? hp'); (first | lia | omega)
      have K4 := k2.trans k4
      have no : ∀ {H5 : Hp}, dotAt mn l i = false → H5 = H4 → ∃ k, k < hd - i ∧ ∃ i' : Nat, CI H2 hd it acc k (aNats ((idxs (dotAt mn l) i).map (· + 1))) H5 (aNats ((idxs (dotAt mn l) i').map (· + 1))) (.raw (riO i' ((hd : Int) - i'))) i' := fun hd0 e => by
        subst e
        exact ⟨_, by (first | lia | omega), i + 1, hilt, rfl, by rw [idxs_succ, hd0, if_neg (by decide), List.append_nil], ei', ea, k4, h7, h8, h9⟩
      refine x_asg (compE E rfl) ?_
      refine ifs_one (t_boolop (t_and (t_cmp (x_c (compE E rfl) (L + 1 + 1) (K4 _ _ T.cm (by simp)) (e_int (o_gt_int ⟨_, rfl, ?_⟩))))))
      by_cases h0 : 0 < mn
      · rw [if_pos (decide_eq_true (by (first | lia | omega)))]
        refine t_and (t_cmp (x_slice_str (fun o i => ⟨_, by with_unfolding_all rfl⟩) (e_item (fun o i => ⟨_, by with_unfolding_all rfl⟩) (e_item (fun o i => ⟨_, by with_unfolding_all rfl⟩) (x_c (compE E rfl) (L + 1) (K4 _ _ T.ci (by simp)) ⟨a, rfl, x_l (compE E rfl) rfl ⟨i, _, .ref r, rfl, by (first | lia | omega), K4 _ _ hrs (by simp), by rw [List.getElem?_map, hr]; rfl, ⟨r, rfl, e_int ⟨1, _, .str p.2, rfl, by decide, K4 _ _ hpH (by simp), rfl, ⟨p.2, rfl, hp10, e_neg (e_int ⟨1, rfl, _, rfl, wp_none ?_⟩)⟩⟩⟩⟩⟩)))))
        rw [sl_last]
        refine e_str (l := [46]) (by kernel_rfl) (o_eq_str ⟨_, rfl, ?_⟩)
        by_cases h2 : lastOne p.2 = [46]
        · rw [if_pos (beq_iff_eq.mpr h2)]
          refine t_and_nil ?_
          rw [if_pos rfl]
          have hgl := gl i
          refine e_binop (x_l (compE E rfl) rfl (e_int (o_add_int ⟨ea, by (first | lia | omega), ?_⟩)))
          refine ⟨_, ?_, i + 1, hilt, rfl, ?_, (hup_ne h9).trans ei', hup_self, keep_hup2 k4 h8, h7, h8, h9⟩
          · (first | lia | omega)
          · rw [idxs_succ, dotAt_eq hp', decide_eq_true h0, decide_eq_true h2, Bool.and_true, if_pos rfl, List.map_append, ← aNats_append]; rfl
        · rw [if_neg (fun q => h2 (beq_iff_eq.mp q)), if_neg (by decide)]
          exact no (by rw [dotAt_eq hp', decide_eq_false h2, Bool.and_false]) rfl
      · rw [if_neg (by rw [decide_eq_false (by (first | lia | omega))]; decide), if_neg (by decide)]
        exact no (by rw [dotAt_eq hp', decide_eq_false h0, Bool.false_and]) rfl
    · have : i = hd := by (first | lia | omega)
      subst this
      exact ⟨(drop_ne h9.symm).trans h5, keep_drop h6 h7⟩
end
end Mine
end
section
open PySem PySem.W PySem.Calls PyProof.Rows
set_option Elab.async false
set_option maxRecDepth 100000
set_option maxHeartbeats 1000000
set_option linter.unusedVariables false
set_option linter.unusedSimpArgs false
namespace Mine
theorem filter_take_succ {P : Nat → Bool} {l : List Nat} {i x : Nat} (h : l[i]? = some x) : (l.take (i + 1)).filter P = (l.take i).filter P ++ (if P x then [x] else []) := by
  rw [take_succ' h, List.filter_append, List.filter_cons, List.filter_nil]
section
variable {w : World} {hB : Heap} {A : Around} {L a : Addr} {fs : List (Addr × Obj)} {l : List Pr2} {Ly t mn : Nat} {H0 H1 : Hp} {m1 : Lm} {lv sp : Addr} {QF : AF → Lm → Hp → Prop}
theorem told4 (Bk : BOk w hB) (hA : A.handled = none) {hd st : Nat} (hdl : hd ≤ l.length) (hl12 : l.length ≤ 12) (hlv : H1 lv = some (.list (aNats (idxs (liveAt t l) l.length)))) (hc : H1 (L + 1 + 1 + 1) = some (AOcell (some (.int st)))) (hh : Has m1 "head" (.int hd)) (hlm : Has m1 "lives" (.ref lv))
    (h : ∀ H2, Keep [] H1 H2 → WSS ⟨w, hB, A, L, fs⟩ (env165 L) ((fBody (stm 15)).drop 5) (("end", .int (firstIdx (fun i => liveAt t l i && decide (st ≤ i)) hd)) :: m1) H2 QF) : WSS ⟨w, hB, A, L, fs⟩ (env165 L) ((fBody (stm 15)).drop 4) m1 H1 QF := by
  have E := envOk165 L
  have hll : (idxs (liveAt t l) l.length).length ≤ l.length := idxs_len
  have hmem : ∀ i, i ∈ idxs (liveAt t l) l.length ↔ i < l.length ∧ liveAt t l i = true := fun i => mem_idxs
  generalize hlvs : idxs (liveAt t l) l.length = lvs at hlv hll hmem
  refine s_cons (x_as E (x_b (id := "min") Bk E (a_cons (e_binop ?_))))
  have gl : ∀ i, (aNats ((lvs.take i).filter fun i => decide (st ≤ i))).length ≤ lvs.length := fun i => by
    rw [aNats_len]
    refine Nat.le_trans (List.length_filter_le _ _) ?_
    rw [List.length_take]; (first | lia | omega)
  refine x_comp [("start", L + 1 + 1 + 1)] (fun it acc n ys H3 => ∃ i : Nat, CI H1 (lvs.length) it acc n ys H3 (aNats ((lvs.take i).filter fun i => decide (st ≤ i))) (.pat (liP lv i)) i)
    (fun acc H3 => H3 acc = some (.list (aNats (lvs.filter fun i => decide (st ≤ i)))) ∧ Keep [] H1 H3) ?_ ?_ ?_
  · refine x_l E hlm (it_list hlv fun it hit => ⟨it, lvs.length, rfl, fun acc ha => ?_, fun acc H4 ⟨e4, k4⟩ => ?_⟩)
    · have hne : acc ≠ it := fun q => by subst q; rw [hup_self] at ha; cases ha
      have ha0 : H1 acc = none := by rwa [hup_ne hne] at ha
      exact ⟨0, Nat.zero_le _, rfl, rfl, by rw [hup_ne hne.symm, hup_self], hup_self, keep_hup2 (Keep.hup (.inl hit)) ha0, hit, ha0, hne.symm⟩
    · refine e_list (a_cons (x_l E hh (a_nil ⟨by show 1 ≤ 1000; decide, fun e he => ?_⟩)))
      have k5 : Keep [] H4 (hup H4 e (.list [.int hd])) := Keep.hup (.inl he)
      have e5 : hup H4 e (.list [.int hd]) e = some (.list (aNats [hd])) := hup_self
      have e4' := k5 _ _ e4 (by simp)
      generalize hup H4 e (.list [.int hd]) = H5 at k5 e5 e4' ⊢
      have hfl : (lvs.filter fun i => decide (st ≤ i)).length ≤ lvs.length := List.length_filter_le _ _
      refine o_add_list e4' e5 (by rw [aNats_len, aNats_len, List.length_singleton]; (first | lia | omega)) fun f hf => ?_
      rw [aNats_append, aNats_ints]
      refine a_nil (c_min (l := ((lvs.filter fun i => decide (st ≤ i)) ++ [hd]).map Int.ofNat) hA hup_self (by simp) fun x hx hle => ?_)
      obtain ⟨n, rfl, hn, hmin⟩ := nats_min hx hle
      have hnd := hmin hd (by simp)
      have hnh : n = firstIdx (fun i => liveAt t l i && decide (st ≤ i)) hd := by
        refine firstIdx_of ?_ (fun i hi hp => hmin i ?_) hnd
        · rw [List.mem_append, List.mem_singleton, List.mem_filter, hmem] at hn
          rcases hn with ⟨⟨h1, h2⟩, h3⟩ | h1
          · rcases Nat.lt_or_ge n hd with q | q
            · exact .inr ⟨q, by show (liveAt t l n && decide (st ≤ n)) = true; rw [h2, h3]; rfl⟩
            · exact .inl (by (first | lia | omega))
          · exact .inl h1
        · obtain ⟨q1, q2⟩ := Bool.and_eq_true_iff.mp hp
          rw [List.mem_append, List.mem_filter, hmem]
          exact .inl ⟨⟨by (first | lia | omega), q1⟩, q2⟩
      subst hnh
      exact h _ ((k4.trans k5).trans (Keep.hup (.inl hf)))
  · rintro C fs' it acc n H3 ⟨i, h1, h2, h3, h4, h5, h6, h7, h8, h9⟩
    exact it_self h4 ⟨rfl, i, h1, h2, h3, h4, h5, h6, h7, h8, h9⟩
  · rintro C fs' it acc n ys H3 ⟨i, h1, rfl, rfl, h4, h5, h6, h7, h8, h9⟩
    refine nx_list hA h4 (h6 _ _ hlv (by simp)) (fun x hx => ?_) (fun hle => ?_)
    · unfold aNats at hx
      rw [List.getElem?_map] at hx
      cases hq : lvs[i]? with
      | none => rw [hq] at hx; cases hx
      | some j =>
      rw [hq] at hx; cases hx
      have hilt : i < lvs.length := by
        rcases Nat.lt_or_ge i lvs.length with h | h
        · exact h
        · rw [List.getElem?_eq_none h] at hq; cases hq
      have k4 : Keep [] H1 (hup H3 it (.pat (liP lv (i + 1)))) := keep_hup2 h6 h7
      have ei : hup H3 it (.pat (liP lv (i + 1))) it = some (.pat (liP lv (i + 1))) := hup_self
      have ea : hup H3 it (.pat (liP lv (i + 1))) acc = some (.list (aNats ((lvs.take i).filter fun i => decide (st ≤ i)))) := (hup_ne h9.symm).trans h5
      generalize hup H3 it (.pat (liP lv (i + 1))) = H4 at k4 ei ea ⊢
      refine x_asg (compE E rfl) ?_
      refine ifs_one (t_cmp (x_l (compE E rfl) rfl (x_c (compE E rfl) (L + 1 + 1 + 1) (k4 _ _ hc (by simp)) (o_ge_int ⟨_, rfl, ?_⟩))))
      by_cases h2 : st ≤ j
      · rw [if_pos (decide_eq_true (by (first | lia | omega)))]
        have hgl := gl i
        refine x_l (compE E rfl) rfl ⟨ea, by (first | lia | omega), _, ?_, i + 1, hilt, rfl, ?_, (hup_ne h9).trans ei, hup_self, keep_hup2 k4 h8, h7, h8, h9⟩
        · (first | lia | omega)
        · rw [filter_take_succ hq, decide_eq_true h2, if_pos rfl, ← aNats_append]; rfl
      · rw [if_neg (by rw [decide_eq_false (by (first | lia | omega))]; decide)]
        exact ⟨_, by (first | lia | omega), i + 1, hilt, rfl, by rw [filter_take_succ hq, decide_eq_false h2, if_neg (by decide), List.append_nil], ei, ea, k4, h7, h8, h9⟩
    · have : i = lvs.length := by rw [aNats_len] at hle; (first | lia | omega)
      subst this
      rw [List.take_length] at h5
      exact ⟨(drop_ne h9.symm).trans h5, keep_drop h6 h7⟩
end
end Mine
end
section
open PySem PySem.W PySem.Calls PyProof.Rows
set_option Elab.async false
set_option maxRecDepth 100000
set_option maxHeartbeats 1000000
set_option linter.unusedVariables false
set_option linter.unusedSimpArgs false
namespace Mine
theorem lsl_run {α : Type} (l : List α) {lo hi : Option Int} {a b : Nat} (hab : a ≤ b) (h : sliceBounds lo hi none l.length = (((min a l.length : Nat) : Int), ((min b l.length : Nat) : Int), 1)) : lsl l lo hi none = (l.drop a).take (b - a) := by
  unfold lsl
  rw [h]
  dsimp only
  rw [range1 (by (first | lia | omega)), pick_run]
  rcases Nat.le_total a l.length with h1 | h1
  · rw [Nat.min_eq_left h1]
    rcases Nat.le_total b l.length with h2 | h2
    · rw [Nat.min_eq_left h2]
    · rw [Nat.min_eq_right h2, List.take_of_length_le (by rw [List.length_drop]; (first | lia | omega)), List.take_of_length_le (by rw [List.length_drop]; (first | lia | omega))]
  · rw [Nat.min_eq_right h1, List.drop_of_length_le (Nat.le_refl _), List.drop_of_length_le h1, List.take_nil, List.take_nil]
theorem clip_nat {a n : Nat} : max (0 : Int) (min (if (a : Int) < 0 then (a : Int) + n else (a : Int)) (n : Int)) = ((min a n : Nat) : Int) := by
  rw [if_neg (by (first | lia | omega))]; (first | lia | omega)
theorem bounds_two {a b n : Nat} : sliceBounds (some (a : Int)) (some (b : Int)) none n = (((min a n : Nat) : Int), ((min b n : Nat) : Int), 1) := by
  rw [← clip_nat, ← clip_nat]; rfl
theorem bounds_upto {b n : Nat} : sliceBounds none (some (b : Int)) none n = (((min 0 n : Nat) : Int), ((min b n : Nat) : Int), 1) := by
  rw [← clip_nat (a := b), Nat.zero_min]; rfl
theorem lsl_two {α : Type} (l : List α) {a b : Nat} (hab : a ≤ b) : lsl l (some (a : Int)) (some (b : Int)) none = (l.drop a).take (b - a) := lsl_run l hab bounds_two
theorem lsl_upto {α : Type} (l : List α) {b : Nat} : lsl l none (some (b : Int)) none = l.take b := by
  rw [lsl_run l (a := 0) (b := b) (Nat.zero_le _) bounds_upto]; simp
theorem s_for2 {c : Cx} {env : Env} {m : Lm} {H : Hp} {pos tp : Pos} {QF : AF → Lm → Hp → Prop} {elts : List PySem.Expr} {tk : Nat} {iter : PySem.Expr} {body : List Stmt} (I : Addr → Nat → Lm → Hp → Prop)
    (h : WE c env iter m H fun av m1 H1 => WIter c av m1 H1 fun iv m2 H2 => ∃ it n, iv = .ref it ∧ I it n m2 H2)
    (turn : ∀ it n m1 H1, I it n m1 H1 → WNext c it m1 H1 fun r m2 H2 => match r with
      | none => QF .next m2 H2
      | some a => (∃ (T d : Addr) (i : Nat), a = .ref T ∧ H2 it = some (.pat (liP d i))) ∧ WAsg c env (.Tuple elts tk tp) a m2 H2 fun _ m3 H3 => WSS c env body m3 H3 fun f m4 H4 => match f with
        | .next | .cont => ∃ k, k < n ∧ I it k m4 H4
        | .brk => QF .next m4 H4
        | .ret v => QF (.ret v) m4 H4)
    (hs : ∀ x, foldedSetIterable iter env x = pure x := by intro _; with_unfolding_all rfl) :
    WS c env (.For (.Tuple elts tk tp) iter body [] pos) m H QF := fun s S => by
  refine wpAny_For (wmono (h s S) (fun x s1 av m1 H1 r1 S1 z1 q1 => wmono (q1 x r1 s1 S1) (fun itv s2 iv m2 H2 r2 S2 z2 ⟨it, n, e, q2⟩ => ?_) fun _ _ x => x) fun _ _ x => x) hs
  subst e; cases r2
  refine codeAny_mono (codeAny_forLoop_any (R := fun r s' => match r with | .ok f => ∃ b m' H', repF b f ∧ ASt c m' H' s'.heap ∧ Rest s s' ∧ QF b m' H' | .error _ => False)
    (fun k s' => ∃ m' H', ASt c m' H' s'.heap ∧ Rest s s' ∧ I it k m' H') (fun k s3 ⟨m3, H3, S3, z3, q3⟩ => ?_) n ⟨m2, H2, S2, z1.trans z2, q2⟩) fun r s' hr => ?_
  · have none_err : ∀ {α : Type} {t : Sem α} {P : α → Shared → Prop} {s : Shared}, wpAny (model pw c.w) c.A t P (fun _ _ => False) s → wpAny (model pw c.w) c.A t P (notedBy (model pw c.w) c.A env fun e s' => (False : Prop)) s := fun h => wpAny_mono h (fun _ _ x => x) fun _ _ x => x.elim
    refine none_err (wmono (turn it k m3 H3 q3 s3 S3) (fun r s4 b m4 H4 r4 S4 z4 q4 => ?_) fun _ _ x => x)
    cases b with
    | none =>
      cases r4
      exact wpAny_execs_nil ⟨.next, m4, H4, rfl, S4, z3.trans z4, q4⟩
    | some a =>
      obtain ⟨x, rfl, rx⟩ := r4
      obtain ⟨⟨T, d, i, rfl, ei⟩, q4⟩ := q4
      obtain ⟨oi, hi1, hi2⟩ := S4.at_ ei
      cases rx
      refine none_err (wpAny_letOwnedTupleGo_listiter (i := i) (l := d) ⟨_, hi1, hi2.1, hi2.2⟩ (none_err (wmono (q4 (.ref T) rfl s4 S4) (fun _ s5 _ m5 H5 _ S5 z5 q5 => none_err (wmono (q5 s5 S5) (fun f s6 b m6 H6 r6 S6 z6 q6 => ?_) fun _ _ x => x)) fun _ _ x => x)))
      have zz := ((z3.trans z4).trans z5).trans z6
      cases b with
      | next => cases r6; obtain ⟨k', h1, h2⟩ := q6; exact ⟨k', h1, m6, H6, S6, zz, h2⟩
      | cont => cases r6; obtain ⟨k', h1, h2⟩ := q6; exact ⟨k', h1, m6, H6, S6, zz, h2⟩
      | brk => cases r6; exact ⟨.next, m6, H6, rfl, S6, zz, q6⟩
      | ret v => obtain ⟨v', rfl, rv⟩ := r6; exact ⟨.ret v, m6, H6, ⟨v', rfl, rv⟩, S6, zz, q6⟩
  · rcases r with e | f
    · exact hr.elim
    · exact hr
theorem PP.drop {H : Hp} {rs l} (h : PP H rs l) : ∀ k, PP H (rs.drop k) (l.drop k) := by
  induction h with
  | nil => intro k; simp; exact .nil
  | cons e h ih =>
    intro k
    cases k with
    | zero => exact .cons e h
    | succ k => simpa using ih k
theorem PP.take {H : Hp} {rs l} (h : PP H rs l) : ∀ k, PP H (rs.take k) (l.take k) := by
  induction h with
  | nil => intro k; simp; exact .nil
  | cons e h ih =>
    intro k
    cases k with
    | zero => exact .nil
    | succ k => simpa using PP.cons e (ih k)
theorem runN_int {L t lost kept more : Nat} (hL : 0 < 2 ^ L) (hm : more ≤ 1) : (((2 ^ L : Nat) : Int) * ((lost : Int) + (kept : Int) + (more : Int)) - (lost : Int) - (more : Int)).fdiv ((2 ^ t : Nat) : Int) = (runN L t lost kept more : Nat) := by
  have h1 : lost + more ≤ 2 ^ L * (lost + kept + more) := Nat.le_trans (by omega) (Nat.le_mul_of_pos_left (lost + kept + more) hL)
  have h2 : ((2 ^ L : Nat) : Int) * ((lost : Int) + (kept : Int) + (more : Int)) - (lost : Int) - (more : Int) = ((2 ^ L * (lost + kept + more) - lost - more : Nat) : Int) := by
    have : ((2 ^ L * (lost + kept + more) : Nat) : Int) = ((2 ^ L : Nat) : Int) * ((lost : Int) + (kept : Int) + (more : Int)) := by
      rw [Int.natCast_mul, Int.natCast_add, Int.natCast_add]
    omega
  rw [h2, nat_fdiv]
  rfl
theorem rp_bsl (n : Nat) : rp [92] (n : Int) = bsl n := by
  unfold rp bsl
  rw [Int.toNat_natCast, flat_rep]
theorem x_run {c : Cx} {L : Addr} {m : Lm} {H : Hp} {Q : AV → Lm → Hp → Prop} {p0 p1 p2 p3 p4 p5 p6 p7 p8 p9 q1 q2 q3 q4 q5 q6 q7 : Pos} {k1 k2 k3 : Nat} {X1 X2 : PySem.Expr} {Ly t lost kept more : Nat} (E : EnvOk (env165 L) c.L) (hLy : Ly ≤ 3) (ht : t ≤ 3) (hm : more ≤ 1) (hlk : lost + kept ≤ 12)
    (h1 : ∀ {Q : AV → Lm → Hp → Prop}, Q (.int more) m H → WE c (env165 L) X1 m H Q) (h2 : ∀ {Q : AV → Lm → Hp → Prop}, Q (.int more) m H → WE c (env165 L) X2 m H Q)
    (hl : Has m "lost" (.int lost)) (hk : Has m "kept" (.int kept)) (hly : Has m "layers" (.int Ly)) (htu : Has m "turns" (.int t)) (h : Q (.str (bsl (runN Ly t lost kept more))) m H) :
    WE c (env165 L) (.BinOp (.Constant (.str "\\") k1 p1) .Mult (.BinOp (.BinOp (.BinOp (.BinOp (.BinOp (.Constant (.int 2) k2 p2) .Pow (.Name "layers" p3) p4) .Mult (.BinOp (.BinOp (.Name "lost" p5) .Add (.Name "kept" p6) p7) .Add X1 p8) p9) .Sub (.Name "lost" q1) q2) .Sub X2 q3) .FloorDiv (.BinOp (.Constant (.int 2) k3 q5) .Pow (.Name "turns" q4) q6) q7) p0) m H Q := by
  have hr := runN_le (L := Ly) (t := t) (lost := lost) (kept := kept) (more := more) hLy
  refine e_binop (e_str (l := [92]) (by kernel_rfl) (e_binop (e_binop (e_binop (e_binop (x_pow2 (x_l E hly ⟨Ly, rfl, by (first | lia | omega), ?_⟩)))))))
  refine e_binop (e_binop (x_l E hl (x_l E hk (o_add_int (h1 (o_add_int (o_mul_int (.of_left (intBits_le_64 ?_ ?_)) ?_)))))))
  · have := Nat.two_pow_pos Ly; have : (2 : Int) ^ 64 = 18446744073709551616 := by decide
    (first | lia | omega)
  · have h8 : 2 ^ Ly ≤ 8 := Nat.pow_le_pow_right (by decide) hLy
    have : (2 : Int) ^ 64 = 18446744073709551616 := by decide
    (first | lia | omega)
  refine x_l E hl (o_sub_int (h2 (o_sub_int (x_pow2 (x_l E htu ⟨t, rfl, by (first | lia | omega), o_fdiv_int (two_pos t) ?_ ?_⟩)))))
  · match t, ht with
    | 0, _ => kernel_rfl
    | 1, _ => kernel_rfl
    | 2, _ => kernel_rfl
    | 3, _ => kernel_rfl
  rw [runN_int (Nat.two_pow_pos Ly) hm]
  refine o_mul_str (by rw [Int.toNat_natCast, List.length_singleton]; (first | lia | omega)) (by (first | lia | omega)) (by (first | lia | omega)) ?_
  rw [rp_bsl]
  exact h
structure TA2 (Ly t : Nat) (cut : List Pr2) (en : Nat) (i : Nat) (m : Lm) : Prop where
  told : Has m "told" (.str (bodA Ly t (cut.take i)).2.2)
  lost : Has m "lost" (.int (bodA Ly t (cut.take i)).1)
  kept : Has m "kept" (.int (bodA Ly t (cut.take i)).2.1)
  layers : Has m "layers" (.int Ly)
  turns : Has m "turns" (.int t)
  en : Has m "end" (.int en)
section
variable {w : World} {hB : Heap} {A : Around} {L a : Addr} {fs : List (Addr × Obj)} {l : List Pr2} {Ly t mn : Nat} {H0 H1 : Hp} {m1 : Lm} {lv sp : Addr} {QF : AF → Lm → Hp → Prop}
theorem told5_body (Bk : BOk w hB) (hA : A.handled = none) {cut : List Pr2} {en i : Nat} {p : Pr2} {body : List Stmt} {r : Addr} (hLy : Ly ≤ 3) (ht : t ≤ 3) (hc12 : cut.length ≤ 12) (hf : ∀ q ∈ cut, q.2.length ≤ 10) (S : TA2 Ly t cut en i m1) (hp : cut[i]? = some p)
    (hsg : Has m1 "sign" (.str [p.1])) (hfo : Has m1 "fold" (.str p.2)) (hb : ∃ st, (fBody (stm 15))[6]? = some st ∧ (match st with | .For _ _ b _ _ => b | _ => []) = body) :
    WSS ⟨w, hB, A, L, fs⟩ (env165 L) body m1 H1 fun f m4 H4 => f = .next ∧ Keep [] H1 H4 ∧ TA2 Ly t cut en (i + 1) m4 := by
  have E := envOk165 L
  obtain ⟨st, hst, hbd⟩ := hb
  cases hst
  subst hbd
  have hbl := bodA_len (L := Ly) (t := t) hLy (l := cut.take i) (s := (0, 0, [])) fun q hq => hf q (List.mem_of_mem_take hq)
  have hbs : bodA Ly t (cut.take (i + 1)) = stepB Ly t (bodA Ly t (cut.take i)) p := bodA_take hp
  obtain ⟨s1, s2, s3, s4, s5, s6⟩ := S
  have htk : (cut.take i).length ≤ 12 := by rw [List.length_take]; (first | lia | omega)
  change (bodA Ly t (cut.take i)).1 + (bodA Ly t (cut.take i)).2.1 ≤ 0 + 0 + _ ∧ (bodA Ly t (cut.take i)).2.2.length ≤ 0 + _ at hbl
  generalize bodA Ly t (cut.take i) = z at hbl hbs s1 s2 s3
  obtain ⟨lost, kept, txt⟩ := z
  dsimp only at hbl s1 s2 s3
  have hpl : p.2.length ≤ 10 := hf p (List.mem_of_getElem? hp)
  have hlk : lost + kept ≤ 12 := by (first | lia | omega)
  have htx : txt.length ≤ 5000 := by
    have h1 := hbl.2
    have h2 : (cut.take i).length * (8 * (0 + 0 + (cut.take i).length) + 10) ≤ 12 * (8 * (0 + 0 + 12) + 10) := Nat.mul_le_mul htk (by (first | lia | omega))
    (first | lia | omega)
  refine s_cons (W.imp (Q := fun f m4 H4 => f = .next ∧ Keep [] H1 H4 ∧ TA2 Ly t cut en (i + 1) m4) (s_if (t_cmp (x_l E hfo (e_str (l := []) (by kernel_rfl) (o_eq_str ⟨_, rfl, ?_⟩))))) ?_)
  · by_cases h1 : p.2 = []
    · rw [if_pos (by rw [h1]; rfl)]
      refine s_cons (x_as E (e_binop (x_l E s2 (e_int (o_add_int (s_nil ⟨rfl, .refl, ?_⟩))))))
      have hz : stepB Ly t (lost, kept, txt) p = (lost + 1, kept, txt) := by unfold stepB; rw [if_pos h1]
      rw [hz] at hbs
      exact ⟨by rw [hbs]; exact s1, by rw [hbs]; rfl, by rw [hbs]; exact s3, s4, s5, s6⟩
    · rw [if_neg (fun q => h1 (beq_iff_eq.mp q))]
      refine s_cons (W.imp (Q := fun f m4 H4 => f = .next ∧ Keep [] H1 H4 ∧ TA2 Ly t cut en (i + 1) m4) (s_if (t_cmp (x_l E hsg (e_str (l := [92]) (by kernel_rfl) (o_eq_str ⟨_, rfl, ?_⟩))))) ?_)
      · by_cases h2 : p.1 = 92
        · rw [if_pos (by rw [h2]; rfl)]
          refine s_cons (x_as E (e_binop (x_l E s3 (e_int (o_add_int (s_nil ⟨rfl, .refl, ?_⟩))))))
          have hz : stepB Ly t (lost, kept, txt) p = (lost, kept + 1, txt) := by unfold stepB; rw [if_neg h1, if_pos h2]
          rw [hz] at hbs
          exact ⟨by rw [hbs]; exact s1, by rw [hbs]; exact s2, by rw [hbs]; rfl, s4, s5, s6⟩
        · rw [if_neg (by simpa using h2)]
          have hz : stepB Ly t (lost, kept, txt) p = (0, 0, txt ++ bsl (runN Ly t lost kept 1) ++ p.2) := by unfold stepB; rw [if_neg h1, if_neg h2]
          rw [hz] at hbs
          have hr := runN_le (L := Ly) (t := t) (lost := lost) (kept := kept) (more := 1) hLy
          refine s_cons ?_
          with_reducible refine s_assign E.kind ?_ E.loc ?_ ?_
          · kernel_rfl
          · kernel_rfl
          refine e_binop (e_binop (x_l E s1 (x_run (more := 1) E hLy ht (by decide) hlk (fun h => e_int h) (fun h => e_int h) s2 s3 s4 s5 (o_add_str ?_ (x_l E hfo (o_add_str ?_ ?_))))))
          · rw [bsl, List.length_replicate]; (first | lia | omega)
          · rw [List.length_append, bsl, List.length_replicate]; (first | lia | omega)
          refine s_cons (s_unpack (e_tuple (a_cons (e_int (a_cons (e_int (a_nil ⟨by decide, fun d hd v rv => ?_⟩)))))) (by kernel_rfl) (by kernel_rfl))
          cases rv
          refine as_two E hA (by kernel_rfl) (by kernel_rfl) (.inr hup_self) |>.mono fun _ m3 H3 ⟨e1, e2⟩ => ?_
          subst e1
          have e2 := e2.symm
          subst e2
          exact s_nil ⟨rfl, Keep.hup (.inl hd), by rw [hbs]; rfl, by rw [hbs]; rfl, by rw [hbs]; rfl, s4, s5, s6⟩
      · rintro f m4 H4 ⟨rfl, k, q⟩
        exact s_nil ⟨rfl, k, q⟩
  · rintro f m4 H4 ⟨rfl, k, q⟩
    exact s_nil ⟨rfl, k, q⟩
theorem told5 (Bk : BOk w hB) (hA : A.handled = none) (hs : Small l) (T : TB L a l mn H1) {st en : Nat} (hse : st ≤ en) (hLy : Ly ≤ 3) (ht : t ≤ 3) (hc : H1 (L + 1 + 1 + 1) = some (AOcell (some (.int st)))) (hen : Has m1 "end" (.int en)) (hly : Has m1 "layers" (.int Ly)) (htu : Has m1 "turns" (.int t)) :
    WSS ⟨w, hB, A, L, fs⟩ (env165 L) ((fBody (stm 15)).drop 5) m1 H1 fun fl m' H' => ∃ av, (fl = .ret av ∨ (fl = .next ∧ av = .none)) ∧ Keep [] H1 H' ∧ av = .str ((bodA Ly t ((l.drop st).take (en - st))).2.2 ++ bsl (runN Ly t (bodA Ly t ((l.drop st).take (en - st))).1 (bodA Ly t ((l.drop st).take (en - st))).2.1 (if en < l.length then 1 else 0))) := by
  have E := envOk165 L
  have hl12 := hs.1
  obtain ⟨rs, hrs, PPs⟩ := T.pr
  have hrl : rs.length = l.length := PPs.length
  have PC : PP H1 ((rs.drop st).take (en - st)) ((l.drop st).take (en - st)) := (PPs.drop st).take (en - st)
  have hcl : ((l.drop st).take (en - st)).length ≤ 12 := by rw [List.length_take, List.length_drop]; (first | lia | omega)
  have hcf : ∀ q ∈ (l.drop st).take (en - st), q.2.length ≤ 10 := fun q hq => hs.2 q (List.mem_of_mem_drop (List.mem_of_mem_take hq))
  generalize hcut : (l.drop st).take (en - st) = cut at PC hcl hcf ⊢
  refine s_cons (s_unpack (e_tuple (a_cons (e_str (l := []) (by kernel_rfl) (a_cons (e_int (a_cons (e_int (a_nil ⟨by decide, fun d hd v rv => ?_⟩)))))))) (by kernel_rfl) (by kernel_rfl))
  cases rv
  refine as_three E hA (by kernel_rfl) (by kernel_rfl) (by kernel_rfl) (.inr hup_self) |>.mono fun _ m3 H3 ⟨e1, e2⟩ => ?_
  have kd : Keep [] H1 H3 := by rw [e2]; exact Keep.hup (.inl hd)
  clear e2
  have S0 : TA2 Ly t cut en 0 m3 := by
    subst e1
    exact ⟨rfl, rfl, rfl, hly, htu, hen⟩
  clear e1 hd
  refine s_cons (s_for2 (fun it n m4 H4 => ∃ (d : Addr) (i : Nat), i ≤ cut.length ∧ n = cut.length - i ∧ H1 it = none ∧ H4 it = some (.pat (liP d i)) ∧ H4 d = some (.list (((rs.drop st).take (en - st)).map .ref)) ∧ Keep [] H1 H4 ∧ TA2 Ly t cut en i m4) ?_ ?_)
  · refine x_slice_list (fun o i => ⟨_, by with_unfolding_all rfl⟩) (x_c E (L + 1) (kd _ _ T.ci (by simp)) ⟨a, _, rfl, by rw [List.length_map]; (first | lia | omega), x_c E (L + 1 + 1 + 1) (kd _ _ hc (by simp)) ⟨st, rfl, x_l E S0.en ⟨en, rfl, wp_none ⟨kd _ _ hrs (by simp), by decide, fun e he => ?_⟩⟩⟩⟩)
    rw [lsl_two _ hse]
    have ke : Keep [] H3 (hup H3 e (.list (((rs.map AV.ref).drop st).take (en - st)))) := Keep.hup (.inl he)
    have ee : hup H3 e (.list (((rs.map AV.ref).drop st).take (en - st))) e = some (.list (((rs.drop st).take (en - st)).map .ref)) := by rw [hup_self, ← List.map_drop, ← List.map_take]
    generalize hup H3 e (.list (((rs.map AV.ref).drop st).take (en - st))) = H4 at ke ee ⊢
    refine it_list ee fun it hit => ⟨it, _, rfl, e, 0, Nat.zero_le _, rfl, ?_, hup_self, ?_, (kd.trans ke).trans (Keep.hup (.inl hit)), S0⟩
    · cases q : H1 it with
      | none => rfl
      | some o => have := ke _ _ (kd _ _ q (by simp)) (by simp); rw [hit] at this; cases this
    · exact (Keep.hup (mu := []) (.inl hit)) _ _ ee (by simp)
  rintro it n m4 H4 ⟨d, i, hi, rfl, hit, ei, ed, k4, S⟩
  have hcr : (((rs.drop st).take (en - st)).map AV.ref).length = cut.length := by rw [List.length_map]; exact PC.length
  refine nx_list hA ei ed (fun x hx => ?_) (fun hle => ?_)
  · rw [List.getElem?_map] at hx
    cases hr : ((rs.drop st).take (en - st))[i]? with
    | none => rw [hr] at hx; cases hx
    | some r =>
    rw [hr] at hx; cases hx
    obtain ⟨p, hp, hpH⟩ := PC.get hr
    have hilt : i < cut.length := by
      rcases Nat.lt_or_ge i cut.length with h | h
      · exact h
      · rw [List.getElem?_eq_none h] at hp; cases hp
    have kp2 : Keep [] H1 (hup H4 it (.pat (liP d (i + 1)))) := keep_hup2 k4 hit
    have hit2 : hup H4 it (.pat (liP d (i + 1))) it = some (.pat (liP d (i + 1))) := hup_self
    have ed2 : hup H4 it (.pat (liP d (i + 1))) d = some (.list (((rs.drop st).take (en - st)).map .ref)) := (hup_ne (ne_of ed ei (by simp))).trans ed
    generalize hup H4 it (.pat (liP d (i + 1))) = H5 at kp2 hit2 ed2 ⊢
    refine ⟨⟨r, d, i + 1, rfl, hit2⟩, fun v rv => ?_⟩
    cases rv
    refine as_two E hA (by kernel_rfl) (by kernel_rfl) (.inl (kp2 _ _ hpH (by simp))) |>.mono fun _ m6 H6 ⟨e1, e2⟩ => ?_
    have S6 : TA2 Ly t cut en i m6 := by
      subst e1
      exact ⟨S.told, S.lost, S.kept, S.layers, S.turns, S.en⟩
    have h1 : Has m6 "sign" (.str [p.1]) := by rw [e1]; rfl
    have h2 : Has m6 "fold" (.str p.2) := by rw [e1]; rfl
    clear e1
    have e2 := e2.symm
    subst e2
    refine W.imp (told5_body Bk hA hLy ht hcl hcf S6 hp h1 h2 (r := r) ⟨_, rfl, rfl⟩) ?_
    rintro f m7 H7 ⟨rfl, k7, S7⟩
    exact ⟨_, by (first | lia | omega), d, i + 1, hilt, rfl, hit, k7 _ _ hit2 (by simp), k7 _ _ ed2 (by simp), kp2.trans k7, S7⟩
  · have : i = cut.length := by rw [hcr] at hle; (first | lia | omega)
    subst this
    have k5 : Keep [] H1 (hdrop H4 it) := keep_drop k4 hit
    generalize hdrop H4 it = H5 at k5 ⊢
    clear ei ed k4 hit
    obtain ⟨s1, s2, s3, s4, s5, s6⟩ := S
    rw [List.take_length] at s1 s2 s3
    have hbl := bodA_len (L := Ly) (t := t) hLy (l := cut) (s := (0, 0, [])) hcf
    change (bodA Ly t cut).1 + (bodA Ly t cut).2.1 ≤ 0 + 0 + _ ∧ (bodA Ly t cut).2.2.length ≤ 0 + _ at hbl
    generalize bodA Ly t cut = z at hbl s1 s2 s3 ⊢
    obtain ⟨lost, kept, txt⟩ := z
    dsimp only at hbl s1 s2 s3 ⊢
    have hlk : lost + kept ≤ 12 := by (first | lia | omega)
    have htx : txt.length ≤ 5000 := by
      have h1 := hbl.2
      have h2 : cut.length * (8 * (0 + 0 + cut.length) + 10) ≤ 12 * (8 * (0 + 0 + 12) + 10) := Nat.mul_le_mul hcl (by (first | lia | omega))
      (first | lia | omega)
    have hmo : (if en < l.length then 1 else 0) ≤ 1 := by split <;> decide
    refine s_cons (x_as E (W.imp (Q := fun av m6 H6 => m6 = m4 ∧ H6 = H5 ∧ av = .int ((if en < l.length then 1 else 0 : Nat) : Int)) (e_ifexp (t_cmp (x_l E s6 (x_b (id := "len") Bk E (a_cons (x_c E (L + 1) (k5 _ _ T.ci (by simp)) (a_nil (c_len_list (l := rs.map AV.ref) (k5 _ _ hrs (by simp)) (by rw [List.length_map]; (first | lia | omega)) (o_lt_int ⟨_, rfl, ?_⟩))))))))) ?_))
    · rw [List.length_map, hrl]
      by_cases h1 : en < l.length
      · rw [if_pos (decide_eq_true (by (first | lia | omega)))]
        exact e_int ⟨rfl, rfl, by rw [if_pos h1]; rfl⟩
      · rw [if_neg (by rw [decide_eq_false (by (first | lia | omega))]; decide)]
        exact e_int ⟨rfl, rfl, by rw [if_neg h1]; rfl⟩
    rintro av m6 H6 ⟨rfl, rfl, rfl⟩
    have hr := runN_le (L := Ly) (t := t) (lost := lost) (kept := kept) (more := if en < l.length then 1 else 0) hLy
    refine s_cons (s_return (e_binop (x_l E s1 (x_run (more := if en < l.length then 1 else 0) E hLy ht hmo hlk (fun h => x_l E rfl h) (fun h => x_l E rfl h) s2 s3 s4 s5 (o_add_str ?_ ?_)))))
    · rw [bsl, List.length_replicate]; (first | lia | omega)
    · exact ⟨_, .inl rfl, k5, rfl⟩
end
end Mine
end
section
open PySem PySem.W PySem.Calls PyProof.Rows
set_option Elab.async false
set_option maxRecDepth 100000
set_option maxHeartbeats 1000000
set_option linter.unusedVariables false
set_option linter.unusedSimpArgs false
namespace Mine
theorem ad12 {L : Addr} : L + 1 ≠ L + 1 + 1 := Nat.ne_of_lt (Nat.lt_succ_self _)
theorem ad13 {L : Addr} : L + 1 ≠ L + 1 + 1 + 1 := Nat.ne_of_lt (Nat.lt_succ_of_lt (Nat.lt_succ_self _))
theorem ad23 {L : Addr} : L + 1 + 1 ≠ L + 1 + 1 + 1 := Nat.ne_of_lt (Nat.lt_succ_self _)
theorem PP.keepBut {H H1 : Hp} {b : Addr} {ao : AO} (k : Keep [b] H H1) (hb : H b = some ao) (hn : ∀ l, ao ≠ .list l) {rs l} (h : PP H rs l) : PP H1 rs l := by
  induction h with
  | nil => exact .nil
  | cons e _ ih => exact .cons (k _ _ e (by simp only [List.mem_singleton]; exact ne_of e hb (fun q => hn _ q.symm))) ih
theorem TB.keepS {L a : Addr} {l : List Pr2} {mn : Nat} {H H1 : Hp} {o : Option AV} (T : TB L a l mn H) (hc : H (L + 1 + 1 + 1) = some (AOcell o)) (k : Keep [L + 1 + 1 + 1] H H1) : TB L a l mn H1 := by
  refine ⟨k _ _ T.ci (by simp only [List.mem_singleton]; exact ad13), k _ _ T.cm (by simp only [List.mem_singleton]; exact ad23), ?_⟩
  obtain ⟨rs, hrs, P⟩ := T.pr
  exact ⟨rs, k _ _ hrs (by simp only [List.mem_singleton]; exact ne_of hrs hc (by simp)), P.keepBut k hc (by simp)⟩
theorem fc165 {w : World} {hB : Heap} (Bk : BOk w hB) {a : Addr} {l : List Pr2} {Ly t mn : Nat} (hs : Small l) (hLy : Ly ≤ 3) (ht : t ≤ 3) : FC w hB (2 + 1) 165 [.ref a, .int Ly, .int t, .int mn] (fun H => PairsAt H a l) [] fun av H H' => av = .str (toldL l Ly t mn) := by
  refine FC.enterC Bk (ok165 w) rfl fun A L fs H hA P hcn _ => ?_
  rw [cf165] at hcn
  have c1 : H (L + 1) = none := hcn _ _ (.tail _ (.tail _ (.head _)))
  have c2 : H (L + 1 + 1) = none := hcn _ _ (.tail _ (.head _))
  have c3 : H (L + 1 + 1 + 1) = none := hcn _ _ (.head _)
  have hH : cellsH (cellsFrom (L + 1) fd165.scope.names []) (bindCA (callEnvC fd165 L 165).kindOf (List.zip ["items", "layers", "turns", "manner"] [AV.ref a, .int Ly, .int t, .int mn]) fun _ => none) H
      = hup (hup (hup H (L + 1) (AOcell (some (.ref a)))) (L + 1 + 1) (AOcell (some (.int mn)))) (L + 1 + 1 + 1) (AOcell none) := by
    rw [cf165]
    show hup (hup (hup H (L + 1) (AOcell _)) (L + 1 + 1) (AOcell _)) (L + 1 + 1 + 1) (AOcell _) = _
    congr 2
  rw [hH]
  clear hH
  have hm : bindLA (callEnvC fd165 L 165).kindOf (List.zip (["items", "layers", "turns", "manner"] : List Str) [AV.ref a, .int Ly, .int t, .int mn]) [] = [(("turns" : Str), AV.int t), ("layers", .int Ly)] := by rfl
  rw [hm]
  clear hm
  have k0 : Keep [] H (hup (hup (hup H (L + 1) (AOcell (some (.ref a)))) (L + 1 + 1) (AOcell (some (.int mn)))) (L + 1 + 1 + 1) (AOcell none)) := keep_hup2 (keep_hup2 (Keep.hup (.inl c1)) c2) c3
  have e1 : hup (hup (hup H (L + 1) (AOcell (some (.ref a)))) (L + 1 + 1) (AOcell (some (.int mn)))) (L + 1 + 1 + 1) (AOcell none) (L + 1) = some (AOcell (some (.ref a))) := by
    rw [hup_ne ad13, hup_ne ad12, hup_self]
  have e2 : hup (hup (hup H (L + 1) (AOcell (some (.ref a)))) (L + 1 + 1) (AOcell (some (.int mn)))) (L + 1 + 1 + 1) (AOcell none) (L + 1 + 1) = some (AOcell (some (.int mn))) := by
    rw [hup_ne ad23, hup_self]
  have e3 : hup (hup (hup H (L + 1) (AOcell (some (.ref a)))) (L + 1 + 1) (AOcell (some (.int mn)))) (L + 1 + 1 + 1) (AOcell none) (L + 1 + 1 + 1) = some (AOcell none) := hup_self
  generalize hup (hup (hup H (L + 1) (AOcell (some (.ref a)))) (L + 1 + 1) (AOcell (some (.int mn)))) (L + 1 + 1 + 1) (AOcell none) = H0 at k0 e1 e2 e3 ⊢
  have T0 : TB L a l mn H0 := ⟨e1, e2, P.keep k0⟩
  have hdl : headOf l t mn ≤ l.length := firstIdx_le _ _
  refine told1 Bk hA.1 hs ht T0 (Ly := Ly) rfl rfl fun lv sp m1 H1 S => ?_
  refine told2 Bk hA.1 hs T0 S fun H2 k2 => ?_
  have K2 := S.keep.trans k2
  refine told3 Bk hA.1 hs (T0.keep K2) ⟨none, K2 _ _ e3 (by simp)⟩ rfl hdl fun H3 k3 => ?_
  have K3 := K2.trans k3
  have e3' := K3 _ _ e3 (by simp)
  have hlv3 := k3 _ _ (k2 _ _ S.lves (by simp)) (by simp)
  have k4 : Keep [L + 1 + 1 + 1] H3 (hup H3 (L + 1 + 1 + 1) (AOcell (some (.int (lastEnd (dotAt mn l) (headOf l t mn)))))) := Keep.hup (.inr (.head _))
  have T4 := (T0.keep K3).keepS e3' k4
  have hc4 : hup H3 (L + 1 + 1 + 1) (AOcell (some (.int (lastEnd (dotAt mn l) (headOf l t mn))))) (L + 1 + 1 + 1) = some (AOcell (some (.int (lastEnd (dotAt mn l) (headOf l t mn))))) := hup_self
  have hlv4 := k4 _ _ hlv3 (by simp only [List.mem_singleton]; exact ne_of hlv3 e3' (by simp))
  have K4 : Keep [] H (hup H3 (L + 1 + 1 + 1) (AOcell (some (.int (lastEnd (dotAt mn l) (headOf l t mn)))))) := (k0.trans K3).past k4 (by simp [c3])
  generalize hup H3 (L + 1 + 1 + 1) (AOcell (some (.int (lastEnd (dotAt mn l) (headOf l t mn))))) = H4 at k4 T4 hc4 hlv4 K4 ⊢
  refine told4 (m1 := ("head", .int (headOf l t mn)) :: m1) Bk hA.1 hdl hs.1 hlv4 hc4 rfl (S.lives) fun H5 k5 => ?_
  have hse : lastEnd (dotAt mn l) (headOf l t mn) ≤ firstIdx (fun i => liveAt t l i && decide (lastEnd (dotAt mn l) (headOf l t mn) ≤ i)) (headOf l t mn) := by
    have h1 := lastEnd_le (dotAt mn l) (headOf l t mn)
    rcases firstIdx_spec (fun i => liveAt t l i && decide (lastEnd (dotAt mn l) (headOf l t mn) ≤ i)) (headOf l t mn) with ⟨h, _⟩ | ⟨_, h, _⟩
    · rw [h]; exact h1
    · exact of_decide_eq_true (Bool.and_eq_true_iff.mp h).2
  refine W.imp (told5 (mn := mn) Bk hA.1 hs (T4.keep k5) hse hLy ht (k5 _ _ hc4 (by simp)) rfl S.layers S.turns) ?_
  rintro fl m' H' ⟨av, h1, h2, h3⟩
  exact ⟨av, h1, (K4.trans k5).trans h2, h3⟩
end Mine
end
section
open PySem PySem.W PySem.Calls PyProof.Rows
set_option Elab.async false
set_option maxRecDepth 100000
set_option maxHeartbeats 1000000
set_option linter.unusedVariables false
set_option linter.unusedSimpArgs false
namespace Mine
noncomputable def firstOf (sc : List Int) : Int := (sc ++ [1]).headD 1
noncomputable def layOf (f : Int) : Nat := (1 + f.fmod 3).toNat
noncomputable def rawOf (f : Int) : Bool := (f.fdiv 12).fmod 2 == 1
noncomputable def numsOf (sc : List Int) : List Int := if 1 < sc.length then (sc.drop 1).take 6 else [266, 1, 16, 24, 149, 12, 36, 28]
noncomputable def stepI (its : List Pr2) (n : Int) : List Pr2 := (its ++ drawn n).take 12
noncomputable def its0 (sc : List Int) : List Pr2 := (numsOf sc).foldl stepI []
noncomputable def rawP (l : List Pr2) : List Pr2 := l.map fun p => (p.1, [p.1])
noncomputable def itsOf (sc : List Int) : List Pr2 := if rawOf (firstOf sc) then rawP (its0 sc) else its0 sc
noncomputable def frontL : List Nat := [10, 9, 13, 32]
noncomputable def whiteC (f : Int) : Nat := frontL.getD ((f.fdiv 3).fmod 4).toNat 10
noncomputable def plainOf (l : List Pr2) : List Nat := (l.map fun p => p.2).flatten
noncomputable def pageOf (wc : Nat) (l : List Pr2) (k : Nat) : List Nat := frontL ++ wr l k true ++ [wc] ++ [34] ++ wr l k false ++ [34]
noncomputable def guarded (ly : Nat) (l : List Pr2) : List Nat := (l.map fun p => bsl (2 ^ ly - 1) ++ [p.1]).flatten
theorem layOf_le (f : Int) : layOf f ≤ 3 := by
  have := fmod_bd (a := f) (b := 3) (by decide)
  unfold layOf; omega
theorem layOf_eq (f : Int) : 1 + f.fmod 3 = (layOf f : Int) := by
  have := fmod_bd (a := f) (b := 3) (by decide)
  unfold layOf; omega
theorem numsOf_len (sc : List Int) : (numsOf sc).length ≤ 8 := by
  unfold numsOf
  split
  · rw [List.length_take]; (first | lia | omega)
  · decide
theorem drawn_small (n : Int) : (drawn n).length ≤ 3 ∧ ∀ p ∈ drawn n, p.2.length ≤ 10 := by
  unfold drawn
  dsimp only
  split
  · have := fmod_bd (a := (n.fdiv 4).fdiv 27) (b := 3) (by decide)
    refine ⟨by rw [List.length_replicate]; omega, fun p hp => ?_⟩
    rw [List.eq_of_mem_replicate hp]; simp
  split
  · simp
  split
  · split
    · simp
    · obtain ⟨k, hk, hk16⟩ := fmod_nat (a := n.fdiv 4) (b := 16) (by decide)
      have hk' : (n.fdiv 4).fmod 16 = (k : Int) := hk
      rename_i h5
      rw [hk'] at h5 ⊢
      obtain ⟨x, r, _, hd, hl⟩ := cts_get k (by omega)
      rw [Int.toNat_natCast, hd]
      simpa [pairOf] using hl
  · obtain ⟨k, hk, hk10⟩ := fmod_nat (a := n.fdiv 4) (b := 10) (by decide)
    have hk' : (n.fdiv 4).fmod 10 = (k : Int) := hk
    obtain ⟨x, r, _, hd, hl⟩ := ons_get k hk10
    rw [hk', Int.toNat_natCast, hd]
    simpa [pairOf] using hl
theorem small_step {its : List Pr2} (h : Small its) (n : Int) : Small (stepI its n) := by
  refine ⟨by unfold stepI; rw [List.length_take]; (first | lia | omega), fun p hp => ?_⟩
  rcases List.mem_append.mp (List.mem_of_mem_take hp) with q | q
  · exact h.2 p q
  · exact (drawn_small n).2 p q
theorem small_fold : ∀ (ns : List Int) {its : List Pr2}, Small its → Small (ns.foldl stepI its)
  | [], _, h => h
  | n :: ns, _, h => small_fold ns (small_step h n)
theorem small0 : Small [] := ⟨by decide, fun p hp => by cases hp⟩
theorem small_its0 (sc : List Int) : Small (its0 sc) := small_fold _ small0
theorem small_its (sc : List Int) : Small (itsOf sc) := by
  have h := small_its0 sc
  unfold itsOf
  split
  · refine ⟨by unfold rawP; rw [List.length_map]; exact h.1, fun p hp => ?_⟩
    obtain ⟨q, _, rfl⟩ := List.mem_map.mp hp
    simp
  · exact h
noncomputable def BList (hB : Heap) (a : Addr) (l : List AV) : Prop := ∃ vs, hB.IsList a vs.toArray ∧ Reps l vs
section
variable {c : Cx} {env : Env} {m : Lm} {H : Hp} {pos : Pos} {Q : AV → Lm → Hp → Prop} {QF : AF → Lm → Hp → Prop} {QB : Bool → Lm → Hp → Prop}
theorem BList.isList {a : Addr} {l : List AV} {h : Heap} (B : BList c.hB a l) (S : ASt c m H h) : ∃ vs, h.IsList a vs.toArray ∧ Reps l vs := by
  obtain ⟨vs, ⟨o, h1, h2⟩, r⟩ := B
  obtain ⟨mm, F⟩ := S.frame
  exact ⟨vs, ⟨o, F.keep _ _ h1, h2⟩, r⟩
theorem o_add_listB {a b : Addr} {l k : List AV} (ea : BList c.hB a l) (eb : H b = some (.list k)) (hz : l.length + k.length ≤ 100000) (h : ∀ d, H d = none → Q (.ref d) m (hup H d (.list (l ++ k)))) : WO2 c (binaryOp .Add) (.ref a) (.ref b) m H Q := fun x y ex ey => by
  cases ex; cases ey
  intro s S
  obtain ⟨mm, nw, F, N, hlt, back, more⟩ := S.news
  obtain ⟨vs, h1, r1⟩ := ea.isList S
  obtain ⟨ws, h2, r2⟩ := isList_at S eb
  refine add_arrays F N h1 h2 (fun h' F' N' => ⟨.ref _, m, _, rfl, more _ (.list (l ++ k)) _ h' F' N' ⟨vs ++ ws, 0, by simp, r1.append r2⟩ (fun p hp => Nat.ne_of_lt (hlt p hp)), .rfl', h _ S.free⟩) ?_
  rw [sizeLine_eq]; have := r1.length; have := r2.length; simp; (first | lia | omega)
theorem c_len_listB {a : Addr} {l : List AV} (e : BList c.hB a l) (hz : l.length ≤ 100000) (h : Q (.int l.length) m H) : WC c (.builtin "len") [.ref a] m H Q := fun vs rs => by
  cases rs with
  | cons r1 rs =>
    cases rs; cases r1
    intro s S
    obtain ⟨vs, hl, r⟩ := e.isList S
    have hr := r.length
    refine Calls.call_len_list hl (by simp; (first | lia | omega)) ⟨.int l.length, m, H, ⟨_, by rw [List.size_toArray, ← hr]⟩, S, ⟨rfl, rfl, rfl⟩, h⟩
theorem x_slice_listB {value : PySem.Expr} {lo hi st : Option PySem.Expr} {p : Pos} (hp : opSub value (.Slice lo hi st p))
    (h : WE c env value m H fun ov m1 H1 => ∃ a l, ov = .ref a ∧ l.length ≤ 100000 ∧ WPart c env lo m1 H1 fun l1 m2 H2 => WPart c env hi m2 H2 fun l2 m3 H3 => WPart c env st m3 H3 fun l3 m4 H4 => BList c.hB a l ∧ l3 ≠ some 0 ∧ ∀ d, H4 d = none → Q (.ref d) m4 (hup H4 d (.list (lsl l l1 l2 l3)))) :
    WE c env (.Subscript value (.Slice lo hi st p) pos) m H Q :=
  x_slice_gen (fun _ a l => BList c.hB a l) (fun e S => e.isList S) hp h
end
end Mine
end
section
open PySem PySem.W PySem.Calls PyProof.Rows
set_option Elab.async false
set_option maxRecDepth 100000
set_option maxHeartbeats 1000000
set_option linter.unusedVariables false
set_option linter.unusedSimpArgs false
namespace Mine
theorem adl {L : Nat} {i j : Nat} (h : i ≠ j) : L + i ≠ L + j := fun q => h (Nat.add_left_cancel q)
section
variable {c : Cx} {env : Env} {m : Lm} {H : Hp} {pos : Pos} {Q : AV → Lm → Hp → Prop} {QF : AF → Lm → Hp → Prop} {QB : Bool → Lm → Hp → Prop}
theorem bn {n : Str} {v : Value} {QU : Unit → Lm → Hp → Prop} (h : W c (fun (_ : Unit) (_ : Unit) => True) (storeName env n v) m H QU) : W c (fun (_ : Unit) (_ : Unit) => True) (bindName env n v) m H QU := fun s S => wpAny_bindName (h s S)
theorem as_twoW {x y : Str} {p q tp : Pos} {k : Nat} {a : Addr} {u v : AV} {QU : Unit → Lm → Hp → Prop} (hh : c.A.handled = none) (e : seqAt H a [u, v])
    (h : ∀ vu vv, rep u vu → rep v vv → W c (fun (_ : Unit) (_ : Unit) => True) (storeName env x vu) m H fun _ m2 H2 => W c (fun (_ : Unit) (_ : Unit) => True) (storeName env y vv) m2 H2 QU) :
    W c (fun (_ : Unit) (_ : Unit) => True) (assign (.Tuple [.Name x p, .Name y q] k tp) env (.ref a)) m H QU := fun s S => by
  rw [assign_Tuple]
  refine wpAny_bind (wpAny_standAt (wpAny_bind (wpAny_holding (wmono (un_seq (QL := fun l m1 H1 => l = [u, v] ∧ m1 = m ∧ H1 = H) hh e rfl ⟨rfl, rfl, rfl⟩ s S) (fun vs s1 l m1 H1 rs S1 z ⟨e1, e2, e3⟩ => ?_) fun _ _ x => x))))
  subst e1 e2 e3
  cases rs with
  | cons r1 rs => cases rs with
    | cons r2 rs => cases rs with
      | nil =>
        refine PyProof.Rows.assignInOrder_cons (wmono (PyProof.Rows.assign_Name (h _ _ r1 r2 s1 S1)) (fun _ s2 _ m2 H2 _ S2 z2 q2 => ?_) fun _ _ x => x)
        refine PyProof.Rows.assignInOrder_cons (wmono (PyProof.Rows.assign_Name (q2 s2 S2)) (fun _ s3 _ m3 H3 _ S3 z3 q3 => ?_) fun _ _ x => x)
        exact PyProof.Rows.assignInOrder_nil ⟨(), m3, H3, trivial, S3, (z.trans z2).trans z3, q3⟩
end
noncomputable abbrev env170 (L : Addr) : Env := callEnvC fd170 L 170
theorem envOk170 (L : Addr) : EnvOk (env170 L) L := ⟨by kernel_rfl, rfl, rfl, rfl⟩
theorem rep_some : ∀ a : AV, ∃ v, rep a v
  | .none => ⟨_, rfl⟩
  | .bool b => ⟨_, rfl⟩
  | .int i => ⟨_, 0, rfl⟩
  | .str l => ⟨_, 0, rfl⟩
  | .ref a => ⟨_, rfl⟩
  | .bltn i => ⟨_, rfl⟩
  | .ty n => ⟨_, rfl⟩
theorem cell_ne_code {o : Option AV} {q : Str} : (AOcell o : AO) ≠ .pat (codeP q) := fun e => by
  have e' : cellP o = codeP q := by injection e
  have : ∃ v, cellP o { cls := .none, data := .cell v } := by
    cases o with
    | none => exact ⟨none, none, rfl, rfl⟩
    | some a => obtain ⟨v, r⟩ := rep_some a; exact ⟨some v, some v, rfl, v, rfl, r⟩
  obtain ⟨v, h⟩ := this
  rw [e'] at h
  obtain ⟨vs, t, h, _⟩ := h
  cases h
theorem TabAt.keepC {H H1 : Hp} {P : Addr} {p : Pos} {q : Str} {mu : List Addr} (T : TabAt H P p q) (k : Keep mu H H1) (h : ∀ a ∈ mu, ∃ o, H a = some (AOcell o)) : TabAt H1 P p q := by
  have key : ∀ b o, H b = some o → (∀ z, o ≠ AOcell z) → H1 b = some o := fun b o e hn => k b o e fun hm => by
    obtain ⟨z, hz⟩ := h b hm
    rw [hz] at e; cases e; exact hn _ rfl
  rcases T with e | ⟨c', e, ec, hn⟩
  · exact .inl (key _ _ e (by simp [tab0]))
  · exact .inr ⟨c', key _ _ e (by simp [tab1]), key _ _ ec (fun z hz => cell_ne_code hz.symm), hn⟩
structure LA (L : Addr) (f : Int) (its : List Pr2) (ia : Addr) (m : Lm) (H : Hp) : Prop where
  c1 : H (L + 1) = some (AOcell (some (.int (layOf f))))
  c2 : H (L + 2) = some (AOcell (some (.ref ia)))
  c3 : H (L + 3) = some (AOcell none)
  c4 : H (L + 4) = some (AOcell none)
  c5 : H (L + 5) = some (AOcell none)
  c6 : H (L + 6) = some (AOcell none)
  pr : PairsAt H ia its
  tab : TabL H
  first : Has m "first" (.int f)
  raw : Has m "raw" (.bool (rawOf f))
theorem LA.keep {L : Addr} {f : Int} {its : List Pr2} {ia : Addr} {m m' : Lm} {H H1 : Hp} (S : LA L f its ia m H) (k : Keep [] H H1) (h1 : Has m' "first" (.int f)) (h2 : Has m' "raw" (.bool (rawOf f))) : LA L f its ia m' H1 :=
  ⟨k _ _ S.c1 (by simp), k _ _ S.c2 (by simp), k _ _ S.c3 (by simp), k _ _ S.c4 (by simp), k _ _ S.c5 (by simp), k _ _ S.c6 (by simp), S.pr.keep k, S.tab.keep0 k, h1, h2⟩
theorem PP.append {H : Hp} {rs l} (h : PP H rs l) {rs' l'} (k : PP H rs' l') : PP H (rs ++ rs') (l ++ l') := by
  induction h with
  | nil => exact k
  | cons e _ ih => exact .cons e ih
theorem LA.turn {L : Addr} {f : Int} {its its2 : List Pr2} {ia ib : Addr} {m m' : Lm} {H : Hp} (S : LA L f its ia m H) (P : PairsAt H ib its2) (h1 : Has m' "first" (.int f)) (h2 : Has m' "raw" (.bool (rawOf f))) : LA L f its2 ib m' (hup H (L + 2) (AOcell (some (.ref ib)))) := by
  have k : Keep [L + 2] H (hup H (L + 2) (AOcell (some (.ref ib)))) := Keep.hup (.inr (.head _))
  refine ⟨k _ _ S.c1 ?_, hup_self, k _ _ S.c3 ?_, k _ _ S.c4 ?_, k _ _ S.c5 ?_, k _ _ S.c6 ?_, ?_, S.tab.keepC k ?_, h1, h2⟩
  all_goals try (simp only [List.mem_singleton]; exact adl (by decide))
  · obtain ⟨rs, hrs, PPs⟩ := P
    exact ⟨rs, k _ _ hrs (by simp only [List.mem_singleton]; exact ne_of hrs S.c2 (by simp)), PPs.keepBut k S.c2 (by simp)⟩
  · intro a ha
    simp only [List.mem_singleton] at ha
    exact ⟨_, ha ▸ S.c2⟩
end Mine
end
section
open PySem PySem.W PySem.Calls PyProof.Rows
set_option Elab.async false
set_option maxRecDepth 100000
set_option maxHeartbeats 1000000
set_option linter.unusedVariables false
set_option linter.unusedSimpArgs false
namespace Mine
theorem aInts_len {l : List Int} : (aInts l).length = l.length := by unfold aInts; rw [List.length_map]
theorem aStrs_len {l : List (List Nat)} : (aStrs l).length = l.length := by unfold aStrs; rw [List.length_map]
section
variable {w : World} {hB : Heap} {A : Around} {L : Addr} {fs : List (Addr × Obj)} {QF : AF → Lm → Hp → Prop}
theorem law0 (Bk : BOk w hB) (hA : A.handled = none) {sa : Addr} {sc : List Int} {m : Lm} {H : Hp} (B : BList hB sa (aInts sc)) (hz : sc.length ≤ 63) (hs : Has m "script" (.ref sa)) (c1 : ∀ i : Nat, 1 ≤ i → i ≤ 6 → H (L + i) = some (AOcell none)) (T : TabL H)
    (h : ∀ ia m1 H1, LA L (firstOf sc) [] ia m1 H1 → Has m1 "script" (.ref sa) → WSS ⟨w, hB, A, L, fs⟩ (env170 L) ((fBody (stm 16)).drop 3) m1 H1 QF) : WSS ⟨w, hB, A, L, fs⟩ (env170 L) (fBody (stm 16)) m H QF := by
  have E := envOk170 L
  refine s_cons (x_as E (e_item (fun o i => ⟨_, by with_unfolding_all rfl⟩) (e_binop (x_l E hs (e_list (a_cons (e_int (a_nil ⟨by show 1 ≤ 1000; decide, fun a ha => o_add_listB (l := aInts sc) (k := [.int 1]) B hup_self ?_ fun d hd => ?_⟩))))))))
  · rw [aInts_len]; show _ + 1 ≤ _; (first | lia | omega)
  refine ⟨d, rfl, e_int ⟨0, _, .int (firstOf sc), rfl, by decide, hup_self, ?_, ?_⟩⟩
  · unfold firstOf aInts
    cases sc <;> rfl
  have ka : Keep [] H (hup H a (.list [.int 1])) := Keep.hup (.inl ha)
  have kd : Keep [] H (hup (hup H a (.list [.int 1])) d (.list (aInts sc ++ [.int 1]))) := ka.trans (Keep.hup (.inl hd))
  generalize hup (hup H a (.list [.int 1])) d (.list (aInts sc ++ [.int 1])) = H1 at kd ⊢
  clear ka hd
  generalize firstOf sc = f at h ⊢
  refine s_cons (s_unpack (e_tuple ?_) (by kernel_rfl) (by kernel_rfl))
  refine a_cons (e_binop (e_int (e_binop (x_l E rfl (e_int (o_mod_int (by decide) (o_add_int ?_)))))))
  refine a_cons (e_cmp (e_binop (e_binop (x_l E rfl (e_int (o_fdiv_int (by decide) (by kernel_rfl) (e_int (o_mod_int (by decide) (e_int (o_eq_int (a_nil ⟨by show 2 ≤ 100; decide, fun u hu v rv => ?_⟩))))))))))) 
  cases rv
  have ku : Keep [] H (hup H1 u (.tup [.int (1 + f.fmod 3), .bool ((f.fdiv 12).fmod 2 == 1)])) := kd.trans (Keep.hup (.inl hu))
  have eu : hup H1 u (.tup [.int (1 + f.fmod 3), .bool ((f.fdiv 12).fmod 2 == 1)]) u = some (.tup [.int (1 + f.fmod 3), .bool ((f.fdiv 12).fmod 2 == 1)]) := hup_self
  generalize hup H1 u (.tup [.int (1 + f.fmod 3), .bool ((f.fdiv 12).fmod 2 == 1)]) = H1 at ku eu ⊢
  refine as_twoW hA (.inr eu) fun va vb ra rb => ?_
  have kd := ku
  refine store_cell (a := L + 1) E.kind (by kernel_rfl) (by kernel_rfl) (kd _ _ (c1 1 (by decide) (by decide)) (by simp)) ra (store_local E.kind (by kernel_rfl) E.loc rb ?_)
  have k2 : Keep [L + 1] H (hup H1 (L + 1) (AOcell (some (.int (1 + f.fmod 3))))) := (kd.sub (by simp)).trans (Keep.hup (.inr (.head _)))
  have e2 : hup H1 (L + 1) (AOcell (some (.int (1 + f.fmod 3)))) (L + 1) = some (AOcell (some (.int (layOf f)))) := by rw [hup_self, layOf_eq]
  generalize hup H1 (L + 1) (AOcell (some (.int (1 + f.fmod 3)))) = H2 at k2 e2 ⊢
  have n1 : ∀ i : Nat, 2 ≤ i → i ≤ 6 → H2 (L + i) = some (AOcell none) := fun i h1 h2 => k2 _ _ (c1 i (by (first | lia | omega)) h2) (by simp only [List.mem_singleton]; exact adl (by (first | lia | omega)))
  have T2 : TabL H2 := T.keepC k2 (fun a ha => by simp only [List.mem_singleton] at ha; exact ⟨_, ha ▸ c1 1 (by decide) (by decide)⟩)
  refine s_cons (s_assign_cell (a := L + 2) E.kind (by kernel_rfl) (by kernel_rfl) (by kernel_rfl) (e_list (a_nil ⟨by decide, fun ia hia => ?_⟩)))
  have k3 : Keep [] H2 (hup H2 ia (.list [])) := Keep.hup (.inl hia)
  have e3 : hup H2 ia (.list []) ia = some (.list []) := hup_self
  generalize hup H2 ia (.list []) = H3 at k3 e3 ⊢
  refine ⟨⟨none, k3 _ _ (n1 2 (by decide) (by decide)) (by simp)⟩, ?_⟩
  have k4 : Keep [L + 2] H3 (hup H3 (L + 2) (AOcell (some (.ref ia)))) := Keep.hup (.inr (.head _))
  have e4 : hup H3 (L + 2) (AOcell (some (.ref ia))) (L + 2) = some (AOcell (some (.ref ia))) := hup_self
  generalize hup H3 (L + 2) (AOcell (some (.ref ia))) = H4 at k4 e4 ⊢
  have c2 := k3 _ _ (n1 2 (by decide) (by decide)) (by simp)
  have n3 : ∀ i : Nat, 3 ≤ i → i ≤ 6 → H4 (L + i) = some (AOcell none) := fun i h1 h2 => k4 _ _ (k3 _ _ (n1 i (by (first | lia | omega)) h2) (by simp)) (by simp only [List.mem_singleton]; exact adl (by (first | lia | omega)))
  refine h ia _ _ ⟨k4 _ _ (k3 _ _ e2 (by simp)) (by simp only [List.mem_singleton]; exact adl (by (first | lia | omega))), e4, n3 3 (by decide) (by decide), n3 4 (by decide) (by decide), n3 5 (by decide) (by decide), n3 6 (by decide) (by decide), ⟨[], ?_, .nil⟩, ?_, rfl, rfl⟩ hs
  · exact k4 _ _ e3 (by simp only [List.mem_singleton]; exact ne_of e3 c2 (by simp))
  · exact (T2.keep0 k3).keepC k4 (fun a ha => by simp only [List.mem_singleton] at ha; exact ⟨_, ha ▸ c2⟩)
structure L3 (L : Addr) (sc : List Int) (f : Int) (H : Hp) (it : Addr) (n : Nat) (m1 : Lm) (H1 : Hp) (d ib : Addr) (i : Nat) : Prop where
  h1 : i ≤ (numsOf sc).length
  h2 : n = (numsOf sc).length - i
  h3 : H it = none
  h4 : H1 it = some (.pat (liP d i))
  h5 : H1 d = some (.list (aInts (numsOf sc)))
  h6 : Keep [L + 2] H H1
  h7 : H1 (L + 2) = some (AOcell (some (.ref ib)))
  h8 : PairsAt H1 ib (((numsOf sc).take i).foldl stepI [])
  h9 : Has m1 "first" (.int f)
  h0 : Has m1 "raw" (.bool (rawOf f))
theorem law3 (Bk : BOk w hB) (hA : AOk 30 A) {sa ia : Addr} {sc : List Int} {m : Lm} {H : Hp} {f : Int} (B : BList hB sa (aInts sc)) (hz : sc.length ≤ 63) (hs : Has m "script" (.ref sa)) (S : LA L f [] ia m H)
    (h : ∀ ib m1 H1, LA L f (its0 sc) ib m1 H1 → WSS ⟨w, hB, A, L, fs⟩ (env170 L) ((fBody (stm 16)).drop 4) m1 H1 QF) : WSS ⟨w, hB, A, L, fs⟩ (env170 L) ((fBody (stm 16)).drop 3) m H QF := by
  have E := envOk170 L
  have hn8 := numsOf_len sc
  refine s_cons (s_for (fun it n m1 H1 => ∃ (d : Addr) (ib : Addr) (i : Nat), L3 L sc f H it n m1 H1 d ib i) ?_ ?_)
  · refine W.imp (Q := fun av m1 H1 => m1 = m ∧ Keep [] H H1 ∧ ∃ d, av = .ref d ∧ H1 d = some (.list (aInts (numsOf sc)))) (e_ifexp (t_cmp (x_b (id := "len") Bk E (a_cons (x_l E hs (a_nil (c_len_listB B (by rw [aInts_len]; (first | lia | omega)) (e_int (o_gt_int ⟨_, rfl, ?_⟩))))))))) ?_
    · rw [aInts_len]
      by_cases h1 : 1 < sc.length
      · rw [if_pos (decide_eq_true (by (first | lia | omega)))]
        refine x_slice_listB (fun o i => ⟨_, by with_unfolding_all rfl⟩) (x_l E hs ⟨sa, aInts sc, rfl, by rw [aInts_len]; (first | lia | omega), e_int ⟨1, rfl, e_int ⟨7, rfl, wp_none ⟨B, by decide, fun d hd => ⟨rfl, Keep.hup (.inl hd), d, rfl, ?_⟩⟩⟩⟩⟩)
        rw [hup_self, show (1 : Int) = ((1 : Nat) : Int) from rfl, show (7 : Int) = ((7 : Nat) : Int) from rfl, lsl_two _ (by decide)]
        unfold numsOf aInts
        rw [if_pos h1, List.map_take, List.map_drop]
      · rw [if_neg (by rw [decide_eq_false (by (first | lia | omega))]; decide)]
        refine e_list (a_ints (ns := [266, 1, 16, 24, 149, 12, 36, 28]) (by kernel_rfl) ⟨by rw [aInts_len]; decide, fun d hd => ⟨rfl, Keep.hup (.inl hd), d, rfl, ?_⟩⟩)
        rw [hup_self]
        unfold numsOf
        rw [if_neg h1]
    · rintro av m1 H1 ⟨rfl, k1, d, rfl, ed⟩
      refine it_list ed fun it hit => ?_
      have hit0 : H it = none := by
        cases q : H it with
        | none => rfl
        | some o => rw [k1 _ _ q (by simp)] at hit; cases hit
      have k2 := k1.trans (Keep.hup (mu := []) (o := .pat (liP d 0)) (.inl hit))
      exact ⟨it, _, rfl, d, ia, 0, Nat.zero_le _, rfl, hit0, hup_self, (Keep.hup (mu := []) (.inl hit)) _ _ ed (by simp), k2.sub (by simp), k2 _ _ S.c2 (by simp), S.pr.keep k2, S.first, S.raw⟩
  rintro it n m1 H1 ⟨d, ib, i, hi, rfl, hit, ei, ed, k1, ec, P1, hf, hr⟩
  have hitL : L + 2 ≠ it := fun q => by rw [← q, S.c2] at hit; cases hit
  refine nx_list hA.1 ei ed (fun x hx => ?_) (fun hle => ?_)
  · unfold aInts at hx
    rw [List.getElem?_map] at hx
    cases hq : (numsOf sc)[i]? with
    | none => rw [hq] at hx; cases hx
    | some x0 =>
    rw [hq] at hx; cases hx
    have hilt : i < (numsOf sc).length := by
      rcases Nat.lt_or_ge i (numsOf sc).length with h | h
      · exact h
      · rw [List.getElem?_eq_none h] at hq; cases hq
    have hstep : ((numsOf sc).take (i + 1)).foldl stepI [] = stepI (((numsOf sc).take i).foldl stepI []) x0 := by
      rw [take_succ' hq, List.foldl_append]; rfl
    have hsm : Small (((numsOf sc).take i).foldl stepI []) := small_fold _ small0
    generalize ((numsOf sc).take i).foldl stepI [] = its at P1 hstep hsm
    have hne : d ≠ it := ne_of ed ei (by simp)
    have ka : Keep [it] H1 (hup H1 it (.pat (liP d (i + 1)))) := Keep.hup (.inr (.head _))
    have k2 : Keep [L + 2] H (hup H1 it (.pat (liP d (i + 1)))) := keep_hup2 k1 hit
    have e2 : hup H1 it (.pat (liP d (i + 1))) it = some (.pat (liP d (i + 1))) := hup_self
    have ed2 := ka _ _ ed (by simpa using hne)
    have ec2 := ka _ _ ec (by simpa using hitL)
    have P2 : PairsAt (hup H1 it (.pat (liP d (i + 1)))) ib its := by
      obtain ⟨rs, hrs, PPs⟩ := P1
      exact ⟨rs, ka _ _ hrs (by simpa using ne_of hrs ei (by simp)), PPs.keepBut ka ei (by simp)⟩
    generalize hup H1 it (.pat (liP d (i + 1))) = H2 at k2 e2 ed2 ec2 P2 ⊢
    refine asg_local E.kind (by kernel_rfl) E.loc ?_
    refine s_cons (s_assign_cell (a := L + 2) E.kind (by kernel_rfl) (by kernel_rfl) (by kernel_rfl) ?_)
    refine x_slice_list (fun o i => ⟨_, by with_unfolding_all rfl⟩) (e_binop (x_c E (L + 2) ec2 (x_f (f := 134) Bk E (a_cons (x_l E rfl (a_nil (c_def (fc134 Bk) rfl rfl (hA.less (by (first | lia | omega))) trivial fun av H3 k3 ⟨r, er, Pr⟩ => ?_)))))))
    subst er
    obtain ⟨rs, hrs, PPs⟩ := P2
    obtain ⟨qs, hqs, QQs⟩ := Pr
    have hrl : rs.length = its.length := PPs.length
    have hql : qs.length = (drawn x0).length := QQs.length
    have hds := drawn_small x0
    have hs12 := hsm.1
    refine o_add_list (k3 _ _ hrs (by simp)) hqs (by rw [List.length_map, List.length_map]; (first | lia | omega)) fun e he => ?_
    have k4 : Keep [] H3 (hup H3 e (.list (rs.map AV.ref ++ qs.map AV.ref))) := Keep.hup (.inl he)
    have e4 : hup H3 e (.list (rs.map AV.ref ++ qs.map AV.ref)) e = some (.list ((rs ++ qs).map AV.ref)) := by rw [hup_self, List.map_append]
    generalize hup H3 e (.list (rs.map AV.ref ++ qs.map AV.ref)) = H4 at k4 e4 ⊢
    refine ⟨e, _, rfl, ?_, e_int ⟨12, rfl, wp_none ⟨e4, by decide, fun g hg => ?_⟩⟩⟩
    · rw [List.length_map, List.length_append]; (first | lia | omega)
    rw [show (12 : Int) = ((12 : Nat) : Int) from rfl, lsl_upto, ← List.map_take]
    have k5 : Keep [] H2 (hup H4 g (.list (((rs ++ qs).take 12).map AV.ref))) := (k3.trans k4).trans (Keep.hup (.inl hg))
    have e5 : hup H4 g (.list (((rs ++ qs).take 12).map AV.ref)) g = some (.list (((rs ++ qs).take 12).map AV.ref)) := hup_self
    have P5 : PP (hup H4 g (.list (((rs ++ qs).take 12).map AV.ref))) ((rs ++ qs).take 12) (stepI its x0) :=
      ((((PPs.keep k3).keep k4).append (QQs.keep k4)).take 12).keep (Keep.hup (.inl hg))
    generalize hup H4 g (.list (((rs ++ qs).take 12).map AV.ref)) = H5 at k5 e5 P5 ⊢
    have c5 := k5 _ _ ec2 (by simp)
    refine ⟨⟨_, c5⟩, s_nil ?_⟩
    have k6 : Keep [L + 2] H5 (hup H5 (L + 2) (AOcell (some (.ref g)))) := Keep.hup (.inr (.head _))
    refine ⟨_, by (first | lia | omega), d, g, i + 1, hilt, rfl, hit, k6 _ _ (k5 _ _ e2 (by simp)) (by simpa using hitL.symm), k6 _ _ (k5 _ _ ed2 (by simp)) (by simpa using ne_of (k5 _ _ ed2 (by simp)) c5 (by simp)), (k2.trans (k5.sub (by simp))).trans k6, hup_self, ?_, hf, hr⟩
    rw [hstep]
    exact ⟨_, k6 _ _ e5 (by simpa using ne_of e5 c5 (by simp)), P5.keepBut k6 c5 (by simp)⟩
  · have : i = (numsOf sc).length := by rw [aInts_len] at hle; (first | lia | omega)
    subst this
    rw [List.take_length] at P1
    have ka : Keep [it] H1 (hdrop H1 it) := fun b o e n => by
      rw [drop_ne (by simpa using n)]; exact e
    have k2 : Keep [L + 2] H (hdrop H1 it) := keep_drop k1 hit
    refine h ib _ _ ?_
    obtain ⟨rs, hrs, PPs⟩ := P1
    refine ⟨k2 _ _ S.c1 ?_, ka _ _ ec (by simpa using hitL), k2 _ _ S.c3 ?_, k2 _ _ S.c4 ?_, k2 _ _ S.c5 ?_, k2 _ _ S.c6 ?_, ⟨rs, ka _ _ hrs (by simpa using ne_of hrs ei (by simp)), PPs.keepBut ka ei (by simp)⟩, S.tab.keepC k2 (fun a ha => by simp only [List.mem_singleton] at ha; exact ⟨_, ha ▸ S.c2⟩), hf, hr⟩
    all_goals (simp only [List.mem_singleton]; exact adl (by decide))
end
end Mine
end
section
open PySem PySem.W PySem.Calls PyProof.Rows
set_option Elab.async false
set_option maxRecDepth 100000
set_option maxHeartbeats 1000000
set_option linter.unusedVariables false
set_option linter.unusedSimpArgs false
namespace Mine
inductive AllR (R : Pr2 → AV → Hp → Prop) (H : Hp) : List Pr2 → List AV → Prop
  | nil : AllR R H [] []
  | cons {p b ps bs} : R p b H → AllR R H ps bs → AllR R H (p :: ps) (b :: bs)
theorem AllR.snoc {R : Pr2 → AV → Hp → Prop} {H : Hp} {ps bs p b} (h : AllR R H ps bs) (r : R p b H) : AllR R H (ps ++ [p]) (bs ++ [b]) := by
  induction h with
  | nil => exact .cons r .nil
  | cons r' _ ih => exact .cons r' ih
theorem AllR.imp {R R' : Pr2 → AV → Hp → Prop} {H H' : Hp} {ps bs} (h : AllR R H ps bs) (k : ∀ p b, R p b H → R' p b H') : AllR R' H' ps bs := by
  induction h with
  | nil => exact .nil
  | cons r' _ ih => exact .cons (k _ _ r') ih
theorem AllR.map {g : Pr2 → AV} {H : Hp} {ps bs} (h : AllR (fun p b _ => b = g p) H ps bs) : bs = ps.map g := by
  induction h with
  | nil => rfl
  | cons r' _ ih => rw [List.map_cons, ← r', ih]
theorem AllR.length {R : Pr2 → AV → Hp → Prop} {H : Hp} {ps bs} (h : AllR R H ps bs) : bs.length = ps.length := by
  induction h with
  | nil => rfl
  | cons r' _ ih => simp [ih]
structure PI (R : Addr → Pr2 → AV → Hp → Prop) (H : Hp) (ia : Addr) (its : List Pr2) (it acc : Addr) (n : Nat) (ys : List AV) (H1 : Hp) (i : Nat) : Prop where
  hi : i ≤ its.length
  hn : n = its.length - i
  ar : AllR (R acc) H1 (its.take i) ys
  ei : H1 it = some (.pat (liP ia i))
  ea : H1 acc = some (.list ys)
  k : Keep [] H H1
  h7 : H it = none
  h8 : H acc = none
  h9 : it ≠ acc
section
variable {c : Cx} {env : Env} {m : Lm} {H : Hp} {pos p0 : Pos} {Q : AV → Lm → Hp → Prop}
theorem x_pairs {elt iter : PySem.Expr} {scope : Scope} (cl : List (Str × Addr)) {ia : Addr} {its : List Pr2} (R : Addr → Pr2 → AV → Hp → Prop) (E : EnvOk env c.L) (hh : c.A.handled = none) (hl : its.length ≤ 12) (P : PairsAt H ia its)
    (hiter : WE c env iter m H fun av m1 H1 => av = .ref ia ∧ m1 = m ∧ H1 = H)
    (hRk : ∀ acc p b H H', R acc p b H → (∀ a o, a ≠ acc → H a = some o → (∀ q, o ≠ .pat q) → H' a = some o) → R acc p b H')
    (helt : ∀ C fs r p acc ys H2, p ∈ its → Keep [] H H2 → H2 r = some (.list [.str [p.1], .str p.2]) → H2 acc = some (.list ys) → WE (c.inC C fs) (compEnvC scope cl C env) elt [("pair", .ref r)] H2 fun b _ H3 => Keep [] H2 H3 ∧ R acc p b H3)
    (h : ∀ acc H' bs, Keep [] H H' → H acc = none → H' acc = some (.list bs) → AllR (R acc) H' its bs → Q (.ref acc) m H')
    (hx : ∀ C, (compEnvC scope cl C env).kindOf "pair" = some .local := by intro _; kernel_rfl)
    (hclos : closureFor scope env = pure cl := by kernel_rfl) (hc : (scope.names.all fun y => y.2 != .cell) = true := by kernel_rfl) (hkind : scope.kind = .function := by kernel_rfl)
    (hn : (scope.names.all fun y => y.2 != .local || scope.names.lookup y.1 == some .local) = true := by kernel_rfl)
    (hs : ∀ x, foldedSetIterable iter env x = pure x := by intro _; with_unfolding_all rfl) :
    WE c env (.ListComp elt [⟨.Name "pair" p0, iter, [], 0⟩] scope pos) m H Q := by
  obtain ⟨rs, hrs, PPs⟩ := P
  have hrl : rs.length = its.length := PPs.length
  refine x_comp cl (fun it acc n ys H1 => ∃ i : Nat, PI R H ia its it acc n ys H1 i)
    (fun acc H1 => ∃ bs, H1 acc = some (.list bs) ∧ H acc = none ∧ AllR (R acc) H1 its bs ∧ Keep [] H H1) ?_ ?_ ?_ hclos hc hkind hn hs (by intro _ _; rfl)
  · refine hiter.imp fun av m1 H1 ⟨e1, e2, e3⟩ => ?_
    subst e1 e2 e3
    refine it_list hrs fun it hit => ⟨it, its.length, rfl, fun acc ha => ?_, fun acc H4 ⟨bs, e4, ha0, R4, k4⟩ => h acc H4 bs k4 ha0 e4 R4⟩
    have hne : acc ≠ it := fun q => by subst q; rw [hup_self] at ha; cases ha
    have ha0 : H1 acc = none := by rwa [hup_ne hne] at ha
    exact ⟨0, Nat.zero_le _, rfl, .nil, (hup_ne hne.symm).trans hup_self, hup_self, keep_hup2 (Keep.hup (.inl hit)) ha0, hit, ha0, hne.symm⟩
  · rintro C fs' it acc n H3 ⟨i, h1, h2, h3, h4, h5, h6, h7, h8, h9⟩
    exact it_self h4 ⟨rfl, i, h1, h2, h3, h4, h5, h6, h7, h8, h9⟩
  · rintro C fs' it acc n ys H3 ⟨i, h1, rfl, hR, h4, h5, h6, h7, h8, h9⟩
    refine nx_list hh h4 (h6 _ _ hrs (by simp)) (fun x hx' => ?_) (fun hle => ?_)
    · rw [List.getElem?_map] at hx'
      cases hr : rs[i]? with
      | none => rw [hr] at hx'; cases hx'
      | some r =>
      rw [hr] at hx'; cases hx'
      obtain ⟨p, hp, hpH⟩ := PPs.get hr
      have hilt : i < its.length := by
        rcases Nat.lt_or_ge i its.length with h | h
        · exact h
        · rw [List.getElem?_eq_none h] at hp; cases hp
      have k4 : Keep [] H (hup H3 it (.pat (liP ia (i + 1)))) := keep_hup2 h6 h7
      have ei : hup H3 it (.pat (liP ia (i + 1))) it = some (.pat (liP ia (i + 1))) := hup_self
      have ea : hup H3 it (.pat (liP ia (i + 1))) acc = some (.list ys) := (hup_ne h9.symm).trans h5
      have hR4 : AllR (R acc) (hup H3 it (.pat (liP ia (i + 1)))) (its.take i) ys := hR.imp fun p b r => hRk _ _ _ _ _ r fun b o _ e hn => (hup_ne (fun q => by subst q; rw [h4] at e; cases e; exact hn _ rfl)).trans e
      generalize hup H3 it (.pat (liP ia (i + 1))) = H4 at k4 ei ea hR4 ⊢
      refine x_asg (compE E hkind) ?_ (hx C)
      refine ifs_nil ?_
      rw [if_pos rfl]
      refine (helt C fs' r p acc ys H4 (List.mem_of_getElem? hp) k4 (k4 _ _ hpH (by simp)) ea).imp fun b m5 H5 ⟨k5, r5⟩ => ?_
      have hlen : ys.length ≤ 12 := by have := hR.length; rw [List.length_take] at this; (first | lia | omega)
      refine ⟨k5 _ _ ea (by simp), by (first | lia | omega), _, by (first | lia | omega), i + 1, hilt, rfl, ?_, (hup_ne h9).trans (k5 _ _ ei (by simp)), hup_self, keep_hup2 (k4.trans k5) h8, h7, h8, h9⟩
      rw [take_succ' hp]
      have per : ∀ a o, a ≠ acc → H5 a = some o → (∀ q, o ≠ .pat q) → hup H5 acc (.list (ys ++ [b])) a = some o := fun a o hne e _ => (hup_ne hne).trans e
      exact AllR.snoc (hR4.imp fun p b r => hRk _ _ _ _ _ (hRk _ _ _ _ _ r fun a o _ e _ => k5 _ _ e (by simp)) per) (hRk _ _ _ _ _ r5 per)
    · have : i = its.length := by rw [List.length_map] at hle; (first | lia | omega)
      subst this
      rw [List.take_length] at hR
      refine ⟨ys, (drop_ne h9.symm).trans h5, h8, hR.imp fun p b r => hRk _ _ _ _ _ r fun a o _ e hn => ?_, keep_drop h6 h7⟩
      rw [drop_ne (fun q => by subst q; rw [h4] at e; cases e; exact hn _ rfl)]
      exact e
theorem x_pairsG {elt iter : PySem.Expr} {scope : Scope} (cl : List (Str × Addr)) {ia : Addr} {its : List Pr2} (g : Pr2 → AV) (E : EnvOk env c.L) (hh : c.A.handled = none) (hl : its.length ≤ 12) (P : PairsAt H ia its)
    (hiter : WE c env iter m H fun av m1 H1 => av = .ref ia ∧ m1 = m ∧ H1 = H)
    (helt : ∀ C fs r p H2, p ∈ its → Keep [] H H2 → H2 r = some (.list [.str [p.1], .str p.2]) → WE (c.inC C fs) (compEnvC scope cl C env) elt [("pair", .ref r)] H2 fun b _ H3 => Keep [] H2 H3 ∧ b = g p)
    (h : ∀ acc H', Keep [] H H' → H acc = none → H' acc = some (.list (its.map g)) → Q (.ref acc) m H')
    (hx : ∀ C, (compEnvC scope cl C env).kindOf "pair" = some .local := by intro _; kernel_rfl)
    (hclos : closureFor scope env = pure cl := by kernel_rfl) (hc : (scope.names.all fun y => y.2 != .cell) = true := by kernel_rfl) (hkind : scope.kind = .function := by kernel_rfl)
    (hn : (scope.names.all fun y => y.2 != .local || scope.names.lookup y.1 == some .local) = true := by kernel_rfl)
    (hs : ∀ x, foldedSetIterable iter env x = pure x := by intro _; with_unfolding_all rfl) :
    WE c env (.ListComp elt [⟨.Name "pair" p0, iter, [], 0⟩] scope pos) m H Q :=
  x_pairs cl (fun _ p b _ => b = g p) E hh hl P hiter (fun _ _ _ _ _ r _ => r) (fun C fs r p acc ys H2 hp k e _ => helt C fs r p H2 hp k e)
    (fun acc H' bs k ha e r => h acc H' k ha (by rw [← r.map]; exact e)) hx hclos hc hkind hn hs
end
end Mine
end
section
open PySem PySem.W PySem.Calls PyProof.Rows
set_option Elab.async false
set_option maxRecDepth 100000
set_option maxHeartbeats 1000000
set_option linter.unusedVariables false
set_option linter.unusedSimpArgs false
namespace Mine
section
variable {c : Cx} {env : Env} {m : Lm} {H : Hp} {pos : Pos} {Q : AV → Lm → Hp → Prop} {QF : AF → Lm → Hp → Prop} {QB : Bool → Lm → Hp → Prop}
theorem ASt.aside {h h' : Heap} {C : Addr} (S : ASt c m H h) (hs : Heap.SameBut C h h') (h1 : H C = none) (h2 : C ≠ c.L) (h3 : c.hB.get? C = none) (h4 : ∀ p ∈ c.fs, p.1 ≠ C) : ASt c m H h' := by
  obtain ⟨⟨mm, F, hm⟩, ob, d, fro, off⟩ := S
  refine ⟨⟨mm, ⟨F.ns.sameBut hs h2.symm, fun b o e => (hs.2 b (fun q => by rw [q, h3] at e; cases e)).trans (F.keep b o e), F.above⟩, hm⟩, fun a ao e => ?_, d, fun p hp => ⟨(hs.2 _ (h4 p hp)).trans (fro p hp).1, (fro p hp).2⟩, off⟩
  obtain ⟨o, g1, g2, g3, g4⟩ := ob a ao e
  exact ⟨o, (hs.2 a (fun q => by rw [q, h1] at e; cases e)).trans g1, g2, g3, g4⟩
theorem s_comp {elt target iter : PySem.Expr} {y : Str} {py spos : Pos} {ifs : List PySem.Expr} {scope : Scope} {cl : List (Str × Addr)} (I : Addr → Addr → Nat → List AV → Hp → Prop) (E : Addr → Hp → Prop)
    (hsw : swapsWith (.ListComp elt [⟨target, iter, ifs, 0⟩] scope pos) (some (.Name y py)) spos.line env = pure true) (hk : env.scope.kind = .function) (hy : env.kindOf y = some .local) (hL : env.locals = c.L) (hclos : closureFor scope env = pure cl) (hcell : ∀ y ∈ scope.names, y.2 ≠ .cell) (hkind : scope.kind = .function) (hnames : ∀ y ∈ scope.names, y.2 = .local → scope.names.lookup y.1 = some .local)
    (h : WE c env iter m H fun av m1 H1 => WIter c av m1 H1 fun iv m2 H2 => ∃ it n, iv = .ref it ∧ (∀ acc, H2 acc = none → I it acc n [] (hup H2 acc (.list []))) ∧ ∀ acc H', E acc H' → QF .next ((y, .ref acc) :: m2) H')
    (self : ∀ C fs it acc n H3, I it acc n [] H3 → WIter (c.inC C fs) (.ref it) [] H3 fun iv m4 H4 => iv = .ref it ∧ I it acc n [] H4)
    (turn : ∀ C fs it acc n ys H3, I it acc n ys H3 → WNext (c.inC C fs) it [] H3 fun r m4 H4 => match r with
      | none => E acc H4
      | some a => WAsg (c.inC C fs) (compEnvC scope cl C env) target a [] H4 fun _ m5 H5 => W (c.inC C fs) (fun b a => b = a) (ifsT ifs (compEnvC scope cl C env)) m5 H5 fun ok m6 H6 =>
        if ok then WE (c.inC C fs) (compEnvC scope cl C env) elt m6 H6 fun b m7 H7 => H7 acc = some (.list ys) ∧ ys.length ≤ 1000 ∧ ∃ k, k < n ∧ I it acc k (ys ++ [b]) (hup H7 acc (.list (ys ++ [b])))
        else ∃ k, k < n ∧ I it acc k ys H6)
    (hs : ∀ x, foldedSetIterable iter env x = pure x := by intro _; with_unfolding_all rfl) (ht : ∀ it v, letOwnedTupleGo target it v = pure () := by intro _ _; with_unfolding_all rfl) :
    WS c env (.Assign [.Name y py] (.ListComp elt [⟨target, iter, ifs, 0⟩] scope pos) spos) m H QF := fun s S => by
  show wpAny _ _ (exec (.Assign [.Name y py] (.ListComp elt [⟨target, iter, ifs, 0⟩] scope pos) spos) env) _ _ _
  rw [exec_Assign_Name_used _ _ _ _ hsw]
  refine wpAny_bind (wpAny_standAt (wpAny_bind ?_))
  show wpAny _ c.A (do let _ ← comprehension (.ListComp elt [⟨target, iter, ifs, 0⟩] scope pos) scope env _ (newList []) false (eval iter env) (some (assign (.Name y py) env))) _ _ s
  refine wpAny_bind (wpAny_mono (comp_core (use := some (assign (.Name y py) env)) (Qv := fun _ s' => ∃ b m' H', repF b Flow.next ∧ ASt c m' H' s'.heap ∧ Rest s s' ∧ QF b m' H') (G := fun acc m H => QF .next ((y, .ref acc) :: m) H) S I E hclos hcell hkind hnames h self turn (fun acc C s6 m2 H3 h3 oL m6 H6 f q S3 hoL S6 z => ?_) hs ht) (fun _ s' hq => wpAny_pure (wpAny_pure hq)) fun _ _ e => e)
  obtain ⟨mm, F6⟩ := S6.frame
  have S7 : ASt c m2 H6 s6.heap := S3.leave hoL S6 ⟨rfl, fun b _ => rfl⟩
  obtain ⟨m0, F7, hm7⟩ := S7.fr
  have hCL : C ≠ c.L := fun q => (S6.fro (c.L, oL) (.head _)).2.1 q.symm
  have hHC : H6 C = none := by
    cases q : H6 C with
    | none => rfl
    | some ao => obtain ⟨o, _, _, h3, _⟩ := S6.ob _ ao q; exact absurd rfl h3
  show wpAny _ _ (assign (.Name y py) env (.ref acc)) _ _ _
  refine PyProof.Rows.assign_Name (wpAny_storeName_local hy (hL ▸ F7.ns) (fun h' hn hs' => ?_) (by rw [hk]; rfl))
  rw [hL] at hn hs'
  have S8 : ASt c ((y, .ref acc) :: m2) H6 h' := S7.store F7 hm7 hn hs' rfl
  refine ⟨mm, F6.ns.sameBut hs' hCL, fun h'' hs'' => ⟨.next, _, H6, rfl, S8.aside hs'' hHC hCL ?_ (fun p hp => (S6.fro p (.tail _ hp)).2.1), z, q⟩⟩
  cases e : c.hB.get? C with
  | none => rfl
  | some o => exact absurd (Heap.lt_size e) (Nat.not_lt.mpr F6.above)
variable {p0 : Pos}
theorem s_pairs {elt iter : PySem.Expr} {y : Str} {py spos : Pos} {QF : AF → Lm → Hp → Prop} {scope : Scope} (cl : List (Str × Addr)) {ia : Addr} {its : List Pr2} (R : Addr → Pr2 → AV → Hp → Prop) (E : EnvOk env c.L) (hh : c.A.handled = none) (hl : its.length ≤ 12) (P : PairsAt H ia its)
    (hiter : WE c env iter m H fun av m1 H1 => av = .ref ia ∧ m1 = m ∧ H1 = H)
    (hRk : ∀ acc p b H H', R acc p b H → (∀ a o, a ≠ acc → H a = some o → (∀ q, o ≠ .pat q) → H' a = some o) → R acc p b H')
    (helt : ∀ C fs r p acc ys H2, p ∈ its → Keep [] H H2 → H2 r = some (.list [.str [p.1], .str p.2]) → H2 acc = some (.list ys) → WE (c.inC C fs) (compEnvC scope cl C env) elt [("pair", .ref r)] H2 fun b _ H3 => Keep [] H2 H3 ∧ R acc p b H3)
    (h : ∀ acc H' bs, Keep [] H H' → H acc = none → H' acc = some (.list bs) → AllR (R acc) H' its bs → QF .next ((y, .ref acc) :: m) H')
    (hsw : swapsWith (.ListComp elt [⟨.Name "pair" p0, iter, [], 0⟩] scope pos) (some (.Name y py)) spos.line env = pure true := by kernel_rfl) (hy : env.kindOf y = some .local := by kernel_rfl)
    (hx : ∀ C, (compEnvC scope cl C env).kindOf "pair" = some .local := by intro _; kernel_rfl)
    (hclos : closureFor scope env = pure cl := by kernel_rfl) (hc : (scope.names.all fun y => y.2 != .cell) = true := by kernel_rfl) (hkind : scope.kind = .function := by kernel_rfl)
    (hn : (scope.names.all fun y => y.2 != .local || scope.names.lookup y.1 == some .local) = true := by kernel_rfl)
    (hs : ∀ x, foldedSetIterable iter env x = pure x := by intro _; with_unfolding_all rfl) :
    WS c env (.Assign [.Name y py] (.ListComp elt [⟨.Name "pair" p0, iter, [], 0⟩] scope pos) spos) m H QF := by
  obtain ⟨rs, hrs, PPs⟩ := P
  have hrl : rs.length = its.length := PPs.length
  refine s_comp (cl := cl) (I := fun it acc n ys H1 => ∃ i : Nat, PI R H ia its it acc n ys H1 i)
    (E := fun acc H1 => ∃ bs, H1 acc = some (.list bs) ∧ H acc = none ∧ AllR (R acc) H1 its bs ∧ Keep [] H H1) hsw E.kind hy E.loc hclos (fun y hy => by simpa using List.all_eq_true.mp hc y hy) hkind (fun y hy hl => by simpa [hl] using List.all_eq_true.mp hn y hy) ?_ ?_ ?_ hs (by intro _ _; rfl)
  · refine hiter.imp fun av m1 H1 ⟨e1, e2, e3⟩ => ?_
    subst e1 e2 e3
    refine it_list hrs fun it hit => ⟨it, its.length, rfl, fun acc ha => ?_, fun acc H4 ⟨bs, e4, ha0, R4, k4⟩ => h acc H4 bs k4 ha0 e4 R4⟩
    have hne : acc ≠ it := fun q => by subst q; rw [hup_self] at ha; cases ha
    have ha0 : H1 acc = none := by rwa [hup_ne hne] at ha
    exact ⟨0, Nat.zero_le _, rfl, .nil, (hup_ne hne.symm).trans hup_self, hup_self, keep_hup2 (Keep.hup (.inl hit)) ha0, hit, ha0, hne.symm⟩
  · rintro C fs' it acc n H3 ⟨i, h1, h2, h3, h4, h5, h6, h7, h8, h9⟩
    exact it_self h4 ⟨rfl, i, h1, h2, h3, h4, h5, h6, h7, h8, h9⟩
  · rintro C fs' it acc n ys H3 ⟨i, h1, rfl, hR, h4, h5, h6, h7, h8, h9⟩
    refine nx_list hh h4 (h6 _ _ hrs (by simp)) (fun x hx' => ?_) (fun hle => ?_)
    · rw [List.getElem?_map] at hx'
      cases hr : rs[i]? with
      | none => rw [hr] at hx'; cases hx'
      | some r =>
      rw [hr] at hx'; cases hx'
      obtain ⟨p, hp, hpH⟩ := PPs.get hr
      have hilt : i < its.length := by
        rcases Nat.lt_or_ge i its.length with h | h
        · exact h
        · rw [List.getElem?_eq_none h] at hp; cases hp
      have k4 : Keep [] H (hup H3 it (.pat (liP ia (i + 1)))) := keep_hup2 h6 h7
      have ei : hup H3 it (.pat (liP ia (i + 1))) it = some (.pat (liP ia (i + 1))) := hup_self
      have ea : hup H3 it (.pat (liP ia (i + 1))) acc = some (.list ys) := (hup_ne h9.symm).trans h5
      have hR4 : AllR (R acc) (hup H3 it (.pat (liP ia (i + 1)))) (its.take i) ys := hR.imp fun p b r => hRk _ _ _ _ _ r fun b o _ e hn => (hup_ne (fun q => by subst q; rw [h4] at e; cases e; exact hn _ rfl)).trans e
      generalize hup H3 it (.pat (liP ia (i + 1))) = H4 at k4 ei ea hR4 ⊢
      refine x_asg (compE E hkind) ?_ (hx C)
      refine ifs_nil ?_
      rw [if_pos rfl]
      refine (helt C fs' r p acc ys H4 (List.mem_of_getElem? hp) k4 (k4 _ _ hpH (by simp)) ea).imp fun b m5 H5 ⟨k5, r5⟩ => ?_
      have hlen : ys.length ≤ 12 := by have := hR.length; rw [List.length_take] at this; (first | lia | omega)
      refine ⟨k5 _ _ ea (by simp), by (first | lia | omega), _, by (first | lia | omega), i + 1, hilt, rfl, ?_, (hup_ne h9).trans (k5 _ _ ei (by simp)), hup_self, keep_hup2 (k4.trans k5) h8, h7, h8, h9⟩
      rw [take_succ' hp]
      have per : ∀ a o, a ≠ acc → H5 a = some o → (∀ q, o ≠ .pat q) → hup H5 acc (.list (ys ++ [b])) a = some o := fun a o hne e _ => (hup_ne hne).trans e
      exact AllR.snoc (hR4.imp fun p b r => hRk _ _ _ _ _ (hRk _ _ _ _ _ r fun a o _ e _ => k5 _ _ e (by simp)) per) (hRk _ _ _ _ _ r5 per)
    · have : i = its.length := by rw [List.length_map] at hle; (first | lia | omega)
      subst this
      rw [List.take_length] at hR
      refine ⟨ys, (drop_ne h9.symm).trans h5, h8, hR.imp fun p b r => hRk _ _ _ _ _ r fun a o _ e hn => ?_, keep_drop h6 h7⟩
      rw [drop_ne (fun q => by subst q; rw [h4] at e; cases e; exact hn _ rfl)]
      exact e
end
end Mine
end
section
open PySem PySem.W PySem.Calls PyProof.Rows
set_option Elab.async false
set_option maxRecDepth 100000
set_option maxHeartbeats 1000000
set_option linter.unusedVariables false
set_option linter.unusedSimpArgs false
namespace Mine
section
variable {w : World} {hB : Heap} {A : Around} {L : Addr} {fs : List (Addr × Obj)} {QF : AF → Lm → Hp → Prop}
theorem law4 (Bk : BOk w hB) (hA : AOk 30 A) {ia : Addr} {its : List Pr2} {m : Lm} {H : Hp} {f : Int} (hl : its.length ≤ 12) (hB1 : ∀ p ∈ its, inB1 p.1 = (p.2 == [])) (S : LA L f its ia m H)
    (h : ∀ m1 H1, LA L f its ia m1 H1 → WSS ⟨w, hB, A, L, fs⟩ (env170 L) ((fBody (stm 16)).drop 6) m1 H1 QF) : WSS ⟨w, hB, A, L, fs⟩ (env170 L) ((fBody (stm 16)).drop 4) m H QF := by
  have E := envOk170 L
  refine s_cons (s_pairs [] (its := its) (fun _ p b _ => b = .bool (inB1 p.1)) E hA.1 hl S.pr (x_c E (L + 2) S.c2 ⟨rfl, rfl, rfl⟩) (fun _ _ _ _ _ r _ => r) (fun C fs' r p acc ys H2 hp k er _ => ?_) fun acc H1 bs k1 ha e1 R1 => ?_)
  · refine x_f (f := 81) Bk (compE E rfl) (a_cons (e_item (fun o i => ⟨_, by with_unfolding_all rfl⟩) (x_l (compE E rfl) rfl ⟨r, rfl, e_int ⟨0, _, .str [p.1], rfl, by decide, er, rfl, a_nil (c_def (fc81 Bk) rfl rfl (hA.less (by (first | lia | omega))) trivial fun av H5 k5 ⟨e1, e2⟩ => ⟨k5, e1⟩)⟩⟩)))
  have e1' : H1 acc = some (.list (aBools (its.map fun p => inB1 p.1))) := by rw [e1, AllR.map (g := fun p => AV.bool (inB1 p.1)) R1, aBools, List.map_map]; rfl
  clear R1
  refine s_cons (s_if (t_boolop (t_or (t_cmp (x_l E rfl (x_pairsG [] (its := its) (fun p => .bool (p.2 == [])) E hA.1 hl (S.pr.keep k1) (x_c E (L + 2) (k1 _ _ S.c2 (by simp)) ⟨rfl, rfl, rfl⟩) (fun C fs' r p H2 hp k er => ?_) fun acc2 H2 k2 ha2 e2 => ?_))))))
  · exact e_cmp (e_item (fun o i => ⟨_, by with_unfolding_all rfl⟩) (x_l (compE E rfl) rfl ⟨r, rfl, e_int ⟨1, _, .str p.2, rfl, by decide, er, rfl, e_str (l := []) (by kernel_rfl) (o_eq_str ⟨.refl, rfl⟩)⟩⟩))
  have e2' : H2 acc2 = some (.list (aBools (its.map fun p => p.2 == []))) := by rw [e2, aBools, List.map_map]; rfl
  have e1'' := k2 _ _ e1' (by simp)
  refine o_ne_bools (d := 10) (hA.less (by (first | lia | omega))) e1'' e2' ⟨_, rfl, ?_⟩
  have heq : (its.map fun p => inB1 p.1) = its.map fun p => p.2 == [] := List.map_congr_left hB1
  rw [heq, decide_eq_true rfl, if_neg (by decide)]
  have K2 := k1.trans k2
  clear e2 e2' ha2 k2 e1 e1'
  generalize (its.map fun p => p.2 == []) = bl at heq
  rw [heq] at e1''
  have hbl : (aBools bl).length ≤ 12 := by rw [← heq, aBools, List.length_map, List.length_map]; exact hl
  refine t_or (t_cmp (x_comp [] (fun it ac n ys H3 => ∃ i : Nat, CI H2 (bl.length) it ac n ys H3 ([]) (.pat (liP acc i)) i)
    (fun ac H3 => H3 ac = some (.list (aBools [])) ∧ Keep [] H2 H3) ?_ ?_ ?_))
  · refine x_l E rfl (it_list e1'' fun it hit => ⟨it, bl.length, rfl, fun ac hac => ?_, fun ac H4 ⟨e4, k4⟩ => ?_⟩)
    · have hne : ac ≠ it := fun q => by subst q; rw [hup_self] at hac; cases hac
      have ha0 : H2 ac = none := by rwa [hup_ne hne] at hac
      exact ⟨0, Nat.zero_le _, rfl, rfl, (hup_ne hne.symm).trans hup_self, hup_self, keep_hup2 (Keep.hup (.inl hit)) ha0, hit, ha0, hne.symm⟩
    · refine e_list (a_nil ⟨by decide, fun z hz => ?_⟩)
      refine o_ne_bools (d := 10) (l := []) (k := []) (hA.less (by (first | lia | omega))) ((Keep.hup (mu := []) (.inl hz)) _ _ e4 (by simp)) hup_self ⟨_, rfl, ?_⟩
      rw [decide_eq_true rfl, if_neg (by decide)]
      refine t_or_nil ?_
      rw [if_neg (by decide)]
      exact s_nil (h _ _ (S.keep ((K2.trans k4).trans (Keep.hup (.inl hz))) S.first S.raw))
  · rintro C fs' it ac n H3 ⟨i, h1, h2, h3, h4, h5, h6, h7, h8, h9⟩
    exact it_self h4 ⟨rfl, i, h1, h2, h3, h4, h5, h6, h7, h8, h9⟩
  · rintro C fs' it ac n ys H3 ⟨i, h1, rfl, rfl, h4, h5, h6, h7, h8, h9⟩
    refine nx_list hA.1 h4 (h6 _ _ e1'' (by simp)) (fun x hx' => ?_) (fun hle => ?_)
    · unfold aBools at hx'
      rw [List.getElem?_map] at hx'
      cases hr : bl[i]? with
      | none => rw [hr] at hx'; cases hx'
      | some b =>
      rw [hr] at hx'; cases hx'
      have hilt : i < bl.length := by
        rcases Nat.lt_or_ge i bl.length with h | h
        · exact h
        · rw [List.getElem?_eq_none h] at hr; cases hr
      refine x_asg (compE E rfl) ?_
      refine ifs_one (t_not (t_val (x_b (id := "isinstance") Bk (compE E rfl) (a_cons (x_l (compE E rfl) rfl (a_cons (e_builtin (av := .ty "bool") Bk rfl (by kernel_rfl) rfl rfl (by kernel_rfl) (v := .type "bool") (by kernel_rfl) (by decide) rfl (a_nil (c_isbool fun v rv => truth_bool rv ?_)))))))))
      rw [if_neg (by decide)]
      exact ⟨_, by (first | lia | omega), i + 1, hilt, rfl, rfl, hup_self, (hup_ne h9.symm).trans h5, keep_hup2 h6 h7, h7, h8, h9⟩
    · exact ⟨(drop_ne h9.symm).trans h5, keep_drop h6 h7⟩
theorem AllR.pairs {acc : Addr} {H : Hp} {ps bs} (h : AllR (fun p b H => ∃ r : Addr, b = .ref r ∧ r ≠ acc ∧ H r = some (.list [.str [p.1], .str [p.1]])) H ps bs) : ∃ rs : List Addr, bs = rs.map AV.ref ∧ PP H rs (rawP ps) := by
  induction h with
  | nil => exact ⟨[], rfl, .nil⟩
  | cons r _ ih =>
    obtain ⟨x, rfl, _, e⟩ := r
    obtain ⟨rs, rfl, P⟩ := ih
    exact ⟨x :: rs, rfl, .cons e P⟩
theorem law6 (Bk : BOk w hB) (hA : AOk 30 A) {ia : Addr} {its : List Pr2} {m : Lm} {H : Hp} {f : Int} (hl : its.length ≤ 12) (S : LA L f its ia m H)
    (h : ∀ ib m1 H1, LA L f (if rawOf f then rawP its else its) ib m1 H1 → WSS ⟨w, hB, A, L, fs⟩ (env170 L) ((fBody (stm 16)).drop 7) m1 H1 QF) : WSS ⟨w, hB, A, L, fs⟩ (env170 L) ((fBody (stm 16)).drop 6) m H QF := by
  have E := envOk170 L
  refine s_cons (W.imp (Q := fun fl m1 H1 => fl = .next ∧ ∃ ib, LA L f (if rawOf f then rawP its else its) ib m1 H1) (s_if (t_bool E.kind (by kernel_rfl) E.loc S.raw ?_)) ?_)
  · cases hr : rawOf f with
    | false =>
      rw [if_neg (by decide), if_neg (by decide)]
      exact s_nil ⟨rfl, ia, S⟩
    | true =>
      rw [if_pos rfl, if_pos rfl]
      refine s_cons (s_assign_cell (a := L + 2) E.kind (by kernel_rfl) (by kernel_rfl) (by kernel_rfl) (x_pairs [] (its := its) (fun acc p b H => ∃ r : Addr, b = .ref r ∧ r ≠ acc ∧ H r = some (.list [.str [p.1], .str [p.1]])) E hA.1 hl S.pr (x_c E (L + 2) S.c2 ⟨rfl, rfl, rfl⟩) ?_ ?_ fun acc H1 bs k1 ha e1 R1 => ?_))
      · rintro acc p b H1 H2 ⟨r, rfl, hr, e⟩ k
        exact ⟨r, rfl, hr, k _ _ hr e (by simp)⟩
      · intro C fs' r p acc ys H2 hp k er ea
        refine e_list (a_cons (e_item (fun o i => ⟨_, by with_unfolding_all rfl⟩) (x_l (compE E rfl) rfl ⟨r, rfl, e_int ⟨0, _, .str [p.1], rfl, by decide, er, rfl, ?_⟩⟩)))
        refine a_cons (e_item (fun o i => ⟨_, by with_unfolding_all rfl⟩) (x_l (compE E rfl) rfl ⟨r, rfl, e_int ⟨0, _, .str [p.1], rfl, by decide, er, rfl, ?_⟩⟩))
        exact a_nil ⟨by show 2 ≤ 1000; decide, fun z hz => ⟨Keep.hup (.inl hz), z, rfl, (fun q => by subst q; rw [ea] at hz; cases hz), hup_self⟩⟩
      · obtain ⟨rs, rfl, P1⟩ := R1.pairs
        have S1 := S.keep k1 S.first S.raw
        exact ⟨⟨_, S1.c2⟩, s_nil ⟨rfl, acc, S1.turn ⟨rs, e1, P1⟩ S.first S.raw⟩⟩
  · rintro fl m1 H1 ⟨rfl, ib, S1⟩
    exact h ib m1 H1 S1
structure LB (L : Addr) (f : Int) (its : List Pr2) (ia : Addr) (m : Lm) (H : Hp) : Prop where
  c1 : H (L + 1) = some (AOcell (some (.int (layOf f))))
  c2 : H (L + 2) = some (AOcell (some (.ref ia)))
  c3 : H (L + 3) = some (AOcell (some (.str frontL)))
  c4 : H (L + 4) = some (AOcell (some (.str [whiteC f])))
  c5 : H (L + 5) = some (AOcell none)
  c6 : H (L + 6) = some (AOcell none)
  pr : PairsAt H ia its
  tab : TabL H
  raw : Has m "raw" (.bool (rawOf f))
  plain : Has m "plain" (.str (plainOf its))
theorem plain_len {l : List Pr2} (h : Small l) : (plainOf l).length ≤ 120 := by
  have key : ∀ l : List Pr2, (∀ p ∈ l, p.2.length ≤ 10) → (plainOf l).length ≤ l.length * 10 := fun l => by
    induction l with
    | nil => intro _; simp [plainOf]
    | cons p l ih =>
      intro h
      have h1 := ih fun q hq => h q (.tail _ hq)
      have h2 := h p (.head _)
      unfold plainOf at h1 ⊢
      rw [List.map_cons, List.flatten_cons, List.length_append, List.length_cons]; (first | lia | omega)
  have h1 := key l h.2
  have h2 := h.1
  (first | lia | omega)
theorem law7 (Bk : BOk w hB) (hA : AOk 30 A) {ia : Addr} {its : List Pr2} {m : Lm} {H : Hp} {f : Int} (hs : Small its) (S : LA L f its ia m H)
    (h : ∀ m1 H1, LB L f its ia m1 H1 → WSS ⟨w, hB, A, L, fs⟩ (env170 L) ((fBody (stm 16)).drop 9) m1 H1 QF) : WSS ⟨w, hB, A, L, fs⟩ (env170 L) ((fBody (stm 16)).drop 7) m H QF := by
  have E := envOk170 L
  refine s_cons (x_as E (x_ms _ PySem.F.slot_str_join PySem.F.type_str_join (e_str (l := []) (by kernel_rfl) ⟨[], rfl, a_cons (x_pairsG [] (its := its) (fun p => .str p.2) E hA.1 hs.1 S.pr (x_c E (L + 2) S.c2 ⟨rfl, rfl, rfl⟩) (fun C fs' r p H2 hp k er => ?_) fun acc H1 k1 ha e1 => ?_)⟩) rfl))
  · exact e_item (fun o i => ⟨_, by with_unfolding_all rfl⟩) (x_l (compE E rfl) rfl ⟨r, rfl, e_int ⟨1, _, .str p.2, rfl, by decide, er, rfl, .refl, rfl⟩⟩)
  have hpl := plain_len hs
  refine a_nil (c_join (l := its.map fun p => p.2) (by rw [e1, aStrs, List.map_map]; rfl) (by unfold plainOf at hpl; (first | lia | omega)) ?_)
  have S1 := S.keep (m' := ((("plain" : Str), AV.str (plainOf its)) :: m : Lm)) k1 S.first S.raw
  clear e1 ha k1
  change WSS _ _ _ ((("plain" : Str), AV.str (plainOf its)) :: m) H1 QF
  have hpm : Has ((("plain" : Str), AV.str (plainOf its)) :: m) "plain" (.str (plainOf its)) := rfl
  generalize ((("plain" : Str), AV.str (plainOf its)) :: m : Lm) = m1 at S1 hpm ⊢
  obtain ⟨k, hk, hk4⟩ := fmod_nat (a := f.fdiv 3) (b := 4) (by decide)
  have hk' : (f.fdiv 3).fmod 4 = (k : Int) := hk
  refine s_cons (s_unpack (e_tuple (a_cons (e_str (l := frontL) (by kernel_rfl) (a_cons (e_item_str (fun o i => ⟨_, by with_unfolding_all rfl⟩) (e_str (l := frontL) (by kernel_rfl) ⟨frontL, rfl, e_binop (e_binop (x_l E S1.first (e_int (o_fdiv_int (by decide) (by kernel_rfl) (e_int (o_mod_int (by decide) ⟨k, whiteC f, ?_, by (first | lia | omega), ?_, a_nil ⟨by show 2 ≤ 100; decide, fun u hu v rv => ?_⟩⟩))))))⟩)))))) (by kernel_rfl) (by kernel_rfl))
  · rw [hk']
  · unfold whiteC
    rw [hk', Int.toNat_natCast]
    match k, hk4 with
    | 0, _ => rfl
    | 1, _ => rfl
    | 2, _ => rfl
    | 3, _ => rfl
  cases rv
  have ku : Keep [] H1 (hup H1 u (.tup [.str frontL, .str [whiteC f]])) := Keep.hup (.inl hu)
  have eu : hup H1 u (.tup [.str frontL, .str [whiteC f]]) u = some (.tup [.str frontL, .str [whiteC f]]) := hup_self
  generalize hup H1 u (.tup [.str frontL, .str [whiteC f]]) = H2 at ku eu ⊢
  have S2 := S1.keep (m' := m1) ku S1.first S1.raw
  refine as_twoW hA.1 (.inr eu) fun va vb ra rb => ?_
  refine store_cell (a := L + 3) E.kind (by kernel_rfl) (by kernel_rfl) S2.c3 ra ?_
  have k3 : Keep [L + 3] H2 (hup H2 (L + 3) (AOcell (some (.str frontL)))) := Keep.hup (.inr (.head _))
  have e3 : hup H2 (L + 3) (AOcell (some (.str frontL))) (L + 3) = some (AOcell (some (.str frontL))) := hup_self
  generalize hup H2 (L + 3) (AOcell (some (.str frontL))) = H3 at k3 e3 ⊢
  have c4 : H3 (L + 4) = some (AOcell none) := k3 _ _ S2.c4 (by simp only [List.mem_singleton]; exact adl (by decide))
  refine store_cell (a := L + 4) E.kind (by kernel_rfl) (by kernel_rfl) c4 rb ?_
  have k4 : Keep [L + 4] H3 (hup H3 (L + 4) (AOcell (some (.str [whiteC f])))) := Keep.hup (.inr (.head _))
  have e4 : hup H3 (L + 4) (AOcell (some (.str [whiteC f]))) (L + 4) = some (AOcell (some (.str [whiteC f]))) := hup_self
  generalize hup H3 (L + 4) (AOcell (some (.str [whiteC f]))) = H4 at k4 e4 ⊢
  obtain ⟨rs, hrs, PPs⟩ := S2.pr
  have k34 : ∀ {b o}, H2 b = some o → b ≠ L + 3 → b ≠ L + 4 → H4 b = some o := fun {b o} e h1 h2 => k4 _ _ (k3 _ _ e (by simpa using h1)) (by simpa using h2)
  refine h _ _ ⟨k34 S2.c1 (adl (by decide)) (adl (by decide)), k34 S2.c2 (adl (by decide)) (adl (by decide)), k4 _ _ e3 (by simp only [List.mem_singleton]; exact adl (by decide)), e4, k34 S2.c5 (adl (by decide)) (adl (by decide)), k34 S2.c6 (adl (by decide)) (adl (by decide)), ⟨rs, k34 hrs (ne_of hrs S2.c3 (by simp)) (ne_of hrs S2.c4 (by simp)), ?_⟩, ?_, S2.raw, hpm⟩
  · exact (PPs.keepBut k3 S2.c3 (by simp)).keepBut k4 c4 (by simp)
  · exact (S2.tab.keepC k3 (fun a ha => by simp only [List.mem_singleton] at ha; exact ⟨_, ha ▸ S2.c3⟩)).keepC k4 (fun a ha => by simp only [List.mem_singleton] at ha; exact ⟨_, ha ▸ c4⟩)
end
end Mine
end
section
open PySem PySem.W PySem.Calls PyProof.Rows
set_option Elab.async false
set_option maxRecDepth 100000
set_option maxHeartbeats 1000000
set_option linter.unusedVariables false
set_option linter.unusedSimpArgs false
namespace Mine
theorem page_len {wc : Nat} {l : List Pr2} {k : Nat} (h : Small l) : (pageOf wc l k).length ≤ 300 := by
  have h1 := wr_len (k := k) (b := true) (l := l) h.2
  have h2 := wr_len (k := k) (b := false) (l := l) h.2
  have h3 := h.1
  unfold pageOf
  simp only [List.length_append, List.length_singleton]
  have : frontL.length = 4 := rfl
  (first | lia | omega)
theorem told_len {l : List Pr2} {Ly t mn : Nat} (h : Small l) (hL : Ly ≤ 3) : (toldL l Ly t mn).length ≤ 5000 := by
  unfold toldL
  have hc : (cutOf l t mn).length ≤ 12 := by unfold cutOf; rw [List.length_take, List.length_drop]; have := h.1; (first | lia | omega)
  have hf : ∀ q ∈ cutOf l t mn, q.2.length ≤ 10 := fun q hq => h.2 q (List.mem_of_mem_drop (List.mem_of_mem_take hq))
  have hb := bodA_len (L := Ly) (t := t) hL (l := cutOf l t mn) (s := (0, 0, [])) hf
  change (bodA Ly t (cutOf l t mn)).1 + (bodA Ly t (cutOf l t mn)).2.1 ≤ 0 + 0 + _ ∧ (bodA Ly t (cutOf l t mn)).2.2.length ≤ 0 + _ at hb
  have h2 : (cutOf l t mn).length * (8 * (0 + 0 + (cutOf l t mn).length) + 10) ≤ 12 * (8 * (0 + 0 + 12) + 10) := Nat.mul_le_mul hc (by (first | lia | omega))
  have hb2 : (bodA Ly t (cutOf l t mn)).2.2.length ≤ 0 + (cutOf l t mn).length * (8 * (0 + 0 + (cutOf l t mn).length) + 10) := hb.2
  have hb1 := hb.1
  clear hb
  have hm : moreOf l t mn ≤ 1 := by unfold moreOf; split <;> decide
  have hr := runN_le (L := Ly) (t := t) (lost := (bodA Ly t (cutOf l t mn)).1) (kept := (bodA Ly t (cutOf l t mn)).2.1) (more := moreOf l t mn) hL
  rw [List.length_append, bsl, List.length_replicate]
  (first | lia | omega)
theorem guarded_len {l : List Pr2} {Ly : Nat} (h : l.length ≤ 12) (hL : Ly ≤ 3) : (guarded Ly l).length ≤ 96 := by
  have h8 : 2 ^ Ly ≤ 8 := Nat.pow_le_pow_right (by decide) hL
  have key : ∀ l : List Pr2, (guarded Ly l).length ≤ l.length * 8 := fun l => by
    induction l with
    | nil => simp [guarded]
    | cons p l ih =>
      unfold guarded at ih ⊢
      rw [List.map_cons, List.flatten_cons, List.length_append, List.length_append, List.length_singleton, List.length_cons]
      have : (bsl (2 ^ Ly - 1)).length = 2 ^ Ly - 1 := by rw [bsl, List.length_replicate]
      (first | lia | omega)
  have := key l
  (first | lia | omega)
section
variable {w : World} {hB : Heap} {A : Around} {L : Addr} {fs : List (Addr × Obj)} {QF : AF → Lm → Hp → Prop}
theorem LB.keep {L : Addr} {f : Int} {its : List Pr2} {ia : Addr} {m m' : Lm} {H H1 : Hp} (S : LB L f its ia m H) (k : Keep [] H H1) (h1 : Has m' "raw" (.bool (rawOf f))) (h2 : Has m' "plain" (.str (plainOf its))) : LB L f its ia m' H1 :=
  ⟨k _ _ S.c1 (by simp), k _ _ S.c2 (by simp), k _ _ S.c3 (by simp), k _ _ S.c4 (by simp), k _ _ S.c5 (by simp), k _ _ S.c6 (by simp), S.pr.keep k, S.tab.keep0 k, h1, h2⟩
noncomputable def pagesL (wc : Nat) (l : List Pr2) (i : Nat) : List (List Nat) := (List.range i).map (pageOf wc l)
theorem pages_succ (wc : Nat) (l : List Pr2) (i : Nat) : pagesL wc l (i + 1) = pagesL wc l i ++ [pageOf wc l i] := by
  unfold pagesL; rw [List.range_succ, List.map_append]; rfl
theorem law9 (Bk : BOk w hB) (hA : AOk 30 A) {ia : Addr} {its : List Pr2} {m : Lm} {H : Hp} {f : Int} (hs : Small its) (S : LB L f its ia m H)
    (h : ∀ m1 H1, LB L f its ia m1 H1 → Has m1 "typed" (.str (pageOf (whiteC f) its 0)) → Has m1 "page" (.str (pageOf (whiteC f) its 1)) → WSS ⟨w, hB, A, L, fs⟩ (env170 L) ((fBody (stm 16)).drop 10) m1 H1 QF) : WSS ⟨w, hB, A, L, fs⟩ (env170 L) ((fBody (stm 16)).drop 9) m H QF := by
  have E := envOk170 L
  refine s_cons (s_unpack (x_comp [("white", L + 4), ("items", L + 2), ("front", L + 3)] (fun it acc n ys H3 => ∃ i : Nat, CI H (2) it acc n ys H3 (aStrs (pagesL (whiteC f) its i)) (.raw (riO i ((2 : Int) - i))) i)
    (fun acc H3 => H3 acc = some (.list (aStrs (pagesL (whiteC f) its 2))) ∧ Keep [] H H3) ?_ ?_ ?_) (by kernel_rfl) (by kernel_rfl))
  · refine x_t (T := "range") Bk E (a_cons (e_int (a_nil (c_range1 fun r hr => ?_))))
    have er : hup H r (.pat (rgP 0 2)) r = some (.pat (rgP 0 2)) := hup_self
    have kr : Keep [] H (hup H r (.pat (rgP 0 2))) := Keep.hup (.inl hr)
    generalize hup H r (.pat (rgP 0 2)) = H3 at er kr ⊢
    refine it_range (n := 2) (by (first | lia | omega)) er fun it hit => ⟨it, 2, rfl, fun acc ha => ?_, fun acc H4 ⟨e4, k4⟩ => ?_⟩
    · have hne : acc ≠ it := fun q => by subst q; rw [hup_self] at ha; cases ha
      have ha0 : H3 acc = none := by rwa [hup_ne hne] at ha
      have back : ∀ {b}, H3 b = none → H b = none := fun {b} e => by
        cases q : H b with
        | none => rfl
        | some o => rw [kr _ _ q (by simp)] at e; cases e
      exact ⟨0, by (first | lia | omega), rfl, rfl, by rw [hup_ne hne.symm, hup_self]; simp, hup_self, kr.trans (keep_hup2 (Keep.hup (.inl hit)) ha0), back hit, back ha0, hne.symm⟩
    · intro v rv
      cases rv
      refine as_two E hA.1 (by kernel_rfl) (by kernel_rfl) (u := .str (pageOf (whiteC f) its 0)) (v := .str (pageOf (whiteC f) its 1)) (.inl e4) |>.mono fun _ m5 H5 ⟨e1, e2⟩ => ?_
      have e2 := e2.symm
      subst e1 e2
      exact h _ _ (S.keep k4 S.raw S.plain) rfl rfl
  · rintro C fs' it acc n H3 ⟨i, h1, h2, h3, h4, h5, h6, h7, h8, h9⟩
    exact it_range_self h4 ⟨rfl, i, h1, h2, h3, h4, h5, h6, h7, h8, h9⟩
  · rintro C fs' it acc n ys H3 ⟨i, h1, rfl, rfl, h4, h5, h6, h7, h8, h9⟩
    refine nx_range hA.1 h4 (fun hlt => ?_) (fun hle => ?_)
    · have hilt : i < 2 := by (first | lia | omega)
      have k4 : Keep [] H (hup H3 it (.raw (riO ((i : Int) + 1) ((2 : Int) - i - 1)))) := keep_hup2 h6 h7
      have ei : hup H3 it (.raw (riO ((i : Int) + 1) ((2 : Int) - i - 1))) it = some (.raw (riO ((i : Int) + 1) ((2 : Int) - i - 1))) := hup_self
      have ea : hup H3 it (.raw (riO ((i : Int) + 1) ((2 : Int) - i - 1))) acc = some (.list (aStrs (pagesL (whiteC f) its i))) := (hup_ne h9.symm).trans h5
      generalize hup H3 it (.raw (riO ((i : Int) + 1) ((2 : Int) - i - 1))) = H4 at k4 ei ea ⊢
      have ei' : H4 it = some (.raw (riO ((i + 1 : Nat) : Int) ((2 : Int) - ((i + 1 : Nat) : Int)))) := by
        rw [ei]
        congr 3
        (first | lia | omega)
      refine x_asg (compE E rfl) ?_
      refine ifs_nil ?_
      rw [if_pos rfl]
      have w1 := wr_len (k := i) (b := true) (l := its) hs.2
      have w2 := wr_len (k := i) (b := false) (l := its) hs.2
      have hl12 := hs.1
      have h4f : frontL.length = 4 := rfl
      refine e_binop (e_binop (e_binop (e_binop (e_binop (x_c (compE E rfl) (L + 3) (k4 _ _ S.c3 (by simp)) (x_f (f := 160) Bk (compE E rfl) (a_cons (x_c (compE E rfl) (L + 2) (k4 _ _ S.c2 (by simp)) (a_cons (x_l (compE E rfl) rfl (a_cons (e_bool (a_nil (c_def (fc160 (k := i) (b := true) Bk (by (first | lia | omega)) hs) rfl rfl (hA.less (by (first | lia | omega))) (S.pr.keep k4) fun av H5 k5 e5 => ?_))))))))))))))
      subst e5
      refine o_add_str (by (first | lia | omega)) (x_c (compE E rfl) (L + 4) (k5 _ _ (k4 _ _ S.c4 (by simp)) (by simp)) (o_add_str (by simp only [List.length_append, List.length_singleton]; (first | lia | omega)) (e_str (l := [34]) (by kernel_rfl) (o_add_str (by simp only [List.length_append, List.length_singleton]; (first | lia | omega)) ?_))))
      refine x_f (f := 160) Bk (compE E rfl) (a_cons (x_c (compE E rfl) (L + 2) (k5 _ _ (k4 _ _ S.c2 (by simp)) (by simp)) (a_cons (x_l (compE E rfl) rfl (a_cons (e_bool (a_nil (c_def (fc160 (k := i) (b := false) Bk (by (first | lia | omega)) hs) rfl rfl (hA.less (by (first | lia | omega))) ((S.pr.keep k4).keep k5) fun av H6 k6 e6 => ?_))))))))
      subst e6
      refine o_add_str (by simp only [List.length_append, List.length_singleton]; (first | lia | omega)) (e_str (l := [34]) (by kernel_rfl) (o_add_str (by simp only [List.length_append, List.length_singleton]; (first | lia | omega)) ?_))
      have k56 := k5.trans k6
      refine ⟨k56 _ _ ea (by simp), by rw [aStrs_len]; unfold pagesL; rw [List.length_map, List.length_range]; (first | lia | omega), _, ?_, i + 1, hilt, rfl, ?_, (hup_ne h9).trans (k56 _ _ ei' (by simp)), hup_self, keep_hup2 (k4.trans k56) h8, h7, h8, h9⟩
      · (first | lia | omega)
      · rw [pages_succ]; unfold aStrs; rw [List.map_append]; rfl
    · have : i = 2 := by (first | lia | omega)
      subst this
      exact ⟨(drop_ne h9.symm).trans h5, keep_drop h6 h7⟩
theorem law10 (Bk : BOk w hB) (hA : AOk 30 A) {ia : Addr} {its : List Pr2} {m : Lm} {H : Hp} {f : Int} (hs : Small its) (S : LB L f its ia m H) (ht : Has m "typed" (.str (pageOf (whiteC f) its 0))) (hp : Has m "page" (.str (pageOf (whiteC f) its 1)))
    (hP2 : rawOf f = false → prep (pageOf (whiteC f) its 0 ++ guarded (layOf f) its) = pageOf (whiteC f) its 1 ++ toldL its (layOf f) 0 0)
    (hP3 : rawOf f = false → ∀ x ∈ pageOf (whiteC f) its 0 ++ guarded (layOf f) its, inB1 x = false → b3p x ≠ none ∨ x < 128)
    (h : ∀ m1 H1, LB L f its ia m1 H1 → Has m1 "page" (.str (pageOf (whiteC f) its 1)) → Has m1 "rest" (.str (toldL its (layOf f) 0 0)) → WSS ⟨w, hB, A, L, fs⟩ (env170 L) ((fBody (stm 16)).drop 12) m1 H1 QF) : WSS ⟨w, hB, A, L, fs⟩ (env170 L) ((fBody (stm 16)).drop 10) m H QF := by
  have E := envOk170 L
  have hLy := layOf_le f
  refine s_cons (x_as E (x_f (f := 165) Bk E (a_cons (x_c E (L + 2) S.c2 (a_cons (x_c E (L + 1) S.c1 (a_cons (e_int (a_cons (e_int (a_nil (c_def (fc165 (t := 0) (mn := 0) Bk hs hLy (by decide)) rfl rfl (hA.less (by (first | lia | omega))) S.pr fun av H1 k1 e1 => ?_))))))))))))
  subst e1
  have S1 := S.keep (m' := ((("rest" : Str), AV.str (toldL its (layOf f) 0 0)) :: m : Lm)) k1 S.raw S.plain
  have ht1 : Has ((("rest" : Str), AV.str (toldL its (layOf f) 0 0)) :: m : Lm) "typed" (.str (pageOf (whiteC f) its 0)) := ht
  have hp1 : Has ((("rest" : Str), AV.str (toldL its (layOf f) 0 0)) :: m : Lm) "page" (.str (pageOf (whiteC f) its 1)) := hp
  have hr1 : Has ((("rest" : Str), AV.str (toldL its (layOf f) 0 0)) :: m : Lm) "rest" (.str (toldL its (layOf f) 0 0)) := rfl
  change WSS _ _ _ ((("rest" : Str), AV.str (toldL its (layOf f) 0 0)) :: m : Lm) H1 QF
  generalize ((("rest" : Str), AV.str (toldL its (layOf f) 0 0)) :: m : Lm) = m1 at S1 ht1 hp1 hr1 ⊢
  refine s_cons (W.imp (Q := fun fl m2 H2 => fl = .next ∧ m2 = m1 ∧ Keep [] H1 H2) (s_if (t_boolop (t_and (t_not (t_bool E.kind (by kernel_rfl) E.loc S1.raw ?_))))) ?_)
  · cases hr : rawOf f with
    | true =>
      rw [if_neg (by decide), if_neg (by decide)]
      exact s_nil ⟨rfl, rfl, .refl⟩
    | false =>
      rw [if_pos (by decide)]
      have hg := guarded_len (Ly := layOf f) hs.1 hLy
      have hpg := page_len (wc := whiteC f) (k := 0) hs
      have hpg1 := page_len (wc := whiteC f) (k := 1) hs
      have htl := told_len (t := 0) (mn := 0) hs hLy
      refine t_and (t_cmp (x_f (f := 139) Bk E (a_cons (e_binop (x_l E ht1 (x_ms _ PySem.F.slot_str_join PySem.F.type_str_join (e_str (l := []) (by kernel_rfl) ⟨[], rfl, a_cons (x_pairsG [("layers", L + 1)] (its := its) (fun p => .str (bsl (2 ^ layOf f - 1) ++ [p.1])) E hA.1 hs.1 S1.pr (x_c E (L + 2) S1.c2 ⟨rfl, rfl, rfl⟩) (fun C fs' r p H2 hp k er => ?_) fun acc H2 k2 ha e2 => ?_)⟩) rfl))))))
      · have h8 : 2 ^ layOf f ≤ 8 := Nat.pow_le_pow_right (by decide) hLy
        have h1 := Nat.two_pow_pos (layOf f)
        refine e_binop (e_binop (e_str (l := [92]) (by kernel_rfl) (e_binop (x_pow2 (x_c (compE E rfl) (L + 1) (k _ _ S1.c1 (by simp)) ⟨layOf f, rfl, by (first | lia | omega), e_int (o_sub_int ?_)⟩)))))
        rw [show ((2 ^ layOf f : Nat) : Int) - 1 = ((2 ^ layOf f - 1 : Nat) : Int) by (first | lia | omega)]
        refine o_mul_str (by rw [Int.toNat_natCast, List.length_singleton]; (first | lia | omega)) (by (first | lia | omega)) (by (first | lia | omega)) ?_
        rw [rp_bsl]
        exact e_item (fun o i => ⟨_, by with_unfolding_all rfl⟩) (x_l (compE E rfl) rfl ⟨r, rfl, e_int ⟨0, _, .str [p.1], rfl, by decide, er, rfl, o_add_str (by rw [bsl, List.length_replicate, List.length_singleton]; (first | lia | omega)) ⟨.refl, rfl⟩⟩⟩)
      · refine a_nil (c_join (l := its.map fun p => bsl (2 ^ layOf f - 1) ++ [p.1]) (by rw [e2, aStrs, List.map_map]; rfl) (by unfold guarded at hg; (first | lia | omega)) ?_)
        change WO2 _ _ _ (.str (guarded (layOf f) its)) _ _ _
        refine o_add_str (by (first | lia | omega)) (a_nil (c_def (fc139 (l := pageOf (whiteC f) its 0 ++ guarded (layOf f) its) Bk (by rw [List.length_append]; (first | lia | omega)) (hP3 hr) ?_) rfl rfl (hA.less (by (first | lia | omega))) trivial fun av H3 k3 e3 => ?_))
        · rw [hP2 hr, List.length_append]; (first | lia | omega)
        subst e3
        refine e_binop (x_l E hp1 (x_l E hr1 (o_add_str (by (first | lia | omega)) (o_ne_str ⟨_, rfl, ?_⟩))))
        rw [hP2 hr, if_neg (by simp), if_neg (by decide)]
        exact s_nil ⟨rfl, rfl, k2.trans k3⟩
  · rintro fl m2 H2 ⟨rfl, rfl, k2⟩
    exact h _ _ (S1.keep k2 S1.raw S1.plain) hp1 hr1
end
end Mine
end
section
open PySem PySem.W PySem.Calls PyProof.Rows
set_option Elab.async false
set_option maxRecDepth 100000
set_option maxHeartbeats 1000000
set_option linter.unusedVariables false
set_option linter.unusedSimpArgs false
namespace Mine
theorem cell_ne_cell {o : Option AV} {a : Addr} (h : o ≠ some (.ref a)) : (AOcell o : AO) ≠ AOcell (some (.ref a)) := fun e => by
  have e' : cellP o = cellP (some (.ref a)) := by injection e
  cases o with
  | none =>
    have : cellP none { cls := .none, data := .cell none } := ⟨none, rfl, rfl⟩
    rw [e'] at this
    obtain ⟨v, h1, x, rfl, _⟩ := this
    cases h1
  | some b =>
    obtain ⟨v, r⟩ := rep_some b
    have : cellP (some b) { cls := .none, data := .cell (some v) } := ⟨some v, rfl, v, rfl, r⟩
    rw [e'] at this
    obtain ⟨v', h1, x, rfl, rx⟩ := this
    cases h1
    cases rx
    cases b with
    | none => cases r
    | bool b => cases r
    | int i => obtain ⟨t, r⟩ := r; cases r
    | str l => obtain ⟨t, r⟩ := r; cases r
    | ref c => cases r; exact h rfl
    | bltn i => cases r
    | ty n => cases r
section
variable {H H1 : Hp} {K : LexK} {ps : List (List Nat)} {inp : List Nat} {ln : Int} {b : Addr} {ao : AO}
theorem Lex.keepBut (S : Lex H K ps inp ln) (k : Keep [b] H H1) (hb : H b = some ao) (n1 : ∀ C d, ao ≠ .inst C d) (n2 : ∀ es, ao ≠ .dict es) (n3 : ∀ l, ao ≠ .list l) (n4 : ao ≠ .raw (lamO K)) (n5 : ao ≠ .pat (codeP lamQ)) (n6 : ao ≠ AOcell (some (.ref K.sg))) : Lex H1 K ps inp ln := by
  have key : ∀ a o, H a = some o → o ≠ ao → H1 a = some o := fun a o e hn => k a o e (by simp only [List.mem_singleton]; exact ne_of e hb hn)
  exact { inst := key _ _ S.inst (fun q => n1 _ _ q.symm), sinst := key _ _ S.sinst (fun q => n1 _ _ q.symm), sdict := key _ _ S.sdict (fun q => n2 _ q.symm), lam := key _ _ S.lam (fun q => n4 q.symm), code := key _ _ S.code (fun q => n5 q.symm), cell := key _ _ S.cell (fun q => n6 q.symm),
          dict := key _ _ S.dict (fun q => n2 _ q.symm), push := key _ _ S.push (fun q => n3 _ q.symm), signs := key _ _ S.signs (fun q => n3 _ q.symm), n1 := S.n1, n2 := S.n2, okc := S.okc, len := S.len, psl := S.psl }
theorem Lex.keepCell {o : Option AV} (S : Lex H K ps inp ln) (k : Keep [b] H H1) (hb : H b = some (AOcell o)) (ho : o ≠ some (.ref K.sg)) : Lex H1 K ps inp ln :=
  S.keepBut k hb (by simp) (by simp) (by simp) (by simp) cell_ne_code (cell_ne_cell ho)
theorem TabAt.raw {P : Addr} {p : Pos} {q : Str} (T : TabAt H P p q) : ∃ es, H P = some (.raw (tabObj es)) := by
  rcases T with e | ⟨c', e, _, _⟩
  · exact ⟨_, e⟩
  · exact ⟨_, e⟩
theorem tab_ne_lam {es : Array Value} : (AO.raw (tabObj es)) ≠ .raw (lamO K) := fun e => by
  have e' : tabObj es = lamO K := by injection e
  have := congrArg Obj.cls e'
  cases this
theorem Lex.keepTab (S : Lex H K ps inp ln) (T : TabL H) (k : Keep [141] H H1) : Lex H1 K ps inp ln := by
  obtain ⟨es, e⟩ := T.raw
  exact S.keepBut k e (by simp) (by simp) (by simp) tab_ne_lam (by simp) (by simp)
end
noncomputable def PairsOff (H : Hp) (ia : Addr) (its : List Pr2) (K : LexK) : Prop := ∃ rs, H ia = some (.list (rs.map .ref)) ∧ PP H rs its ∧ (ia ≠ K.sg ∧ ia ≠ K.pb) ∧ ∀ r ∈ rs, r ≠ K.sg ∧ r ≠ K.pb
theorem PP.keepOn {H H1 : Hp} {rs l} (h : PP H rs l) (k : ∀ r ∈ rs, ∀ x, H r = some (.list x) → H1 r = some (.list x)) : PP H1 rs l := by
  induction h with
  | nil => exact .nil
  | cons e _ ih => exact .cons (k _ (.head _) _ e) (ih fun r hr => k r (.tail _ hr))
theorem PairsOff.keepOn {H H1 : Hp} {ia : Addr} {its : List Pr2} {K : LexK} (P : PairsOff H ia its K) (k : ∀ r x, r ≠ K.sg → r ≠ K.pb → H r = some (.list x) → H1 r = some (.list x)) : PairsOff H1 ia its K := by
  obtain ⟨rs, e, PPs, n, nr⟩ := P
  exact ⟨rs, k _ _ n.1 n.2 e, PPs.keepOn fun r hr x ex => k r x (nr r hr).1 (nr r hr).2 ex, n, nr⟩
theorem PairsOff.at {H : Hp} {ia : Addr} {its : List Pr2} {K : LexK} (P : PairsOff H ia its K) : PairsAt H ia its := let ⟨rs, e, PPs, _⟩ := P; ⟨rs, e, PPs⟩
structure LS (L : Addr) (f : Int) (its : List Pr2) (ia : Addr) (K : LexK) (tu : Option AV) (ps : List (List Nat)) (inp : List Nat) (ln : Int) (H : Hp) : Prop where
  c1 : H (L + 1) = some (AOcell (some (.int (layOf f))))
  c2 : H (L + 2) = some (AOcell (some (.ref ia)))
  c5 : H (L + 5) = some (AOcell (some (.ref K.x)))
  c6 : H (L + 6) = some (AOcell tu)
  pr : PairsOff H ia its K
  tab : TabL H
  lex : Lex H K ps inp ln
section
variable {L : Addr} {f : Int} {its : List Pr2} {ia : Addr} {K : LexK} {tu : Option AV} {ps ps' : List (List Nat)} {inp inp' : List Nat} {ln ln' : Int} {H H1 : Hp}
theorem LS.keep (S : LS L f its ia K tu ps inp ln H) (k : Keep [] H H1) : LS L f its ia K tu ps inp ln H1 :=
  ⟨k _ _ S.c1 (by simp), k _ _ S.c2 (by simp), k _ _ S.c5 (by simp), k _ _ S.c6 (by simp), S.pr.keepOn (fun r x _ _ e => k _ _ e (by simp)), S.tab.keep0 k, S.lex.keep k⟩
theorem LS.lexed (S : LS L f its ia K tu ps inp ln H) (k : Keep [K.dx, K.sg, K.pb] H H1) (hl : Lex H1 K ps' inp' ln') : LS L f its ia K tu ps' inp' ln' H1 := by
  have kc : ∀ {b o}, H b = some (AOcell o) → H1 b = some (AOcell o) := fun {b o} e => k _ _ e (by
    simp only [List.mem_cons, List.not_mem_nil, or_false, not_or]
    exact ⟨ne_of e S.lex.dict (by simp), ne_of e S.lex.signs (by simp), ne_of e S.lex.push (by simp)⟩)
  refine ⟨kc S.c1, kc S.c2, kc S.c5, kc S.c6, S.pr.keepOn (fun r x h1 h2 e => k _ _ e ?_), S.tab.keep k (fun a ha o e => ?_), hl⟩
  · simp only [List.mem_cons, List.not_mem_nil, or_false, not_or]
    exact ⟨ne_of e S.lex.dict (by simp), h1, h2⟩
  · simp only [List.mem_cons, List.not_mem_nil, or_false] at ha
    rcases ha with rfl | rfl | rfl
    · rw [S.lex.dict] at e; cases e; simp
    · rw [S.lex.signs] at e; cases e; simp
    · rw [S.lex.push] at e; cases e; simp
theorem LS.read (S : LS L f its ia K tu ps inp ln H) (k : Keep [141] H H1) (T : TabL H1) : LS L f its ia K tu ps inp ln H1 := by
  obtain ⟨es, e141⟩ := S.tab.raw
  have kc : ∀ {b o}, H b = some (AOcell o) → H1 b = some (AOcell o) := fun {b o} e => k _ _ e (by simp only [List.mem_singleton]; exact ne_of e e141 (by simp))
  exact ⟨kc S.c1, kc S.c2, kc S.c5, kc S.c6, S.pr.keepOn (fun r x h1 h2 e => k _ _ e (by simp only [List.mem_singleton]; exact ne_of e e141 (by simp))), T, S.lex.keepTab S.tab k⟩
theorem LS.turn {i : Int} (S : LS L f its ia K tu ps inp ln H) (ht : tu ≠ some (.ref K.sg)) : LS L f its ia K (some (.int i)) ps inp ln (hup H (L + 6) (AOcell (some (.int i)))) := by
  have k : Keep [L + 6] H (hup H (L + 6) (AOcell (some (.int i)))) := Keep.hup (.inr (.head _))
  refine ⟨k _ _ S.c1 ?_, k _ _ S.c2 ?_, k _ _ S.c5 ?_, hup_self, S.pr.keepOn (fun r x h1 h2 e => k _ _ e (by simp only [List.mem_singleton]; exact ne_of e S.c6 (by simp))), S.tab.keepC k (fun a ha => by simp only [List.mem_singleton] at ha; exact ⟨_, ha ▸ S.c6⟩), S.lex.keepCell k S.c6 ht⟩
  all_goals (simp only [List.mem_singleton]; exact adl (by decide))
end
noncomputable def tokOf (ps : List (List Nat)) (inp : List Nat) : List Nat := match ps with
  | p :: _ => p
  | [] => (getTok inp).1
noncomputable def inpOf (ps : List (List Nat)) (inp : List Nat) : List Nat := match ps with
  | _ :: _ => inp
  | [] => (getTok inp).2
noncomputable def lnOf (ps : List (List Nat)) (inp : List Nat) (ln : Int) : Int := match ps with
  | _ :: _ => ln
  | [] => ln + nl inp - nl (getTok inp).2
section
variable {c : Cx} {env : Env} {m : Lm} {Q : AV → Lm → Hp → Prop} {QF : AF → Lm → Hp → Prop} {L : Addr} {f : Int} {its : List Pr2} {ia : Addr} {K : LexK} {tu : Option AV} {ps : List (List Nat)} {inp : List Nat} {ln : Int} {H : Hp} {p1 p2 p3 sp : Pos}
theorem x_tok (Bk : BOk c.w c.hB) (hA : AOk 13 c.A) (E : EnvOk env c.L) (S : LS L f its ia K tu ps inp ln H)
    (h : ∀ H1, Keep [K.dx, K.sg, K.pb] H H1 → LS L f its ia K tu ps.tail (inpOf ps inp) (lnOf ps inp ln) H1 → Q (.str (tokOf ps inp)) m H1)
    (pl : Sem Bool)
    (he : eval (((PySem.Expr.Name "lexer" p1).Attribute "get_token" p2).Call [] [] p3) env = (do
          let ov ← eval (PySem.Expr.Name "lexer" p1) env
          standAt p2.atName
          let __x ← holding [ov] (getMethod ov "get_token" pl)
          match __x with
            | (f, first) => callWith p3 f first (backTo p3 (starEach [] env)) (backToKw p3 (keywordEach [] env))))
    (hx : env.kindOf "lexer" = some .cell := by kernel_rfl) (hc : env.cells.lookup ("lexer" : Str) = some (L + 5) := by kernel_rfl) : WE c env (.Call (.Attribute (.Name "lexer" p1) "get_token" p2) [] [] p3) m H Q := by
  refine e_method pl (x_c E (L + 5) S.c5 ?_ hx hc) he
  refine gm_inst (es := lexD K ln) (f := 42) Bk (clsOk c.w.params) (by kernel_rfl) (by kernel_rfl) ⟨S.lex.inst, S.lex.dict⟩ rfl (cw_top Bk (by kernel_rfl) (by rfl) (a_nil ?_))
  cases ps with
  | nil =>
    refine c_def (fc42 Bk (K := K)) rfl rfl hA S.lex fun av H1 k ⟨e, L1⟩ => ?_
    subst e
    exact h H1 k (S.lexed k L1)
  | cons p ps =>
    refine c_def (fc42a Bk (K := K)) rfl rfl hA S.lex fun av H1 k ⟨e, L1⟩ => ?_
    subst e
    exact h H1 k (S.lexed k L1)
theorem x_push {arg : PySem.Expr} {t : List Nat} (Bk : BOk c.w c.hB) (hA : AOk 13 c.A) (E : EnvOk env c.L) (S : LS L f its ia K tu ps inp ln H) (hps : ps.length + 1 ≤ 900)
    (ha : ∀ {Q : AV → Lm → Hp → Prop}, Q (.str t) m H → WE c env arg m H Q) (hstar : starEach [arg] env = (false, eval arg env) :: starEach [] env) (hns : noStar p3 [arg] env)
    (h : ∀ H1, Keep [K.pb] H H1 → LS L f its ia K tu (ps ++ [t]) inp ln H1 → QF .next m H1)
    (pl : Sem Bool)
    (he : eval (((PySem.Expr.Name "lexer" p1).Attribute "push_token" p2).Call [arg] [] p3) env = (do
          let ov ← eval (PySem.Expr.Name "lexer" p1) env
          standAt p2.atName
          let __x ← holding [ov] (getMethod ov "push_token" pl)
          match __x with
            | (f, first) => callWith p3 f first (backTo p3 (starEach [arg] env)) (backToKw p3 (keywordEach [] env))))
    (hx : env.kindOf "lexer" = some .cell := by kernel_rfl) (hc : env.cells.lookup ("lexer" : Str) = some (L + 5) := by kernel_rfl) (hi : interactive env = false := by kernel_rfl) (hs : swapsWith (.Call (.Attribute (.Name "lexer" p1) "push_token" p2) [arg] [] p3) none sp.line env = pure false := by kernel_rfl) :
    WS c env (.Expr (.Call (.Attribute (.Name "lexer" p1) "push_token" p2) [arg] [] p3) sp) m H QF := by
  refine s_expr (e_method pl (x_c E (L + 5) S.c5 ?_ hx hc) he) hi hs
  refine gm_inst (es := lexD K ln) (f := 49) Bk (clsOk c.w.params) (by kernel_rfl) (by kernel_rfl) ⟨S.lex.inst, S.lex.dict⟩ rfl (cw_top Bk (by kernel_rfl) hns (a_cons (ha (a_nil ?_)) hstar))
  refine c_def (fc49 Bk (K := K) (t := t) hps) rfl rfl (hA.less (by (first | lia | omega))) S.lex fun av H1 k ⟨e, L1⟩ => ?_
  exact h H1 k (S.lexed (k.sub (by simp)) L1)
theorem x_lineno (Bk : BOk c.w c.hB) (E : EnvOk env c.L) (S : LS L f its ia K tu ps inp ln H) (h : Q (.int ln) m H)
    (hx : env.kindOf "lexer" = some .cell := by kernel_rfl) (hc : env.cells.lookup ("lexer" : Str) = some (L + 5) := by kernel_rfl) : WE c env (.Attribute (.Name "lexer" p1) "lineno" p2) m H Q :=
  e_attr (x_c E (L + 5) S.c5 (ga_own (es := lexD K ln) (av := .int ln) Bk (clsOk c.w.params) (by kernel_rfl) ⟨S.lex.inst, S.lex.dict⟩ rfl (fun v r => by obtain ⟨t, rfl⟩ := r; rfl) h) hx hc) (by with_unfolding_all rfl)
end
end Mine
end
section
open PySem PySem.W PySem.Calls PyProof.Rows
set_option Elab.async false
set_option maxRecDepth 100000
set_option maxHeartbeats 1000000
set_option linter.unusedVariables false
set_option linter.unusedSimpArgs false
namespace Mine
theorem li_ne_cell {a : Addr} {i : Nat} {o : Option AV} : (AO.pat (liP a i)) ≠ AOcell o := fun e => by
  have e' : liP a i = cellP o := by injection e
  have h : liP a i { cls := .type "list_iterator", data := .fields #[.ref a, .int i 0] } := ⟨rfl, rfl⟩
  rw [e'] at h
  obtain ⟨v, h1, _⟩ := h
  cases h1
theorem li_ne_code {a : Addr} {i : Nat} {q : Str} : (AO.pat (liP a i)) ≠ .pat (codeP q) := fun e => by
  have e' : liP a i = codeP q := by injection e
  have h : liP a i { cls := .type "list_iterator", data := .fields #[.ref a, .int i 0] } := ⟨rfl, rfl⟩
  rw [e'] at h
  obtain ⟨vs, t, h1, h2⟩ := h
  cases h1
  cases h2
structure Apart (K : LexK) (ao : AO) : Prop where
  n0 : ∀ o, ao ≠ AOcell o
  n1 : ∀ C d, ao ≠ .inst C d
  n2 : ∀ es, ao ≠ .dict es
  n3 : ∀ l, ao ≠ .list l
  n4 : ao ≠ .raw (lamO K)
  n5 : ao ≠ .pat (codeP lamQ)
  n7 : ∀ es, ao ≠ .raw (tabObj es)
theorem apart_li {K : LexK} {a : Addr} {i : Nat} : Apart K (.pat (liP a i)) := ⟨fun _ => li_ne_cell, by simp, by simp, by simp, by simp, li_ne_code, by simp⟩
theorem ri_ne_lam {K : LexK} {x n : Int} : (AO.raw (riO x n)) ≠ .raw (lamO K) := fun e => by
  have e' : riO x n = lamO K := by injection e
  have h : Value.type "range_iterator" = Value.type "function" := congrArg Obj.cls e'
  injection h with h
  exact absurd h (by decide)
theorem ri_ne_tab {x n : Int} {es : Array Value} : (AO.raw (riO x n)) ≠ .raw (tabObj es) := fun e => by
  have e' : riO x n = tabObj es := by injection e
  have := congrArg Obj.cls e'
  cases this
theorem apart_ri {K : LexK} {x n : Int} : Apart K (.raw (riO x n)) := ⟨by simp, by simp, by simp, by simp, ri_ne_lam, by simp, fun _ => ri_ne_tab⟩
section
variable {L : Addr} {f : Int} {its : List Pr2} {ia : Addr} {K : LexK} {tu : Option AV} {ps ps' : List (List Nat)} {inp inp' : List Nat} {ln ln' : Int} {H H1 : Hp} {b : Addr} {ao : AO}
theorem TabAt.keepBut {P : Addr} {p : Pos} {q : Str} (T : TabAt H P p q) (k : Keep [b] H H1) (hb : H b = some ao) (h1 : ∀ es, ao ≠ .raw (tabObj es)) (h2 : ao ≠ .pat (codeP q)) : TabAt H1 P p q := by
  have key : ∀ a o, H a = some o → o ≠ ao → H1 a = some o := fun a o e hn => k a o e (by simp only [List.mem_singleton]; exact ne_of e hb hn)
  rcases T with e | ⟨c', e, ec, hn⟩
  · exact .inl (key _ _ e (fun q => h1 _ q.symm))
  · exact .inr ⟨c', key _ _ e (fun q => h1 _ q.symm), key _ _ ec (fun q => h2 q.symm), hn⟩
theorem LS.keepBut (S : LS L f its ia K tu ps inp ln H) (k : Keep [b] H H1) (hb : H b = some ao) (A : Apart K ao) : LS L f its ia K tu ps inp ln H1 := by
  have key : ∀ a o, H a = some o → o ≠ ao → H1 a = some o := fun a o e hn => k a o e (by simp only [List.mem_singleton]; exact ne_of e hb hn)
  exact ⟨key _ _ S.c1 (fun q => A.n0 _ q.symm), key _ _ S.c2 (fun q => A.n0 _ q.symm), key _ _ S.c5 (fun q => A.n0 _ q.symm), key _ _ S.c6 (fun q => A.n0 _ q.symm), S.pr.keepOn (fun r x _ _ e => key _ _ e (fun q => A.n3 _ q.symm)), S.tab.keepBut k hb A.n7 A.n5,
    S.lex.keepBut k hb A.n1 A.n2 A.n3 A.n4 A.n5 (A.n0 _)⟩
theorem LS.listed {acc : Addr} {l : List AV} (S : LS L f its ia K tu ps inp ln H) (k : Keep [acc] H H1) (ea : H acc = some (.list l)) (oa : acc ≠ K.sg ∧ acc ≠ K.pb) (P : PairsOff H1 ia its K) : LS L f its ia K tu ps inp ln H1 := by
  have key : ∀ a o, H a = some o → (∀ x, o ≠ .list x) → H1 a = some o := fun a o e hn => k a o e (by simp only [List.mem_singleton]; exact ne_of e ea (hn _))
  refine ⟨key _ _ S.c1 (by simp), key _ _ S.c2 (by simp), key _ _ S.c5 (by simp), key _ _ S.c6 (by simp), P, S.tab.keepBut k ea (by simp) (by simp), ?_⟩
  have X := S.lex
  exact { inst := key _ _ X.inst (by simp), sinst := key _ _ X.sinst (by simp), sdict := key _ _ X.sdict (by simp), lam := key _ _ X.lam (by simp), code := key _ _ X.code (by simp), cell := key _ _ X.cell (by simp),
          dict := key _ _ X.dict (by simp), push := k _ _ X.push (by simpa using oa.2.symm), signs := k _ _ X.signs (by simpa using oa.1.symm), n1 := X.n1, n2 := X.n2, okc := X.okc, len := X.len, psl := X.psl }
theorem keep_drop1 {H : Hp} {b : Addr} : Keep [b] H (hdrop H b) := fun a o e n => by rw [drop_ne (by simpa using n)]; exact e
noncomputable def OffK (K : LexK) (a : Addr) : Prop := a ≠ K.sg ∧ a ≠ K.pb
theorem LS.off (S : LS L f its ia K tu ps inp ln H) (h : H b = none) : OffK K b := ⟨(fun q => by rw [q, S.lex.signs] at h; cases h), (fun q => by rw [q, S.lex.push] at h; cases h)⟩
noncomputable def KeepL (K : LexK) (H H1 : Hp) : Prop := ∀ a x, OffK K a → H a = some (.list x) → H1 a = some (.list x)
theorem KeepL.refl : KeepL K H H := fun _ _ _ e => e
theorem KeepL.trans {H2 : Hp} (h : KeepL K H H1) (k : KeepL K H1 H2) : KeepL K H H2 := fun a x n e => k a x n (h a x n e)
theorem KeepL.of (k : Keep [] H H1) : KeepL K H H1 := fun a x _ e => k _ _ e (by simp)
theorem KeepL.lexed (S : LS L f its ia K tu ps inp ln H) (k : Keep [K.dx, K.sg, K.pb] H H1) : KeepL K H H1 := fun a x n e => k _ _ e (by
  simp only [List.mem_cons, List.not_mem_nil, or_false, not_or]
  exact ⟨ne_of e S.lex.dict (by simp), n.1, n.2⟩)
theorem KeepL.read (S : LS L f its ia K tu ps inp ln H) (k : Keep [141] H H1) : KeepL K H H1 := fun a x n e => k _ _ e (by
  obtain ⟨es, e141⟩ := S.tab.raw
  simp only [List.mem_singleton]
  exact ne_of e e141 (by simp))
theorem KeepL.but (k : Keep [b] H H1) (hb : H b = some ao) (h : ∀ l, ao ≠ .list l) : KeepL K H H1 := fun a x n e => k _ _ e (by
  simp only [List.mem_singleton]
  exact ne_of e hb (fun q => h _ q.symm))
end
structure TI (K : LexK) (H : Hp) (wl : Addr) (wv : List AV) (N : Nat) (it acc : Addr) (n : Nat) (ys yv : List AV) (P : Prop) (H1 : Hp) (i : Nat) : Prop where
  hi : i ≤ N
  hn : n = N - i
  hy : ys = yv
  st : P
  ei : H1 it = some (.pat (liP wl i))
  ew : H1 wl = some (.list wv)
  ea : H1 acc = some (.list ys)
  oa : OffK K acc
  kl : KeepL K H H1
  ha : H acc = none
noncomputable def inpN (ps : List (List Nat)) (inp : List Nat) : Nat → List Nat
  | 0 => inp
  | i + 1 => inpOf (ps.drop i) (inpN ps inp i)
noncomputable def lnN (ps : List (List Nat)) (inp : List Nat) (ln : Int) : Nat → Int
  | 0 => ln
  | i + 1 => lnOf (ps.drop i) (inpN ps inp i) (lnN ps inp ln i)
noncomputable def toksN (ps : List (List Nat)) (inp : List Nat) (n : Nat) : List (List Nat) := (List.range n).map fun i => tokOf (ps.drop i) (inpN ps inp i)
theorem toks_succ (ps : List (List Nat)) (inp : List Nat) (n : Nat) : toksN ps inp (n + 1) = toksN ps inp n ++ [tokOf (ps.drop n) (inpN ps inp n)] := by
  unfold toksN; rw [List.range_succ, List.map_append]; rfl
section
variable {w : World} {hB : Heap} {A : Around} {fs : List (Addr × Obj)} {env : Env} {m : Lm} {Q : AV → Lm → Hp → Prop} {QF : AF → Lm → Hp → Prop} {L : Addr} {f : Int} {its : List Pr2} {ia : Addr} {K : LexK} {tu : Option AV} {ps : List (List Nat)} {inp : List Nat} {ln : Int} {H : Hp} {p0 p1 p2 p3 pos : Pos}
theorem x_toks {iter : PySem.Expr} {scope : Scope} {wl : Addr} {ws : List (List Nat)} (Bk : BOk w hB) (hA : AOk 13 A) (E : EnvOk (env170 L) L) (S : LS L f its ia K tu ps inp ln H) (hn : ws.length ≤ 10) (hw : H wl = some (.list (aStrs ws))) (hoff : OffK K wl)
    (hiter : WE ⟨w, hB, A, L, fs⟩ (env170 L) iter m H fun av m1 H1 => av = .ref wl ∧ m1 = m ∧ H1 = H)
    (h : ∀ acc H1, LS L f its ia K tu (ps.drop ws.length) (inpN ps inp ws.length) (lnN ps inp ln ws.length) H1 → OffK K acc → H1 acc = some (.list (aStrs (toksN ps inp ws.length))) → KeepL K H H1 → Q (.ref acc) m H1)
    (pl : ∀ C : Addr, Sem Bool) (he : ∀ C, eval (((PySem.Expr.Name "lexer" p1).Attribute "get_token" p2).Call [] [] p3) (compEnvC scope [(("lexer" : Str), L + 5)] C (env170 L)) = (do
          let ov ← eval (PySem.Expr.Name "lexer" p1) (compEnvC scope [(("lexer" : Str), L + 5)] C (env170 L))
          standAt p2.atName
          let __x ← holding [ov] (getMethod ov "get_token" (pl C))
          match __x with
            | (f, first) => callWith p3 f first (backTo p3 (starEach [] (compEnvC scope [(("lexer" : Str), L + 5)] C (env170 L)))) (backToKw p3 (keywordEach [] (compEnvC scope [(("lexer" : Str), L + 5)] C (env170 L))))))
    (hx : ∀ C, (compEnvC scope [(("lexer" : Str), L + 5)] C (env170 L)).kindOf "word" = some .local := by intro _; kernel_rfl)
    (hx2 : ∀ C, (compEnvC scope [(("lexer" : Str), L + 5)] C (env170 L)).kindOf "lexer" = some .cell := by intro _; kernel_rfl)
    (hclos : closureFor scope (env170 L) = pure [(("lexer" : Str), L + 5)] := by kernel_rfl) (hc : (scope.names.all fun y => y.2 != .cell) = true := by kernel_rfl) (hkind : scope.kind = .function := by kernel_rfl)
    (hn' : (scope.names.all fun y => y.2 != .local || scope.names.lookup y.1 == some .local) = true := by kernel_rfl)
    (hs : ∀ x, foldedSetIterable iter (env170 L) x = pure x := by intro _; with_unfolding_all rfl) :
    WE ⟨w, hB, A, L, fs⟩ (env170 L) (.ListComp (.Call (.Attribute (.Name "lexer" p1) "get_token" p2) [] [] p3) [⟨.Name "word" p0, iter, [], 0⟩] scope pos) m H Q := by
  refine x_comp [(("lexer" : Str), L + 5)] (fun it acc n ys H1 => ∃ i : Nat, TI K H wl (aStrs ws) ws.length it acc n ys (aStrs (toksN ps inp i)) (LS L f its ia K tu (ps.drop i) (inpN ps inp i) (lnN ps inp ln i) H1) H1 i)
    (fun acc H1 => LS L f its ia K tu (ps.drop ws.length) (inpN ps inp ws.length) (lnN ps inp ln ws.length) H1 ∧ OffK K acc ∧ H1 acc = some (.list (aStrs (toksN ps inp ws.length))) ∧ KeepL K H H1) ?_ ?_ ?_ hclos hc hkind hn' hs (by intro _ _; rfl)
  · refine hiter.imp fun av m1 H1 ⟨e1, e2, e3⟩ => ?_
    subst e1 e2 e3
    refine it_list hw fun it hit => ⟨it, ws.length, rfl, fun acc ha => ?_, fun acc H4 ⟨S4, o4, e4, k4⟩ => h acc H4 S4 o4 e4 k4⟩
    have hne : acc ≠ it := fun q => by subst q; rw [hup_self] at ha; cases ha
    have ha0 : H1 acc = none := by rwa [hup_ne hne] at ha
    have k1 : Keep [] H1 (hup (hup H1 it (.pat (liP wl 0))) acc (.list [])) := keep_hup2 (Keep.hup (.inl hit)) ha0
    exact ⟨0, Nat.zero_le _, rfl, rfl, S.keep k1, (hup_ne hne.symm).trans hup_self, k1 _ _ hw (by simp), hup_self, S.off ha0, .of k1, ha0⟩
  · rintro C fs' it acc n H3 ⟨i, h⟩
    exact it_self h.ei ⟨rfl, i, h⟩
  · rintro C fs' it acc n ys H3 ⟨i, h1, rfl, rfl, S3, ei, ew, ea, oa, kl, ha0⟩
    refine nx_list hA.1 ei ew (fun x hx' => ?_) (fun hle => ?_)
    · unfold aStrs at hx'
      rw [List.getElem?_map] at hx'
      cases hr : ws[i]? with
      | none => rw [hr] at hx'; cases hx'
      | some r =>
      rw [hr] at hx'; cases hx'
      have hilt : i < ws.length := by
        rcases Nat.lt_or_ge i ws.length with h | h
        · exact h
        · rw [List.getElem?_eq_none h] at hr; cases hr
      have k4 : Keep [it] H3 (hup H3 it (.pat (liP wl (i + 1)))) := Keep.hup (.inr (.head _))
      have ei4 : hup H3 it (.pat (liP wl (i + 1))) it = some (.pat (liP wl (i + 1))) := hup_self
      have S4 := S3.keepBut k4 ei apart_li
      have kl4 : KeepL K H3 (hup H3 it (.pat (liP wl (i + 1)))) := .but k4 ei (by simp)
      generalize hup H3 it (.pat (liP wl (i + 1))) = H4 at k4 ei4 S4 kl4 ⊢
      refine x_asg (compE E hkind) ?_ (hx C)
      refine ifs_nil ?_
      rw [if_pos rfl]
      refine x_tok Bk hA (compE E hkind) S4 (fun H5 k5 S5 => ?_) (pl C) (he C) (hx2 C) (by rfl)
      have kl5 := KeepL.lexed S4 k5
      have ea5 := kl5 _ _ oa (kl4 _ _ oa ea)
      have ei5 : H5 it = some (.pat (liP wl (i + 1))) := k5 _ _ ei4 (by
        simp only [List.mem_cons, List.not_mem_nil, or_false, not_or]
        exact ⟨ne_of ei4 S4.lex.dict (by simp), ne_of ei4 S4.lex.signs (by simp), ne_of ei4 S4.lex.push (by simp)⟩)
      have hne : acc ≠ it := ne_of ea5 ei5 (by simp)
      have hwa : wl ≠ acc := fun q => by subst q; rw [hw] at ha0; cases ha0
      have k6 : Keep [acc] H5 (hup H5 acc (.list (aStrs (toksN ps inp i) ++ [.str (tokOf (ps.drop i) (inpN ps inp i))]))) := Keep.hup (.inr (.head _))
      have KL6 : KeepL K H (hup H5 acc (.list (aStrs (toksN ps inp i) ++ [.str (tokOf (ps.drop i) (inpN ps inp i))]))) := by
        intro a x ho e
        have : a ≠ acc := fun q => by subst q; rw [e] at ha0; cases ha0
        exact (hup_ne this).trans (kl5 _ _ ho (kl4 _ _ ho (kl _ _ ho e)))
      refine ⟨ea5, by rw [aStrs_len]; unfold toksN; rw [List.length_map, List.length_range]; (first | lia | omega), _, ?_, i + 1, hilt, rfl, ?_, ?_, ?_, ?_, hup_self, oa, ?_, ha0⟩
      · (first | lia | omega)
      · rw [toks_succ]; unfold aStrs; rw [List.map_append]; rfl
      · rw [← List.tail_drop] 
        exact S5.listed k6 ea5 oa (S.pr.keepOn fun r x n1 n2 e => KL6 r x ⟨n1, n2⟩ e)
      · exact (hup_ne hne.symm).trans ei5
      · exact (hup_ne hwa).trans (kl5 _ _ hoff (kl4 _ _ hoff ew))
      · exact KL6
    · have : i = ws.length := by rw [aStrs_len] at hle; (first | lia | omega)
      subst this
      have hne : acc ≠ it := ne_of ea ei (by simp)
      exact ⟨S3.keepBut keep_drop1 ei apart_li, oa, (drop_ne hne).trans ea, kl.trans (.but keep_drop1 ei (by simp))⟩
end
end Mine
end
section
open PySem PySem.W PySem.Calls PyProof.Rows
set_option Elab.async false
set_option maxRecDepth 100000
set_option maxHeartbeats 1000000
set_option linter.unusedVariables false
set_option linter.unusedSimpArgs false
namespace Mine
structure LM (K : LexK) (pg rs pl : List Nat) (m : Lm) : Prop where
  page : Has m "page" (.str pg)
  rest : Has m "rest" (.str rs)
  plain : Has m "plain" (.str pl)
  signs : Has m "signs" (.ref K.sg)
section
variable {w : World} {hB : Heap} {A : Around} {L : Addr} {fs : List (Addr × Obj)} {QF : AF → Lm → Hp → Prop} {ia : Addr} {its : List Pr2} {m : Lm} {H : Hp} {f : Int} {K : LexK} {tu : Option AV} {ps : List (List Nat)} {inp : List Nat} {ln : Int} {pg rs pl : List Nat}
theorem law12 (Bk : BOk w hB) (hA : AOk 30 A) (hs : Small its) (S : LB L f its ia m H) (hp : Has m "page" (.str pg)) (hr : Has m "rest" (.str rs)) (hl1 : pg.length ≤ 300) (hl2 : rs.length ≤ 5000) (hok : ∀ n ∈ pg ++ rs, n < 1114112)
    (h : ∀ K m1 H1, LM K pg rs (plainOf its) m1 → LS L f its ia K none [plainOf its] (pg ++ rs) 1 H1 → WSS ⟨w, hB, A, L, fs⟩ (env170 L) ((fBody (stm 16)).drop 15) m1 H1 QF) : WSS ⟨w, hB, A, L, fs⟩ (env170 L) ((fBody (stm 16)).drop 12) m H QF := by
  have E := envOk170 L
  have hln : (pg ++ rs).length ≤ 5300 := by rw [List.length_append]; (first | lia | omega)
  refine s_cons (x_as E (x_slice_list (fun o i => ⟨_, by with_unfolding_all rfl⟩) (x_t (T := "list") Bk E (a_cons (e_binop (x_l E hp (x_l E hr (o_add_str (by (first | lia | omega)) (a_nil (c_list_str hA.1 (by (first | lia | omega)) fun a ha => ⟨a, _, rfl, by rw [aStrs_len, List.length_map]; (first | lia | omega), e_neg (e_int ⟨1, rfl, -1, rfl, hup_self, by decide, fun d hd => ?_⟩)⟩))))))))))
  rw [lsl_rev]
  have k1 : Keep [] H (hup H a (.list (aStrs ((pg ++ rs).map fun x => [x])))) := Keep.hup (.inl ha)
  have hd0 : H d = none := by
    cases q : H d with
    | none => rfl
    | some o => rw [k1 _ _ q (by simp)] at hd; cases hd
  have k2 := k1.trans (Keep.hup (mu := []) (o := .list (aStrs ((pg ++ rs).map fun x => [x])).reverse) (.inl hd))
  have hsg : hup (hup H a (.list (aStrs ((pg ++ rs).map fun x => [x])))) d (.list (aStrs ((pg ++ rs).map fun x => [x])).reverse) d = some (.list (aStrs (chs (pg ++ rs).reverse))) := by
    rw [hup_self]; unfold aStrs chs; rw [List.map_reverse, List.map_reverse]
  generalize hup (hup H a (.list (aStrs ((pg ++ rs).map fun x => [x])))) d (.list (aStrs ((pg ++ rs).map fun x => [x])).reverse) = H2 at k2 hsg ⊢
  have S2 := S.keep (m' := m) k2 S.raw S.plain
  refine s_cons (s_assign_cell (a := L + 5) E.kind (by kernel_rfl) (by kernel_rfl) (by kernel_rfl) (x_f (f := 146) Bk E (a_cons (x_l E rfl (a_nil (c_def (fc146 Bk hok (by (first | lia | omega))) rfl rfl (hA.less (by (first | lia | omega))) ⟨hsg, S2.tab⟩ fun av H3 k3 ⟨T3, K, e, esg, nd, np, Lx⟩ => ?_))))))
  subst e
  obtain ⟨es, e141⟩ := S2.tab.raw
  have kc : ∀ {b o}, H2 b = some (AOcell o) → H3 b = some (AOcell o) := fun {b o} e => k3 _ _ e (by simp only [List.mem_singleton]; exact ne_of e e141 (by simp))
  have kl : ∀ {b x}, H2 b = some (.list x) → H3 b = some (.list x) := fun {b x} e => k3 _ _ e (by simp only [List.mem_singleton]; exact ne_of e e141 (by simp))
  refine ⟨⟨none, kc S2.c5⟩, ?_⟩
  have k4 : Keep [L + 5] H3 (hup H3 (L + 5) (AOcell (some (.ref K.x)))) := Keep.hup (.inr (.head _))
  have e4 : hup H3 (L + 5) (AOcell (some (.ref K.x))) (L + 5) = some (AOcell (some (.ref K.x))) := hup_self
  have c5 := kc S2.c5
  have Pm : PairsOff H3 ia its K := by
    obtain ⟨rs', e, PPs⟩ := S.pr
    have off : ∀ {b x}, H b = some (.list x) → OffK K b := fun {b x} e => ⟨(fun q => by rw [q, esg, hd0] at e; cases e), (fun q => by have e2 := k2 _ _ e (by simp); rw [q, np] at e2; cases e2)⟩
    refine ⟨rs', kl (k2 _ _ e (by simp)), (PPs.keep k2).keepOn fun r hr x e => kl e, off e, fun r hr => ?_⟩
    obtain ⟨i, hi⟩ := List.getElem?_of_mem hr
    obtain ⟨p, _, ep⟩ := PPs.get hi
    exact off ep
  have Lx4 := Lx.keepCell k4 c5 (by simp)
  have S4 : LS L f its ia K none [] (pg ++ rs) 1 (hup H3 (L + 5) (AOcell (some (.ref K.x)))) := by
    refine ⟨k4 _ _ (kc S2.c1) ?_, k4 _ _ (kc S2.c2) ?_, e4, k4 _ _ (kc S2.c6) ?_, Pm.keepOn (fun r x _ _ e => k4 _ _ e (by simp only [List.mem_singleton]; exact ne_of e c5 (by simp))), T3.keepC k4 (fun a ha => by simp only [List.mem_singleton] at ha; exact ⟨_, ha ▸ c5⟩), Lx4⟩
    all_goals (simp only [List.mem_singleton]; exact adl (by decide))
  generalize hup H3 (L + 5) (AOcell (some (.ref K.x))) = H4 at S4 ⊢
  refine s_cons ?_
  refine x_push (t := plainOf its) Bk (hA.less (by (first | lia | omega))) E S4 (by decide) (fun h => x_l E S.plain h) rfl (by unfold noStar; kernel_rfl) (fun H5 k5 S5 => ?_) _ rfl
  exact h K _ _ ⟨hp, hr, S.plain, by rw [← esg]; rfl⟩ S5
noncomputable def wordsOfL (pl : List Nat) : List (List Nat) := [pl] ++ (if pl = [] then [] else [pl]) ++ [pl]
noncomputable def waitsOf (pl : List Nat) : List (List Nat) := [pl, pl, []]
theorem law15 (Bk : BOk w hB) (hA : AOk 30 A) (S : LS L f its ia K tu ps inp ln H) (M : LM K pg rs pl m) (hpl : pl.length ≤ 1000) (hok : okStrs [pl])
    (htk : toksN ps inp (wordsOfL pl).length = wordsOfL pl)
    (h : ∀ al m1 H1, LM K pg rs pl m1 → LS L f its ia K tu (ps.drop (wordsOfL pl).length) (inpN ps inp (wordsOfL pl).length) (lnN ps inp ln (wordsOfL pl).length) H1 → Has m1 "waits" (.ref al) → OffK K al → H1 al = some (.list (aStrs (waitsOf pl))) →
      WSS ⟨w, hB, A, L, fs⟩ (env170 L) ((fBody (stm 16)).drop 17) m1 H1 QF) : WSS ⟨w, hB, A, L, fs⟩ (env170 L) ((fBody (stm 16)).drop 15) m H QF := by
  have E := envOk170 L
  have hA8 : AOk (13 + 8) A := hA.less (by (first | lia | omega))
  have hokp : ∀ n ∈ pl, n < 1114112 := hok pl (by simp)
  refine s_cons (s_swap (names := ["words", "waits"]) E hA.1 (by simp only [List.mem_cons, List.not_mem_nil, or_false]; rintro n (rfl | rfl) <;> kernel_rfl) (by kernel_rfl) (by decide) ?_)
  refine a_cons (e_binop (e_binop (e_list (a_cons (x_l E M.plain (a_nil ⟨by show 1 ≤ 1000; decide, fun a ha => W.imp (Q := fun av m1 H1 => m1 = m ∧ Keep [] (hup H a (.list [.str pl])) H1 ∧ ∃ b, av = .ref b ∧ H1 b = some (.list (aStrs (if pl = [] then [] else [pl])))) (e_ifexp (t_cmp (x_l E M.plain (e_str (l := []) (by kernel_rfl) (o_ne_str ⟨_, rfl, ?_⟩))))) ?_⟩))))))
  · by_cases h1 : pl = []
    · rw [if_neg (by rw [h1]; decide)]
      exact e_list (a_nil ⟨by decide, fun b hb => ⟨rfl, Keep.hup (.inl hb), b, rfl, by rw [hup_self, if_pos h1]; rfl⟩⟩)
    · rw [if_pos (by simpa using h1)]
      exact e_list (a_cons (x_l E M.plain (a_nil ⟨by show 1 ≤ 1000; decide, fun b hb => ⟨rfl, Keep.hup (.inl hb), b, rfl, by rw [hup_self, if_neg h1]; rfl⟩⟩)))
  rintro av m1 H1 ⟨rfl, k1, b, rfl, eb⟩
  have ka : Keep [] H H1 := (Keep.hup (.inl ha)).trans k1
  have ea : H1 a = some (.list (aStrs [pl])) := k1 _ _ hup_self (by simp)
  have hz1 : (aStrs (if pl = [] then [] else [pl])).length ≤ 1 := by
    split
    · exact Nat.zero_le _
    · exact Nat.le_refl _
  refine o_add_list ea eb (by rw [aStrs_len (l := [pl])]; show 1 + _ ≤ _; (first | lia | omega)) fun d hd => ?_
  have k2 : Keep [] H (hup H1 d (.list (aStrs [pl] ++ aStrs (if pl = [] then [] else [pl])))) := ka.trans (Keep.hup (.inl hd))
  have e2 : hup H1 d (.list (aStrs [pl] ++ aStrs (if pl = [] then [] else [pl]))) d = some (.list (aStrs [pl] ++ aStrs (if pl = [] then [] else [pl]))) := hup_self
  generalize hup H1 d (.list (aStrs [pl] ++ aStrs (if pl = [] then [] else [pl]))) = H2 at k2 e2 ⊢
  refine e_list (a_cons (x_l E M.plain (a_nil ⟨by show 1 ≤ 1000; decide, fun e he => ?_⟩)))
  have k3 : Keep [] H2 (hup H2 e (.list [.str pl])) := Keep.hup (.inl he)
  have e3 : hup H2 e (.list [.str pl]) e = some (.list (aStrs [pl])) := hup_self
  have e2' := k3 _ _ e2 (by simp)
  generalize hup H2 e (.list [.str pl]) = H3 at k3 e3 e2' ⊢
  refine o_add_list e2' e3 (by rw [List.length_append, aStrs_len (l := [pl])]; show 1 + _ + 1 ≤ _; (first | lia | omega)) fun wl hwl => ?_
  have hw : aStrs [pl] ++ aStrs (if pl = [] then [] else [pl]) ++ aStrs [pl] = aStrs (wordsOfL pl) := by unfold aStrs wordsOfL; rw [List.map_append, List.map_append]
  rw [hw]
  have k4 : Keep [] H (hup H3 wl (.list (aStrs (wordsOfL pl)))) := (k2.trans k3).trans (Keep.hup (.inl hwl))
  have e4 : hup H3 wl (.list (aStrs (wordsOfL pl))) wl = some (.list (aStrs (wordsOfL pl))) := hup_self
  have hwl0 : H wl = none := by
    cases q : H wl with
    | none => rfl
    | some o => rw [(k2.trans k3) _ _ q (by simp)] at hwl; cases hwl
  generalize hup H3 wl (.list (aStrs (wordsOfL pl))) = H4 at k4 e4 ⊢
  refine a_cons (e_list (a_cons (x_l E M.plain (a_cons (x_l E M.plain (a_cons (e_str (l := []) (by kernel_rfl) (a_nil ⟨by show 3 ≤ 1000; decide, fun al hal => a_nil ⟨rfl, ?_⟩⟩))))))))
  have k5 : Keep [] H4 (hup H4 al (.list [.str pl, .str pl, .str []])) := Keep.hup (.inl hal)
  have e5 : hup H4 al (.list [.str pl, .str pl, .str []]) al = some (.list (aStrs (waitsOf pl))) := hup_self
  have e4' := k5 _ _ e4 (by simp)
  have hal0 : H al = none := by
    cases q : H al with
    | none => rfl
    | some o => rw [k4 _ _ q (by simp)] at hal; cases hal
  generalize hup H4 al (.list [.str pl, .str pl, .str []]) = H5 at k5 e5 e4' ⊢
  have S5 := S.keep (k4.trans k5)
  have hwlen : (wordsOfL pl).length ≤ 3 := by unfold wordsOfL; split <;> simp
  refine s_cons (s_if (t_cmp (x_toks (ws := wordsOfL pl) Bk (hA.less (by (first | lia | omega))) E S5 (by (first | lia | omega)) e4' (S.off hwl0) (x_l E rfl ⟨rfl, rfl, rfl⟩) (fun acc H6 S6 oa ea6 kl6 => ?_) (fun _ => _) (fun _ => rfl))))
  rw [htk] at ea6
  have okw : okStrs (wordsOfL pl) := fun x hx n hn => by
    unfold wordsOfL at hx
    have : x = pl := by
      rcases List.mem_append.mp hx with q | q
      · rcases List.mem_append.mp q with q | q
        · exact List.mem_singleton.mp q
        · split at q
          · cases q
          · exact List.mem_singleton.mp q
      · exact List.mem_singleton.mp q
    subst this
    exact hokp n hn
  refine x_l E rfl (o_ne_strs (d := 10) okw okw (hA.less (by (first | lia | omega))) ea6 (kl6 _ _ (S.off hwl0) e4') ⟨_, rfl, ?_⟩)
  rw [decide_eq_true rfl, if_neg (by decide)]
  exact s_nil (h al _ _ ⟨M.page, M.rest, M.plain, M.signs⟩ S6 rfl (S.off hal0) (kl6 _ _ (S.off hal0) e5))
theorem law17 (Bk : BOk w hB) (hA : AOk 30 A) {al : Addr} {wt : List (List Nat)} (S : LS L f its ia K tu [] inp ln H) (M : LM K pg rs pl m) (hw : Has m "waits" (.ref al)) (hoff : OffK K al) (hl : H al = some (.list (aStrs wt))) (hn : wt.length ≤ 10)
    (h : ∀ m1 H1, LM K pg rs pl m1 → LS L f its ia K tu wt inp ln H1 → Has m1 "waits" (.ref al) → H1 al = some (.list (aStrs wt)) → WSS ⟨w, hB, A, L, fs⟩ (env170 L) ((fBody (stm 16)).drop 18) m1 H1 QF) : WSS ⟨w, hB, A, L, fs⟩ (env170 L) ((fBody (stm 16)).drop 17) m H QF := by
  have E := envOk170 L
  refine s_cons (s_for (fun it n m1 H1 => ∃ i, i ≤ wt.length ∧ n = wt.length - i ∧ H1 it = some (.pat (liP al i)) ∧ H1 al = some (.list (aStrs wt)) ∧ LS L f its ia K tu (wt.take i) inp ln H1 ∧ LM K pg rs pl m1 ∧ Has m1 "waits" (.ref al)) ?_ ?_)
  · refine x_l E hw (it_list hl fun it hit => ⟨it, _, rfl, 0, Nat.zero_le _, rfl, hup_self, (Keep.hup (mu := []) (.inl hit)) _ _ hl (by simp), S.keep (Keep.hup (.inl hit)), M, hw⟩)
  rintro it n m1 H1 ⟨i, hi, rfl, ei, ea, S1, M1, hw1⟩
  refine nx_list hA.1 ei ea (fun x hx => ?_) (fun hle => ?_)
  · unfold aStrs at hx
    rw [List.getElem?_map] at hx
    cases hq : wt[i]? with
    | none => rw [hq] at hx; cases hx
    | some x0 =>
    rw [hq] at hx; cases hx
    have hilt : i < wt.length := by
      rcases Nat.lt_or_ge i wt.length with h | h
      · exact h
      · rw [List.getElem?_eq_none h] at hq; cases hq
    have k2 : Keep [it] H1 (hup H1 it (.pat (liP al (i + 1)))) := Keep.hup (.inr (.head _))
    have e2 : hup H1 it (.pat (liP al (i + 1))) it = some (.pat (liP al (i + 1))) := hup_self
    have S2 := S1.keepBut k2 ei apart_li
    have ea2 := KeepL.but (K := K) k2 ei (by simp) _ _ hoff ea
    generalize hup H1 it (.pat (liP al (i + 1))) = H2 at k2 e2 S2 ea2 ⊢
    refine asg_local E.kind (by kernel_rfl) E.loc ?_
    have hti : (wt.take i).length ≤ 10 := by rw [List.length_take]; (first | lia | omega)
    refine s_cons ?_
    refine x_push (t := x0) Bk (hA.less (by (first | lia | omega))) E S2 (by (first | lia | omega)) (fun h => x_l E rfl h) rfl (by unfold noStar; kernel_rfl) (fun H5 k5 S5 => s_nil ?_) _ rfl
    have ei5 : H5 it = some (.pat (liP al (i + 1))) := k5 _ _ e2 (by
      simp only [List.mem_singleton]
      exact ne_of e2 S2.lex.push (by simp))
    refine ⟨_, by (first | lia | omega), i + 1, hilt, rfl, ei5, k5 _ _ ea2 (by simpa using hoff.2), ?_, ⟨M1.page, M1.rest, M1.plain, M1.signs⟩, hw1⟩
    rw [take_succ' hq]
    exact S5
  · have : i = wt.length := by rw [aStrs_len] at hle; (first | lia | omega)
    subst this
    rw [List.take_length] at S1
    exact h _ _ M1 (S1.keepBut keep_drop1 ei apart_li) hw1 (KeepL.but (K := K) keep_drop1 ei (by simp) _ _ hoff ea)
end
end Mine
end
section
open PySem PySem.W PySem.Calls PyProof.Rows
set_option Elab.async false
set_option maxRecDepth 100000
set_option maxHeartbeats 1000000
set_option linter.unusedVariables false
set_option linter.unusedSimpArgs false
namespace Mine
noncomputable def open1 (its : List Pr2) : List Nat := [34] ++ wr its 1 false
noncomputable def open2 (pl : List Nat) : List Nat := [34] ++ (pl.map fun c => [92, c]).flatten ++ [92]
section
variable {w : World} {hB : Heap} {A : Around} {L : Addr} {fs : List (Addr × Obj)} {QF : AF → Lm → Hp → Prop} {Q : AV → Lm → Hp → Prop} {ia : Addr} {its : List Pr2} {m : Lm} {H : Hp} {f : Int} {K : LexK} {tu : Option AV} {ps : List (List Nat)} {inp : List Nat} {ln : Int} {pg rs pl : List Nat} {p0 p1 p2 p3 pos : Pos}
theorem x_reads {iter : PySem.Expr} {scope : Scope} {wl : Addr} {ts : List (List Nat)} (Bk : BOk w hB) (hA : AOk 14 A) (E : EnvOk (env170 L) L) (S : LS L f its ia K tu ps inp ln H) (hn : ts.length ≤ 10) (hw : H wl = some (.list (aStrs ts))) (hoff : OffK K wl)
    (hts : ∀ t ∈ ts, (∀ n ∈ t, n < 1114112) ∧ t.length ≤ 90000)
    (hiter : WE ⟨w, hB, A, L, fs⟩ (env170 L) iter m H fun av m1 H1 => av = .ref wl ∧ m1 = m ∧ H1 = H)
    (h : ∀ acc H1, LS L f its ia K tu ps inp ln H1 → OffK K acc → H1 acc = some (.list (aStrs (ts.map fun t => (getTok t).1))) → KeepL K H H1 → Q (.ref acc) m H1)
    (hx : ∀ C, (compEnvC scope [] C (env170 L)).kindOf "text" = some .local := by intro _; kernel_rfl)
    (hx2 : ∀ C, (compEnvC scope [] C (env170 L)).kindOf "_law_read" = some .globalImplicit := by intro _; kernel_rfl)
    (hx3 : ∀ C, noStar p3 [.Name "text" p2] (compEnvC scope [] C (env170 L)) := by intro _; unfold noStar; kernel_rfl)
    (hclos : closureFor scope (env170 L) = pure [] := by kernel_rfl) (hc : (scope.names.all fun y => y.2 != .cell) = true := by kernel_rfl) (hkind : scope.kind = .function := by kernel_rfl)
    (hn' : (scope.names.all fun y => y.2 != .local || scope.names.lookup y.1 == some .local) = true := by kernel_rfl)
    (hs : ∀ x, foldedSetIterable iter (env170 L) x = pure x := by intro _; with_unfolding_all rfl) :
    WE ⟨w, hB, A, L, fs⟩ (env170 L) (.ListComp (.Call (.Name "_law_read" p1) [.Name "text" p2] [] p3) [⟨.Name "text" p0, iter, [], 0⟩] scope pos) m H Q := by
  refine x_comp [] (fun it acc n ys H1 => ∃ i : Nat, TI K H wl (aStrs ts) ts.length it acc n ys (aStrs ((ts.take i).map fun t => (getTok t).1)) (LS L f its ia K tu ps inp ln H1) H1 i)
    (fun acc H1 => LS L f its ia K tu ps inp ln H1 ∧ OffK K acc ∧ H1 acc = some (.list (aStrs (ts.map fun t => (getTok t).1))) ∧ KeepL K H H1) ?_ ?_ ?_ hclos hc hkind hn' hs (by intro _ _; rfl)
  · refine hiter.imp fun av m1 H1 ⟨e1, e2, e3⟩ => ?_
    subst e1 e2 e3
    refine it_list hw fun it hit => ⟨it, ts.length, rfl, fun acc ha => ?_, fun acc H4 ⟨S4, o4, e4, k4⟩ => h acc H4 S4 o4 e4 k4⟩
    have hne : acc ≠ it := fun q => by subst q; rw [hup_self] at ha; cases ha
    have ha0 : H1 acc = none := by rwa [hup_ne hne] at ha
    have k1 : Keep [] H1 (hup (hup H1 it (.pat (liP wl 0))) acc (.list [])) := keep_hup2 (Keep.hup (.inl hit)) ha0
    exact ⟨0, Nat.zero_le _, rfl, rfl, S.keep k1, (hup_ne hne.symm).trans hup_self, k1 _ _ hw (by simp), hup_self, S.off ha0, .of k1, ha0⟩
  · rintro C fs' it acc n H3 ⟨i, h⟩
    exact it_self h.ei ⟨rfl, i, h⟩
  · rintro C fs' it acc n ys H3 ⟨i, h1, rfl, rfl, S3, ei, ew, ea, oa, kl, ha0⟩
    refine nx_list hA.1 ei ew (fun x hx' => ?_) (fun hle => ?_)
    · unfold aStrs at hx'
      rw [List.getElem?_map] at hx'
      cases hr : ts[i]? with
      | none => rw [hr] at hx'; cases hx'
      | some r =>
      rw [hr] at hx'; cases hx'
      have hilt : i < ts.length := by
        rcases Nat.lt_or_ge i ts.length with h | h
        · exact h
        · rw [List.getElem?_eq_none h] at hr; cases hr
      have k4 : Keep [it] H3 (hup H3 it (.pat (liP wl (i + 1)))) := Keep.hup (.inr (.head _))
      have ei4 : hup H3 it (.pat (liP wl (i + 1))) it = some (.pat (liP wl (i + 1))) := hup_self
      have S4 := S3.keepBut k4 ei apart_li
      have kl4 : KeepL K H3 (hup H3 it (.pat (liP wl (i + 1)))) := .but k4 ei (by simp)
      generalize hup H3 it (.pat (liP wl (i + 1))) = H4 at k4 ei4 S4 kl4 ⊢
      have htr := hts r (List.mem_of_getElem? hr)
      refine x_asg (compE E hkind) ?_ (hx C)
      refine ifs_nil ?_
      rw [if_pos rfl]
      refine x_f (f := 153) Bk (compE E hkind) (a_cons (x_l (compE E hkind) rfl (a_nil (c_def (fc153 (l := r) Bk htr.1 htr.2) rfl rfl hA S4.tab fun av H5 k5 ⟨e5, T5⟩ => ?_)) (hx C))) (by kernel_rfl) (by kernel_rfl) (hx2 C) (hx3 C)
      subst e5
      have S5 := S4.read k5 T5
      have kl5 := KeepL.read S4 k5
      obtain ⟨es, e141⟩ := S4.tab.raw
      have ea5 := kl5 _ _ oa (kl4 _ _ oa ea)
      have ei5 : H5 it = some (.pat (liP wl (i + 1))) := k5 _ _ ei4 (by
        simp only [List.mem_singleton]
        exact ne_of ei4 e141 (by simp))
      have hne : acc ≠ it := ne_of ea5 ei5 (by simp)
      have hwa : wl ≠ acc := fun q => by subst q; rw [hw] at ha0; cases ha0
      have k6 : Keep [acc] H5 (hup H5 acc (.list (aStrs ((ts.take i).map fun t => (getTok t).1) ++ [.str (getTok r).1]))) := Keep.hup (.inr (.head _))
      have KL6 : KeepL K H (hup H5 acc (.list (aStrs ((ts.take i).map fun t => (getTok t).1) ++ [.str (getTok r).1]))) := by
        intro a x ho e
        have : a ≠ acc := fun q => by subst q; rw [e] at ha0; cases ha0
        exact (hup_ne this).trans (kl5 _ _ ho (kl4 _ _ ho (kl _ _ ho e)))
      refine ⟨ea5, by rw [aStrs_len, List.length_map, List.length_take]; (first | lia | omega), _, ?_, i + 1, hilt, rfl, ?_, ?_, ?_, ?_, hup_self, oa, ?_, ha0⟩
      · (first | lia | omega)
      · rw [take_succ' hr, List.map_append]; unfold aStrs; rw [List.map_append]; rfl
      · exact S5.listed k6 ea5 oa (S.pr.keepOn fun r x n1 n2 e => KL6 r x ⟨n1, n2⟩ e)
      · exact (hup_ne hne.symm).trans ei5
      · exact (hup_ne hwa).trans (kl5 _ _ hoff (kl4 _ _ hoff ew))
      · exact KL6
    · have : i = ts.length := by rw [aStrs_len] at hle; (first | lia | omega)
      subst this
      rw [List.take_length] at ea
      have hne : acc ≠ it := ne_of ea ei (by simp)
      exact ⟨S3.keepBut keep_drop1 ei apart_li, oa, (drop_ne hne).trans ea, kl.trans (.but keep_drop1 ei (by simp))⟩
theorem esc_len (pl : List Nat) : ((pl.map fun c => [92, c]).flatten).length = 2 * pl.length := by
  induction pl with
  | nil => rfl
  | cons c pl ih => rw [List.map_cons, List.flatten_cons, List.length_append, ih]; show 2 + _ = 2 * (pl.length + 1); (first | lia | omega)
theorem law18 (Bk : BOk w hB) (hA : AOk 30 A) (hs : Small its) {al : Addr} (S : LS L f its ia K tu ps inp ln H) (M : LM K pg rs pl m) (hw : Has m "waits" (.ref al)) (hoff : OffK K al) {wt : List (List Nat)} (hl : H al = some (.list (aStrs wt))) (hpl : pl.length ≤ 120)
    (hokp : ∀ n ∈ pl, n < 1114112) (hok1 : ∀ n ∈ open1 its, n < 1114112) (h1 : (getTok (open1 its)).1 = pl) (h2 : (getTok (open2 pl)).1 = pl)
    (h : ∀ m1 H1, LM K pg rs pl m1 → LS L f its ia K tu ps inp ln H1 → Has m1 "waits" (.ref al) → H1 al = some (.list (aStrs wt)) → WSS ⟨w, hB, A, L, fs⟩ (env170 L) ((fBody (stm 16)).drop 20) m1 H1 QF) : WSS ⟨w, hB, A, L, fs⟩ (env170 L) ((fBody (stm 16)).drop 18) m H QF := by
  have E := envOk170 L
  have hwr := wr_len (k := 1) (b := false) (l := its) hs.2
  have hl12 := hs.1
  have hel := esc_len pl
  have hok2 : ∀ n ∈ open2 pl, n < 1114112 := fun n hn => by
    unfold open2 at hn
    rcases List.mem_append.mp hn with q | q
    · rcases List.mem_append.mp q with q | q
      · rw [List.mem_singleton.mp q]; decide
      · obtain ⟨l', h1, h2⟩ := List.mem_flatten.mp q
        obtain ⟨c, hc, rfl⟩ := List.mem_map.mp h1
        simp only [List.mem_cons, List.not_mem_nil, or_false] at h2
        rcases h2 with rfl | rfl
        · decide
        · exact hokp _ hc
    · rw [List.mem_singleton.mp q]; decide
  refine s_cons (x_as E (e_list (a_cons (e_binop (e_str (l := [34]) (by kernel_rfl) (x_f (f := 160) Bk E (a_cons (x_c E (L + 2) S.c2 (a_cons (e_int (a_cons (e_bool (a_nil (c_def (fc160 (k := 1) (b := false) Bk (by decide) hs) rfl rfl (hA.less (by (first | lia | omega))) S.pr.at fun av H1 k1 e1 => ?_))))))))))))))
  subst e1
  refine o_add_str (by rw [List.length_singleton]; (first | lia | omega)) (a_cons (e_binop (e_binop (e_str (l := [34]) (by kernel_rfl) (x_ms _ PySem.F.slot_str_join PySem.F.type_str_join (e_str (l := []) (by kernel_rfl) ⟨[], rfl, a_cons (x_comp [] (fun it acc n ys H3 => ∃ i : Nat, CI H1 (pl.length) it acc n ys H3 (aStrs ((pl.take i).map fun c => [92, c])) (.pat (siP pl i)) i)
    (fun acc H3 => H3 acc = some (.list (aStrs (pl.map fun c => [92, c]))) ∧ Keep [] H1 H3) ?_ ?_ ?_)⟩) rfl)))))
  · refine x_l E M.plain (it_str fun it hit => ⟨it, pl.length, rfl, fun acc ha => ?_, fun acc H2 ⟨e2, k2⟩ => ?_⟩)
    · have hne : acc ≠ it := fun q => by subst q; rw [hup_self] at ha; cases ha
      have ha0 : H1 acc = none := by rwa [hup_ne hne] at ha
      exact ⟨0, Nat.zero_le _, rfl, rfl, (hup_ne hne.symm).trans hup_self, hup_self, keep_hup2 (Keep.hup (.inl hit)) ha0, hit, ha0, hne.symm⟩
    · refine a_nil (c_join e2 (by (first | lia | omega)) (o_add_str (by rw [List.length_singleton]; (first | lia | omega)) (e_str (l := [92]) (by kernel_rfl) (o_add_str (by rw [List.length_append, List.length_singleton, List.length_singleton]; (first | lia | omega)) (a_nil ⟨by show 2 ≤ 1000; decide, fun ol hol => ?_⟩)))))
      have k3 : Keep [] H (hup H2 ol (.list [.str ([34] ++ wr its 1 false), .str ([34] ++ (pl.map fun c => [92, c]).flatten ++ [92])])) := (k1.trans k2).trans (Keep.hup (.inl hol))
      have e3 : hup H2 ol (.list [.str ([34] ++ wr its 1 false), .str ([34] ++ (pl.map fun c => [92, c]).flatten ++ [92])]) ol = some (.list (aStrs [open1 its, open2 pl])) := hup_self
      have hol0 : H ol = none := by
        cases q : H ol with
        | none => rfl
        | some o => rw [(k1.trans k2) _ _ q (by simp)] at hol; cases hol
      generalize hup H2 ol (.list [.str ([34] ++ wr its 1 false), .str ([34] ++ (pl.map fun c => [92, c]).flatten ++ [92])]) = H3 at k3 e3 ⊢
      have S3 := S.keep k3
      refine s_cons (s_if (t_cmp (x_reads (ts := [open1 its, open2 pl]) Bk (hA.less (by (first | lia | omega))) E S3 (by show 2 ≤ 10; decide) e3 (S.off hol0) (fun t ht => ?_) (x_l E rfl ⟨rfl, rfl, rfl⟩) (fun acc H4 S4 oa ea kl4 => ?_))))
      · simp only [List.mem_cons, List.not_mem_nil, or_false] at ht
        rcases ht with rfl | rfl
        · exact ⟨hok1, by unfold open1; rw [List.length_append, List.length_singleton]; (first | lia | omega)⟩
        · exact ⟨hok2, by unfold open2; rw [List.length_append, List.length_append, List.length_singleton, List.length_singleton]; (first | lia | omega)⟩
      have hm : [open1 its, open2 pl].map (fun t => (getTok t).1) = [pl, pl] := by rw [List.map_cons, List.map_cons, h1, h2]; rfl
      rw [hm] at ea
      have okw : okStrs [pl, pl] := fun x hx n hn => by
        simp only [List.mem_cons, List.not_mem_nil, or_false, or_self] at hx
        subst hx; exact hokp n hn
      refine e_list (a_cons (x_l E M.plain (a_cons (x_l E M.plain (a_nil ⟨by show 2 ≤ 1000; decide, fun z hz => ?_⟩)))))
      refine o_ne_strs (l := [pl, pl]) (k := [pl, pl]) (d := 10) okw okw (hA.less (by (first | lia | omega))) ((Keep.hup (mu := []) (.inl hz)) _ _ ea (by simp)) hup_self ⟨_, rfl, ?_⟩
      rw [decide_eq_true rfl, if_neg (by decide)]
      exact s_nil (h _ _ ⟨M.page, M.rest, M.plain, M.signs⟩ (S4.keep (Keep.hup (.inl hz))) hw ((Keep.hup (mu := []) (.inl hz)) _ _ (kl4 _ _ hoff (k3 _ _ hl (by simp))) (by simp)))
  · rintro C fs' it acc n H3 ⟨i, h1, h2, h3, h4, h5, h6, h7, h8, h9⟩
    exact it_str_self h4 ⟨rfl, i, h1, h2, h3, h4, h5, h6, h7, h8, h9⟩
  · rintro C fs' it acc n ys H3 ⟨i, h1, rfl, rfl, h4, h5, h6, h7, h8, h9⟩
    refine nx_str hA.1 h4 (fun x hx => ?_) (fun hle => ?_)
    · have hilt : i < pl.length := by
        rcases Nat.lt_or_ge i pl.length with h | h
        · exact h
        · rw [List.getElem?_eq_none h] at hx; cases hx
      have k4 : Keep [] H1 (hup H3 it (.pat (siP pl (i + 1)))) := keep_hup2 h6 h7
      have ei : hup H3 it (.pat (siP pl (i + 1))) it = some (.pat (siP pl (i + 1))) := hup_self
      have ea : hup H3 it (.pat (siP pl (i + 1))) acc = some (.list (aStrs ((pl.take i).map fun c => [92, c]))) := (hup_ne h9.symm).trans h5
      generalize hup H3 it (.pat (siP pl (i + 1))) = H4 at k4 ei ea ⊢
      refine x_asg (compE E rfl) ?_
      refine ifs_nil ?_
      rw [if_pos rfl]
      refine e_binop (e_str (l := [92]) (by kernel_rfl) (x_l (compE E rfl) rfl (o_add_str (by show 1 + 1 ≤ 1000000; decide) ⟨ea, by rw [aStrs_len, List.length_map, List.length_take]; (first | lia | omega), _, ?_, i + 1, hilt, rfl, ?_, (hup_ne h9).trans ei, hup_self, keep_hup2 k4 h8, h7, h8, h9⟩)))
      · (first | lia | omega)
      · rw [take_succ' hx, List.map_append]; unfold aStrs; rw [List.map_append]; rfl
    · have : i = pl.length := by (first | lia | omega)
      subst this
      rw [List.take_length] at h5
      exact ⟨(drop_ne h9.symm).trans h5, keep_drop h6 h7⟩
end
end Mine
end
section
open PySem PySem.W PySem.Calls PyProof.Rows
set_option Elab.async false
set_option maxRecDepth 100000
set_option maxHeartbeats 1000000
set_option linter.unusedVariables false
set_option linter.unusedSimpArgs false
namespace Mine
theorem toks_all (ps : List (List Nat)) (inp : List Nat) : ∀ i, i ≤ ps.length → inpN ps inp i = inp
  | 0, _ => rfl
  | i + 1, h => by
    have ih := toks_all ps inp i (by (first | lia | omega))
    show inpOf (ps.drop i) (inpN ps inp i) = inp
    rw [List.drop_eq_getElem_cons (by (first | lia | omega))]
    exact ih
theorem ln_all (ps : List (List Nat)) (inp : List Nat) (ln : Int) : ∀ i, i ≤ ps.length → lnN ps inp ln i = ln
  | 0, _ => rfl
  | i + 1, h => by
    have ih := ln_all ps inp ln i (by (first | lia | omega))
    show lnOf (ps.drop i) (inpN ps inp i) (lnN ps inp ln i) = ln
    rw [List.drop_eq_getElem_cons (by (first | lia | omega))]
    exact ih
theorem toks_eq (ps : List (List Nat)) (inp : List Nat) : ∀ i, i ≤ ps.length → toksN ps inp i = ps.take i
  | 0, _ => rfl
  | i + 1, h => by
    rw [toks_succ, toks_eq ps inp i (by (first | lia | omega)), take_succ' (List.getElem?_eq_getElem (by (first | lia | omega) : i < ps.length)), List.drop_eq_getElem_cons (by (first | lia | omega))]
    rfl
theorem count_nl (l : List Nat) : Txt.count ⟨l.toArray⟩ ⟨[10].toArray⟩ = nl l := by
  have h := count_cnt ⟨l.toArray⟩ 10
  rw [show ([10].toArray : Array Nat) = #[10] from rfl, h]
  show cnt 10 l.toArray.toList = _
  rw [List.toList_toArray]
  clear h
  induction l with
  | nil => rfl
  | cons x l ih =>
    rw [cnt_cons, ih, nl_cons]
    congr 1
    unfold nl
    rw [List.count_cons, List.count_nil]
    by_cases h : x = 10
    · rw [if_pos h, if_pos (by rw [h]; rfl)]; rfl
    · rw [if_neg h, if_neg (by simpa using h)]; rfl
theorem sl_upto (l : List Nat) {b : Nat} : sl l none (some (b : Int)) = l.take b := by
  rw [sl_run (a := 0) (b := min b l.length) ?_ (Nat.zero_le _) (Nat.min_le_right _ _)]
  · rw [List.drop_zero, Nat.sub_zero]
    rcases Nat.le_total b l.length with h | h
    · rw [Nat.min_eq_left h]
    · rw [Nat.min_eq_right h, List.take_of_length_le (Nat.le_refl _), List.take_of_length_le h]
  · show sliceRange 0 (max 0 (min (if (b : Int) < 0 then (b : Int) + (l.length : Int) else (b : Int)) (l.length : Int))) 1 = _
    rw [clip_nat]
    rfl
section
variable {c : Cx} {env : Env} {m : Lm} {H : Hp} {Q : AV → Lm → Hp → Prop}
theorem o_ne_int {a b : Int} (h : Q (.bool (a != b)) m H) : WO2 c (compareOp .NotEq) (.int a) (.int b) m H Q := fun x y ⟨t, e⟩ ⟨u, e'⟩ => by
  subst e e'; exact fun s S => PyProof.Rows.ne_int ⟨.bool (a != b), m, H, rfl, S, .rfl', h⟩
end
noncomputable def wholeN (rs : List Nat) : Nat → List Nat
  | 0 => rs
  | i + 1 => (getTok (wholeN rs i)).1
noncomputable def earlyN (rs : List Nat) : Nat → List Nat
  | 0 => stripO rs
  | i + 1 => (getTok (earlyN rs i)).1
noncomputable def inpAt (rs : List Nat) (i : Nat) : List Nat := if i ≤ 1 then rs else (getTok rs).2
noncomputable def lnAt (rs : List Nat) (ln : Int) (i : Nat) : Int := if i ≤ 1 then ln else ln + nl rs - nl (getTok rs).2
section
variable {w : World} {hB : Heap} {A : Around} {L : Addr} {fs : List (Addr × Obj)} {QF : AF → Lm → Hp → Prop} {Q : AV → Lm → Hp → Prop} {ia : Addr} {its : List Pr2} {m : Lm} {H : Hp} {f : Int} {K : LexK} {tu : Option AV} {ps : List (List Nat)} {inp : List Nat} {ln : Int} {pg rs pl : List Nat}
theorem law20 (Bk : BOk w hB) (hA : AOk 30 A) {al : Addr} (S : LS L f its ia K tu (waitsOf pl) rs (1 + nl pg) H) (M : LM K pg rs pl m) (hw : Has m "waits" (.ref al)) (hoff : OffK K al) (hl : H al = some (.list (aStrs (waitsOf pl)))) (hokp : ∀ n ∈ pl, n < 1114112) (hrl : rs.length ≤ 5000)
    (h : ∀ H1, LS L f its ia K tu [] rs (1 + nl pg) H1 → WSS ⟨w, hB, A, L, fs⟩ (env170 L) ((fBody (stm 16)).drop 21) m H1 QF) : WSS ⟨w, hB, A, L, fs⟩ (env170 L) ((fBody (stm 16)).drop 20) m H QF := by
  have E := envOk170 L
  refine s_cons ?_
  refine s_if (t_boolop (t_or (t_cmp (x_toks (ws := waitsOf pl) Bk (hA.less (by (first | lia | omega))) E S (by show 3 ≤ 10; decide) hl hoff (x_l E hw ⟨rfl, rfl, rfl⟩) (fun acc H6 S6 oa ea6 kl6 => ?_) (fun _ => _) (fun _ => rfl)))))
  have hlen : (waitsOf pl).length ≤ (waitsOf pl).length := Nat.le_refl _
  rw [toks_eq _ _ _ hlen, List.take_length] at ea6
  rw [toks_all _ _ _ hlen, ln_all _ _ _ _ hlen, List.drop_length] at S6
  have okw : okStrs (waitsOf pl) := fun x hx n hn => by
    simp only [waitsOf, List.mem_cons, List.not_mem_nil, or_false] at hx
    rcases hx with rfl | rfl | rfl
    · exact hokp n hn
    · exact hokp n hn
    · cases hn
  refine x_l E hw (o_ne_strs (d := 10) okw okw (hA.less (by (first | lia | omega))) ea6 (kl6 _ _ hoff hl) ⟨_, rfl, ?_⟩)
  rw [decide_eq_true rfl, if_neg (by decide)]
  refine t_or (t_cmp (x_b (id := "len") Bk E (a_cons (x_l E M.signs (a_nil (c_len_list S6.lex.signs ?_ ?_))))))
  · rw [aStrs_len, chs, List.length_map, List.length_reverse]; (first | lia | omega)
  refine x_b (id := "len") Bk E (a_cons (x_l E M.rest (a_nil (c_len_str (by (first | lia | omega)) (o_ne_int ⟨_, rfl, ?_⟩)))))
  rw [aStrs_len, chs, List.length_map, List.length_reverse, if_neg (by simp)]
  refine t_or (t_cmp (x_lineno Bk E S6 (e_binop (e_int (x_ms _ PySem.F.slot_str_count PySem.F.type_str_count (x_l E M.page ⟨pg, rfl, a_cons (e_str (l := [10]) (by kernel_rfl) (a_nil (c_count (o_add_int (o_ne_int ⟨_, rfl, ?_⟩)))))⟩) rfl)))))
  rw [count_nl, if_neg (by simp)]
  refine t_or_nil ?_
  rw [if_neg (by decide)]
  exact s_nil (h _ S6)
theorem law23 (Bk : BOk w hB) (hA : AOk 30 A) {pre : List Nat} (S : LS L f its ia K tu [] inp ln H) (M : LM K pg rs pl m) (hrs : rs = pre ++ inp) (hln : ln = 1 + nl (pg ++ pre)) (hrl : rs.length ≤ 5000) (hpg : pg.length ≤ 300) (hpl : pl.length ≤ 120)
    (h : ∀ m1 H1, TabL H1 → QF (.ret (.bool true)) m1 H1) : WSS ⟨w, hB, A, L, fs⟩ (env170 L) ((fBody (stm 16)).drop 23) m H QF := by
  have E := envOk170 L
  have hil : inp.length ≤ rs.length := by rw [hrs, List.length_append]; (first | lia | omega)
  refine s_cons ?_
  refine x_push (t := pl) Bk (hA.less (by (first | lia | omega))) E S (by decide) (fun h => x_l E M.plain h) rfl (by unfold noStar; kernel_rfl) (fun H1 k1 S1' => ?_) _ rfl
  have S1 : LS L f its ia K tu [pl] inp ln H1 := S1'
  clear S1'
  refine s_cons ?_
  refine s_if (t_boolop (t_or (t_cmp (x_tok Bk (hA.less (by (first | lia | omega))) E S1 (fun H2 k2 S2' => ?_) _ rfl))))
  have S2 : LS L f its ia K tu [] inp ln H2 := S2'
  clear S2'
  refine x_l E M.plain (o_ne_str ⟨_, rfl, ?_⟩)
  rw [if_neg (by show ¬ (pl != pl) = true; simp)]
  refine t_or (t_cmp (x_lineno Bk E S2 (e_binop (e_int (x_ms _ PySem.F.slot_str_count PySem.F.type_str_count (e_binop (x_l E M.page ?_)) rfl)))))
  refine x_slice_str (fun o i => ⟨_, by with_unfolding_all rfl⟩) (x_l E M.rest ⟨rs, rfl, by (first | lia | omega), wp_none ?_⟩)
  refine e_binop (x_b (id := "len") Bk E (a_cons (x_l E M.rest (a_nil (c_len_str (by (first | lia | omega)) ?_)))))
  refine x_b (id := "len") Bk E (a_cons (x_l E M.signs (a_nil (c_len_list S2.lex.signs ?_ (o_sub_int ⟨_, rfl, ?_⟩)))))
  · rw [aStrs_len, chs, List.length_map, List.length_reverse]; show inp.length ≤ _; (first | lia | omega)
  rw [aStrs_len, chs, List.length_map, List.length_reverse, show ((rs.length : Int) - (inp.length : Int)) = ((rs.length - inp.length : Nat) : Int) by (first | lia | omega)]
  show WO2 _ _ _ (.str (sl rs none (some ((rs.length - inp.length : Nat) : Int)))) _ _ _
  rw [sl_upto]
  have htk : rs.take (rs.length - inp.length) = pre := by
    rw [hrs, List.length_append, Nat.add_sub_cancel, List.take_left']
    rfl
  rw [htk]
  have hprel : pre.length ≤ rs.length := by rw [hrs, List.length_append]; (first | lia | omega)
  refine o_add_str (by (first | lia | omega)) ⟨_, rfl, a_cons (e_str (l := [10]) (by kernel_rfl) (a_nil (c_count (o_add_int (o_ne_int ⟨_, rfl, ?_⟩)))))⟩
  rw [count_nl, if_neg (by show ¬ ((ln != 1 + nl (pg ++ pre)) = true); rw [hln]; simp)]
  refine t_or_nil ?_
  rw [if_neg (by decide)]
  refine s_nil (s_cons (s_return (e_or2 (e_cmp (x_l E M.signs (e_list (a_nil ⟨by decide, fun z hz => ?_⟩)))))))
  have S3 := S2.keep (Keep.hup (mu := []) (o := .list []) (.inl hz))
  refine o_ne_strs (l := chs inp.reverse) (k := []) (d := 10) (okStrs_chs fun n hn => S2.lex.okc n (List.mem_reverse.mp hn)) (fun x hx => by cases hx) (hA.less (by (first | lia | omega))) S3.lex.signs hup_self ⟨_, rfl, ?_⟩
  by_cases hi : inp = []
  · rw [if_neg (by rw [hi]; decide)]
    refine e_cmp (x_tok Bk (hA.less (by (first | lia | omega))) E S3 (fun H4 k4 S4 => e_str (l := []) (by kernel_rfl) (o_eq_str ?_)) _ rfl)
    have : tokOf [] inp = [] := by subst hi; rfl
    show QF (.ret (.bool (tokOf [] inp == []))) _ _
    rw [this]
    exact h _ _ S4.tab
  · rw [if_pos (by
      have : chs inp.reverse ≠ [] := by
        unfold chs
        simpa using hi
      rw [decide_eq_false this]; rfl)]
    exact h _ _ S3.tab
end
end Mine
end
section
open PySem PySem.W PySem.Calls PyProof.Rows
set_option Elab.async false
set_option maxRecDepth 100000
set_option maxHeartbeats 1000000
set_option linter.unusedVariables false
set_option linter.unusedSimpArgs false
namespace Mine
noncomputable def toldsL (its : List Pr2) (ly t i : Nat) : List (List Nat) := (List.range i).map (toldL its ly t)
theorem tolds_succ (its : List Pr2) (ly t i : Nat) : toldsL its ly t (i + 1) = toldsL its ly t i ++ [toldL its ly t i] := by
  unfold toldsL; rw [List.range_succ, List.map_append]; rfl
theorem inp_step (rs : List Nat) (i : Nat) : inpAt rs (i + 2) = (getTok rs).2 := by unfold inpAt; rw [if_neg (by (first | lia | omega))]
section
variable {w : World} {hB : Heap} {A : Around} {L : Addr} {fs : List (Addr × Obj)} {QF : AF → Lm → Hp → Prop} {Q : AV → Lm → Hp → Prop} {ia : Addr} {its : List Pr2} {m : Lm} {H : Hp} {f : Int} {K : LexK} {tu : Option AV} {ps : List (List Nat)} {inp : List Nat} {ln : Int} {pg rs pl : List Nat}
theorem x_tolds {scope : Scope} {p1 p2 p3 p4 p5 p6 p7 p8 p9 p0 pos : Pos} {k1 : Nat} (Bk : BOk w hB) (hA : AOk 30 A) (hs : Small its) {t : Nat} (ht : t ≤ 3) (S : LS L f its ia K (some (.int t)) [] inp ln H)
    (h : ∀ acc H1, Keep [] H H1 → H1 acc = some (.list (aStrs (toldsL its (layOf f) t 3))) → Q (.ref acc) m H1)
    (hx : ∀ C, (compEnvC scope [(("turns" : Str), L + 6), ("layers", L + 1), ("items", L + 2)] C (env170 L)).kindOf "manner" = some .local := by intro _; kernel_rfl)
    (hx1 : ∀ C, (compEnvC scope [(("turns" : Str), L + 6), ("layers", L + 1), ("items", L + 2)] C (env170 L)).kindOf "items" = some .cell := by intro _; kernel_rfl)
    (hx2 : ∀ C, (compEnvC scope [(("turns" : Str), L + 6), ("layers", L + 1), ("items", L + 2)] C (env170 L)).kindOf "layers" = some .cell := by intro _; kernel_rfl)
    (hx3 : ∀ C, (compEnvC scope [(("turns" : Str), L + 6), ("layers", L + 1), ("items", L + 2)] C (env170 L)).kindOf "turns" = some .cell := by intro _; kernel_rfl)
    (hx4 : ∀ C, (compEnvC scope [(("turns" : Str), L + 6), ("layers", L + 1), ("items", L + 2)] C (env170 L)).kindOf "_law_told" = some .globalImplicit := by intro _; kernel_rfl)
    (hx5 : ∀ C, noStar p6 [.Name "items" p2, .Name "layers" p3, .Name "turns" p4, .Name "manner" p5] (compEnvC scope [(("turns" : Str), L + 6), ("layers", L + 1), ("items", L + 2)] C (env170 L)) := by intro _; unfold noStar; kernel_rfl)
    (hclos : closureFor scope (env170 L) = pure [(("turns" : Str), L + 6), ("layers", L + 1), ("items", L + 2)] := by kernel_rfl) (hc : (scope.names.all fun y => y.2 != .cell) = true := by kernel_rfl) (hkind : scope.kind = .function := by kernel_rfl)
    (hn' : (scope.names.all fun y => y.2 != .local || scope.names.lookup y.1 == some .local) = true := by kernel_rfl) :
    WE ⟨w, hB, A, L, fs⟩ (env170 L) (.ListComp (.Call (.Name "_law_told" p1) [.Name "items" p2, .Name "layers" p3, .Name "turns" p4, .Name "manner" p5] [] p6) [⟨.Name "manner" p7, .Call (.Name "range" p8) [.Constant (.int 3) k1 p9] [] p0, [], 0⟩] scope pos) m H Q := by
  have E := envOk170 L
  have hLy := layOf_le f
  refine x_comp [(("turns" : Str), L + 6), ("layers", L + 1), ("items", L + 2)] (fun it acc n ys H3 => ∃ i : Nat, CI H (3) it acc n ys H3 (aStrs (toldsL its (layOf f) t i)) (.raw (riO i ((3 : Int) - i))) i)
    (fun acc H3 => H3 acc = some (.list (aStrs (toldsL its (layOf f) t 3))) ∧ Keep [] H H3) ?_ ?_ ?_ hclos hc hkind hn' (by intro _; rfl) (by intro _ _; rfl)
  · refine x_t (T := "range") Bk E (a_cons (e_int (a_nil (c_range1 fun r hr => ?_))))
    have er : hup H r (.pat (rgP 0 3)) r = some (.pat (rgP 0 3)) := hup_self
    have kr : Keep [] H (hup H r (.pat (rgP 0 3))) := Keep.hup (.inl hr)
    generalize hup H r (.pat (rgP 0 3)) = H3 at er kr ⊢
    refine it_range (n := 3) (by (first | lia | omega)) er fun it hit => ⟨it, 3, rfl, fun acc ha => ?_, fun acc H4 ⟨e4, k4⟩ => h acc H4 k4 e4⟩
    have hne : acc ≠ it := fun q => by subst q; rw [hup_self] at ha; cases ha
    have ha0 : H3 acc = none := by rwa [hup_ne hne] at ha
    have back : ∀ {b}, H3 b = none → H b = none := fun {b} e => by
      cases q : H b with
      | none => rfl
      | some o => rw [kr _ _ q (by simp)] at e; cases e
    exact ⟨0, by (first | lia | omega), rfl, rfl, by rw [hup_ne hne.symm, hup_self]; simp, hup_self, kr.trans (keep_hup2 (Keep.hup (.inl hit)) ha0), back hit, back ha0, hne.symm⟩
  · rintro C fs' it acc n H3 ⟨i, h1, h2, h3, h4, h5, h6, h7, h8, h9⟩
    exact it_range_self h4 ⟨rfl, i, h1, h2, h3, h4, h5, h6, h7, h8, h9⟩
  · rintro C fs' it acc n ys H3 ⟨i, h1, rfl, rfl, h4, h5, h6, h7, h8, h9⟩
    refine nx_range hA.1 h4 (fun hlt => ?_) (fun hle => ?_)
    · have hilt : i < 3 := by (first | lia | omega)
      have k4 : Keep [] H (hup H3 it (.raw (riO ((i : Int) + 1) ((3 : Int) - i - 1)))) := keep_hup2 h6 h7
      have ei : hup H3 it (.raw (riO ((i : Int) + 1) ((3 : Int) - i - 1))) it = some (.raw (riO ((i : Int) + 1) ((3 : Int) - i - 1))) := hup_self
      have ea : hup H3 it (.raw (riO ((i : Int) + 1) ((3 : Int) - i - 1))) acc = some (.list (aStrs (toldsL its (layOf f) t i))) := (hup_ne h9.symm).trans h5
      generalize hup H3 it (.raw (riO ((i : Int) + 1) ((3 : Int) - i - 1))) = H4 at k4 ei ea ⊢
      have ei' : H4 it = some (.raw (riO ((i + 1 : Nat) : Int) ((3 : Int) - ((i + 1 : Nat) : Int)))) := by
        rw [ei]
        congr 3
        (first | lia | omega)
      have S4 := S.keep k4
      refine x_asg (compE E hkind) ?_ (hx C)
      refine ifs_nil ?_
      rw [if_pos rfl]
      have EC := compE (C := C) (cl := [(("turns" : Str), L + 6), ("layers", L + 1), ("items", L + 2)]) E hkind
      refine x_f (f := 165) Bk EC (a_cons (x_c EC (L + 2) S4.c2 (a_cons (x_c EC (L + 1) S4.c1 (a_cons (x_c EC (L + 6) S4.c6 (a_cons (x_l EC rfl (a_nil ?_) (hx C))) (hx3 C) rfl)) (hx2 C) rfl)) (hx1 C) rfl)) (by kernel_rfl) (by kernel_rfl) (hx4 C) (hx5 C)
      refine c_def (fc165 (t := t) (mn := i) Bk hs hLy ht) rfl rfl (hA.less (by (first | lia | omega))) S4.pr.at fun av H5 k5 e5 => ?_
      subst e5
      refine ⟨k5 _ _ ea (by simp), by rw [aStrs_len]; unfold toldsL; rw [List.length_map, List.length_range]; (first | lia | omega), _, ?_, i + 1, hilt, rfl, ?_, (hup_ne h9).trans (k5 _ _ ei' (by simp)), hup_self, keep_hup2 (k4.trans k5) h8, h7, h8, h9⟩
      · (first | lia | omega)
      · rw [tolds_succ]; unfold aStrs; rw [List.map_append]; rfl
    · have : i = 3 := by (first | lia | omega)
      subst this
      exact ⟨(drop_ne h9.symm).trans h5, keep_drop h6 h7⟩
theorem law21_body (Bk : BOk w hB) (hA : AOk 30 A) (hs : Small its) {t : Nat} (ht : t ≤ layOf f) {body : List Stmt} {it : Addr} {io : AO} (hb : ∃ st, (fBody (stm 16))[22]? = some st ∧ (match st with | .For _ _ b _ _ => b | _ => []) = body)
    (S : LS L f its ia K (some (.int t)) [] (inpAt rs t) (lnAt rs ln t) H) (M : LM K pg rs pl m) (hw : Has m "whole" (.str (wholeN rs (t - 1)))) (he : Has m "early" (.str (earlyN rs (t - 1)))) (hio : H it = some io) (hap : Apart K io)
    (hT : ∀ i, i ≤ layOf f → [wholeN rs i, stripO (wholeN rs i), earlyN rs i] = toldsL its (layOf f) i 3) (hok : ∀ i, i ≤ layOf f → ∀ mn, mn < 3 → ∀ n ∈ toldL its (layOf f) i mn, n < 1114112) :
    WSS ⟨w, hB, A, L, fs⟩ (env170 L) body m H fun fl m1 H1 => fl = .next ∧ LS L f its ia K (some (.int t)) [] (inpAt rs (t + 1)) (lnAt rs ln (t + 1)) H1 ∧ LM K pg rs pl m1 ∧ Has m1 "whole" (.str (wholeN rs t)) ∧ Has m1 "early" (.str (earlyN rs t)) ∧ H1 it = some io := by
  have E := envOk170 L
  have hLy := layOf_le f
  obtain ⟨st, hst, hbd⟩ := hb
  cases hst
  subst hbd
  have hw3 : ∀ i, i ≤ layOf f → wholeN rs i = toldL its (layOf f) i 0 ∧ stripO (wholeN rs i) = toldL its (layOf f) i 1 ∧ earlyN rs i = toldL its (layOf f) i 2 := fun i hi => by
    have h := hT i hi
    have h' : toldsL its (layOf f) i 3 = [toldL its (layOf f) i 0, toldL its (layOf f) i 1, toldL its (layOf f) i 2] := rfl
    rw [h'] at h
    injection h with a1 h
    injection h with a2 h
    injection h with a3 h
    exact ⟨a1, a2, a3⟩
  have lenW : ∀ i, i ≤ layOf f → (wholeN rs i).length ≤ 5000 := fun i hi => by rw [(hw3 i hi).1]; exact told_len hs hLy
  have lenE : ∀ i, i ≤ layOf f → (earlyN rs i).length ≤ 5000 := fun i hi => by rw [(hw3 i hi).2.2]; exact told_len hs hLy
  have okW : ∀ i, i ≤ layOf f → ∀ n ∈ wholeN rs i, n < 1114112 := fun i hi => by rw [(hw3 i hi).1]; exact hok i hi 0 (by decide)
  have okE : ∀ i, i ≤ layOf f → ∀ n ∈ earlyN rs i, n < 1114112 := fun i hi => by rw [(hw3 i hi).2.2]; exact hok i hi 2 (by decide)
  have keepIt : ∀ {H1 H2 : Hp}, H1 it = some io → Keep [141] H1 H2 → TabL H1 → H2 it = some io := fun {H1 H2} e k T => by
    obtain ⟨es, e141⟩ := T.raw
    exact k _ _ e (by simp only [List.mem_singleton]; exact ne_of e e141 (hap.n7 _))
  refine s_cons (W.imp (Q := fun fl m1 H1 => fl = .next ∧ LS L f its ia K (some (.int t)) [] (inpAt rs (t + 1)) (lnAt rs ln (t + 1)) H1 ∧ LM K pg rs pl m1 ∧ Has m1 "whole" (.str (wholeN rs t)) ∧ Has m1 "early" (.str (earlyN rs t)) ∧ H1 it = some io) (s_if (t_cmp (x_c E (L + 6) S.c6 (e_int (o_gt_int ⟨_, rfl, ?_⟩))))) ?_)
  · by_cases h0 : 0 < t
    · rw [if_pos (decide_eq_true (by (first | lia | omega)))]
      obtain ⟨u, rfl⟩ : ∃ u, t = u + 1 := ⟨t - 1, by (first | lia | omega)⟩
      have e1 : u + 1 - 1 = u := by (first | lia | omega)
      rw [e1] at hw he
      refine s_cons (x_as E (W.imp (Q := fun av m1 H1 => m1 = m ∧ av = .str (wholeN rs (u + 1)) ∧ LS L f its ia K (some (.int ((u + 1 : Nat) : Int))) [] (inpAt rs (u + 1 + 1)) (lnAt rs ln (u + 1 + 1)) H1 ∧ H1 it = some io) (e_ifexp (t_cmp (x_c E (L + 6) S.c6 (e_int (o_eq_int ⟨_, rfl, ?_⟩))))) ?_))
      · by_cases h1 : u = 0
        · subst h1
          rw [if_pos (by rfl)]
          refine x_tok Bk (hA.less (by (first | lia | omega))) E S (fun H1 k1 S1 => ⟨rfl, rfl, S1, ?_⟩) _ rfl
          refine k1 _ _ hio ?_
          simp only [List.mem_cons, List.not_mem_nil, or_false, not_or]
          exact ⟨ne_of hio S.lex.dict (hap.n2 _), ne_of hio S.lex.signs (hap.n3 _), ne_of hio S.lex.push (hap.n3 _)⟩
        · rw [if_neg (fun q => h1 (by have := beq_iff_eq.mp q; (first | lia | omega)))]
          refine x_f (f := 153) Bk E (a_cons (x_l E hw (a_nil (c_def (fc153 (l := wholeN rs u) Bk (okW u (by (first | lia | omega))) (by have := lenW u (by (first | lia | omega)); (first | lia | omega))) rfl rfl (hA.less (by (first | lia | omega))) S.tab fun av H5 k5 ⟨e5, T5⟩ => ?_))))
          subst e5
          have S5 := S.read k5 T5
          refine ⟨rfl, rfl, ?_, keepIt hio k5 S.tab⟩
          have e2 : inpAt rs (u + 1 + 1) = inpAt rs (u + 1) := by unfold inpAt; rw [if_neg (by (first | lia | omega)), if_neg (by (first | lia | omega))]
          have e3 : lnAt rs ln (u + 1 + 1) = lnAt rs ln (u + 1) := by unfold lnAt; rw [if_neg (by (first | lia | omega)), if_neg (by (first | lia | omega))]
          rw [e2, e3]
          exact S5
      rintro av m1 H1 ⟨rfl, rfl, S1, hio1⟩
      refine s_cons (x_as E (x_f (f := 153) Bk E (a_cons (x_l E he (a_nil (c_def (fc153 (l := earlyN rs u) Bk (okE u (by (first | lia | omega))) (by have := lenE u (by (first | lia | omega)); (first | lia | omega))) rfl rfl (hA.less (by (first | lia | omega))) S1.tab fun av H5 k5 ⟨e5, T5⟩ => ?_))))))
      subst e5
      exact s_nil ⟨rfl, S1.read k5 T5, ⟨M.page, M.rest, M.plain, M.signs⟩, rfl, rfl, keepIt hio1 k5 S1.tab⟩
    · rw [if_neg (by rw [decide_eq_false (by (first | lia | omega))]; decide)]
      have : t = 0 := by (first | lia | omega)
      subst this
      exact s_nil ⟨rfl, S, M, hw, he, hio⟩
  rintro fl m1 H1 ⟨rfl, S1, M1, hw1, he1, hio1⟩
  refine s_cons (s_if (t_cmp (e_list ?_)))
  refine a_cons (x_l E hw1 (a_cons (x_f (f := 63) Bk E (a_cons (x_l E hw1 (a_nil (c_def (fc63 (l := wholeN rs t) Bk (by have := lenW t ht; (first | lia | omega))) rfl rfl (hA.less (by (first | lia | omega))) trivial fun av H2 k2 e2 => ?_)))))))
  subst e2
  refine a_cons (x_l E he1 (a_nil ⟨by show 3 ≤ 1000; decide, fun z hz => ?_⟩))
  have k3 : Keep [] H1 (hup H2 z (.list [.str (wholeN rs t), .str (stripO (wholeN rs t)), .str (earlyN rs t)])) := k2.trans (Keep.hup (.inl hz))
  have e3 : hup H2 z (.list [.str (wholeN rs t), .str (stripO (wholeN rs t)), .str (earlyN rs t)]) z = some (.list (aStrs (toldsL its (layOf f) t 3))) := by
    rw [hup_self, ← hT t ht]; rfl
  generalize hup H2 z (.list [.str (wholeN rs t), .str (stripO (wholeN rs t)), .str (earlyN rs t)]) = H3 at k3 e3 ⊢
  have S3 := S1.keep k3
  refine x_tolds Bk hA hs (by (first | lia | omega)) S3 (fun acc H4 k4 e4 => ?_)
  have okw : okStrs (toldsL its (layOf f) t 3) := fun x hx n hn => by
    obtain ⟨i, hi, rfl⟩ := List.mem_map.mp hx
    exact hok t ht i (List.mem_range.mp hi) n hn
  refine o_ne_strs (d := 10) okw okw (hA.less (by (first | lia | omega))) (k4 _ _ e3 (by simp)) e4 ⟨_, rfl, ?_⟩
  rw [decide_eq_true rfl, if_neg (by decide)]
  exact s_nil (s_nil ⟨rfl, S3.keep k4, M1, hw1, he1, k4 _ _ (k3 _ _ hio1 (by simp)) (by simp)⟩)
theorem law21 (Bk : BOk w hB) (hA : AOk 30 A) (hs : Small its) (S : LS L f its ia K none [] rs ln H) (M : LM K pg rs pl m) (hrl : rs.length ≤ 5000) (hl1 : 1 ≤ layOf f)
    (hT : ∀ i, i ≤ layOf f → [wholeN rs i, stripO (wholeN rs i), earlyN rs i] = toldsL its (layOf f) i 3) (hok : ∀ i, i ≤ layOf f → ∀ mn, mn < 3 → ∀ n ∈ toldL its (layOf f) i mn, n < 1114112)
    (h : ∀ tu m1 H1, LM K pg rs pl m1 → LS L f its ia K tu [] (getTok rs).2 (ln + nl rs - nl (getTok rs).2) H1 → WSS ⟨w, hB, A, L, fs⟩ (env170 L) ((fBody (stm 16)).drop 23) m1 H1 QF) : WSS ⟨w, hB, A, L, fs⟩ (env170 L) ((fBody (stm 16)).drop 21) m H QF := by
  have E := envOk170 L
  have hLy := layOf_le f
  refine s_cons (s_swap (names := ["whole", "early"]) E hA.1 (by simp only [List.mem_cons, List.not_mem_nil, or_false]; rintro n (rfl | rfl) <;> kernel_rfl) (by kernel_rfl) (by decide) ?_)
  refine a_cons (x_l E M.rest (a_cons (x_f (f := 63) Bk E (a_cons (x_l E M.rest (a_nil (c_def (fc63 (l := rs) Bk (by (first | lia | omega))) rfl rfl (hA.less (by (first | lia | omega))) trivial fun av H1 k1 e1 => ?_)))))))
  subst e1
  refine a_nil ⟨rfl, ?_⟩
  have S1 := S.keep k1
  refine s_cons (s_for (fun it n m1 H1 => ∃ i, i ≤ layOf f + 1 ∧ n = layOf f + 1 - i ∧ H1 it = some (.raw (riO i (((layOf f + 1 : Nat) : Int) - i))) ∧ (∃ tu, tu ≠ some (.ref K.sg) ∧ LS L f its ia K tu [] (inpAt rs i) (lnAt rs ln i) H1) ∧ LM K pg rs pl m1 ∧ Has m1 "whole" (.str (wholeN rs (i - 1))) ∧ Has m1 "early" (.str (earlyN rs (i - 1)))) ?_ ?_)
  · refine x_t (T := "range") Bk E (a_cons (e_binop (x_c E (L + 1) S1.c1 (e_int (o_add_int (a_nil (c_range1 fun r hr => ?_)))))))
    rw [show ((layOf f : Int) + 1) = ((layOf f + 1 : Nat) : Int) by (first | lia | omega)]
    refine it_range (n := layOf f + 1) (by (first | lia | omega)) hup_self fun it hit => ⟨it, layOf f + 1, rfl, 0, by (first | lia | omega), rfl, ?_, ⟨none, by simp, ?_⟩, ⟨M.page, M.rest, M.plain, M.signs⟩, rfl, rfl⟩
    · rw [hup_self]; simp
    · exact S1.keep ((Keep.hup (mu := []) (.inl hr)).trans (Keep.hup (.inl hit)))
  rintro it n m1 H2 ⟨i, hi, rfl, ei, ⟨tu, htu, S2⟩, M2, hw2, he2⟩
  refine nx_range hA.1 ei (fun hlt => ?_) (fun hle => ?_)
  · have hilt : i ≤ layOf f := by (first | lia | omega)
    have k3 : Keep [it] H2 (hup H2 it (.raw (riO ((i : Int) + 1) (((layOf f + 1 : Nat) : Int) - i - 1)))) := Keep.hup (.inr (.head _))
    have e3 : hup H2 it (.raw (riO ((i : Int) + 1) (((layOf f + 1 : Nat) : Int) - i - 1))) it = some (.raw (riO ((i : Int) + 1) (((layOf f + 1 : Nat) : Int) - i - 1))) := hup_self
    have S3 := S2.keepBut k3 ei apart_ri
    generalize hup H2 it (.raw (riO ((i : Int) + 1) (((layOf f + 1 : Nat) : Int) - i - 1))) = H3 at e3 S3 ⊢
    refine asg_cell (a := L + 6) E.kind (by kernel_rfl) (by kernel_rfl) S3.c6 ?_
    have S4 := S3.turn (i := (i : Int)) htu
    have e4 : hup H3 (L + 6) (AOcell (some (.int (i : Int)))) it = some (.raw (riO ((i : Int) + 1) (((layOf f + 1 : Nat) : Int) - i - 1))) := (hup_ne (ne_of e3 S3.c6 (by simp))).trans e3
    generalize hup H3 (L + 6) (AOcell (some (.int (i : Int)))) = H4 at S4 e4 ⊢
    refine W.imp (law21_body Bk hA hs hilt ⟨_, rfl, rfl⟩ S4 M2 hw2 he2 e4 apart_ri hT hok) ?_
    rintro fl m5 H5 ⟨rfl, S5, M5, hw5, he5, e5⟩
    refine ⟨_, ?_, i + 1, by (first | lia | omega), rfl, ?_, ⟨_, by simp, S5⟩, M5, hw5, he5⟩
    · (first | lia | omega)
    · rw [e5]
      congr 3
      (first | lia | omega)
  · have : i = layOf f + 1 := by (first | lia | omega)
    subst this
    obtain ⟨u, hu⟩ : ∃ u, layOf f = u + 1 := ⟨layOf f - 1, by (first | lia | omega)⟩
    have S3 := S2.keepBut keep_drop1 ei apart_ri
    have e1 : inpAt rs (layOf f + 1) = (getTok rs).2 := by rw [hu]; exact inp_step rs u
    have e2 : lnAt rs ln (layOf f + 1) = ln + nl rs - nl (getTok rs).2 := by unfold lnAt; rw [if_neg (by (first | lia | omega))]
    rw [e1, e2] at S3
    exact h _ _ _ M2 S3
end
end Mine
end
section
open PySem PySem.W PySem.Calls PyProof.Rows
set_option Elab.async false
set_option maxRecDepth 100000
set_option maxHeartbeats 1000000
set_option linter.unusedVariables false
set_option linter.unusedSimpArgs false
namespace Mine
noncomputable def plainC (d : Nat) : Bool := d != 10 && d != 9 && d != 13 && d != 32 && d != 34 && d != 92 && d != 58
noncomputable def shB (p : Pr2) : Bool := decide (p.1 < 1114112) && match p.2 with
  | [] => p.1 != 58 && p.1 != 10 && p.1 != 34 && p.1 != 92
  | c :: cs => ((c == 92) == (p.1 == 92)) && ((c == 34) == (p.1 == 34)) && ((c == 10) == (p.1 == 10)) && ((c == 58) == (p.1 == 58)) && (cs.isEmpty || (c != 92 && c != 34 && c != 10 && c != 58 && c != 46)) && cs.all plainC && cs.dropLast.all (· != 46) && decide (c < 1114112) && cs.all fun d => decide (d < 1114112)
noncomputable def goodB (p : Pr2) : Bool := (inB1 p.1 == p.2.isEmpty) && (p.2.isEmpty || ((mapB3 p.1 == p.2) && ((b3p p.1).isSome || decide (p.1 < 128)))) && shB p
theorem good1 : ∀ k, k < 27 → goodB ((nzs.getD k 0).toNat, []) = true := by decide +kernel
theorem good2 : ∀ k, k < 128 → goodB (k, [if 64 < k ∧ k < 91 then k + 32 else k]) = true := by decide +kernel
theorem good3 : ∀ i, i < 10 → ∀ q, q < 26 → goodB ((bss.getD i 0).toNat + q, [97 + q]) = true := by decide +kernel
theorem good4 : ∀ i, i < 6 → goodB (pairOf (cts.getD i [])) = true := by decide +kernel
theorem good5 : ∀ i, i < 10 → goodB (pairOf (ons.getD i [])) = true := by decide +kernel
end Mine
end
section
open PySem PySem.W PySem.Calls PyProof.Rows
set_option Elab.async false
set_option maxRecDepth 100000
set_option maxHeartbeats 1000000
set_option linter.unusedVariables false
set_option linter.unusedSimpArgs false
namespace Mine
theorem drawn_good (n : Int) : ∀ p ∈ drawn n, goodB p = true := by
  unfold drawn
  dsimp only
  obtain ⟨k27, hk27, l27⟩ := fmod_nat (a := n.fdiv 4) (b := 27) (by decide)
  obtain ⟨k128, hk128, l128⟩ := fmod_nat (a := n.fdiv 4) (b := 128) (by decide)
  obtain ⟨k16, hk16, l16⟩ := fmod_nat (a := n.fdiv 4) (b := 16) (by decide)
  obtain ⟨k26, hk26, l26⟩ := fmod_nat (a := (n.fdiv 4).fdiv 16) (b := 26) (by decide)
  obtain ⟨k10, hk10, l10⟩ := fmod_nat (a := n.fdiv 4) (b := 10) (by decide)
  have h27 : (n.fdiv 4).fmod 27 = (k27 : Int) := hk27
  have h128 : (n.fdiv 4).fmod 128 = (k128 : Int) := hk128
  have h16 : (n.fdiv 4).fmod 16 = (k16 : Int) := hk16
  have h26 : ((n.fdiv 4).fdiv 16).fmod 26 = (k26 : Int) := hk26
  have h10 : (n.fdiv 4).fmod 10 = (k10 : Int) := hk10
  rw [h27, h128, h16, h26, h10]
  split
  · intro p hp
    rw [List.eq_of_mem_replicate hp]
    exact good1 k27 l27
  split
  · intro p hp
    rw [List.mem_singleton.mp hp]
    have := good2 k128 l128
    by_cases hc : 64 < k128 ∧ k128 < 91
    · rw [if_pos hc] at this
      rw [if_pos (by omega)]
      exact this
    · rw [if_neg hc] at this
      rw [if_neg (by omega)]
      exact this
  split
  · split
    · rename_i h5
      intro p hp
      rw [List.mem_singleton.mp hp]
      obtain ⟨v, _, hvd, _⟩ := bss_get (k16 - 6) (by omega)
      have := good3 (k16 - 6) (by omega) k26 l26
      rw [hvd] at this
      have e1 : ((k16 : Int) - 6).toNat = k16 - 6 := by omega
      have e2 : ((v : Int) + (k26 : Int)).toNat = v + k26 := by omega
      have e3 : (97 + (k26 : Int)).toNat = 97 + k26 := by omega
      rw [e1, hvd, e2, e3]
      exact this
    · intro p hp
      rw [List.mem_singleton.mp hp]
      exact good4 k16 (by omega)
  · intro p hp
    rw [List.mem_singleton.mp hp]
    exact good5 k10 l10
theorem fold_good : ∀ (ns : List Int) {its : List Pr2}, (∀ p ∈ its, goodB p = true) → ∀ p ∈ ns.foldl stepI its, goodB p = true
  | [], _, h => h
  | n :: ns, its, h => fold_good ns (its := stepI its n) fun p hp => by
    rcases List.mem_append.mp (List.mem_of_mem_take hp) with q | q
    · exact h p q
    · exact drawn_good n p q
theorem its0_good (sc : List Int) : ∀ p ∈ its0 sc, goodB p = true := fold_good _ fun p hp => by cases hp
structure Sh (p : Pr2) (c : Nat) (cs : List Nat) : Prop where
  e : p.2 = c :: cs
  b92 : c = 92 ↔ p.1 = 92
  b34 : c = 34 ↔ p.1 = 34
  b10 : c = 10 ↔ p.1 = 10
  b58 : c = 58 ↔ p.1 = 58
  one : cs ≠ [] → c ≠ 92 ∧ c ≠ 34 ∧ c ≠ 10 ∧ c ≠ 58 ∧ c ≠ 46
  pl : ∀ d ∈ cs, d ≠ 10 ∧ d ≠ 9 ∧ d ≠ 13 ∧ d ≠ 32 ∧ d ≠ 34 ∧ d ≠ 92 ∧ d ≠ 58
  dot : ∀ d ∈ cs.dropLast, d ≠ 46
theorem beq_iff {a b x y : Nat} (h : ((a == b) == (x == y)) = true) : a = b ↔ x = y := by
  have h' : (a == b) = (x == y) := beq_iff_eq.mp h
  constructor
  · intro q; rw [beq_iff_eq.mpr q] at h'; exact beq_iff_eq.mp h'.symm
  · intro q; rw [beq_iff_eq.mpr q] at h'; exact beq_iff_eq.mp h'
theorem shB_ok {p : Pr2} (h : shB p = true) : p.1 < 1114112 ∧ (∀ n ∈ p.2, n < 1114112) ∧ ((p.2 = [] ∧ (p.1 ≠ 58 ∧ p.1 ≠ 10) ∧ p.1 ≠ 34 ∧ p.1 ≠ 92) ∨ ∃ c cs, Sh p c cs) := by
  unfold shB at h
  obtain ⟨h0, h⟩ := Bool.and_eq_true_iff.mp h
  obtain ⟨x, f⟩ := p
  cases f with
  | nil =>
    dsimp only at h
    simp only [Bool.and_eq_true, bne_iff_ne, ne_eq] at h
    exact ⟨of_decide_eq_true h0, (fun n hn => by cases hn), .inl ⟨rfl, ⟨h.1.1.1, h.1.1.2⟩, h.1.2, h.2⟩⟩
  | cons c cs =>
    dsimp only at h h0 ⊢
    simp only [Bool.and_eq_true] at h
    obtain ⟨⟨⟨⟨⟨⟨⟨⟨h1, h2⟩, h3⟩, h4⟩, h5⟩, h6⟩, h7⟩, h8⟩, h9⟩ := h
    refine ⟨of_decide_eq_true h0, fun n hn => ?_, .inr ⟨c, cs, rfl, beq_iff h1, beq_iff h2, beq_iff h3, beq_iff h4, fun hne => ?_, fun d hd => ?_, fun d hd => ?_⟩⟩
    · rcases List.mem_cons.mp hn with rfl | hn
      · exact of_decide_eq_true h8
      · exact of_decide_eq_true (List.all_eq_true.mp h9 n hn)
    · rcases Bool.or_eq_true_iff.mp h5 with q | q
      · exact absurd (List.isEmpty_iff.mp q) hne
      · simp only [Bool.and_eq_true, bne_iff_ne, ne_eq] at q
        exact ⟨q.1.1.1.1, q.1.1.1.2, q.1.1.2, q.1.2, q.2⟩
    · have := List.all_eq_true.mp h6 d hd
      unfold plainC at this
      simp only [Bool.and_eq_true, bne_iff_ne, ne_eq] at this
      exact ⟨this.1.1.1.1.1.1, this.1.1.1.1.1.2, this.1.1.1.1.2, this.1.1.1.2, this.1.1.2, this.1.2, this.2⟩
    · have := List.all_eq_true.mp h7 d hd
      simpa using this
theorem shB_raw {x : Nat} (h : x < 1114112) : shB (x, [x]) = true := by
  unfold shB
  simp [h]
theorem good_sh {p : Pr2} (h : goodB p = true) : shB p = true := by
  unfold goodB at h
  exact (Bool.and_eq_true_iff.mp h).2
theorem its_sh (sc : List Int) : ∀ p ∈ itsOf sc, shB p = true := by
  intro p hp
  unfold itsOf at hp
  split at hp
  · obtain ⟨q, hq, rfl⟩ := List.mem_map.mp hp
    exact shB_raw (shB_ok (good_sh (its0_good sc q hq))).1
  · exact good_sh (its0_good sc p hp)
theorem good_b1 {p : Pr2} (h : goodB p = true) : inB1 p.1 = (p.2 == []) := by
  unfold goodB at h
  have h1 := beq_iff_eq.mp (Bool.and_eq_true_iff.mp (Bool.and_eq_true_iff.mp h).1).1
  rw [h1]
  cases p.2 <;> rfl
end Mine
end
section
open PySem PySem.W PySem.Calls PyProof.Rows
set_option Elab.async false
set_option maxRecDepth 100000
set_option maxHeartbeats 1000000
set_option linter.unusedVariables false
set_option linter.unusedSimpArgs false
namespace Mine
noncomputable def TT (L r : Nat) : Nat → Nat → Nat → List Pr2 → List Nat
  | lost, kept, more, [] => bsl (runN L r lost kept more)
  | lost, kept, more, p :: l => if p.2 = [] then TT L r (lost + 1) kept more l else if p.1 = 92 then TT L r lost (kept + 1) more l
    else if isW p.2 && decide (0 < lost % 2 ^ r) then bsl (runN L r lost kept 1) else bsl (runN L r lost kept 1) ++ p.2 ++ TT L r 0 0 more l
theorem run_half (L r lost kept more : Nat) : runN L r lost kept more / 2 = runN L (r + 1) lost kept more := by
  unfold runN
  rw [Nat.div_div_eq_div_mul, Nat.pow_succ]
theorem pow_split {L r : Nat} (hr : r < L) : ∃ k, 2 ^ L = 2 ^ r * (2 * k) ∧ 1 ≤ k := by
  obtain ⟨d, rfl⟩ : ∃ d, L = r + 1 + d := ⟨L - (r + 1), by omega⟩
  exact ⟨2 ^ d, by rw [Nat.pow_add, Nat.pow_succ, Nat.mul_assoc], Nat.two_pow_pos d⟩
theorem run_pos {L r lost kept : Nat} (hL : L ≤ 3) (hr : r < L) : 1 ≤ runN L r lost kept 1 := by
  obtain ⟨k, e, hk⟩ := pow_split hr
  have hp := Nat.two_pow_pos r
  unfold runN
  rw [e]
  refine Nat.div_pos ?_ hp
  have h1 : 2 ^ r * (2 * k) * (lost + kept + 1) = 2 ^ r * (2 * k * (lost + kept + 1)) := Nat.mul_assoc _ _ _
  have h2 : 2 * (lost + kept + 1) ≤ 2 * k * (lost + kept + 1) := Nat.mul_le_mul_right _ (by (first | lia | omega))
  have h3 := Nat.mul_le_mul_left (2 ^ r) h2
  have h4 : lost + kept + 1 ≤ 2 ^ r * (lost + kept + 1) := Nat.le_mul_of_pos_left _ hp
  have h5 : 2 ^ r * (2 * (lost + kept + 1)) = 2 ^ r * (lost + kept + 1) + 2 ^ r * (lost + kept + 1) := by rw [← Nat.mul_add]; congr 1; (first | lia | omega)
  have h6 : 2 ^ r ≤ 2 ^ r * (lost + kept + 1) := Nat.le_mul_of_pos_right _ (by (first | lia | omega))
  (first | lia | omega)
theorem run_even {L r lost kept : Nat} (hL : L ≤ 3) (hr : r < L) (h : lost % 2 ^ r = 0) : (runN L r lost kept 1 % 2 = 0) ↔ 0 < lost % 2 ^ (r + 1) := by
  obtain ⟨k, e, hk⟩ := pow_split hr
  have hp := Nat.two_pow_pos r
  obtain ⟨q, hq⟩ : ∃ q, lost = 2 ^ r * q := ⟨lost / 2 ^ r, (Nat.mul_div_cancel' (Nat.dvd_of_mod_eq_zero h)).symm⟩
  have h1 : runN L r lost kept 1 = k * (lost + kept + 1) + k * (lost + kept + 1) - q - 1 := by
    have hle : q + 1 ≤ k * (lost + kept + 1) := by
      have a1 : q ≤ lost := by rw [hq]; exact Nat.le_mul_of_pos_left _ hp
      have a2 : lost + kept + 1 ≤ k * (lost + kept + 1) := Nat.le_mul_of_pos_left _ hk
      (first | lia | omega)
    unfold runN
    rw [e, Nat.mul_assoc, Nat.mul_assoc, Nat.two_mul]
    generalize k * (lost + kept + 1) = x at hle ⊢
    obtain ⟨y, hy⟩ : ∃ y, x + x = q + 1 + y := ⟨x + x - (q + 1), by (first | lia | omega)⟩
    have e1 : 2 ^ r * (x + x) - lost - 1 = (2 ^ r - 1) + 2 ^ r * y := by
      rw [hy, Nat.mul_add, Nat.mul_add, ← hq]; (first | lia | omega)
    rw [e1, Nat.add_mul_div_left _ _ hp, Nat.div_eq_of_lt (by (first | lia | omega)), hy]
    (first | lia | omega)
  have h2 : lost % 2 ^ (r + 1) = 2 ^ r * (q % 2) := by rw [hq, Nat.pow_succ, Nat.mul_mod_mul_left]
  have h3 : q + 1 ≤ k * (lost + kept + 1) := by
    have a1 : q ≤ lost := by rw [hq]; exact Nat.le_mul_of_pos_left _ hp
    have a2 : lost + kept + 1 ≤ k * (lost + kept + 1) := Nat.le_mul_of_pos_left _ hk
    (first | lia | omega)
  rw [h1, h2]
  generalize k * (lost + kept + 1) = x at h3
  rcases Nat.mod_two_eq_zero_or_one q with z | z
  · rw [z]; (first | lia | omega)
  · rw [z, Nat.mul_one]; (first | lia | omega)
theorem lost_up {r lost : Nat} (h : 0 < lost % 2 ^ r) : 0 < lost % 2 ^ (r + 1) := by
  rcases Nat.eq_zero_or_pos (lost % 2 ^ (r + 1)) with q | q
  · have h1 : 2 ^ (r + 1) ∣ lost := Nat.dvd_of_mod_eq_zero q
    have h2 : 2 ^ r ∣ lost := Nat.dvd_trans (Nat.pow_dvd_pow 2 (Nat.le_succ r)) h1
    have := Nat.mod_eq_zero_of_dvd h2
    (first | lia | omega)
  · exact q
theorem bsl_two (n : Nat) : bsl (n + 2) = 92 :: 92 :: bsl n := rfl
theorem bsl_snoc (n : Nat) (t : List Nat) : t ++ [92] ++ bsl n = t ++ bsl (n + 1) := by
  rw [List.append_assoc]; rfl
theorem bare_bs (x : List Nat) : ∀ (n : Nat) (t : List Nat), bare t (bsl n ++ x) = if n % 2 = 0 then bare (t ++ bsl (n / 2)) x else bare (t ++ bsl (n / 2) ++ x.take 1) x.tail
  | 0, t => by rw [if_pos rfl]; show bare t x = bare (t ++ []) x; rw [List.append_nil]
  | 1, t => by
    rw [if_neg (by decide)]
    show bare t (92 :: x) = bare (t ++ [] ++ x.take 1) x.tail
    rw [bare_b, List.append_nil]; rfl
  | n + 2, t => by
    have h1 : (n + 2) % 2 = n % 2 := by (first | lia | omega)
    have h2 : (n + 2) / 2 = n / 2 + 1 := by (first | lia | omega)
    rw [bsl_two, h1, h2]
    show bare t (92 :: (92 :: bsl n ++ x)) = _
    rw [bare_b]
    show bare (t ++ [92]) (bsl n ++ x) = _
    rw [bare_bs x n (t ++ [92]), bsl_snoc]
theorem bare_pass : ∀ (cs : List Nat) (t x : List Nat), (∀ d ∈ cs, d ∉ wht ∧ d ≠ 92) → bare t (cs ++ x) = bare (t ++ cs) x
  | [], t, x, _ => by rw [List.append_nil]; rfl
  | d :: cs, t, x, h => by
    show bare t (d :: (cs ++ x)) = _
    rw [bare_o (h d (.head _)).1 (h d (.head _)).2, bare_pass cs _ x fun e he => h e (.tail _ he), List.append_assoc]; rfl
theorem isW_cons {c : Nat} {cs : List Nat} : isW (c :: cs) = decide (c ∈ wht) := by
  unfold isW
  congr 1
  show ([c] ∈ whs) = (c ∈ wht)
  simp [whs, wht]
theorem sh_pass {p : Pr2} {c : Nat} {cs : List Nat} (h : Sh p c cs) : ∀ d ∈ cs, d ∉ wht ∧ d ≠ 92 := fun d hd => by
  obtain ⟨h1, h2, h3, h4, h5, h6, h7⟩ := h.pl d hd
  refine ⟨?_, h6⟩
  simp only [wht, List.mem_cons, List.not_mem_nil, or_false, not_or]
  exact ⟨h1, h2, h3, h4⟩
theorem bare_TT {L r : Nat} (hL : L ≤ 3) (hr : r < L) : ∀ (l : List Pr2) (lost kept more : Nat) (t : List Nat), (∀ p ∈ l, shB p = true) → (bare t (TT L r lost kept more l)).1 = t ++ TT L (r + 1) lost kept more l
  | [], lost, kept, more, t, _ => by
    unfold TT
    have := bare_bs [] (runN L r lost kept more) t
    rw [List.append_nil] at this
    rw [this, ← run_half]
    split
    · rw [bare_nil]
    · show (bare (t ++ _ ++ []) []).1 = _
      rw [bare_nil, List.append_nil]
  | p :: l, lost, kept, more, t, h => by
    have ih := fun lost kept t => bare_TT hL hr l lost kept more t fun q hq => h q (.tail _ hq)
    unfold TT
    by_cases h1 : p.2 = []
    · rw [if_pos h1, if_pos h1]; exact ih _ _ _
    rw [if_neg h1, if_neg h1]
    by_cases h2 : p.1 = 92
    · rw [if_pos h2, if_pos h2]; exact ih _ _ _
    rw [if_neg h2, if_neg h2]
    obtain ⟨_, _, hs⟩ := shB_ok (h p (.head _))
    rcases hs with ⟨hs, _⟩ | ⟨c, cs, hs⟩
    · exact absurd hs h1
    have hc92 : c ≠ 92 := fun q => h2 (hs.b92.mp q)
    rw [hs.e, isW_cons]
    have e0 := bare_bs [] (runN L r lost kept 1) t
    rw [List.append_nil] at e0
    have fin : (bare t (bsl (runN L r lost kept 1))).1 = t ++ bsl (runN L (r + 1) lost kept 1) := by
      rw [e0, ← run_half]
      split
      · rw [bare_nil]
      · show (bare (t ++ _ ++ []) []).1 = _
        rw [bare_nil, List.append_nil]
    have thru : ∀ u, (bare u (cs ++ TT L r 0 0 more l)).1 = u ++ cs ++ TT L (r + 1) 0 0 more l := fun u => by
      rw [bare_pass cs u _ (sh_pass hs), ih]
    have e1 := bare_bs (c :: (cs ++ TT L r 0 0 more l)) (runN L r lost kept 1) t
    have join : bsl (runN L r lost kept 1) ++ (c :: cs) ++ TT L r 0 0 more l = bsl (runN L r lost kept 1) ++ (c :: (cs ++ TT L r 0 0 more l)) := by
      rw [List.append_assoc]; rfl
    by_cases hw : c ∈ wht
    · rw [decide_eq_true hw, Bool.true_and, Bool.true_and]
      by_cases hl : 0 < lost % 2 ^ r
      · rw [decide_eq_true hl, decide_eq_true (lost_up hl), if_pos rfl, if_pos rfl]
        exact fin
      · rw [decide_eq_false hl, if_neg (by decide), join, e1]
        have hev := run_even (kept := kept) hL hr (by (first | lia | omega) : lost % 2 ^ r = 0)
        by_cases hn : runN L r lost kept 1 % 2 = 0
        · rw [if_pos hn, bare_w hw, decide_eq_true (hev.mp hn), if_pos rfl, run_half]
        · rw [if_neg hn, decide_eq_false (fun q => hn (hev.mpr q)), if_neg (by decide), run_half]
          show (bare (t ++ bsl (runN L (r + 1) lost kept 1) ++ [c]) (cs ++ TT L r 0 0 more l)).1 = _
          rw [thru]
          simp [List.append_assoc]
    · rw [decide_eq_false hw, Bool.false_and, Bool.false_and, if_neg (by decide), if_neg (by decide), join, e1]
      have : ∀ u, (bare u (c :: (cs ++ TT L r 0 0 more l))).1 = u ++ [c] ++ cs ++ TT L (r + 1) 0 0 more l := fun u => by
        rw [bare_o hw hc92, thru]
      split
      · rw [this, run_half]; simp [List.append_assoc]
      · show (bare (t ++ bsl (runN L r lost kept 1 / 2) ++ [c]) (cs ++ TT L r 0 0 more l)).1 = _
        rw [thru, run_half]; simp [List.append_assoc]
theorem TT_head {L r : Nat} (hL : L ≤ 3) (hr : r < L) : ∀ (l : List Pr2) (lost kept more : Nat), TT L r lost kept more l = [] ∨ ∃ x, TT L r lost kept more l = 92 :: x
  | [], lost, kept, more => by
    unfold TT
    cases runN L r lost kept more with
    | zero => exact .inl rfl
    | succ n => exact .inr ⟨_, rfl⟩
  | p :: l, lost, kept, more => by
    unfold TT
    split
    · exact TT_head hL hr l _ _ _
    split
    · exact TT_head hL hr l _ _ _
    obtain ⟨n, hn⟩ : ∃ n, runN L r lost kept 1 = n + 1 := ⟨runN L r lost kept 1 - 1, by have := run_pos (lost := lost) (kept := kept) hL hr; (first | lia | omega)⟩
    rw [hn]
    split
    · exact .inr ⟨_, rfl⟩
    · exact .inr ⟨_, rfl⟩
theorem read_TT {L r : Nat} (hL : L ≤ 3) (hr : r < L) {l : List Pr2} {more : Nat} (h : ∀ p ∈ l, shB p = true) : (getTok (TT L r 0 0 more l)).1 = TT L (r + 1) 0 0 more l := by
  have hb := bare_TT hL hr l 0 0 more [] h
  rw [List.nil_append] at hb
  rw [← hb]
  rcases TT_head hL hr l 0 0 more with e | ⟨x, e⟩
  · rw [e, bare_nil, getTok.eq_def]
  · rw [e, getTok_b, bare_b]; rfl
end Mine
end
section
open PySem PySem.W PySem.Calls PyProof.Rows
set_option Elab.async false
set_option maxRecDepth 100000
set_option maxHeartbeats 1000000
set_option linter.unusedVariables false
set_option linter.unusedSimpArgs false
namespace Mine
noncomputable def BT (L r : Nat) : Nat → Nat → Nat → List Pr2 → List Nat
  | lost, kept, more, [] => bsl (runN L r lost kept more)
  | lost, kept, more, p :: l => if p.2 = [] then BT L r (lost + 1) kept more l else if p.1 = 92 then BT L r lost (kept + 1) more l
    else bsl (runN L r lost kept 1) ++ p.2 ++ BT L r 0 0 more l
theorem BT_cons {L r lost kept more : Nat} {p : Pr2} {l : List Pr2} : BT L r lost kept more (p :: l) = if p.2 = [] then BT L r (lost + 1) kept more l else if p.1 = 92 then BT L r lost (kept + 1) more l
    else bsl (runN L r lost kept 1) ++ p.2 ++ BT L r 0 0 more l := rfl
theorem TT_cons {L r lost kept more : Nat} {p : Pr2} {l : List Pr2} : TT L r lost kept more (p :: l) = if p.2 = [] then TT L r (lost + 1) kept more l else if p.1 = 92 then TT L r lost (kept + 1) more l
    else if isW p.2 && decide (0 < lost % 2 ^ r) then bsl (runN L r lost kept 1) else bsl (runN L r lost kept 1) ++ p.2 ++ TT L r 0 0 more l := rfl
theorem fold_BT {L r more : Nat} : ∀ (l : List Pr2) (s : Nat × Nat × List Nat), (l.foldl (stepB L r) s).2.2 ++ bsl (runN L r (l.foldl (stepB L r) s).1 (l.foldl (stepB L r) s).2.1 more) = s.2.2 ++ BT L r s.1 s.2.1 more l
  | [], s => rfl
  | p :: l, s => by
    rw [List.foldl_cons, fold_BT l]
    unfold stepB
    rw [BT_cons]
    by_cases h1 : p.2 = []
    · rw [if_pos h1, if_pos h1]
    rw [if_neg h1, if_neg h1]
    by_cases h2 : p.1 = 92
    · rw [if_pos h2, if_pos h2]
    rw [if_neg h2, if_neg h2]
    show (s.2.2 ++ bsl _ ++ p.2) ++ BT L r 0 0 more l = _
    simp [List.append_assoc]
theorem told_BT (l : List Pr2) (L t mn : Nat) : toldL l L t mn = BT L t 0 0 (moreOf l t mn) (cutOf l t mn) := fold_BT _ (0, 0, [])
theorem firstIdx_zero (P : Nat → Bool) : firstIdx P 0 = 0 := rfl
theorem firstIdx_succ (P : Nat → Bool) (n : Nat) : firstIdx P (n + 1) = if P 0 then 0 else firstIdx (fun i => P (i + 1)) n + 1 := by
  refine (firstIdx_of ?_ ?_ ?_).symm
  · cases h : P 0 with
    | true => rw [if_pos rfl]; exact .inr ⟨by (first | lia | omega), h⟩
    | false =>
      rw [if_neg (by decide)]
      rcases firstIdx_spec (fun i => P (i + 1)) n with ⟨h1, _⟩ | ⟨h1, h2, _⟩
      · exact .inl (by (first | lia | omega))
      · exact .inr ⟨by (first | lia | omega), h2⟩
  · intro i hi hp
    cases h : P 0 with
    | true => rw [if_pos rfl]; (first | lia | omega)
    | false =>
      rw [if_neg (by decide)]
      cases i with
      | zero => rw [h] at hp; cases hp
      | succ i =>
        rcases firstIdx_spec (fun i => P (i + 1)) n with ⟨h1, h2⟩ | ⟨h1, _, h3⟩
        · have := h2 i (by (first | lia | omega)); rw [hp] at this; cases this
        · rcases Nat.lt_or_ge i (firstIdx (fun i => P (i + 1)) n) with q | q
          · have := h3 i q; rw [hp] at this; cases this
          · (first | lia | omega)
  · have := firstIdx_le (fun i => P (i + 1)) n
    split <;> (first | lia | omega)
theorem firstIdx_congr {P Q : Nat → Bool} {n : Nat} (h : ∀ i, i < n → P i = Q i) : firstIdx P n = firstIdx Q n := by
  rcases firstIdx_spec Q n with ⟨h1, h2⟩ | ⟨h1, h2, h3⟩
  · rw [h1]
    exact (firstIdx_of (.inl rfl) (fun i hi hp => by rw [h i hi, h2 i hi] at hp; cases hp) (Nat.le_refl _)).symm
  · refine (firstIdx_of (.inr ⟨h1, by rw [h _ h1]; exact h2⟩) (fun i hi hp => ?_) (by (first | lia | omega))).symm
    rw [h i hi] at hp
    rcases Nat.lt_or_ge i (firstIdx Q n) with q | q
    · rw [h3 i q] at hp; cases hp
    · exact q
noncomputable def liveG (t lost : Nat) (l : List Pr2) (i : Nat) : Bool := match l[i]? with
  | none => false
  | some p => isW p.2 && decide (0 < (l.take i).foldl stepL lost % 2 ^ t)
noncomputable def fl (t : Nat) : Nat → List Pr2 → Nat
  | _, [] => 0
  | lost, p :: l => if isW p.2 && decide (0 < lost % 2 ^ t) then 0 else fl t (stepL lost p) l + 1
theorem fl_eq (t : Nat) : ∀ (l : List Pr2) (lost : Nat), firstIdx (liveG t lost l) l.length = fl t lost l
  | [], _ => rfl
  | p :: l, lost => by
    rw [List.length_cons, firstIdx_succ]
    unfold fl
    have e : (fun i => liveG t lost (p :: l) (i + 1)) = liveG t (stepL lost p) l := by
      funext i
      unfold liveG
      rw [List.getElem?_cons_succ, List.take_succ_cons, List.foldl_cons]
    rw [e, fl_eq t l]
    rfl
theorem fl_le (t : Nat) : ∀ (l : List Pr2) (lost : Nat), fl t lost l ≤ l.length := fun l lost => by rw [← fl_eq]; exact firstIdx_le _ _
theorem isW_nil : isW [] = false := by decide
theorem isW_bs : isW [92] = false := by decide
theorem TT_BT {L r : Nat} : ∀ (l : List Pr2) (lost kept more : Nat), (∀ p ∈ l, shB p = true) → TT L r lost kept more l = BT L r lost kept (if fl r lost l < l.length then 1 else more) (l.take (fl r lost l))
  | [], lost, kept, more, _ => rfl
  | p :: l, lost, kept, more, h => by
    have ih := fun lost kept => TT_BT (L := L) (r := r) l lost kept more fun q hq => h q (.tail _ hq)
    have cont : ∀ {lost'}, (isW p.2 && decide (0 < lost % 2 ^ r)) = false → stepL lost p = lost' → fl r lost (p :: l) = fl r lost' l + 1 := fun {lost'} hw hs => by
      show (if (isW p.2 && decide (0 < lost % 2 ^ r)) = true then 0 else fl r (stepL lost p) l + 1) = _
      rw [hw, if_neg (by decide), hs]
    rw [TT_cons]
    by_cases h1 : p.2 = []
    · rw [cont (by rw [h1, isW_nil]; rfl) (by unfold stepL; rw [if_pos h1] : stepL lost p = lost + 1), if_pos h1, ih, List.take_succ_cons, List.length_cons, BT_cons, if_pos h1]
      simp only [Nat.add_lt_add_iff_right]
    rw [if_neg h1]
    by_cases h2 : p.1 = 92
    · obtain ⟨_, _, hs⟩ := shB_ok (h p (.head _))
      rcases hs with ⟨hs, _⟩ | ⟨c, cs, hs⟩
      · exact absurd hs h1
      have hc : c = 92 := hs.b92.mpr h2
      have hw : (isW p.2 && decide (0 < lost % 2 ^ r)) = false := by
        rw [hs.e, isW_cons, hc, decide_eq_false (by decide)]; rfl
      rw [cont hw (by unfold stepL; rw [if_neg h1, if_pos h2] : stepL lost p = lost), if_pos h2, ih, List.take_succ_cons, List.length_cons, BT_cons, if_neg h1, if_pos h2]
      simp only [Nat.add_lt_add_iff_right]
    rw [if_neg h2]
    have hst : stepL lost p = 0 := by unfold stepL; rw [if_neg h1, if_neg h2]
    cases hw : isW p.2 && decide (0 < lost % 2 ^ r) with
    | true =>
      have : fl r lost (p :: l) = 0 := by
        show (if (isW p.2 && decide (0 < lost % 2 ^ r)) = true then 0 else fl r (stepL lost p) l + 1) = _
        rw [hw, if_pos rfl]
      rw [if_pos rfl, this, List.take_zero, if_pos (by rw [List.length_cons]; (first | lia | omega))]
      rfl
    | false =>
      rw [if_neg (show ¬ (false = true) by decide), cont hw hst, ih, List.take_succ_cons, List.length_cons, BT_cons, if_neg h1, if_neg h2]
      simp only [Nat.add_lt_add_iff_right]
theorem live_G (t : Nat) (l : List Pr2) : liveAt t l = liveG t 0 l := by
  funext i
  unfold liveAt liveG lostA
  rfl
theorem fl_zero (l : List Pr2) (lost : Nat) : fl 0 lost l = l.length := by
  induction l generalizing lost with
  | nil => rfl
  | cons p l ih =>
    unfold fl
    rw [show decide (0 < lost % 2 ^ 0) = false by rw [decide_eq_false]; simp [Nat.mod_one], Bool.and_false, if_neg (by decide), ih]; rfl
theorem told_zero {l : List Pr2} (L t : Nat) (h : ∀ p ∈ l, shB p = true) : toldL l L t 0 = TT L t 0 0 0 l := by
  have hst : ∀ i, stopAt 0 l i = false := fun i => by unfold stopAt; split <;> rfl
  have hdt : ∀ i, dotAt 0 l i = false := fun i => by unfold dotAt; split <;> rfl
  have hhead : headOf l t 0 = fl t 0 l := by
    unfold headOf
    rw [← fl_eq, ← live_G]
    refine firstIdx_congr fun i _ => ?_
    rw [hst i]; rfl
  have hstart : startOf l t 0 = 0 := by
    unfold startOf
    exact (lastEnd_of (.inl rfl) fun i _ hp => by rw [hdt i] at hp; cases hp).symm
  have hend : endOf l t 0 = fl t 0 l := by
    unfold endOf
    rw [hhead]
    refine (firstIdx_of (.inl rfl) (fun i hi hp => ?_) (Nat.le_refl _)).symm
    rw [live_G] at hp
    have hp' := (Bool.and_eq_true_iff.mp hp).1
    rcases firstIdx_spec (liveG t 0 l) l.length with ⟨h1, h2⟩ | ⟨h1, h2, h3⟩
    · rw [fl_eq] at h1
      rw [h2 i (by (first | lia | omega))] at hp'; cases hp'
    · rw [fl_eq] at h3
      rw [h3 i hi] at hp'; cases hp'
  rw [told_BT, TT_BT l 0 0 0 h]
  unfold moreOf cutOf
  rw [hstart, hend, List.drop_zero, Nat.sub_zero]
end Mine
end
section
open PySem PySem.W PySem.Calls PyProof.Rows
set_option Elab.async false
set_option maxRecDepth 100000
set_option maxHeartbeats 1000000
set_option linter.unusedVariables false
set_option linter.unusedSimpArgs false
namespace Mine
section
open PySem.StrLaws PySem.Builtin PySem.Builtin.Str
theorem at_one {l : List Nat} {c hi i : Nat} (hh : hi ≤ l.length) : At ⟨l.toArray⟩ ⟨[c].toArray⟩ hi i ↔ i < hi ∧ l[i]? = some c := by
  have h := subAt_one ⟨l.toArray⟩ c i
  unfold At
  show (i + 1 ≤ hi ∧ subAt ⟨l.toArray⟩ ⟨#[c]⟩ i = true) ↔ _
  change (i + 1 ≤ l.toArray.size ∧ subAt ⟨l.toArray⟩ ⟨#[c]⟩ i = true) ↔ l.toArray.toList[i]? = some c at h
  rw [List.size_toArray, List.toList_toArray] at h
  constructor
  · rintro ⟨h1, h2⟩
    exact ⟨by (first | lia | omega), h.mp ⟨by (first | lia | omega), h2⟩⟩
  · rintro ⟨h1, h2⟩
    exact ⟨by (first | lia | omega), (h.mpr h2).2⟩
noncomputable def isC (l : List Nat) (c i : Nat) : Bool := l[i]? == some c
theorem isC_iff {l : List Nat} {c i : Nat} : isC l c i = true ↔ l[i]? = some c := by unfold isC; exact beq_iff_eq
theorem occ_idx {l : List Nat} {c hi : Nat} (hh : hi ≤ l.length) : (occurrences ⟨l.toArray⟩ ⟨[c].toArray⟩ 0 hi 1 = [] ∧ firstIdx (isC l c) hi = hi) ∨ ∃ i r, occurrences ⟨l.toArray⟩ ⟨[c].toArray⟩ 0 hi 1 = i :: r ∧ i < hi ∧ firstIdx (isC l c) hi = i := by
  rw [occ_eq]
  rcases occ_first ⟨l.toArray⟩ ⟨[c].toArray⟩ hi 1 (Nat.le_refl _) (List.range' 0 (hi + 1 - 0)) 0 (fun _ _ => Nat.zero_le _) with ⟨h0, hn⟩ | ⟨pre, a, post, e, h0, ha, hn⟩
  · refine .inl ⟨by rw [h0], ?_⟩
    refine (firstIdx_of (.inl rfl) (fun i hi' hp => ?_) (Nat.le_refl _)).symm
    exact absurd ((at_one hh).mpr ⟨hi', isC_iff.mp hp⟩) (hn i (by simp [List.mem_range']; (first | lia | omega)))
  · refine .inr ?_
    generalize (forIn (List.range' 0 (hi + 1 - 0)) ((#[] : Array Nat), 0) (occBody ⟨l.toArray⟩ ⟨[c].toArray⟩ hi 1)).run.fst = arr at h0
    obtain ⟨la⟩ := arr
    cases la with
    | nil => simp at h0
    | cons x r =>
      simp at h0
      subst h0
      obtain ⟨h1, h2⟩ := (at_one hh).mp ha
      refine ⟨x, r, rfl, h1, (firstIdx_of (.inr ⟨h1, isC_iff.mpr h2⟩) (fun i hi' hp => ?_) (Nat.le_of_lt h1)).symm⟩
      rcases Nat.lt_or_ge i x with q | q
      · exact absurd ((at_one hh).mpr ⟨hi', isC_iff.mp hp⟩) (hn i (range'_split e i q))
      · exact q
theorem last_idx {l : List Nat} {c hi : Nat} (hh : hi ≤ l.length) : (lastOccurrence ⟨l.toArray⟩ ⟨[c].toArray⟩ 0 hi = none ∧ lastEnd (isC l c) hi = 0) ∨ ∃ i, lastOccurrence ⟨l.toArray⟩ ⟨[c].toArray⟩ 0 hi = some i ∧ lastEnd (isC l c) hi = i + 1 := by
  rw [last_eq]
  have key := last_run ⟨l.toArray⟩ ⟨[c].toArray⟩ hi (List.range' 0 (hi + 1 - 0)) [] none (fun _ h => nomatch h) (fun _ h => nomatch h) (by simpa using List.pairwise_lt_range' (s := 0) (n := hi + 1 - 0))
  have mem : ∀ i, i < hi → i ∈ [] ++ List.range' 0 (hi + 1 - 0) := fun i hi' => by simp [List.mem_range']; (first | lia | omega)
  cases hr : (forIn (List.range' 0 (hi + 1 - 0)) none (lastBody ⟨l.toArray⟩ ⟨[c].toArray⟩ hi)).run with
  | none =>
    rw [hr] at key
    exact .inl ⟨rfl, (lastEnd_of (.inl rfl) fun i hi' hp => absurd ((at_one hh).mpr ⟨hi', isC_iff.mp hp⟩) (key i (mem i hi'))).symm⟩
  | some a =>
    rw [hr] at key
    obtain ⟨h1, h2⟩ := (at_one hh).mp key.1
    refine .inr ⟨a, rfl, (lastEnd_of (.inr ⟨a, h1, isC_iff.mpr h2, rfl⟩) fun i hi' hp => ?_).symm⟩
    rcases Nat.lt_or_ge a i with q | q
    · exact absurd ((at_one hh).mpr ⟨hi', isC_iff.mp hp⟩) (key.2 i (mem i hi') q)
    · (first | lia | omega)
theorem strip1_eq (l : List Nat) : strip1 l = firstIdx (isC l 10) l.length := by
  unfold strip1 fnd Txt.find
  have hl : (⟨l.toArray⟩ : Str).length = l.length := by show l.toArray.size = _; simp
  rw [hl]
  rcases occ_idx (l := l) (c := 10) (Nat.le_refl _) with ⟨h1, h2⟩ | ⟨i, r, h1, h2, h3⟩
  · rw [h1, h2]
    show (if (0 : Int) ≤ -1 then _ else _) = _
    rw [if_neg (by decide)]
  · rw [h1, h3]
    show (if (0 : Int) ≤ (i : Int) then ((i : Int)).toNat else _) = _
    rw [if_pos (by (first | lia | omega))]; rfl
theorem strip2_eq (l : List Nat) : strip2 l = firstIdx (isC l 58) (strip1 l) := by
  have h0 : strip1 l ≤ l.length := by rw [strip1_eq]; exact firstIdx_le _ _
  unfold strip2 fnd4
  rw [Nat.min_eq_left h0]
  rcases occ_idx (l := l) (c := 58) h0 with ⟨h1, h2⟩ | ⟨i, r, h1, h2, h3⟩
  · rw [h1, h2]
    show (if (0 : Int) ≤ -1 then _ else _) = _
    rw [if_neg (by decide)]
  · rw [h1, h3]
    show (if (0 : Int) ≤ (i : Int) then ((i : Int)).toNat else _) = _
    rw [if_pos (by (first | lia | omega))]; rfl
theorem strip3_eq (l : List Nat) : strip3 l = (lastEnd (isC l 46) (strip2 l) : Nat) := by
  have h0 : strip1 l ≤ l.length := by rw [strip1_eq]; exact firstIdx_le _ _
  have h2 : strip2 l ≤ l.length := Nat.le_trans (by rw [strip2_eq]; exact firstIdx_le _ _) h0
  unfold strip3 rfnd4
  rw [Nat.min_eq_left h2]
  rcases last_idx (l := l) (c := 46) h2 with ⟨h1, h3⟩ | ⟨i, h1, h3⟩
  · rw [h1, h3]
    show (if (0 : Int) ≤ -1 then _ else _) = _
    rw [if_neg (by decide)]; rfl
  · rw [h1, h3]
    show (if (0 : Int) ≤ (i : Int) then (i : Int) + 1 else _) = _
    rw [if_pos (by (first | lia | omega))]; rfl
end
theorem stripO_eq (l : List Nat) : stripO l = (l.drop (lastEnd (isC l 46) (strip2 l))).take (strip2 l - lastEnd (isC l 46) (strip2 l)) := by
  have h0 : strip1 l ≤ l.length := by rw [strip1_eq]; exact firstIdx_le _ _
  have h2 : strip2 l ≤ l.length := Nat.le_trans (by rw [strip2_eq]; exact firstIdx_le _ _) h0
  have h3 := lastEnd_le (isC l 46) (strip2 l)
  unfold stripO
  rw [strip3_eq]
  refine sl_run ?_ h3 h2
  show sliceRange (max 0 (min (if ((lastEnd (isC l 46) (strip2 l) : Nat) : Int) < 0 then ((lastEnd (isC l 46) (strip2 l) : Nat) : Int) + (l.length : Int) else ((lastEnd (isC l 46) (strip2 l) : Nat) : Int)) (l.length : Int))) (max 0 (min (if ((strip2 l : Nat) : Int) < 0 then ((strip2 l : Nat) : Int) + (l.length : Int) else ((strip2 l : Nat) : Int)) (l.length : Int))) 1 = _
  rw [clip_nat, clip_nat, Nat.min_eq_left h2, Nat.min_eq_left (Nat.le_trans h3 h2)]
noncomputable def firstG {α : Type} (P : α → Bool) : List α → Nat
  | [] => 0
  | x :: r => if P x then 0 else firstG P r + 1
noncomputable def lastG {α : Type} (P : α → Bool) : List α → Nat
  | [] => 0
  | x :: r => if 0 < lastG P r then lastG P r + 1 else if P x then 1 else 0
noncomputable def atP {α : Type} (P : α → Bool) (l : List α) (i : Nat) : Bool := match l[i]? with
  | some x => P x
  | none => false
theorem firstG_le {α : Type} (P : α → Bool) : ∀ l : List α, firstG P l ≤ l.length
  | [] => Nat.le_refl _
  | x :: r => by unfold firstG; have := firstG_le P r; rw [List.length_cons]; split <;> (first | lia | omega)
theorem lastG_le {α : Type} (P : α → Bool) : ∀ l : List α, lastG P l ≤ l.length
  | [] => Nat.le_refl _
  | x :: r => by unfold lastG; have := lastG_le P r; rw [List.length_cons]; split <;> (try split) <;> (first | lia | omega)
theorem firstG_eq {α : Type} (P : α → Bool) : ∀ l : List α, firstIdx (atP P l) l.length = firstG P l
  | [] => rfl
  | x :: r => by
    rw [List.length_cons, firstIdx_succ]
    have e : (fun i => atP P (x :: r) (i + 1)) = atP P r := by funext i; unfold atP; rw [List.getElem?_cons_succ]
    rw [e, firstG_eq P r]
    rfl
theorem lastG_spec {α : Type} (P : α → Bool) : ∀ l : List α, (lastG P l = 0 ∨ ∃ i, i < l.length ∧ atP P l i = true ∧ lastG P l = i + 1) ∧ ∀ i, i < l.length → atP P l i = true → i + 1 ≤ lastG P l
  | [] => ⟨.inl rfl, fun i h => by cases h⟩
  | x :: r => by
    obtain ⟨h1, h2⟩ := lastG_spec P r
    have s : ∀ i, atP P (x :: r) (i + 1) = atP P r i := fun i => by unfold atP; rw [List.getElem?_cons_succ]
    have z : atP P (x :: r) 0 = P x := rfl
    unfold lastG
    by_cases hl : 0 < lastG P r
    · rw [if_pos hl]
      refine ⟨?_, fun i hi hp => ?_⟩
      · rcases h1 with h1 | ⟨i, hi, hp, he⟩
        · (first | lia | omega)
        · exact .inr ⟨i + 1, by rw [List.length_cons]; (first | lia | omega), by rw [s]; exact hp, by (first | lia | omega)⟩
      · cases i with
        | zero => (first | lia | omega)
        | succ i => rw [s] at hp; have := h2 i (by rw [List.length_cons] at hi; (first | lia | omega)) hp; (first | lia | omega)
    · rw [if_neg hl]
      cases hx : P x with
      | true =>
        rw [if_pos rfl]
        refine ⟨.inr ⟨0, by rw [List.length_cons]; (first | lia | omega), by rw [z]; exact hx, rfl⟩, fun i hi hp => ?_⟩
        cases i with
        | zero => (first | lia | omega)
        | succ i => rw [s] at hp; have := h2 i (by rw [List.length_cons] at hi; (first | lia | omega)) hp; (first | lia | omega)
      | false =>
        rw [if_neg (by decide)]
        refine ⟨.inl rfl, fun i hi hp => ?_⟩
        cases i with
        | zero => rw [z, hx] at hp; cases hp
        | succ i => rw [s] at hp; have := h2 i (by rw [List.length_cons] at hi; (first | lia | omega)) hp; (first | lia | omega)
theorem lastG_eq {α : Type} (P : α → Bool) (l : List α) : lastEnd (atP P l) l.length = lastG P l := (lastEnd_of (lastG_spec P l).1 (lastG_spec P l).2).symm
theorem firstG_app {α : Type} {P : α → Bool} : ∀ {a b : List α}, (∀ x ∈ a, P x = false) → firstG P (a ++ b) = a.length + firstG P b
  | [], b, _ => by rw [List.nil_append]; simp
  | x :: a, b, h => by
    show (if P x = true then 0 else firstG P (a ++ b) + 1) = _
    rw [h x (.head _), if_neg (by decide), firstG_app fun y hy => h y (.tail _ hy), List.length_cons]; (first | lia | omega)
theorem lastG_app {α : Type} {P : α → Bool} : ∀ {a b : List α}, lastG P (a ++ b) = if 0 < lastG P b then a.length + lastG P b else lastG P a
  | [], b => by
    rw [List.nil_append]
    show _ = if 0 < lastG P b then 0 + lastG P b else 0
    split <;> (first | lia | omega)
  | x :: a, b => by
    show (if 0 < lastG P (a ++ b) then lastG P (a ++ b) + 1 else if P x = true then 1 else 0) = _
    rw [lastG_app]
    by_cases h : 0 < lastG P b
    · rw [if_pos h, if_pos h, if_pos (by (first | lia | omega)), List.length_cons]; (first | lia | omega)
    · rw [if_neg h, if_neg h]; rfl
theorem lastG_none {α : Type} {P : α → Bool} : ∀ {a : List α}, (∀ x ∈ a, P x = false) → lastG P a = 0
  | [], _ => rfl
  | x :: a, h => by
    show (if 0 < lastG P a then lastG P a + 1 else if P x = true then 1 else 0) = 0
    rw [lastG_none fun y hy => h y (.tail _ hy), if_neg (by (first | lia | omega)), h x (.head _), if_neg (by decide)]
noncomputable def stopC (c : Nat) : Bool := c == 10 || c == 58
noncomputable def dotC (c : Nat) : Bool := c == 46
noncomputable def bef (t : List Nat) : List Nat := t.take (firstG stopC t)
noncomputable def aft (t : List Nat) : List Nat := t.drop (lastG dotC t)
theorem strip2_G (l : List Nat) : strip2 l = firstG stopC l := by
  have h0 : strip1 l ≤ l.length := by rw [strip1_eq]; exact firstIdx_le _ _
  have h1 := firstIdx_le (isC l 58) (strip1 l)
  rw [strip2_eq, ← firstG_eq]
  have hat : ∀ i, atP stopC l i = (isC l 10 i || isC l 58 i) := fun i => by
    unfold atP isC stopC
    cases l[i]? with
    | none => rfl
    | some x => rfl
  refine firstIdx_of ?_ (fun i hi hp => ?_) (by (first | lia | omega))
  · rcases firstIdx_spec (isC l 58) (strip1 l) with ⟨h2, _⟩ | ⟨h2, h3, _⟩
    · rw [h2, strip1_eq]
      rcases firstIdx_spec (isC l 10) l.length with ⟨h4, _⟩ | ⟨h4, h5, _⟩
      · exact .inl h4
      · exact .inr ⟨h4, by rw [hat, h5]; rfl⟩
    · exact .inr ⟨by (first | lia | omega), by rw [hat, h3, Bool.or_true]⟩
  · rw [hat] at hp
    rcases Bool.or_eq_true_iff.mp hp with q | q
    · rcases firstIdx_spec (isC l 10) l.length with ⟨h4, h5⟩ | ⟨h4, _, h6⟩
      · rw [h5 i hi] at q; cases q
      · rw [strip1_eq] at h1
        rcases Nat.lt_or_ge i (firstIdx (isC l 10) l.length) with r | r
        · rw [h6 i r] at q; cases q
        · rw [strip1_eq]; (first | lia | omega)
    · rcases Nat.lt_or_ge i (strip1 l) with r | r
      · rcases firstIdx_spec (isC l 58) (strip1 l) with ⟨h4, h5⟩ | ⟨h4, _, h6⟩
        · rw [h5 i r] at q; cases q
        · rcases Nat.lt_or_ge i (firstIdx (isC l 58) (strip1 l)) with s | s
          · rw [h6 i s] at q; cases q
          · exact s
      · (first | lia | omega)
theorem strip_plain (l : List Nat) : stripO l = aft (bef l) := by
  have hle := firstG_le stopC l
  rw [stripO_eq, strip2_G]
  unfold aft bef
  have hlen : (l.take (firstG stopC l)).length = firstG stopC l := by rw [List.length_take]; (first | lia | omega)
  have e : lastEnd (isC l 46) (firstG stopC l) = lastG dotC (l.take (firstG stopC l)) := by
    rw [← lastG_eq, hlen]
    refine lastEnd_of ?_ fun i hi hp => ?_
    · rcases (lastEnd_spec (isC l 46) (firstG stopC l)).1 with h | ⟨i, hi, hp, he⟩
      · exact .inl h
      · refine .inr ⟨i, hi, ?_, he⟩
        unfold atP
        rw [List.getElem?_take, if_pos hi, isC_iff.mp hp]; rfl
    · refine (lastEnd_spec (isC l 46) (firstG stopC l)).2 i hi ?_
      unfold atP at hp
      rw [List.getElem?_take, if_pos hi] at hp
      rw [isC_iff]
      cases h : l[i]? with
      | none => rw [h] at hp; cases hp
      | some x => rw [h] at hp; rw [beq_iff_eq.mp hp]
  rw [e, List.drop_take]
end Mine
end
section
open PySem PySem.W PySem.Calls PyProof.Rows
set_option Elab.async false
set_option maxRecDepth 100000
set_option maxHeartbeats 1000000
set_option linter.unusedVariables false
set_option linter.unusedSimpArgs false
namespace Mine
noncomputable def stopP (p : Pr2) : Bool := p.1 == 58 || p.1 == 10
noncomputable def dotP (p : Pr2) : Bool := decide (lastOne p.2 = [46])
theorem bef_app {a b : List Nat} (h : ∀ x ∈ a, stopC x = false) : bef (a ++ b) = a ++ bef b := by
  unfold bef
  rw [firstG_app h, List.take_append, List.take_of_length_le (by (first | lia | omega))]
  congr 2
  (first | lia | omega)
theorem bef_stop {c : Nat} {b : List Nat} (h : stopC c = true) : bef (c :: b) = [] := by
  unfold bef
  show (c :: b).take (if stopC c = true then 0 else _) = []
  rw [if_pos h]; rfl
theorem bs_stop (n : Nat) : ∀ x ∈ bsl n, stopC x = false := fun x hx => by
  rw [List.eq_of_mem_replicate hx]; rfl
theorem bs_dot (n : Nat) : ∀ x ∈ bsl n, dotC x = false := fun x hx => by
  rw [List.eq_of_mem_replicate hx]; rfl
theorem bef_bs (n : Nat) : bef (bsl n) = bsl n := by
  have := bef_app (a := bsl n) (b := []) (bs_stop n)
  rw [List.append_nil] at this
  rw [this]
  show bsl n ++ [] = _
  rw [List.append_nil]
theorem bef_BT {L r : Nat} : ∀ (l : List Pr2) (lost kept more : Nat), (∀ p ∈ l, shB p = true) → bef (BT L r lost kept more l) = BT L r lost kept (if firstG stopP l < l.length then 1 else more) (l.take (firstG stopP l))
  | [], lost, kept, more, _ => bef_bs _
  | p :: l, lost, kept, more, h => by
    have ih := fun lost kept => bef_BT (L := L) (r := r) l lost kept more fun q hq => h q (.tail _ hq)
    obtain ⟨_, _, hs⟩ := shB_ok (h p (.head _))
    have cont : stopP p = false → firstG stopP (p :: l) = firstG stopP l + 1 := fun hw => by
      show (if stopP p = true then 0 else firstG stopP l + 1) = _
      rw [hw, if_neg (by decide)]
    rw [BT_cons]
    rcases hs with ⟨h1, ⟨n1, n2⟩, _⟩ | ⟨c, cs, hs⟩
    · have hst : stopP p = false := by
        unfold stopP
        rw [show (p.1 == 58) = false by simpa using n1, show (p.1 == 10) = false by simpa using n2]; rfl
      rw [if_pos h1, ih, cont hst, List.take_succ_cons, List.length_cons, BT_cons, if_pos h1]
      simp only [Nat.add_lt_add_iff_right]
    have h1 : p.2 ≠ [] := by rw [hs.e]; simp
    rw [if_neg h1]
    by_cases h2 : p.1 = 92
    · have hst : stopP p = false := by unfold stopP; rw [h2]; rfl
      rw [if_pos h2, ih, cont hst, List.take_succ_cons, List.length_cons, BT_cons, if_neg h1, if_pos h2]
      simp only [Nat.add_lt_add_iff_right]
    rw [if_neg h2, List.append_assoc, bef_app (bs_stop _), hs.e]
    have hstop : stopP p = stopC c := by
      unfold stopP stopC
      have e1 : (p.1 == 58) = (c == 58) := by
        by_cases q : p.1 = 58
        · rw [q, hs.b58.mpr q]
        · have q2 : c ≠ 58 := fun z => q (hs.b58.mp z)
          rw [show (p.1 == 58) = false by simpa using q, show (c == 58) = false by simpa using q2]
      have e2 : (p.1 == 10) = (c == 10) := by
        by_cases q : p.1 = 10
        · rw [q, hs.b10.mpr q]
        · have q2 : c ≠ 10 := fun z => q (hs.b10.mp z)
          rw [show (p.1 == 10) = false by simpa using q, show (c == 10) = false by simpa using q2]
      rw [e1, e2, Bool.or_comm]
    cases hc : stopC c with
    | true =>
      have hz : firstG stopP (p :: l) = 0 := by
        show (if stopP p = true then 0 else firstG stopP l + 1) = _
        rw [hstop, hc, if_pos rfl]
      rw [hz, List.take_zero, if_pos (by rw [List.length_cons]; (first | lia | omega))]
      rw [show (c :: cs ++ BT L r 0 0 more l) = c :: (cs ++ BT L r 0 0 more l) from rfl, bef_stop hc, List.append_nil]
      rfl
    | false =>
      have hcs : ∀ x ∈ c :: cs, stopC x = false := fun x hx => by
        rcases List.mem_cons.mp hx with rfl | hx
        · exact hc
        · obtain ⟨m1, _, _, _, _, _, m7⟩ := hs.pl x hx
          unfold stopC
          rw [show (x == 10) = false by simpa using m1, show (x == 58) = false by simpa using m7]; rfl
      rw [bef_app hcs, ih, cont (by rw [hstop]; exact hc), List.take_succ_cons, List.length_cons, BT_cons, if_neg h1, if_neg h2, hs.e, List.append_assoc]
      simp only [Nat.add_lt_add_iff_right]
theorem aft_app_pos {a b : List Nat} (h : 0 < lastG dotC b) : aft (a ++ b) = aft b := by
  unfold aft
  rw [lastG_app, if_pos h, List.drop_append, List.drop_of_length_le (by (first | lia | omega)), List.nil_append]
  congr 1
  (first | lia | omega)
theorem aft_app_zero {a b : List Nat} (h : lastG dotC b = 0) : aft (a ++ b) = aft a ++ b := by
  have := lastG_le dotC a
  unfold aft
  rw [lastG_app, if_neg (by (first | lia | omega)), List.drop_append_of_le_length this]
theorem aft_none {a : List Nat} (h : ∀ x ∈ a, dotC x = false) : aft a = a := by
  unfold aft; rw [lastG_none h]; rfl
theorem lastOne_snoc (f : List Nat) (c : Nat) : lastOne (f ++ [c]) = [c] := by
  unfold lastOne
  rw [List.length_append, List.length_singleton, Nat.add_sub_cancel, List.drop_left']
  rfl
theorem aft_BT {L r : Nat} : ∀ (l : List Pr2) (lost kept more : Nat), (∀ p ∈ l, shB p = true) → (lastG dotP l = 0 → lastG dotC (BT L r lost kept more l) = 0) ∧ (0 < lastG dotP l → 0 < lastG dotC (BT L r lost kept more l) ∧ aft (BT L r lost kept more l) = BT L r 0 0 more (l.drop (lastG dotP l)))
  | [], lost, kept, more, _ => ⟨fun _ => lastG_none (bs_dot _), fun h => by cases h⟩
  | p :: l, lost, kept, more, h => by
    have ih := fun lost kept => aft_BT (L := L) (r := r) l lost kept more fun q hq => h q (.tail _ hq)
    obtain ⟨_, _, hs⟩ := shB_ok (h p (.head _))
    have hl : lastG dotP (p :: l) = if 0 < lastG dotP l then lastG dotP l + 1 else if dotP p = true then 1 else 0 := rfl
    have same : ∀ {lost' kept' : Nat}, dotP p = false → BT L r lost kept more (p :: l) = BT L r lost' kept' more l → (lastG dotP (p :: l) = 0 → lastG dotC (BT L r lost kept more (p :: l)) = 0) ∧ (0 < lastG dotP (p :: l) → 0 < lastG dotC (BT L r lost kept more (p :: l)) ∧ aft (BT L r lost kept more (p :: l)) = BT L r 0 0 more ((p :: l).drop (lastG dotP (p :: l)))) := fun {lost' kept'} hd e => by
      rw [e, hl, hd]
      obtain ⟨i1, i2⟩ := ih lost' kept'
      by_cases hp : 0 < lastG dotP l
      · rw [if_pos hp]
        exact ⟨fun q => by (first | lia | omega), fun _ => i2 hp⟩
      · rw [if_neg hp, if_neg (by decide)]
        exact ⟨fun _ => i1 (by (first | lia | omega)), fun q => by (first | lia | omega)⟩
    rcases hs with ⟨h1, _⟩ | ⟨c, cs, hs⟩
    · exact same (by unfold dotP; rw [h1]; rfl) (by rw [BT_cons, if_pos h1])
    have h1 : p.2 ≠ [] := by rw [hs.e]; simp
    by_cases h2 : p.1 = 92
    · have hc := hs.b92.mpr h2
      have hcs : cs = [] := by
        rcases List.eq_nil_or_concat cs with q | ⟨_, _, q⟩
        · exact q
        · exact absurd hc (hs.one (by rw [q]; simp)).1
      exact same (by unfold dotP; rw [hs.e, hc, hcs]; rfl) (by rw [BT_cons, if_neg h1, if_pos h2])
    have eb : BT L r lost kept more (p :: l) = (bsl (runN L r lost kept 1) ++ p.2) ++ BT L r 0 0 more l := by rw [BT_cons, if_neg h1, if_neg h2]
    obtain ⟨ini, z, hz⟩ : ∃ ini z, p.2 = ini ++ [z] := by
      rcases List.eq_nil_or_concat p.2 with q | ⟨a, b, q⟩
      · exact absurd q h1
      · exact ⟨a, b, by rw [q]; simp⟩
    have hini : ∀ x ∈ ini, dotC x = false := fun x hx => by
      have hx' : x ∈ p.2.dropLast := by rw [hz, List.dropLast_concat]; exact hx
      rw [hs.e] at hx'
      unfold dotC
      cases cs with
      | nil => cases hx'
      | cons d cs =>
        rw [show (c :: d :: cs).dropLast = c :: (d :: cs).dropLast from rfl] at hx'
        rcases List.mem_cons.mp hx' with rfl | hx'
        · have := (hs.one (by simp)).2.2.2.2
          simpa using this
        · have := hs.dot x hx'
          simpa using this
    have hdot : dotP p = dotC z := by
      unfold dotP dotC
      rw [hz, lastOne_snoc]
      by_cases q : z = 46
      · rw [q]; decide
      · rw [decide_eq_false (by simpa using q), show (z == 46) = false by simpa using q]
    obtain ⟨i1, i2⟩ := ih 0 0
    rw [eb, hl]
    by_cases hp : 0 < lastG dotP l
    · rw [if_pos hp]
      obtain ⟨i3, i4⟩ := i2 hp
      refine ⟨fun q => by (first | lia | omega), fun _ => ⟨?_, ?_⟩⟩
      · rw [lastG_app, if_pos i3]; (first | lia | omega)
      · rw [aft_app_pos i3, i4]; rfl
    · rw [if_neg hp]
      have i3 := i1 (by (first | lia | omega))
      have e1 : lastG dotC (bsl (runN L r lost kept 1) ++ p.2 ++ BT L r 0 0 more l) = lastG dotC (bsl (runN L r lost kept 1) ++ p.2) := by rw [lastG_app, if_neg (by (first | lia | omega))]
      rw [e1, hdot]
      have ea : (bsl (runN L r lost kept 1) ++ p.2) = (bsl (runN L r lost kept 1) ++ ini) ++ [z] := by rw [hz, List.append_assoc]
      cases hc : dotC z with
      | true =>
        rw [if_pos rfl]
        have el : lastG dotC (bsl (runN L r lost kept 1) ++ p.2) = (bsl (runN L r lost kept 1) ++ p.2).length := by
          rw [ea, lastG_app]
          have : lastG dotC [z] = 1 := by
            show (if 0 < lastG dotC [] then lastG dotC [] + 1 else if dotC z = true then 1 else 0) = 1
            rw [if_neg (show ¬ 0 < lastG dotC [] from Nat.lt_irrefl 0), if_pos hc]
          rw [this, if_pos (by decide), List.length_append (as := bsl (runN L r lost kept 1) ++ ini)]; rfl
        refine ⟨fun q => by (first | lia | omega), fun _ => ⟨?_, ?_⟩⟩
        · rw [el, List.length_append, hz, List.length_append, List.length_singleton]; (first | lia | omega)
        · rw [aft_app_zero i3]
          unfold aft
          rw [el, List.drop_length, List.nil_append]; rfl
      | false =>
        rw [if_neg (by decide)]
        refine ⟨fun _ => ?_, fun q => by (first | lia | omega)⟩
        rw [ea]
        refine lastG_none fun x hx => ?_
        rcases List.mem_append.mp hx with hx | hx
        · rcases List.mem_append.mp hx with hx | hx
          · exact bs_dot _ x hx
          · exact hini x hx
        · rw [List.mem_singleton.mp hx]; exact hc
theorem strip_BT {L r more : Nat} {l : List Pr2} (h : ∀ p ∈ l, shB p = true) : stripO (BT L r 0 0 more l) = BT L r 0 0 (if firstG stopP l < l.length then 1 else more) ((l.take (firstG stopP l)).drop (lastG dotP (l.take (firstG stopP l)))) := by
  rw [strip_plain, bef_BT l 0 0 more h]
  obtain ⟨i1, i2⟩ := aft_BT (L := L) (r := r) (l.take (firstG stopP l)) 0 0 (if firstG stopP l < l.length then 1 else more) fun p hp => h p (List.mem_of_mem_take hp)
  rcases Nat.eq_zero_or_pos (lastG dotP (l.take (firstG stopP l))) with q | q
  · rw [q, List.drop_zero]
    unfold aft
    rw [i1 q]; rfl
  · exact (i2 q).2
end Mine
end
section
open PySem PySem.W PySem.Calls PyProof.Rows
set_option Elab.async false
set_option maxRecDepth 100000
set_option maxHeartbeats 1000000
set_option linter.unusedVariables false
set_option linter.unusedSimpArgs false
namespace Mine
theorem stop_at {mn : Nat} {l : List Pr2} (h : 0 < mn) (i : Nat) : stopAt mn l i = atP stopP l i := by
  unfold stopAt atP stopP
  cases l[i]? with
  | none => rfl
  | some p =>
    show (decide (0 < mn) && decide ([p.1] ∈ [[58], [10]])) = (p.1 == 58 || p.1 == 10)
    rw [decide_eq_true h, Bool.true_and]
    by_cases h1 : p.1 = 58
    · rw [h1]; decide
    · by_cases h2 : p.1 = 10
      · rw [h2]; decide
      · rw [decide_eq_false (by simp [h1, h2]), show (p.1 == 58) = false by simpa using h1, show (p.1 == 10) = false by simpa using h2]; rfl
theorem dot_at {mn : Nat} {l : List Pr2} (h : 0 < mn) (i : Nat) : dotAt mn l i = atP dotP l i := by
  unfold dotAt atP dotP
  cases l[i]? with
  | none => rfl
  | some p =>
    show (decide (0 < mn) && decide (lastOne p.2 = [46])) = _
    rw [decide_eq_true h, Bool.true_and]
theorem at_take {α : Type} {P : α → Bool} {l : List α} {n i : Nat} (h : i < n) : atP P (l.take n) i = atP P l i := by
  unfold atP; rw [List.getElem?_take, if_pos h]
theorem lastEnd_congr {P Q : Nat → Bool} {n : Nat} (h : ∀ i, i < n → P i = Q i) : lastEnd P n = lastEnd Q n := by
  refine lastEnd_of ?_ fun i hi hp => ?_
  · rcases (lastEnd_spec P n).1 with q | ⟨i, hi, hp, he⟩
    · exact .inl q
    · exact .inr ⟨i, hi, by rw [← h i hi]; exact hp, he⟩
  · exact (lastEnd_spec P n).2 i hi (by rw [h i hi]; exact hp)
theorem start_eq {l : List Pr2} {mn n : Nat} (h : 0 < mn) (hn : n ≤ l.length) : lastEnd (dotAt mn l) n = lastG dotP (l.take n) := by
  rw [← lastG_eq, List.length_take, Nat.min_eq_left hn]
  exact lastEnd_congr fun i hi => by rw [dot_at h, at_take hi]
theorem told_one {l : List Pr2} (L t : Nat) (h : ∀ p ∈ l, shB p = true) : toldL l L t 1 = stripO (TT L t 0 0 0 l) := by
  have hle := fl_le t l 0
  have hlen : (l.take (fl t 0 l)).length = fl t 0 l := by rw [List.length_take]; (first | lia | omega)
  rw [TT_BT l 0 0 0 h, strip_BT fun p hp => h p (List.mem_of_mem_take hp), told_BT, hlen]
  have hfs := firstG_le stopP (l.take (fl t 0 l))
  rw [hlen] at hfs
  have hlive : ∀ i, i < l.length → liveAt t l i = true → fl t 0 l ≤ i := fun i hi hp => by
    rw [live_G] at hp
    rcases firstIdx_spec (liveG t 0 l) l.length with ⟨h1, h2⟩ | ⟨h1, h2, h3⟩
    · rw [h2 i hi] at hp; cases hp
    · rw [fl_eq] at h3
      rcases Nat.lt_or_ge i (fl t 0 l) with q | q
      · rw [h3 i q] at hp; cases hp
      · exact q
  have hhead : headOf l t 1 = firstG stopP (l.take (fl t 0 l)) := by
    unfold headOf
    refine (firstIdx_of ?_ (fun i hi hp => ?_) (by (first | lia | omega))).symm
    · have e := firstG_eq stopP (l.take (fl t 0 l))
      rw [hlen] at e
      rcases firstIdx_spec (atP stopP (l.take (fl t 0 l))) (fl t 0 l) with ⟨h1, _⟩ | ⟨h1, h2, _⟩
      · rw [e] at h1
        rcases firstIdx_spec (liveG t 0 l) l.length with ⟨h3, _⟩ | ⟨h3, h4, _⟩
        · rw [fl_eq] at h3; exact .inl (by (first | lia | omega))
        · rw [fl_eq] at h3 h4
          refine .inr ⟨by (first | lia | omega), ?_⟩
          rw [h1, live_G, h4]
          simp
      · rw [e] at h1 h2
        refine .inr ⟨by (first | lia | omega), ?_⟩
        rw [stop_at (by decide), ← at_take h1, h2]; rfl
    · rcases Bool.or_eq_true_iff.mp hp with q | q
      · rw [stop_at (by decide)] at q
        rcases Nat.lt_or_ge i (fl t 0 l) with r | r
        · have e := firstG_eq stopP (l.take (fl t 0 l))
          rw [hlen] at e
          rw [← at_take r] at q
          rcases firstIdx_spec (atP stopP (l.take (fl t 0 l))) (fl t 0 l) with ⟨h1, h2⟩ | ⟨h1, _, h3⟩
          · rw [h2 i r] at q; cases q
          · rw [e] at h3
            rcases Nat.lt_or_ge i (firstG stopP (l.take (fl t 0 l))) with s | s
            · rw [h3 i s] at q; cases q
            · exact s
        · (first | lia | omega)
      · have := hlive i hi (Bool.and_eq_true_iff.mp q).2
        (first | lia | omega)
  have hstart : startOf l t 1 = lastG dotP (l.take (firstG stopP (l.take (fl t 0 l)))) := by
    unfold startOf
    rw [hhead, start_eq (by decide) (by (first | lia | omega))]
  have hend : endOf l t 1 = firstG stopP (l.take (fl t 0 l)) := by
    unfold endOf
    rw [hhead]
    refine (firstIdx_of (.inl rfl) (fun i hi hp => ?_) (Nat.le_refl _)).symm
    have := hlive i (by (first | lia | omega)) (Bool.and_eq_true_iff.mp hp).1
    (first | lia | omega)
  unfold moreOf cutOf
  rw [hstart, hend, List.take_take, Nat.min_eq_left hfs, List.drop_take]
  congr 1
  by_cases h1 : firstG stopP (l.take (fl t 0 l)) < fl t 0 l
  · rw [if_pos h1, if_pos (by (first | lia | omega))]
  · rw [if_neg h1]
    have : firstG stopP (l.take (fl t 0 l)) = fl t 0 l := by (first | lia | omega)
    rw [this]
noncomputable def segOf (l : List Pr2) : List Pr2 := (l.take (firstG stopP l)).drop (lastG dotP (l.take (firstG stopP l)))
noncomputable def segM (l : List Pr2) : Nat := if firstG stopP l < l.length then 1 else 0
theorem lost_reset {l : List Pr2} (h : ∀ p ∈ l, shB p = true) : lostA (l.take (lastG dotP (l.take (firstG stopP l)))) = 0 := by
  rcases (lastG_spec dotP (l.take (firstG stopP l))).1 with e | ⟨k, hk, hp, e⟩
  · rw [e]; rfl
  · rw [e]
    have hk2 : k < firstG stopP l := by rw [List.length_take] at hk; (first | lia | omega)
    rw [at_take hk2] at hp
    unfold atP at hp
    cases hq : l[k]? with
    | none => rw [hq] at hp; cases hp
    | some p =>
      rw [hq] at hp
      have hd : lastOne p.2 = [46] := of_decide_eq_true hp
      rw [lostA_take hq]
      have h1 : p.2 ≠ [] := fun q => by rw [q] at hd; cases hd
      have h2 : p.1 ≠ 92 := fun q => by
        obtain ⟨_, _, hs⟩ := shB_ok (h p (List.mem_of_getElem? hq))
        rcases hs with ⟨hs, _⟩ | ⟨c, cs, hs⟩
        · exact h1 hs
        · have hc := hs.b92.mpr q
          have hcs : cs = [] := by
            rcases List.eq_nil_or_concat cs with z | ⟨_, _, z⟩
            · exact z
            · exact absurd hc (hs.one (by rw [z]; simp)).1
          rw [hs.e, hc, hcs] at hd
          cases hd
      unfold stepL
      rw [if_neg h1, if_neg h2]
theorem told_two {l : List Pr2} (L t : Nat) (h : ∀ p ∈ l, shB p = true) : toldL l L t 2 = TT L t 0 0 (segM l) (segOf l) := by
  have hfs := firstG_le stopP l
  have hst : lastG dotP (l.take (firstG stopP l)) ≤ firstG stopP l := by
    have := lastG_le dotP (l.take (firstG stopP l))
    rw [List.length_take] at this; (first | lia | omega)
  have hsl : (segOf l).length = firstG stopP l - lastG dotP (l.take (firstG stopP l)) := by
    unfold segOf; rw [List.length_drop, List.length_take]; (first | lia | omega)
  have hseg : ∀ p ∈ segOf l, shB p = true := fun p hp => h p (List.mem_of_mem_take (List.mem_of_mem_drop hp))
  have hhead : headOf l t 2 = firstG stopP l := by
    unfold headOf
    rw [← firstG_eq]
    refine firstIdx_congr fun i _ => ?_
    rw [stop_at (by decide)]
    show (atP stopP l i || (false && _)) = _
    rw [Bool.false_and, Bool.or_false]
  have hstart : startOf l t 2 = lastG dotP (l.take (firstG stopP l)) := by
    unfold startOf
    rw [hhead, start_eq (by decide) hfs]
  have hzero := lost_reset h
  have hlv : ∀ j, j < (segOf l).length → liveAt t l (lastG dotP (l.take (firstG stopP l)) + j) = liveG t 0 (segOf l) j := fun j hj => by
    unfold liveAt liveG
    have e1 : (segOf l)[j]? = l[lastG dotP (l.take (firstG stopP l)) + j]? := by
      unfold segOf
      rw [List.getElem?_drop, List.getElem?_take, if_pos (by (first | lia | omega))]
    have e2 : lostA (l.take (lastG dotP (l.take (firstG stopP l)) + j)) = ((segOf l).take j).foldl stepL 0 := by
      have e3 : (segOf l).take j = (l.drop (lastG dotP (l.take (firstG stopP l)))).take j := by
        unfold segOf
        rw [List.drop_take, List.take_take, Nat.min_eq_left (by (first | lia | omega))]
      rw [e3, List.take_add]
      unfold lostA at hzero ⊢
      rw [List.foldl_append, hzero]
    rw [e1, e2] <;> rfl
  have hend : endOf l t 2 = lastG dotP (l.take (firstG stopP l)) + fl t 0 (segOf l) := by
    unfold endOf
    rw [hhead, hstart]
    have hfl := fl_le t (segOf l) 0
    refine (firstIdx_of ?_ (fun i hi hp => ?_) (by (first | lia | omega))).symm
    · rcases firstIdx_spec (liveG t 0 (segOf l)) (segOf l).length with ⟨h1, _⟩ | ⟨h1, h2, _⟩
      · rw [fl_eq] at h1; exact .inl (by (first | lia | omega))
      · rw [fl_eq] at h1 h2
        refine .inr ⟨by (first | lia | omega), ?_⟩
        rw [hlv _ h1, h2, decide_eq_true (by (first | lia | omega))]; rfl
    · obtain ⟨q1, q2⟩ := Bool.and_eq_true_iff.mp hp
      have q2 := of_decide_eq_true q2
      obtain ⟨j, rfl⟩ : ∃ j, i = lastG dotP (l.take (firstG stopP l)) + j := ⟨i - lastG dotP (l.take (firstG stopP l)), by (first | lia | omega)⟩
      have hj : j < (segOf l).length := by (first | lia | omega)
      rw [hlv j hj] at q1
      rcases firstIdx_spec (liveG t 0 (segOf l)) (segOf l).length with ⟨h1, h2⟩ | ⟨h1, _, h3⟩
      · rw [h2 j hj] at q1; cases q1
      · rw [fl_eq] at h3
        rcases Nat.lt_or_ge j (fl t 0 (segOf l)) with s | s
        · rw [h3 j s] at q1; cases q1
        · (first | lia | omega)
  have hfl := fl_le t (segOf l) 0
  rw [told_BT, TT_BT _ 0 0 _ hseg]
  unfold moreOf cutOf
  rw [hstart, hend]
  have e3 : ∀ k, k ≤ (segOf l).length → (segOf l).take k = (l.drop (lastG dotP (l.take (firstG stopP l)))).take k := fun k hk => by
    unfold segOf
    rw [List.drop_take, List.take_take, Nat.min_eq_left (by (first | lia | omega))]
  rw [e3 _ hfl, Nat.add_sub_cancel_left]
  congr 1
  by_cases h1 : fl t 0 (segOf l) < (segOf l).length
  · have h2 : lastG dotP (l.take (firstG stopP l)) + fl t 0 (segOf l) < l.length := by (first | lia | omega)
    rw [if_pos h1, if_pos h2]
  · rw [if_neg h1]
    unfold segM
    have : lastG dotP (l.take (firstG stopP l)) + fl t 0 (segOf l) = firstG stopP l := by (first | lia | omega)
    rw [this]
theorem TT_zero {L more : Nat} {l : List Pr2} (h : ∀ p ∈ l, shB p = true) : TT L 0 0 0 more l = BT L 0 0 0 more l := by
  rw [TT_BT l 0 0 more h, fl_zero, List.take_length, if_neg (Nat.lt_irrefl _)]
theorem early_zero {L : Nat} {l : List Pr2} (h : ∀ p ∈ l, shB p = true) : stripO (toldL l L 0 0) = TT L 0 0 0 (segM l) (segOf l) := by
  have hseg : ∀ p ∈ segOf l, shB p = true := fun p hp => h p (List.mem_of_mem_take (List.mem_of_mem_drop hp))
  rw [told_zero L 0 h, TT_zero h, strip_BT h, TT_zero hseg]
  rfl
theorem whole_TT {L : Nat} {l : List Pr2} (hL : L ≤ 3) (h : ∀ p ∈ l, shB p = true) : ∀ i, i ≤ L → wholeN (toldL l L 0 0) i = TT L i 0 0 0 l
  | 0, _ => told_zero L 0 h
  | i + 1, hi => by
    show (getTok (wholeN (toldL l L 0 0) i)).1 = _
    rw [whole_TT hL h i (by (first | lia | omega)), read_TT hL (by (first | lia | omega)) h]
theorem early_TT {L : Nat} {l : List Pr2} (hL : L ≤ 3) (h : ∀ p ∈ l, shB p = true) : ∀ i, i ≤ L → earlyN (toldL l L 0 0) i = TT L i 0 0 (segM l) (segOf l)
  | 0, _ => early_zero h
  | i + 1, hi => by
    have hseg : ∀ p ∈ segOf l, shB p = true := fun p hp => h p (List.mem_of_mem_take (List.mem_of_mem_drop hp))
    show (getTok (earlyN (toldL l L 0 0) i)).1 = _
    rw [early_TT hL h i (by (first | lia | omega)), read_TT hL (by (first | lia | omega)) hseg]
theorem turns_ok {L : Nat} {l : List Pr2} (hL : L ≤ 3) (h : ∀ p ∈ l, shB p = true) (i : Nat) (hi : i ≤ L) : [wholeN (toldL l L 0 0) i, stripO (wholeN (toldL l L 0 0) i), earlyN (toldL l L 0 0) i] = toldsL l L i 3 := by
  have e : toldsL l L i 3 = [toldL l L i 0, toldL l L i 1, toldL l L i 2] := rfl
  rw [e, told_zero L i h, told_one L i h, told_two L i h, whole_TT hL h i hi, early_TT hL h i hi]
end Mine
end
section
open PySem PySem.W PySem.Calls PyProof.Rows
set_option Elab.async false
set_option maxRecDepth 100000
set_option maxHeartbeats 1000000
set_option linter.unusedVariables false
set_option linter.unusedSimpArgs false
namespace Mine
theorem wr_cons (p : Pr2) (l : List Pr2) (k : Nat) (b : Bool) : wr (p :: l) k b = wr1 k b p ++ wr l k b := rfl
theorem plain_cons (p : Pr2) (l : List Pr2) : plainOf (p :: l) = p.2 ++ plainOf l := rfl
theorem whs_iff {c : Nat} {cs : List Nat} : ((c :: cs).take 1 ∈ whs) ↔ c ∈ wht := by
  show ([c] ∈ whs) ↔ _
  simp [whs, wht]
theorem grd_iff {b : Bool} {p : Pr2} {c : Nat} {cs : List Nat} (h : Sh p c cs) : grd b p = true ↔ c = 34 ∨ c = 92 ∨ (b = true ∧ c ∈ wht) := by
  unfold grd
  rw [Bool.or_eq_true_iff, Bool.and_eq_true_iff, decide_eq_true_iff, decide_eq_true_iff, h.e, whs_iff]
  simp only [List.mem_cons, List.cons.injEq, and_true, List.not_mem_nil, or_false]
  rw [h.b34, h.b92]
  exact or_assoc
theorem grd_nil {b : Bool} {p : Pr2} (h : p.2 = []) (h1 : p.1 ≠ 34) (h2 : p.1 ≠ 92) : grd b p = false := by
  unfold grd
  rw [h, decide_eq_false (by simp [h1, h2]), show decide (([] : List Nat).take 1 ∈ whs) = false by decide, Bool.and_false]; rfl
theorem quo_pass : ∀ (cs : List Nat) (t x : List Nat), (∀ d ∈ cs, d ≠ 34 ∧ d ≠ 92) → quo t (cs ++ x) = quo (t ++ cs) x
  | [], t, x, _ => by rw [List.append_nil]; rfl
  | d :: cs, t, x, h => by
    show quo t (d :: (cs ++ x)) = _
    rw [quo_o (h d (.head _)).1 (h d (.head _)).2, quo_pass cs _ x fun e he => h e (.tail _ he), List.append_assoc]; rfl
theorem quo_wr : ∀ (l : List Pr2) (t z : List Nat), (∀ p ∈ l, shB p = true) → quo t (wr l 1 false ++ z) = quo (t ++ plainOf l) z
  | [], t, z, _ => by show quo t z = quo (t ++ []) z; rw [List.append_nil]
  | p :: l, t, z, h => by
    have ih := fun t => quo_wr l t z fun q hq => h q (.tail _ hq)
    obtain ⟨_, _, hs⟩ := shB_ok (h p (.head _))
    rw [wr_cons, plain_cons, ← List.append_assoc t]
    rcases hs with ⟨h1, _, n3, n4⟩ | ⟨c, cs, hs⟩
    · have hw : wr1 1 false p = [] := by
        unfold wr1 part
        rw [grd_nil h1 n3 n4, if_neg (by decide), if_neg (by decide), h1]; rfl
      rw [hw, h1, List.nil_append, List.append_nil]
      exact ih t
    · have hpl : ∀ d ∈ cs, d ≠ 34 ∧ d ≠ 92 := fun d hd => ⟨(hs.pl d hd).2.2.2.2.1, (hs.pl d hd).2.2.2.2.2.1⟩
      have hp : part 1 p = c :: cs := hs.e
      unfold wr1
      rw [hp, hs.e]
      cases hg : grd false p with
      | true =>
        rw [if_pos rfl]
        show quo t (92 :: (c :: (cs ++ wr l 1 false) ++ z)) = _
        rw [quo_b]
        show quo (t ++ [c]) ((cs ++ wr l 1 false) ++ z) = _
        rw [List.append_assoc cs, quo_pass cs _ _ hpl, ih, List.append_assoc t]; rfl
      | false =>
        rw [if_neg (by decide)]
        have hn := mt (grd_iff hs).mpr (by rw [hg]; decide)
        have n34 : c ≠ 34 := fun q => hn (.inl q)
        have n92 : c ≠ 92 := fun q => hn (.inr (.inl q))
        show quo t (c :: (cs ++ wr l 1 false) ++ z) = _
        show quo t (c :: ((cs ++ wr l 1 false) ++ z)) = _
        rw [quo_o n34 n92, List.append_assoc cs, quo_pass cs _ _ hpl, ih, List.append_assoc t]; rfl
theorem bare_wr : ∀ (l : List Pr2) (t z : List Nat), (∀ p ∈ l, shB p = true) → bare t (wr l 1 true ++ z) = bare (t ++ plainOf l) z
  | [], t, z, _ => by show bare t z = bare (t ++ []) z; rw [List.append_nil]
  | p :: l, t, z, h => by
    have ih := fun t => bare_wr l t z fun q hq => h q (.tail _ hq)
    obtain ⟨_, _, hs⟩ := shB_ok (h p (.head _))
    rw [wr_cons, plain_cons, ← List.append_assoc t]
    rcases hs with ⟨h1, _, n3, n4⟩ | ⟨c, cs, hs⟩
    · have hw : wr1 1 true p = [] := by
        unfold wr1 part
        rw [grd_nil h1 n3 n4, if_neg (by decide), if_neg (by decide), h1]; rfl
      rw [hw, h1, List.nil_append, List.append_nil]
      exact ih t
    · have hp : part 1 p = c :: cs := hs.e
      unfold wr1
      rw [hp, hs.e]
      cases hg : grd true p with
      | true =>
        rw [if_pos rfl]
        show bare t (92 :: (c :: (cs ++ wr l 1 true) ++ z)) = _
        rw [bare_b]
        show bare (t ++ [c]) ((cs ++ wr l 1 true) ++ z) = _
        rw [List.append_assoc cs, bare_pass cs _ _ (sh_pass hs), ih, List.append_assoc t]; rfl
      | false =>
        rw [if_neg (by decide)]
        have hn := mt (grd_iff hs).mpr (by rw [hg]; decide)
        have n92 : c ≠ 92 := fun q => hn (.inr (.inl q))
        have nw : c ∉ wht := fun q => hn (.inr (.inr ⟨rfl, q⟩))
        show bare t (c :: ((cs ++ wr l 1 true) ++ z)) = _
        rw [bare_o nw n92, List.append_assoc cs, bare_pass cs _ _ (sh_pass hs), ih, List.append_assoc t]; rfl
theorem get_wr : ∀ (l : List Pr2) (z : List Nat), (∀ p ∈ l, shB p = true) → getTok (wr l 1 true ++ z) = if plainOf l = [] then getTok z else bare (plainOf l) z
  | [], z, _ => by rw [if_pos (show plainOf [] = [] from rfl)]; rfl
  | p :: l, z, h => by
    have hl : ∀ q ∈ l, shB q = true := fun q hq => h q (.tail _ hq)
    obtain ⟨_, _, hs⟩ := shB_ok (h p (.head _))
    rw [wr_cons, plain_cons]
    rcases hs with ⟨h1, _, n3, n4⟩ | ⟨c, cs, hs⟩
    · have hw : wr1 1 true p = [] := by
        unfold wr1 part
        rw [grd_nil h1 n3 n4, if_neg (by decide), if_neg (by decide), h1]; rfl
      rw [hw, h1, List.nil_append, List.nil_append]
      exact get_wr l z hl
    · have hp : part 1 p = c :: cs := hs.e
      have hne : p.2 ++ plainOf l ≠ [] := by rw [hs.e]; simp
      rw [if_neg hne]
      unfold wr1
      rw [hp, hs.e]
      cases hg : grd true p with
      | true =>
        rw [if_pos rfl]
        show getTok (92 :: (c :: (cs ++ wr l 1 true) ++ z)) = _
        rw [getTok_b]
        show bare [c] ((cs ++ wr l 1 true) ++ z) = _
        rw [List.append_assoc cs, bare_pass cs _ _ (sh_pass hs), bare_wr l _ z hl]; rfl
      | false =>
        rw [if_neg (by decide)]
        have hn := mt (grd_iff hs).mpr (by rw [hg]; decide)
        have n34 : c ≠ 34 := fun q => hn (.inl q)
        have n92 : c ≠ 92 := fun q => hn (.inr (.inl q))
        have nw : c ∉ wht := fun q => hn (.inr (.inr ⟨rfl, q⟩))
        show getTok (c :: ((cs ++ wr l 1 true) ++ z)) = _
        rw [getTok_o nw n34 n92, List.append_assoc cs, bare_pass cs _ _ (sh_pass hs), bare_wr l _ z hl]; rfl
theorem open1_ok {l : List Pr2} (h : ∀ p ∈ l, shB p = true) : (getTok (open1 l)).1 = plainOf l := by
  unfold open1
  show (getTok (34 :: wr l 1 false)).1 = _
  have := quo_wr l [] [] h
  rw [List.append_nil] at this
  rw [getTok_q, this, quo_nil]; rfl
theorem quo_esc : ∀ (pl t z : List Nat), quo t ((pl.map fun c => [92, c]).flatten ++ z) = quo (t ++ pl) z
  | [], t, z => by show quo t z = quo (t ++ []) z; rw [List.append_nil]
  | c :: pl, t, z => by
    show quo t (92 :: c :: ((pl.map fun c => [92, c]).flatten ++ z)) = _
    rw [quo_b]
    show quo (t ++ [c]) ((pl.map fun c => [92, c]).flatten ++ z) = _
    rw [quo_esc pl, List.append_assoc]; rfl
theorem open2_ok (pl : List Nat) : (getTok (open2 pl)).1 = pl := by
  unfold open2
  show (getTok (34 :: ((pl.map fun c => [92, c]).flatten ++ [92]))).1 = _
  rw [getTok_q, quo_esc, quo_b]
  show (quo ([] ++ pl ++ []) []).1 = _
  rw [quo_nil, List.append_nil]; rfl
noncomputable def backOf (wc : Nat) (l : List Pr2) (rs : List Nat) : List Nat := 34 :: (wr l 1 false ++ 34 :: rs)
theorem page_split (wc : Nat) (l : List Pr2) (rs : List Nat) : pageOf wc l 1 ++ rs = frontL ++ (wr l 1 true ++ wc :: backOf wc l rs) := by
  unfold pageOf backOf
  simp [List.append_assoc]
theorem get_front (x : List Nat) : getTok (frontL ++ x) = getTok x := by
  show getTok (10 :: 9 :: 13 :: 32 :: x) = _
  rw [getTok_w (by decide), getTok_w (by decide), getTok_w (by decide), getTok_w (by decide)]
theorem get_back {wc : Nat} {l : List Pr2} {rs : List Nat} (h : ∀ p ∈ l, shB p = true) : getTok (backOf wc l rs) = (plainOf l, rs) := by
  unfold backOf
  rw [getTok_q, quo_wr l [] _ h, quo_q]; rfl
theorem get_page {wc : Nat} {l : List Pr2} {rs : List Nat} (h : ∀ p ∈ l, shB p = true) (hw : wc ∈ wht) : getTok (pageOf wc l 1 ++ rs) = if plainOf l = [] then ([], rs) else (plainOf l, backOf wc l rs) := by
  rw [page_split, get_front, get_wr l _ h]
  by_cases hp : plainOf l = []
  · rw [if_pos hp, if_pos hp, getTok_w hw, get_back h, hp]
  · rw [if_neg hp, if_neg hp, bare_w hw]
theorem nl_app (a b : List Nat) : nl (a ++ b) = nl a + nl b := by
  unfold nl; rw [List.count_append]; (first | lia | omega)
theorem words_ok {wc : Nat} {l : List Pr2} {rs : List Nat} (h : ∀ p ∈ l, shB p = true) (hw : wc ∈ wht) :
    toksN [plainOf l] (pageOf wc l 1 ++ rs) (wordsOfL (plainOf l)).length = wordsOfL (plainOf l) ∧ [plainOf l].drop (wordsOfL (plainOf l)).length = [] ∧
    inpN [plainOf l] (pageOf wc l 1 ++ rs) (wordsOfL (plainOf l)).length = rs ∧ lnN [plainOf l] (pageOf wc l 1 ++ rs) 1 (wordsOfL (plainOf l)).length = 1 + nl (pageOf wc l 1) := by
  have hg := get_page (rs := rs) h hw
  by_cases hp : plainOf l = []
  · rw [if_pos hp] at hg
    have hwo : wordsOfL (plainOf l) = [plainOf l, plainOf l] := by unfold wordsOfL; rw [if_pos hp]; rfl
    rw [hwo]
    refine ⟨?_, rfl, ?_, ?_⟩
    · show [plainOf l, (getTok (pageOf wc l 1 ++ rs)).1] = _
      rw [hg, hp]
    · show (getTok (pageOf wc l 1 ++ rs)).2 = _
      rw [hg]
    · show 1 + nl (pageOf wc l 1 ++ rs) - nl (getTok (pageOf wc l 1 ++ rs)).2 = _
      rw [hg, nl_app]
      show 1 + (nl (pageOf wc l 1) + nl rs) - nl rs = _
      (first | lia | omega)
  · rw [if_neg hp] at hg
    have hb := get_back (wc := wc) (rs := rs) h
    have hwo : wordsOfL (plainOf l) = [plainOf l, plainOf l, plainOf l] := by unfold wordsOfL; rw [if_neg hp]; rfl
    rw [hwo]
    refine ⟨?_, rfl, ?_, ?_⟩
    · show [plainOf l, (getTok (pageOf wc l 1 ++ rs)).1, (getTok (getTok (pageOf wc l 1 ++ rs)).2).1] = _
      rw [hg]
      show [plainOf l, plainOf l, (getTok (backOf wc l rs)).1] = _
      rw [hb]
    · show (getTok (getTok (pageOf wc l 1 ++ rs)).2).2 = _
      rw [hg]
      show (getTok (backOf wc l rs)).2 = _
      rw [hb]
    · show (1 + nl (pageOf wc l 1 ++ rs) - nl (getTok (pageOf wc l 1 ++ rs)).2) + nl (getTok (pageOf wc l 1 ++ rs)).2 - nl (getTok (getTok (pageOf wc l 1 ++ rs)).2).2 = _
      rw [hg]
      show (1 + nl (pageOf wc l 1 ++ rs) - nl (backOf wc l rs)) + nl (backOf wc l rs) - nl (getTok (backOf wc l rs)).2 = _
      rw [hb, nl_app]
      show (1 + (nl (pageOf wc l 1) + nl rs) - nl (backOf wc l rs)) + nl (backOf wc l rs) - nl rs = _
      (first | lia | omega)
theorem quo_suf : ∀ (n : Nat) (x t : List Nat), x.length ≤ n → ∃ pre, x = pre ++ (quo t x).2
  | _, [], t, _ => ⟨[], by rw [quo_nil]; rfl⟩
  | 0, c :: r, t, h => by cases h
  | n + 1, c :: r, t, h => by
    have hr : r.length ≤ n := by rw [List.length_cons] at h; (first | lia | omega)
    by_cases h1 : c = 34
    · subst h1; exact ⟨[34], by rw [quo_q]; rfl⟩
    by_cases h2 : c = 92
    · subst h2
      rw [quo_b]
      obtain ⟨pre, e⟩ := quo_suf n r.tail (t ++ hd1 r) (by rw [List.length_tail]; (first | lia | omega))
      refine ⟨92 :: (hd1 r ++ pre), ?_⟩
      rw [List.cons_append, List.append_assoc, ← e]
      cases r <;> rfl
    · rw [quo_o h1 h2]
      obtain ⟨pre, e⟩ := quo_suf n r (t ++ [c]) hr
      exact ⟨c :: pre, by rw [List.cons_append, ← e]⟩
theorem bare_suf : ∀ (n : Nat) (x t : List Nat), x.length ≤ n → ∃ pre, x = pre ++ (bare t x).2
  | _, [], t, _ => ⟨[], by rw [bare_nil]; rfl⟩
  | 0, c :: r, t, h => by cases h
  | n + 1, c :: r, t, h => by
    have hr : r.length ≤ n := by rw [List.length_cons] at h; (first | lia | omega)
    by_cases h1 : c ∈ wht
    · exact ⟨[c], by rw [bare_w h1]; rfl⟩
    by_cases h2 : c = 92
    · subst h2
      rw [bare_b]
      obtain ⟨pre, e⟩ := bare_suf n r.tail (t ++ hd1 r) (by rw [List.length_tail]; (first | lia | omega))
      refine ⟨92 :: (hd1 r ++ pre), ?_⟩
      rw [List.cons_append, List.append_assoc, ← e]
      cases r <;> rfl
    · rw [bare_o h1 h2]
      obtain ⟨pre, e⟩ := bare_suf n r (t ++ [c]) hr
      exact ⟨c :: pre, by rw [List.cons_append, ← e]⟩
theorem get_suf : ∀ x : List Nat, ∃ pre, x = pre ++ (getTok x).2
  | [] => ⟨[], by rw [getTok.eq_def]; rfl⟩
  | c :: r => by
    by_cases h0 : c ∈ wht
    · rw [getTok_w h0]
      obtain ⟨pre, e⟩ := get_suf r
      exact ⟨c :: pre, by rw [List.cons_append, ← e]⟩
    by_cases h1 : c = 34
    · subst h1
      rw [getTok_q]
      obtain ⟨pre, e⟩ := quo_suf _ r [] (Nat.le_refl _)
      exact ⟨34 :: pre, by rw [List.cons_append, ← e]⟩
    by_cases h2 : c = 92
    · subst h2
      rw [getTok_b]
      obtain ⟨pre, e⟩ := bare_suf _ r.tail (hd1 r) (Nat.le_refl _)
      refine ⟨92 :: (hd1 r ++ pre), ?_⟩
      rw [List.cons_append, List.append_assoc, ← e]
      cases r <;> rfl
    · rw [getTok_o h0 h1 h2]
      obtain ⟨pre, e⟩ := bare_suf _ r [c] (Nat.le_refl _)
      exact ⟨c :: pre, by rw [List.cons_append, ← e]⟩
theorem white_wht (f : Int) : whiteC f ∈ wht := by
  obtain ⟨k, hk, hk4⟩ := fmod_nat (a := f.fdiv 3) (b := 4) (by decide)
  have hk' : (f.fdiv 3).fmod 4 = (k : Int) := hk
  unfold whiteC
  rw [hk', Int.toNat_natCast]
  match k, hk4 with
  | 0, _ => decide
  | 1, _ => decide
  | 2, _ => decide
  | 3, _ => decide
end Mine
end
section
open PySem PySem.W PySem.Calls PyProof.Rows
set_option Elab.async false
set_option maxRecDepth 100000
set_option maxHeartbeats 1000000
set_option linter.unusedVariables false
set_option linter.unusedSimpArgs false
namespace Mine
noncomputable def prep1 (x : Nat) : List Nat := if inB1 x then [] else mapB3 x
theorem prep_flat (l : List Nat) : prep l = l.flatMap prep1 := by
  unfold prep prepL
  induction l with
  | nil => rfl
  | cons x l ih =>
    rw [List.filter_cons, List.flatMap_cons]
    unfold prep1
    cases h : inB1 x with
    | true => rw [if_neg (by decide), if_pos rfl, ih]; rfl
    | false => rw [if_pos (by decide), if_neg (by decide), List.map_cons, List.flatten_cons, ih]; rfl
theorem prep_app (a b : List Nat) : prep (a ++ b) = prep a ++ prep b := by rw [prep_flat, prep_flat, prep_flat, List.flatMap_append]
theorem prep_one (x : Nat) : prep [x] = prep1 x := by rw [prep_flat]; simp
theorem prep_self : ∀ c ∈ [10, 9, 13, 32, 34, 92], prep1 c = [c] := by decide +kernel
theorem prep_sign {p : Pr2} (h : goodB p = true) : prep1 p.1 = p.2 := by
  unfold goodB at h
  obtain ⟨h, _⟩ := Bool.and_eq_true_iff.mp h
  obtain ⟨h1, h2⟩ := Bool.and_eq_true_iff.mp h
  have h1 := beq_iff_eq.mp h1
  unfold prep1
  cases hp : p.2 with
  | nil =>
    rw [hp] at h1
    rw [if_pos (by rw [h1]; rfl)]
  | cons c cs =>
    rw [hp] at h1 h2
    rw [if_neg (by rw [h1]; exact Bool.false_ne_true)]
    exact beq_iff_eq.mp (Bool.and_eq_true_iff.mp h2).1
theorem sign_ok {p : Pr2} (h : goodB p = true) (hb : inB1 p.1 = false) : b3p p.1 ≠ none ∨ p.1 < 128 := by
  unfold goodB at h
  obtain ⟨h, _⟩ := Bool.and_eq_true_iff.mp h
  obtain ⟨h1, h2⟩ := Bool.and_eq_true_iff.mp h
  have h1 := beq_iff_eq.mp h1
  rw [hb] at h1
  rw [← h1, Bool.false_or] at h2
  rcases Bool.or_eq_true_iff.mp (Bool.and_eq_true_iff.mp h2).2 with q | q
  · exact .inl (fun z => by rw [z] at q; cases q)
  · exact .inr (of_decide_eq_true q)
theorem prep_bs (n : Nat) : prep (bsl n) = bsl n := by
  induction n with
  | zero => rfl
  | succ n ih =>
    show prep ([92] ++ bsl n) = [92] ++ bsl n
    rw [prep_app, ih, prep_one, prep_self 92 (by decide)]
theorem prep_wr {b : Bool} : ∀ (l : List Pr2), (∀ p ∈ l, goodB p = true) → prep (wr l 0 b) = wr l 1 b
  | [], _ => rfl
  | p :: l, h => by
    have hp := h p (.head _)
    rw [wr_cons, wr_cons, prep_app, prep_wr l fun q hq => h q (.tail _ hq)]
    congr 1
    unfold wr1
    show prep ((if grd b p = true then [92] else []) ++ [p.1]) = (if grd b p = true then [92] else []) ++ p.2
    rw [prep_app, prep_one, prep_sign hp]
    congr 1
    cases grd b p with
    | true => rw [if_pos rfl, prep_one, prep_self 92 (by decide)]
    | false => rfl
theorem prep_page {wc : Nat} {l : List Pr2} (h : ∀ p ∈ l, goodB p = true) (hw : wc ∈ wht) : prep (pageOf wc l 0) = pageOf wc l 1 := by
  have hf : prep frontL = frontL := by
    show prep ([10] ++ ([9] ++ ([13] ++ [32]))) = _
    rw [prep_app, prep_app, prep_app, prep_one, prep_one, prep_one, prep_one, prep_self 10 (by decide), prep_self 9 (by decide), prep_self 13 (by decide), prep_self 32 (by decide)]; rfl
  have hwc : prep1 wc = [wc] := prep_self wc (by
    simp only [wht, List.mem_cons, List.not_mem_nil, or_false] at hw ⊢
    rcases hw with h | h | h | h <;> simp [h])
  unfold pageOf
  rw [prep_app, prep_app, prep_app, prep_app, prep_app, hf, prep_wr l h, prep_wr l h, prep_one, prep_one, hwc, prep_self 34 (by decide)]
theorem bsl_add (a b : Nat) (x : List Nat) : bsl a ++ (bsl b ++ x) = bsl (a + b) ++ x := by
  rw [← List.append_assoc]
  congr 1
  unfold bsl
  rw [List.replicate_append_replicate]
theorem bsl_one (a : Nat) (x : List Nat) : bsl a ++ 92 :: x = bsl (a + 1) ++ x := bsl_add a 1 x
theorem grd_BT {L : Nat} (hL : L ≤ 3) : ∀ (l : List Pr2) (lost kept : Nat), (∀ p ∈ l, goodB p = true) → bsl (lost * (2 ^ L - 1) + kept * 2 ^ L) ++ prep (guarded L l) = BT L 0 lost kept 0 l
  | [], lost, kept, _ => by
    show bsl _ ++ prep [] = bsl (runN L 0 lost kept 0)
    rw [show prep [] = [] from rfl, List.append_nil]
    congr 1
    unfold runN
    obtain ⟨a, ha⟩ : ∃ a, 2 ^ L = a + 1 := ⟨2 ^ L - 1, by have := Nat.two_pow_pos L; (first | lia | omega)⟩
    simp only [ha, Nat.pow_zero, Nat.div_one, Nat.add_sub_cancel, Nat.mul_add, Nat.add_mul, Nat.mul_one, Nat.one_mul, Nat.mul_comm a]
    (first | lia | omega)
  | p :: l, lost, kept, h => by
    have ih := fun lost kept => grd_BT hL l lost kept fun q hq => h q (.tail _ hq)
    have hp := h p (.head _)
    have e : prep (guarded L (p :: l)) = bsl (2 ^ L - 1) ++ (p.2 ++ prep (guarded L l)) := by
      show prep ((bsl (2 ^ L - 1) ++ [p.1]) ++ guarded L l) = _
      rw [prep_app, prep_app, prep_bs, prep_one, prep_sign hp, List.append_assoc]
    have hpos := Nat.two_pow_pos L
    rw [e, bsl_add, BT_cons]
    by_cases h1 : p.2 = []
    · rw [if_pos h1, h1, List.nil_append, ← ih]
      congr 2
      rw [Nat.add_mul, Nat.one_mul]; (first | lia | omega)
    rw [if_neg h1]
    by_cases h2 : p.1 = 92
    · obtain ⟨_, _, hs⟩ := shB_ok (good_sh hp)
      rcases hs with ⟨hs, _⟩ | ⟨c, cs, hs⟩
      · exact absurd hs h1
      have hc := hs.b92.mpr h2
      have hcs : cs = [] := by
        rcases List.eq_nil_or_concat cs with z | ⟨_, _, z⟩
        · exact z
        · exact absurd hc (hs.one (by rw [z]; simp)).1
      rw [if_pos h2, hs.e, hc, hcs, ← ih]
      show bsl _ ++ 92 :: prep (guarded L l) = _
      rw [bsl_one]
      congr 2
      rw [Nat.add_mul, Nat.one_mul]; (first | lia | omega)
    · rw [if_neg h2, ← ih 0 0, List.append_assoc]
      have e0 : bsl (0 * (2 ^ L - 1) + 0 * 2 ^ L) ++ prep (guarded L l) = prep (guarded L l) := by
        rw [Nat.zero_mul, Nat.zero_mul]; rfl
      rw [e0]
      congr 2
      unfold runN
      obtain ⟨a, ha⟩ : ∃ a, 2 ^ L = a + 1 := ⟨2 ^ L - 1, by have := Nat.two_pow_pos L; (first | lia | omega)⟩
      simp only [ha, Nat.pow_zero, Nat.div_one, Nat.add_sub_cancel, Nat.mul_add, Nat.add_mul, Nat.mul_one, Nat.one_mul, Nat.mul_comm a]
      (first | lia | omega)
theorem prep_guarded {L : Nat} (hL : L ≤ 3) {l : List Pr2} (h : ∀ p ∈ l, goodB p = true) : prep (guarded L l) = toldL l L 0 0 := by
  have hs : ∀ p ∈ l, shB p = true := fun p hp => good_sh (h p hp)
  rw [told_zero L 0 hs, TT_zero hs, ← grd_BT hL l 0 0 h, Nat.zero_mul, Nat.zero_mul]; rfl
theorem mem_wr {k : Nat} {b : Bool} {x : Nat} : ∀ {l : List Pr2}, x ∈ wr l k b → x = 92 ∨ ∃ p ∈ l, x ∈ part k p
  | [], h => by cases h
  | p :: l, h => by
    rw [wr_cons] at h
    rcases List.mem_append.mp h with h | h
    · unfold wr1 at h
      rcases List.mem_append.mp h with h | h
      · split at h
        · exact .inl (List.mem_singleton.mp h)
        · cases h
      · exact .inr ⟨p, .head _, h⟩
    · rcases mem_wr h with q | ⟨q, hq, hx⟩
      · exact .inl q
      · exact .inr ⟨q, .tail _ hq, hx⟩
theorem mem_page {wc k x : Nat} {l : List Pr2} (hw : wc ∈ wht) (h : x ∈ pageOf wc l k) : x < 128 ∨ ∃ p ∈ l, x ∈ part k p := by
  have hwc : wc < 128 := by
    simp only [wht, List.mem_cons, List.not_mem_nil, or_false] at hw
    (first | lia | omega)
  unfold pageOf at h
  have wrc : ∀ {b}, x ∈ wr l k b → x < 128 ∨ ∃ p ∈ l, x ∈ part k p := fun {b} hx => by
    rcases mem_wr hx with rfl | q
    · exact .inl (by decide)
    · exact .inr q
  rcases List.mem_append.mp h with h | h
  · rcases List.mem_append.mp h with h | h
    · rcases List.mem_append.mp h with h | h
      · rcases List.mem_append.mp h with h | h
        · rcases List.mem_append.mp h with h | h
          · have : ∀ x ∈ frontL, x < 128 := by decide
            exact .inl (this x h)
          · exact wrc h
        · rw [List.mem_singleton.mp h]; exact .inl hwc
      · rw [List.mem_singleton.mp h]; exact .inl (by decide)
    · exact wrc h
  · rw [List.mem_singleton.mp h]; exact .inl (by decide)
theorem mem_BT {L r x : Nat} : ∀ {l : List Pr2} {lost kept more : Nat}, x ∈ BT L r lost kept more l → x = 92 ∨ ∃ p ∈ l, x ∈ p.2
  | [], lost, kept, more, h => .inl (List.eq_of_mem_replicate h)
  | p :: l, lost, kept, more, h => by
    have up : ∀ {lost kept}, x ∈ BT L r lost kept more l → x = 92 ∨ ∃ q ∈ p :: l, x ∈ q.2 := fun hx => by
      rcases mem_BT hx with q | ⟨q, hq, hx⟩
      · exact .inl q
      · exact .inr ⟨q, .tail _ hq, hx⟩
    rw [BT_cons] at h
    split at h
    · exact up h
    split at h
    · exact up h
    · rcases List.mem_append.mp h with h | h
      · rcases List.mem_append.mp h with h | h
        · exact .inl (List.eq_of_mem_replicate h)
        · exact .inr ⟨p, .head _, h⟩
      · exact up h
theorem told_codes {l : List Pr2} (h : ∀ p ∈ l, shB p = true) (L t mn : Nat) : ∀ x ∈ toldL l L t mn, x < 1114112 := fun x hx => by
  rw [told_BT] at hx
  rcases mem_BT hx with rfl | ⟨p, hp, hx⟩
  · decide
  · exact (shB_ok (h p (List.mem_of_mem_drop (List.mem_of_mem_take hp)))).2.1 x hx
theorem part_codes {l : List Pr2} (h : ∀ p ∈ l, shB p = true) {k x : Nat} (hx : ∃ p ∈ l, x ∈ part k p) : x < 1114112 := by
  obtain ⟨p, hp, hx⟩ := hx
  obtain ⟨h1, h2, _⟩ := shB_ok (h p hp)
  unfold part at hx
  split at hx
  · rw [List.mem_singleton.mp hx]; exact h1
  · exact h2 x hx
theorem page_codes {l : List Pr2} (h : ∀ p ∈ l, shB p = true) {wc k : Nat} (hw : wc ∈ wht) : ∀ x ∈ pageOf wc l k, x < 1114112 := fun x hx => by
  rcases mem_page hw hx with q | q
  · (first | lia | omega)
  · exact part_codes h q
theorem plain_codes {l : List Pr2} (h : ∀ p ∈ l, shB p = true) : ∀ x ∈ plainOf l, x < 1114112 := fun x hx => by
  obtain ⟨y, hy, hx⟩ := List.mem_flatten.mp hx
  obtain ⟨p, hp, rfl⟩ := List.mem_map.mp hy
  exact (shB_ok (h p hp)).2.1 x hx
theorem open1_codes {l : List Pr2} (h : ∀ p ∈ l, shB p = true) : ∀ x ∈ open1 l, x < 1114112 := fun x hx => by
  unfold open1 at hx
  rcases List.mem_append.mp hx with q | q
  · rw [List.mem_singleton.mp q]; decide
  · rcases mem_wr q with rfl | q
    · decide
    · exact part_codes h q
theorem typed_ok {l : List Pr2} (h : ∀ p ∈ l, goodB p = true) {wc L : Nat} (hw : wc ∈ wht) : ∀ x ∈ pageOf wc l 0 ++ guarded L l, inB1 x = false → b3p x ≠ none ∨ x < 128 := fun x hx hb => by
  have key : (∃ p ∈ l, x ∈ part 0 p) → b3p x ≠ none ∨ x < 128 := fun ⟨p, hp, hx⟩ => by
    have : x = p.1 := List.mem_singleton.mp hx
    subst this
    exact sign_ok (h p hp) hb
  rcases List.mem_append.mp hx with hx | hx
  · rcases mem_page hw hx with q | q
    · exact .inr q
    · exact key q
  · obtain ⟨y, hy, hx⟩ := List.mem_flatten.mp hx
    obtain ⟨p, hp, rfl⟩ := List.mem_map.mp hy
    rcases List.mem_append.mp hx with hx | hx
    · rw [List.eq_of_mem_replicate hx]; exact .inr (by decide)
    · exact key ⟨p, hp, hx⟩
end Mine
end
section
open PySem PySem.W PySem.Calls PyProof.Rows
set_option Elab.async false
set_option maxRecDepth 100000
set_option maxHeartbeats 1000000
set_option linter.unusedVariables false
set_option linter.unusedSimpArgs false
namespace Mine
theorem lay_pos (f : Int) : 1 ≤ layOf f := by
  have := fmod_bd (a := f) (b := 3) (by decide)
  unfold layOf; omega
theorem lawW {w : World} {hB : Heap} (Bk : BOk w hB) {A : Around} {L : Addr} {fs : List (Addr × Obj)} (hA : AOk 30 A) {sa : Addr} {sc : List Int} {m : Lm} {H : Hp} (B : BList hB sa (aInts sc)) (hz : sc.length ≤ 63) (hs : Has m "script" (.ref sa)) (c1 : ∀ i : Nat, 1 ≤ i → i ≤ 6 → H (L + i) = some (AOcell none)) (T : TabL H) :
    WSS ⟨w, hB, A, L, fs⟩ (env170 L) (fBody (stm 16)) m H fun fl _ H' => fl = .ret (.bool true) ∧ TabL H' := by
  refine law0 Bk hA.1 B hz hs c1 T fun ia m1 H1 S1 hs1 => ?_
  refine law3 Bk hA B hz hs1 S1 fun ib m2 H2 S2 => ?_
  have hg := its0_good sc
  have hsm0 := small_its0 sc
  refine law4 Bk hA hsm0.1 (fun p hp => good_b1 (hg p hp)) S2 fun m3 H3 S3 => ?_
  refine law6 Bk hA hsm0.1 S3 fun ic m4 H4 S4 => ?_
  change LA L (firstOf sc) (itsOf sc) ic m4 H4 at S4
  have hsm := small_its sc
  have hsh := its_sh sc
  have hraw : rawOf (firstOf sc) = false → ∀ p ∈ itsOf sc, goodB p = true := fun hr p hp => by
    unfold itsOf at hp
    rw [hr, if_neg (by decide)] at hp
    exact hg p hp
  generalize itsOf sc = its at S4 hsm hsh hraw
  generalize firstOf sc = f at S4 hraw
  have hLy := layOf_le f
  have hw := white_wht f
  refine law7 Bk hA hsm S4 fun m5 H5 S5 => ?_
  refine law9 Bk hA hsm S5 fun m6 H6 S6 ht6 hp6 => ?_
  refine law10 Bk hA hsm S6 ht6 hp6 (fun hr => by rw [prep_app, prep_page (hraw hr) hw, prep_guarded hLy (hraw hr)]) (fun hr => typed_ok (hraw hr) hw) fun m7 H7 S7 hp7 hr7 => ?_
  have hpl := page_len (wc := whiteC f) (k := 1) hsm
  have hrl := told_len (t := 0) (mn := 0) hsm hLy
  have hcodes : ∀ n ∈ pageOf (whiteC f) its 1 ++ toldL its (layOf f) 0 0, n < 1114112 := fun n hn => by
    rcases List.mem_append.mp hn with q | q
    · exact page_codes hsh hw n q
    · exact told_codes hsh _ _ _ n q
  have hplain := plain_len hsm
  have hokp := plain_codes hsh
  have okP : okStrs [plainOf its] := fun x hx n hn => by
    rw [List.mem_singleton.mp hx] at hn; exact hokp n hn
  refine law12 Bk hA hsm S7 hp7 hr7 hpl hrl hcodes fun K m8 H8 M8 S8 => ?_
  obtain ⟨w1, w2, w3, w4⟩ := words_ok (l := its) (rs := toldL its (layOf f) 0 0) hsh hw
  refine law15 Bk hA S8 M8 (by (first | lia | omega)) okP w1 fun al m9 H9 M9 S9 hw9 ho9 hl9 => ?_
  rw [w2, w3, w4] at S9
  refine law17 Bk hA S9 M9 hw9 ho9 hl9 (by show 3 ≤ 10; decide) fun m10 H10 M10 S10 hw10 hl10 => ?_
  refine law18 Bk hA hsm S10 M10 hw10 ho9 hl10 hplain hokp (open1_codes hsh) (open1_ok hsh) (open2_ok _) fun m11 H11 M11 S11 hw11 hl11 => ?_
  refine law20 Bk hA S11 M11 hw11 ho9 hl11 hokp hrl fun H12 S12 => ?_
  refine law21 Bk hA hsm S12 M11 hrl (lay_pos f) (fun i hi => turns_ok hLy hsh i hi) (fun i hi mn _ => told_codes hsh _ _ _) fun tu m13 H13 M13 S13 => ?_
  obtain ⟨pre, epre⟩ := get_suf (toldL its (layOf f) 0 0)
  refine law23 Bk hA S13 M13 epre ?_ hrl hpl hplain fun _ _ T => ⟨rfl, T⟩
  have e1 : nl (toldL its (layOf f) 0 0) = nl pre + nl (getTok (toldL its (layOf f) 0 0)).2 := by rw [← nl_app, ← epre]
  rw [e1, nl_app]
  (first | lia | omega)
end Mine
end
section
open PySem PySem.W PySem.Calls PyProof.Rows
set_option Elab.async false
set_option maxRecDepth 100000
set_option maxHeartbeats 4000000
set_option linter.unusedVariables false
set_option linter.unusedSimpArgs false
namespace Mine
theorem reps_ints : ∀ {vs : List Value} {l : List Int}, IntsAre vs l → Reps (aInts l) vs
  | _, _, .nil => .nil
  | _, _, .cons n t h => .cons ⟨t, rfl⟩ (reps_ints h)
theorem filter_lookup {q : Addr → Bool} : ∀ {K : List (Addr × Obj)} {a : Addr} {o : Obj}, (K.filter fun p => q p.1).lookup a = some o → K.lookup a = some o ∧ q a = true
  | [], _, _, h => by cases h
  | (b, x) :: r, a, o, h => by
    rw [List.filter_cons] at h
    rw [List.lookup_cons]
    cases hq : q b with
    | true =>
      rw [hq] at h
      rw [if_pos rfl, List.lookup_cons] at h
      cases hb : a == b with
      | true => rw [hb] at h; exact ⟨h, by rw [beq_iff_eq.mp hb]; exact hq⟩
      | false => rw [hb] at h; exact filter_lookup h
    | false =>
      rw [hq] at h
      rw [if_neg (by decide)] at h
      have ih := filter_lookup (q := q) h
      cases hb : a == b with
      | true => rw [beq_iff_eq.mp hb, hq] at ih; cases ih.2
      | false => exact ih
theorem KX_look {P : Params} {a : Addr} {o : Obj} (h : (KX P).lookup a = some o) : (KL P).lookup a = some o ∧ a ≠ 141 := by
  have := filter_lookup (q := fun a => a != 141) h
  exact ⟨this.1, by simpa using this.2⟩
noncomputable def tabsL : List (Addr × Addr) := [(145, 141)]
noncomputable def H0 : Hp := fun b => if b = 141 then some tab0 else none
theorem callerOk : AOk 31 callerA := ⟨rfl, by decide, by decide⟩
theorem joined : WalkO lawQ looseL (fun _ _ => True) (InK KL) PySem.Challenge.rw_sc0083_01.row.toRowW lawD [] fun f vs => PySem.call f vs := by
  intro w s₀ s₁ mg mb G X a o pm cd doc dV kV ho hd hcd hD hmg hgens args vals as hpre hlay hrd hwl hlo
  have T := G.T
  clear G
  have X : (KL w.params).In s₁.heap := X
  have h170 : mg ("law" : Str) = some (.ref 170) := mg_of X T.g (by kernel_rfl)
  have ha : a = 170 := by
    have e : mg ("law" : Str) = some (.ref a) := hmg
    rw [h170] at e; cases e; rfl
  subst ha
  clear ho hd hcd hD hmg
  wrow_args hpre hlay hrd hwl hlo
  rename_i sc x1 x2 x3 x4 x5 as4 as3 sa vs as1 hl ra w1 r0 hI hr hc1 hc2
  have hz : sc.length ≤ 63 := by (first | lia | omega)
  clear x1 x2 x3 x4 x5 ra w1 r0 hr hc1 hc2
  have XX : (KX w.params).In s₁.heap := fun b o e => X b o (KX_look e).1
  have hT : TabsAt tabsL s₁.heap := fun q hq => by
    rw [List.mem_singleton.mp hq]
    exact ⟨codeHd_of_K XX (by kernel_rfl), X 141 _ (by kernel_rfl)⟩
  have hB1 : ∀ b o, (ghostOf s₁.heap tabsL).get? b = some o → s₁.heap.get? b = some o := fun b o e => of_hideAll _ e
  have hB2 : (ghostOf s₁.heap tabsL).get? 141 = none := hideAll_none _ (.head _)
  have hB3 : (ghostOf s₁.heap tabsL).objs.size = s₁.heap.objs.size := hideAll_size _ _
  have Bk : BOk w (ghostOf s₁.heap tabsL) := by
    refine ⟨fun b o e => ghost_ne (XX b o e) (by simpa [tabsL] using (KX_look e).2), let ⟨mc, a, r⟩ := T.nolimit; ⟨mc, ghost_ns hT a, r⟩, ⟨mg, mb, ghost_ns hT T.g, ghost_ns hT T.b, T.builtins⟩, ?_⟩
    obtain ⟨bm, ob, a1, a2, a3, a4, r⟩ := T.bmain
    exact ⟨mg, bm, ob, ghost_ns hT T.g, a1, a2, ghost_get hT a3 (fun q => by rw [q] at a4; cases a4), a4, r⟩
  have B : BList (ghostOf s₁.heap tabsL) sa (aInts sc) := ⟨vs, ghost_list hT hl, reps_ints hI⟩
  refine enter_call ?_
  refine kn_post hT (fun _ _ => rfl) ?_
  generalize ghostOf s₁.heap tabsL = hB at hB1 hB2 hB3 Bk B ⊢
  have K := ok170 w
  obtain ⟨o, hlk, hdat⟩ := K.look
  have rv : Reps [AV.ref sa] [Value.ref sa] := .cons rfl .nil
  refine codeAny_call_cells (fd := fd170) (body := fBody (stm 16)) (binds := List.zip ["script"] [Value.ref sa]) (by decide) (XX _ _ hlk) hdat T.nolimit (codeRec_of XX K.code) K.body (K.binds _ rfl) K.clo
    (fun x hx => K.loc _ x.1 (List.of_mem_zip hx).1) (fun s₂ IC => ?_) K.co K.gen K.kind
  obtain ⟨⟨⟨h₀, tk, rfl⟩, hns, hk, hfr⟩, hcell, hap, hab⟩ := IC
  have hbig : ∀ n a, (n, a) ∈ cellsFrom (s₁.heap.objs.size + 1) fd170.scope.names [] → s₁.heap.objs.size < a := fun n a hm => hab n a hm
  have h141 : s₁.heap.get? 141 = some (tabObj #[]) := X 141 _ (by kernel_rfl)
  have hlt141 : 141 < s₁.heap.objs.size := Heap.lt_size h141
  have hBn : ∀ a, s₁.heap.objs.size ≤ a → hB.get? a = none := fun a q => Heap.get?_none_of_le (by rw [hB3]; exact q)
  obtain ⟨hbL, hbC⟩ := bind_rep (k := (callEnvC fd170 s₁.heap.objs.size 170).kindOf) (ps := ["script"]) (m := []) (mm := fun _ => none) (cv := fun _ => none) (cm := fun _ => none) rv (fun x av e => by cases e) fun n => rfl
  have S' : ASt ⟨w, hB, callerA.deeper (callEnvC fd170 s₁.heap.objs.size 170), s₁.heap.objs.size, []⟩ (bindLA (callEnvC fd170 s₁.heap.objs.size 170).kindOf (List.zip ["script"] [AV.ref sa]) []) (cellsH (cellsFrom (s₁.heap.objs.size + 1) fd170.scope.names []) (bindCA (callEnvC fd170 s₁.heap.objs.size 170).kindOf (List.zip ["script"] [AV.ref sa]) fun _ => none) H0) h₀ := by
    refine ⟨⟨_, ⟨hns, fun b o e => hk b o (hB1 b o e), Nat.le_of_eq hB3⟩, hbL⟩, fun a ao e => ?_, ?_, (fun p hp => by cases hp), (fun p hp => by cases hp)⟩
    · rcases cellsH_some e with ⟨n, h1, rfl⟩ | ⟨_, e2⟩
      · have hlook : (cellsFrom (s₁.heap.objs.size + 1) fd170.scope.names []).lookup n = some a := K.cl _ n a h1
        obtain ⟨o, g1, g2⟩ := hcell n a hlook
        refine ⟨o, g1, ⟨_, g2, ?_⟩, Nat.ne_of_gt (hbig n a h1), hBn a (Nat.le_of_lt (hbig n a h1))⟩
        have := hbC n
        revert this
        show optRep _ _ → _
        generalize bindCA (callEnvC fd170 s₁.heap.objs.size 170).kindOf (List.zip ["script"] [AV.ref sa]) (fun _ => none) n = z
        cases z with
        | none => exact fun h => h
        | some a => exact fun h => h
      · clear e
        unfold H0 at e2
        split at e2
        · rename_i q; subst q; cases e2
          exact ⟨_, hk _ _ h141, rfl, Nat.ne_of_lt hlt141, hB2⟩
        · cases e2
    · refine cellsH_dom ⟨[141], by simp, fun a e => ?_⟩
      unfold H0 at e
      split at e
      · rename_i q; rw [q]; exact .head _
      · cases e
  have hbC0 : bindCA (callEnvC fd170 s₁.heap.objs.size 170).kindOf (List.zip (["script"] : List Str) [AV.ref sa]) (fun _ => none) = fun _ => none := by rfl
  have hbL0 : bindLA (callEnvC fd170 s₁.heap.objs.size 170).kindOf (List.zip (["script"] : List Str) [AV.ref sa]) [] = [(("script" : Str), AV.ref sa)] := by rfl
  rw [hbC0, hbL0, cf170] at S'
  clear hcell hap hab hbig hbL hbC hbC0 hbL0 hns
  change ASt _ _ (hup (hup (hup (hup (hup (hup H0 (s₁.heap.objs.size + 1) (AOcell none)) (s₁.heap.objs.size + 2) (AOcell none)) (s₁.heap.objs.size + 3) (AOcell none)) (s₁.heap.objs.size + 4) (AOcell none)) (s₁.heap.objs.size + 5) (AOcell none)) (s₁.heap.objs.size + 6) (AOcell none)) h₀ at S'
  have hc : ∀ i : Nat, 1 ≤ i → i ≤ 6 → (hup (hup (hup (hup (hup (hup H0 (s₁.heap.objs.size + 1) (AOcell none)) (s₁.heap.objs.size + 2) (AOcell none)) (s₁.heap.objs.size + 3) (AOcell none)) (s₁.heap.objs.size + 4) (AOcell none)) (s₁.heap.objs.size + 5) (AOcell none)) (s₁.heap.objs.size + 6) (AOcell none)) (s₁.heap.objs.size + i) = some (AOcell none) := fun i h1 h2 => by
    unfold hup
    match i, h1, h2 with
    | 1, _, _ => simp
    | 2, _, _ => simp
    | 3, _, _ => simp
    | 4, _, _ => simp
    | 5, _, _ => simp
    | 6, _, _ => simp
  have hT1 : TabL (hup (hup (hup (hup (hup (hup H0 (s₁.heap.objs.size + 1) (AOcell none)) (s₁.heap.objs.size + 2) (AOcell none)) (s₁.heap.objs.size + 3) (AOcell none)) (s₁.heap.objs.size + 4) (AOcell none)) (s₁.heap.objs.size + 5) (AOcell none)) (s₁.heap.objs.size + 6) (AOcell none)) := by
    have ne : ∀ i : Nat, 141 ≠ s₁.heap.objs.size + i := fun i => by (first | lia | omega)
    refine .inl ?_
    rw [hup_ne (ne 6), hup_ne (ne 5), hup_ne (ne 4), hup_ne (ne 3), hup_ne (ne 2), hup_ne (ne 1)]
    rfl
  generalize hup (hup (hup (hup (hup (hup H0 (s₁.heap.objs.size + 1) (AOcell none)) (s₁.heap.objs.size + 2) (AOcell none)) (s₁.heap.objs.size + 3) (AOcell none)) (s₁.heap.objs.size + 4) (AOcell none)) (s₁.heap.objs.size + 5) (AOcell none)) (s₁.heap.objs.size + 6) (AOcell none) = Hc at S' hc hT1
  have hA : AOk 30 (callerA.deeper (callEnvC fd170 s₁.heap.objs.size 170)) := ⟨rfl, by have := callerOk.2.1; show callerA.depth + 1 + 30 ≤ 990; (first | lia | omega), by have := callerOk.2.2; show callerA.units + 3 + 8 * 30 ≤ 9000; (first | lia | omega)⟩
  refine wpAny_mono (lawW Bk hA B hz (m := [(("script" : Str), AV.ref sa)]) rfl hc hT1 { s₁ with heap := h₀, toks := tk } S') ?_ (fun _ _ x => x.elim)
  rintro fl s' ⟨af, m', H', r, S2, z, hfl, TL⟩
  subst hfl
  obtain ⟨v, rfl, rv2⟩ := r
  have rv2 : v = .bool true := rv2
  subst rv2
  obtain ⟨es, e141⟩ := TL.raw
  obtain ⟨mm, F2⟩ := S2.frame
  refine ⟨⟨.inl ⟨.bool true, .bool true, [], rfl, fun _ => rfl, ReadsW.bool true, ?_, fun _ => ⟨List.nodup_nil, fun _ h => by cases h⟩⟩, F2.keep, z.2.2, z.1.trans hgens⟩, ⟨es, raw_at S2 e141⟩, trivial⟩
  first | rfl | wrow_post
theorem law_holds : PySem.Challenge.rw_sc0083_01.Holds := head joined
end Mine
end
set_option maxRecDepth 100000 in
set_option maxHeartbeats 8000000 in
theorem PySem.Challenge.cw_sc0083_01_holds : PySem.Challenge.rw_sc0083_01.Holds :=
  Mine.law_holds
