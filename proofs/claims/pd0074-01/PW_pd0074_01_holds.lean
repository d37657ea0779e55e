import PyProof.Rows.All
import Wide.All
import OpenK.AllK
import Wide.FinOn
import PySem.Challenge.RW_pd0074_01
set_option Elab.async false
set_option maxRecDepth 100000
set_option compiler.extract_closed false
set_option linter.all false
namespace Mine
open PySem PySem.W PyProof.Rows PySem.Calls
section
def clsBody : Stmt → List Stmt
  | .ClassDef _ _ _ b _ _ _ _ _ _ _ => b
  | _ => []
/-- what the top leaves: the objects that the law can come to (a def's parts are unified out of the program) -/
noncomputable def hd.heap_39 : Params → Frag := by
  intro P
  refine' (?f21 : (A : Arguments) → (B : List Stmt) → (Z : Scope) → PySem.Challenge.pw_pd0074_01.main.body.getD 0 (.Pass default) = Stmt.FunctionDef _ A B _ _ _ Z _ _ _ → Frag) _ _ _ rfl
  intro A21 B21 Z21 _
  refine' (?f28 : (A : Arguments) → (B : List Stmt) → (Z : Scope) → PySem.Challenge.pw_pd0074_01.main.body.getD 2 (.Pass default) = Stmt.FunctionDef _ A B _ _ _ Z _ _ _ → Frag) _ _ _ rfl
  intro A28 B28 Z28 _
  refine' (?f42 : (A : Arguments) → (B : List Stmt) → (Z : Scope) → (clsBody (PySem.Challenge.pw_pd0074_01.main.body.getD 4 (.Pass default))).getD 0 (.Pass default) = Stmt.FunctionDef _ A B _ _ _ Z _ _ _ → Frag) _ _ _ rfl
  intro A42 B42 Z42 _
  refine' (?f61 : (A : Arguments) → (B : List Stmt) → (Z : Scope) → (clsBody (PySem.Challenge.pw_pd0074_01.main.body.getD 6 (.Pass default))).getD 0 (.Pass default) = Stmt.FunctionDef _ A B _ _ _ Z _ _ _ → Frag) _ _ _ rfl
  intro A61 B61 Z61 _
  refine' (?f68 : (A : Arguments) → (B : List Stmt) → (Z : Scope) → (clsBody (PySem.Challenge.pw_pd0074_01.main.body.getD 6 (.Pass default))).getD 1 (.Pass default) = Stmt.FunctionDef _ A B _ _ _ Z _ _ _ → Frag) _ _ _ rfl
  intro A68 B68 Z68 _
  refine' (?f75 : (A : Arguments) → (B : List Stmt) → (Z : Scope) → (clsBody (PySem.Challenge.pw_pd0074_01.main.body.getD 6 (.Pass default))).getD 2 (.Pass default) = Stmt.FunctionDef _ A B _ _ _ Z _ _ _ → Frag) _ _ _ rfl
  intro A75 B75 Z75 _
  refine' (?f87 : (A : Arguments) → (B : List Stmt) → (Z : Scope) → PySem.Challenge.pw_pd0074_01.main.body.getD 7 (.Pass default) = Stmt.FunctionDef _ A B _ _ _ Z _ _ _ → Frag) _ _ _ rfl
  intro A87 B87 Z87 _
  refine' (?f94 : (A : Arguments) → (B : List Stmt) → (Z : Scope) → PySem.Challenge.pw_pd0074_01.main.body.getD 9 (.Pass default) = Stmt.FunctionDef _ A B _ _ _ Z _ _ _ → Frag) _ _ _ rfl
  intro A94 B94 Z94 _
  refine' (?f101 : (A : Arguments) → (B : List Stmt) → (Z : Scope) → PySem.Challenge.pw_pd0074_01.main.body.getD 11 (.Pass default) = Stmt.FunctionDef _ A B _ _ _ Z _ _ _ → Frag) _ _ _ rfl
  intro A101 B101 Z101 _
  refine' (?f108 : (A : Arguments) → (B : List Stmt) → (Z : Scope) → PySem.Challenge.pw_pd0074_01.main.body.getD 13 (.Pass default) = Stmt.FunctionDef _ A B _ _ _ Z _ _ _ → Frag) _ _ _ rfl
  intro A108 B108 Z108 _
  refine' (?f115 : (A : Arguments) → (B : List Stmt) → (Z : Scope) → PySem.Challenge.pw_pd0074_01.main.body.getD 14 (.Pass default) = Stmt.FunctionDef _ A B _ _ _ Z _ _ _ → Frag) _ _ _ rfl
  intro A115 B115 Z115 _
  refine' (?f122 : (A : Arguments) → (B : List Stmt) → (Z : Scope) → PySem.Challenge.pw_pd0074_01.main.body.getD 15 (.Pass default) = Stmt.FunctionDef _ A B _ _ _ Z _ _ _ → Frag) _ _ _ rfl
  intro A122 B122 Z122 _
  refine' (?f129 : (A : Arguments) → (B : List Stmt) → (Z : Scope) → PySem.Challenge.pw_pd0074_01.main.body.getD 16 (.Pass default) = Stmt.FunctionDef _ A B _ _ _ Z _ _ _ → Frag) _ _ _ rfl
  intro A129 B129 Z129 _
  refine' (?f136 : (A : Arguments) → (B : List Stmt) → (Z : Scope) → PySem.Challenge.pw_pd0074_01.main.body.getD 17 (.Pass default) = Stmt.FunctionDef _ A B _ _ _ Z _ _ _ → Frag) _ _ _ rfl
  intro A136 B136 Z136 _
  refine' (?f150 : (A : Arguments) → (B : List Stmt) → (Z : Scope) → (clsBody (PySem.Challenge.pw_pd0074_01.main.body.getD 19 (.Pass default))).getD 0 (.Pass default) = Stmt.FunctionDef _ A B _ _ _ Z _ _ _ → Frag) _ _ _ rfl
  intro A150 B150 Z150 _
  refine' (?f157 : (A : Arguments) → (B : List Stmt) → (Z : Scope) → (clsBody (PySem.Challenge.pw_pd0074_01.main.body.getD 19 (.Pass default))).getD 1 (.Pass default) = Stmt.FunctionDef _ A B _ _ _ Z _ _ _ → Frag) _ _ _ rfl
  intro A157 B157 Z157 _
  refine' (?f164 : (A : Arguments) → (B : List Stmt) → (Z : Scope) → (clsBody (PySem.Challenge.pw_pd0074_01.main.body.getD 19 (.Pass default))).getD 2 (.Pass default) = Stmt.FunctionDef _ A B _ _ _ Z _ _ _ → Frag) _ _ _ rfl
  intro A164 B164 Z164 _
  refine' (?f171 : (A : Arguments) → (B : List Stmt) → (Z : Scope) → (clsBody (PySem.Challenge.pw_pd0074_01.main.body.getD 19 (.Pass default))).getD 3 (.Pass default) = Stmt.FunctionDef _ A B _ _ _ Z _ _ _ → Frag) _ _ _ rfl
  intro A171 B171 Z171 _
  refine' (?f183 : (A : Arguments) → (B : List Stmt) → (Z : Scope) → PySem.Challenge.pw_pd0074_01.main.body.getD 21 (.Pass default) = Stmt.FunctionDef _ A B _ _ _ Z _ _ _ → Frag) _ _ _ rfl
  intro A183 B183 Z183 _
  refine' (?f190 : (A : Arguments) → (B : List Stmt) → (Z : Scope) → PySem.Challenge.pw_pd0074_01.main.body.getD 22 (.Pass default) = Stmt.FunctionDef _ A B _ _ _ Z _ _ _ → Frag) _ _ _ rfl
  intro A190 B190 Z190 _
  refine' (?f197 : (A : Arguments) → (B : List Stmt) → (Z : Scope) → PySem.Challenge.pw_pd0074_01.main.body.getD 23 (.Pass default) = Stmt.FunctionDef _ A B _ _ _ Z _ _ _ → Frag) _ _ _ rfl
  intro A197 B197 Z197 _
  refine' (?f204 : (A : Arguments) → (B : List Stmt) → (Z : Scope) → PySem.Challenge.pw_pd0074_01.main.body.getD 24 (.Pass default) = Stmt.FunctionDef _ A B _ _ _ Z _ _ _ → Frag) _ _ _ rfl
  intro A204 B204 Z204 _
  refine' (?f211 : (A : Arguments) → (B : List Stmt) → (Z : Scope) → PySem.Challenge.pw_pd0074_01.main.body.getD 25 (.Pass default) = Stmt.FunctionDef _ A B _ _ _ Z _ _ _ → Frag) _ _ _ rfl
  intro A211 B211 Z211 _
  refine' (?f218 : (A : Arguments) → (B : List Stmt) → (Z : Scope) → PySem.Challenge.pw_pd0074_01.main.body.getD 26 (.Pass default) = Stmt.FunctionDef _ A B _ _ _ Z _ _ _ → Frag) _ _ _ rfl
  intro A218 B218 Z218 _
  refine' (?f225 : (A : Arguments) → (B : List Stmt) → (Z : Scope) → PySem.Challenge.pw_pd0074_01.main.body.getD 27 (.Pass default) = Stmt.FunctionDef _ A B _ _ _ Z _ _ _ → Frag) _ _ _ rfl
  intro A225 B225 Z225 _
  refine' (?f230 : (A : Arguments) → (B : List Stmt) → (Z : Scope) → PySem.Challenge.pw_pd0074_01.main.body.getD 28 (.Pass default) = Stmt.FunctionDef _ A B _ _ _ Z _ _ _ → Frag) _ _ _ rfl
  intro A230 B230 Z230 _
  refine' (?f235 : (A : Arguments) → (B : List Stmt) → (Z : Scope) → PySem.Challenge.pw_pd0074_01.main.body.getD 29 (.Pass default) = Stmt.FunctionDef _ A B _ _ _ Z _ _ _ → Frag) _ _ _ rfl
  intro A235 B235 Z235 _
  exact (
    (nat_lit 2, Obj.mk Value.none none (Data.dict #[]) #[]) ::
    (nat_lit 3, Obj.mk (Value.type "dict") none (Data.dict #[DictEntry.mk (PyData.keyHash P (Str.ofString "__name__")) (Value.str (Str.ofString "__name__") 165) (Value.str (Str.ofString "law_pd0074_01") 420), DictEntry.mk (PyData.keyHash P (Str.ofString "__doc__")) (Value.str (Str.ofString "__doc__") 166) Value.none, DictEntry.mk (PyData.keyHash P (Str.ofString "__package__")) (Value.str (Str.ofString "__package__") 167) Value.none, DictEntry.mk (PyData.keyHash P (Str.ofString "__loader__")) (Value.str (Str.ofString "__loader__") 168) (Value.builtin "__main__.__loader__#opaque"), DictEntry.mk (PyData.keyHash P (Str.ofString "__spec__")) (Value.str (Str.ofString "__spec__") 169) Value.none, DictEntry.mk (PyData.keyHash P (Str.ofString "__annotations__")) (Value.str (Str.ofString "__annotations__") 170) (Value.ref 6), DictEntry.mk (PyData.keyHash P (Str.ofString "__builtins__")) (Value.str (Str.ofString "__builtins__") 171) (Value.ref 4), DictEntry.mk (PyData.keyHash P (Str.ofString "__file__")) (Value.str (Str.ofString "__file__") 173) (Value.str (Str.ofString "/claim/cut.py") 172), DictEntry.mk (PyData.keyHash P (Str.ofString "__cached__")) (Value.str (Str.ofString "__cached__") 174) Value.none, DictEntry.mk (PyData.keyHash P (Str.ofString "_wall")) (Value.str (Str.ofString "_wall") 193) (Value.ref 21), DictEntry.mk (PyData.keyHash P (Str.ofString "_plain_name")) (Value.str (Str.ofString "_plain_name") 204) (Value.ref 28), DictEntry.mk (PyData.keyHash P (Str.ofString "ABCMeta")) (Value.str (Str.ofString "ABCMeta") 230) (Value.ref 45), DictEntry.mk (PyData.keyHash P (Str.ofString "_ABCLike")) (Value.str (Str.ofString "_ABCLike") 273) (Value.ref 78), DictEntry.mk (PyData.keyHash P (Str.ofString "_abc_plain_meta")) (Value.str (Str.ofString "_abc_plain_meta") 280) (Value.ref 87), DictEntry.mk (PyData.keyHash P (Str.ofString "fspath")) (Value.str (Str.ofString "fspath") 292) (Value.ref 94), DictEntry.mk (PyData.keyHash P (Str.ofString "_check_arg_types")) (Value.str (Str.ofString "_check_arg_types") 305) (Value.ref 101), DictEntry.mk (PyData.keyHash P (Str.ofString "_get_sep")) (Value.str (Str.ofString "_get_sep") 314) (Value.ref 108), DictEntry.mk (PyData.keyHash P (Str.ofString "join")) (Value.str (Str.ofString "join") 325) (Value.ref 115), DictEntry.mk (PyData.keyHash P (Str.ofString "splitroot")) (Value.str (Str.ofString "splitroot") 334) (Value.ref 122), DictEntry.mk (PyData.keyHash P (Str.ofString "dirname")) (Value.str (Str.ofString "dirname") 344) (Value.ref 129), DictEntry.mk (PyData.keyHash P (Str.ofString "normpath")) (Value.str (Str.ofString "normpath") 359) (Value.ref 136), DictEntry.mk (PyData.keyHash P (Str.ofString "_netrclex")) (Value.str (Str.ofString "_netrclex") 419) (Value.ref 174), DictEntry.mk (PyData.keyHash P (Str.ofString "_law_numbers")) (Value.str (Str.ofString "_law_numbers") 427) (Value.ref 183), DictEntry.mk (PyData.keyHash P (Str.ofString "_law_item")) (Value.str (Str.ofString "_law_item") 434) (Value.ref 190), DictEntry.mk (PyData.keyHash P (Str.ofString "_law_write")) (Value.str (Str.ofString "_law_write") 444) (Value.ref 197), DictEntry.mk (PyData.keyHash P (Str.ofString "_law_file")) (Value.str (Str.ofString "_law_file") 458) (Value.ref 204), DictEntry.mk (PyData.keyHash P (Str.ofString "_law_machine")) (Value.str (Str.ofString "_law_machine") 469) (Value.ref 211), DictEntry.mk (PyData.keyHash P (Str.ofString "_law_follow")) (Value.str (Str.ofString "_law_follow") 483) (Value.ref 218), DictEntry.mk (PyData.keyHash P (Str.ofString "_law_goal")) (Value.str (Str.ofString "_law_goal") 494) (Value.ref 225), DictEntry.mk (PyData.keyHash P (Str.ofString "_law_levels")) (Value.str (Str.ofString "_law_levels") 500) (Value.ref 230), DictEntry.mk (PyData.keyHash P (Str.ofString "law")) (Value.str (Str.ofString "law") 506) (Value.ref 235)] 31) #[]) ::
    (nat_lit 15, Obj.mk (Value.type "tuple") none (Data.seq #[]) #[]) ::
    (nat_lit 17, Obj.mk (Value.type "tuple") none (Data.seq #[Value.str (Str.ofString "k") 190]) #[]) ::
    (nat_lit 18, Obj.mk (Value.type "tuple") none (Data.seq #[]) #[]) ::
    (nat_lit 20, Obj.mk (Value.type "code") none (Data.fields #[Value.str (Str.ofString "_wall") 187, Value.str (Str.ofString "_wall") 188, Value.str (Str.ofString "/claim/cut.py") 189, Value.int 1 0, Value.int 1 0, Value.int 0 0, Value.int 0 0, Value.int 3 0, Value.ref 15, Value.bool true, Value.int 181 0, Value.ref 16, Value.none, Value.ref 17, Value.ref 18, Value.ref 19, Value.int 191 0, Value.int 1 0, Value.str (Str.ofString "/claim/cut.py") 192]) #[]) ::
    (nat_lit 21, Obj.mk (Value.type "function") none (Data.func (FuncData.mk (Str.ofString "_wall") (Str.ofString "_wall") A21 (FuncBody.stmts B21) Z21 3 [] Value.none Value.none Value.none (Value.str (Str.ofString "__main__") 164) none (Value.ref 20) Value.none 0)) #[]) ::
    (nat_lit 22, Obj.mk (Value.type "tuple") none (Data.seq #[]) #[]) ::
    (nat_lit 24, Obj.mk (Value.type "tuple") none (Data.seq #[Value.str (Str.ofString "x") 199, Value.str (Str.ofString "what") 200, Value.str (Str.ofString "kind") 201]) #[]) ::
    (nat_lit 25, Obj.mk (Value.type "tuple") none (Data.seq #[]) #[]) ::
    (nat_lit 27, Obj.mk (Value.type "code") none (Data.fields #[Value.str (Str.ofString "_plain_name") 196, Value.str (Str.ofString "_plain_name") 197, Value.str (Str.ofString "/claim/cut.py") 198, Value.int 5 0, Value.int 2 0, Value.int 0 0, Value.int 0 0, Value.int 3 0, Value.ref 22, Value.bool true, Value.int 181 0, Value.ref 23, Value.none, Value.ref 24, Value.ref 25, Value.ref 26, Value.int 202 0, Value.int 5 0, Value.str (Str.ofString "/claim/cut.py") 203]) #[]) ::
    (nat_lit 28, Obj.mk (Value.type "function") none (Data.func (FuncData.mk (Str.ofString "_plain_name") (Str.ofString "_plain_name") A28 (FuncBody.stmts B28) Z28 3 [] Value.none Value.none Value.none (Value.str (Str.ofString "os") 194) none (Value.ref 27) Value.none 0)) #[]) ::
    (nat_lit 29, Obj.mk (Value.type "tuple") none (Data.seq #[Value.type "type"]) #[]) ::
    (nat_lit 36, Obj.mk (Value.type "tuple") none (Data.seq #[]) #[]) ::
    (nat_lit 38, Obj.mk (Value.type "tuple") none (Data.seq #[Value.str (Str.ofString "cls") 222, Value.str (Str.ofString "subclass") 223]) #[]) ::
    (nat_lit 39, Obj.mk (Value.type "tuple") none (Data.seq #[]) #[]) ::
    (nat_lit 41, Obj.mk (Value.type "code") none (Data.fields #[Value.str (Str.ofString "register") 219, Value.str (Str.ofString "ABCMeta.register") 220, Value.str (Str.ofString "/claim/cut.py") 221, Value.int 13 0, Value.int 2 0, Value.int 0 0, Value.int 0 0, Value.int 3 0, Value.ref 36, Value.bool true, Value.int 181 0, Value.ref 37, Value.none, Value.ref 38, Value.ref 39, Value.ref 40, Value.int 224 0, Value.int 13 0, Value.str (Str.ofString "/claim/cut.py") 225]) #[]) ::
    (nat_lit 42, Obj.mk (Value.type "function") none (Data.func (FuncData.mk (Str.ofString "register") (Str.ofString "ABCMeta.register") A42 (FuncBody.stmts B42) Z42 3 [] Value.none Value.none Value.none (Value.str (Str.ofString "abc") 205) none (Value.ref 41) Value.none 0)) #[]) ::
    (nat_lit 43, Obj.mk (Value.type "tuple") none (Data.seq #[]) #[]) ::
    (nat_lit 44, Obj.mk (Value.type "dict") none (Data.dict #[DictEntry.mk (PyData.keyHash P (Str.ofString "__module__")) (Value.str (Str.ofString "__module__") 214) (Value.str (Str.ofString "abc") 205), DictEntry.mk (PyData.keyHash P (Str.ofString "__firstlineno__")) (Value.str (Str.ofString "__firstlineno__") 218) (Value.int 11 217), DictEntry.mk (PyData.keyHash P (Str.ofString "register")) (Value.str (Str.ofString "register") 226) (Value.ref 42), DictEntry.mk (PyData.keyHash P (Str.ofString "__static_attributes__")) (Value.str (Str.ofString "__static_attributes__") 227) (Value.ref 43), DictEntry.mk (PyData.keyHash P (Str.ofString "__doc__")) (Value.str (Str.ofString "__doc__") 228) Value.none] 2) #[]) ::
    (nat_lit 45, Obj.mk (Value.type "type") none (Data.cls (ClassData.mk (Str.ofString "ABCMeta") [Value.type "type"] [Value.ref 45, Value.type "type", Value.type "object"] 44 (Str.ofString "ABCMeta") true [] [Value.ref 78] false none false)) #[some (Value.ref 29), none, some (Value.str (Str.ofString "ABCMeta") 207), some (Value.str (Str.ofString "ABCMeta") 215), some (Value.builtin "type.__new__"), some (Value.bool true)]) ::
    (nat_lit 48, Obj.mk (Value.type "tuple") none (Data.seq #[Value.ref 45]) #[]) ::
    (nat_lit 55, Obj.mk (Value.type "tuple") none (Data.seq #[]) #[]) ::
    (nat_lit 57, Obj.mk (Value.type "tuple") none (Data.seq #[Value.str (Str.ofString "cls") 248, Value.str (Str.ofString "instance") 249, Value.str (Str.ofString "C") 250]) #[]) ::
    (nat_lit 58, Obj.mk (Value.type "tuple") none (Data.seq #[]) #[]) ::
    (nat_lit 60, Obj.mk (Value.type "code") none (Data.fields #[Value.str (Str.ofString "__instancecheck__") 245, Value.str (Str.ofString "_ABCLike.__instancecheck__") 246, Value.str (Str.ofString "/claim/cut.py") 247, Value.int 18 0, Value.int 2 0, Value.int 0 0, Value.int 0 0, Value.int 3 0, Value.ref 55, Value.bool true, Value.int 181 0, Value.ref 56, Value.none, Value.ref 57, Value.ref 58, Value.ref 59, Value.int 251 0, Value.int 18 0, Value.str (Str.ofString "/claim/cut.py") 252]) #[]) ::
    (nat_lit 61, Obj.mk (Value.type "function") none (Data.func (FuncData.mk (Str.ofString "__instancecheck__") (Str.ofString "_ABCLike.__instancecheck__") A61 (FuncBody.stmts B61) Z61 3 [] Value.none Value.none Value.none (Value.str (Str.ofString "collections.abc") 231) none (Value.ref 60) Value.none 0)) #[]) ::
    (nat_lit 62, Obj.mk (Value.type "tuple") none (Data.seq #[]) #[]) ::
    (nat_lit 64, Obj.mk (Value.type "tuple") none (Data.seq #[Value.str (Str.ofString "cls") 257, Value.str (Str.ofString "C") 258]) #[]) ::
    (nat_lit 65, Obj.mk (Value.type "tuple") none (Data.seq #[]) #[]) ::
    (nat_lit 67, Obj.mk (Value.type "code") none (Data.fields #[Value.str (Str.ofString "__subclasscheck__") 254, Value.str (Str.ofString "_ABCLike.__subclasscheck__") 255, Value.str (Str.ofString "/claim/cut.py") 256, Value.int 24 0, Value.int 2 0, Value.int 0 0, Value.int 0 0, Value.int 3 0, Value.ref 62, Value.bool true, Value.int 181 0, Value.ref 63, Value.none, Value.ref 64, Value.ref 65, Value.ref 66, Value.int 259 0, Value.int 24 0, Value.str (Str.ofString "/claim/cut.py") 260]) #[]) ::
    (nat_lit 68, Obj.mk (Value.type "function") none (Data.func (FuncData.mk (Str.ofString "__subclasscheck__") (Str.ofString "_ABCLike.__subclasscheck__") A68 (FuncBody.stmts B68) Z68 3 [] Value.none Value.none Value.none (Value.str (Str.ofString "collections.abc") 231) none (Value.ref 67) Value.none 0)) #[]) ::
    (nat_lit 69, Obj.mk (Value.type "tuple") none (Data.seq #[]) #[]) ::
    (nat_lit 71, Obj.mk (Value.type "tuple") none (Data.seq #[Value.str (Str.ofString "cls") 265, Value.str (Str.ofString "subclass") 266]) #[]) ::
    (nat_lit 72, Obj.mk (Value.type "tuple") none (Data.seq #[]) #[]) ::
    (nat_lit 74, Obj.mk (Value.type "code") none (Data.fields #[Value.str (Str.ofString "register") 262, Value.str (Str.ofString "_ABCLike.register") 263, Value.str (Str.ofString "/claim/cut.py") 264, Value.int 29 0, Value.int 2 0, Value.int 0 0, Value.int 0 0, Value.int 3 0, Value.ref 69, Value.bool true, Value.int 181 0, Value.ref 70, Value.none, Value.ref 71, Value.ref 72, Value.ref 73, Value.int 267 0, Value.int 29 0, Value.str (Str.ofString "/claim/cut.py") 268]) #[]) ::
    (nat_lit 75, Obj.mk (Value.type "function") none (Data.func (FuncData.mk (Str.ofString "register") (Str.ofString "_ABCLike.register") A75 (FuncBody.stmts B75) Z75 3 [] Value.none Value.none Value.none (Value.str (Str.ofString "collections.abc") 231) none (Value.ref 74) Value.none 0)) #[]) ::
    (nat_lit 76, Obj.mk (Value.type "tuple") none (Data.seq #[]) #[]) ::
    (nat_lit 77, Obj.mk (Value.type "dict") none (Data.dict #[DictEntry.mk (PyData.keyHash P (Str.ofString "__module__")) (Value.str (Str.ofString "__module__") 240) (Value.str (Str.ofString "collections.abc") 231), DictEntry.mk (PyData.keyHash P (Str.ofString "__firstlineno__")) (Value.str (Str.ofString "__firstlineno__") 244) (Value.int 16 243), DictEntry.mk (PyData.keyHash P (Str.ofString "__instancecheck__")) (Value.str (Str.ofString "__instancecheck__") 253) (Value.ref 61), DictEntry.mk (PyData.keyHash P (Str.ofString "__subclasscheck__")) (Value.str (Str.ofString "__subclasscheck__") 261) (Value.ref 68), DictEntry.mk (PyData.keyHash P (Str.ofString "register")) (Value.str (Str.ofString "register") 269) (Value.ref 75), DictEntry.mk (PyData.keyHash P (Str.ofString "__static_attributes__")) (Value.str (Str.ofString "__static_attributes__") 270) (Value.ref 76), DictEntry.mk (PyData.keyHash P (Str.ofString "__doc__")) (Value.str (Str.ofString "__doc__") 271) Value.none] 2) #[]) ::
    (nat_lit 78, Obj.mk (Value.type "type") none (Data.cls (ClassData.mk (Str.ofString "_ABCLike") [Value.ref 45] [Value.ref 78, Value.ref 45, Value.type "type", Value.type "object"] 77 (Str.ofString "_ABCLike") true [] [] false none false)) #[some (Value.ref 48), none, some (Value.str (Str.ofString "_ABCLike") 233), some (Value.str (Str.ofString "_ABCLike") 241), some (Value.builtin "type.__new__"), some (Value.bool true)]) ::
    (nat_lit 81, Obj.mk (Value.type "tuple") none (Data.seq #[]) #[]) ::
    (nat_lit 83, Obj.mk (Value.type "tuple") none (Data.seq #[Value.str (Str.ofString "C") 277]) #[]) ::
    (nat_lit 84, Obj.mk (Value.type "tuple") none (Data.seq #[]) #[]) ::
    (nat_lit 86, Obj.mk (Value.type "code") none (Data.fields #[Value.str (Str.ofString "_abc_plain_meta") 274, Value.str (Str.ofString "_abc_plain_meta") 275, Value.str (Str.ofString "/claim/cut.py") 276, Value.int 31 0, Value.int 1 0, Value.int 0 0, Value.int 0 0, Value.int 3 0, Value.ref 81, Value.bool true, Value.int 181 0, Value.ref 82, Value.none, Value.ref 83, Value.ref 84, Value.ref 85, Value.int 278 0, Value.int 31 0, Value.str (Str.ofString "/claim/cut.py") 279]) #[]) ::
    (nat_lit 87, Obj.mk (Value.type "function") none (Data.func (FuncData.mk (Str.ofString "_abc_plain_meta") (Str.ofString "_abc_plain_meta") A87 (FuncBody.stmts B87) Z87 3 [] Value.none Value.none Value.none (Value.str (Str.ofString "collections.abc") 231) none (Value.ref 86) Value.none 0)) #[]) ::
    (nat_lit 88, Obj.mk (Value.type "tuple") none (Data.seq #[]) #[]) ::
    (nat_lit 90, Obj.mk (Value.type "tuple") none (Data.seq #[Value.str (Str.ofString "path") 286, Value.str (Str.ofString "kind") 287, Value.str (Str.ofString "hook") 288, Value.str (Str.ofString "given") 289]) #[]) ::
    (nat_lit 91, Obj.mk (Value.type "tuple") none (Data.seq #[]) #[]) ::
    (nat_lit 93, Obj.mk (Value.type "code") none (Data.fields #[Value.str (Str.ofString "fspath") 283, Value.str (Str.ofString "fspath") 284, Value.str (Str.ofString "/claim/cut.py") 285, Value.int 35 0, Value.int 1 0, Value.int 0 0, Value.int 0 0, Value.int 3 0, Value.ref 88, Value.bool true, Value.int 181 0, Value.ref 89, Value.none, Value.ref 90, Value.ref 91, Value.ref 92, Value.int 290 0, Value.int 35 0, Value.str (Str.ofString "/claim/cut.py") 291]) #[]) ::
    (nat_lit 94, Obj.mk (Value.type "function") none (Data.func (FuncData.mk (Str.ofString "fspath") (Str.ofString "fspath") A94 (FuncBody.stmts B94) Z94 3 [] Value.none Value.none Value.none (Value.str (Str.ofString "os") 281) none (Value.ref 93) Value.none 0)) #[]) ::
    (nat_lit 95, Obj.mk (Value.type "tuple") none (Data.seq #[]) #[]) ::
    (nat_lit 97, Obj.mk (Value.type "tuple") none (Data.seq #[Value.str (Str.ofString "funcname") 298, Value.str (Str.ofString "args") 299, Value.str (Str.ofString "hasstr") 300, Value.str (Str.ofString "hasbytes") 301, Value.str (Str.ofString "s") 302]) #[]) ::
    (nat_lit 98, Obj.mk (Value.type "tuple") none (Data.seq #[]) #[]) ::
    (nat_lit 100, Obj.mk (Value.type "code") none (Data.fields #[Value.str (Str.ofString "_check_arg_types") 295, Value.str (Str.ofString "_check_arg_types") 296, Value.str (Str.ofString "/claim/cut.py") 297, Value.int 52 0, Value.int 1 0, Value.int 0 0, Value.int 0 0, Value.int 7 0, Value.ref 95, Value.bool true, Value.int 181 0, Value.ref 96, Value.none, Value.ref 97, Value.ref 98, Value.ref 99, Value.int 303 0, Value.int 52 0, Value.str (Str.ofString "/claim/cut.py") 304]) #[]) ::
    (nat_lit 101, Obj.mk (Value.type "function") none (Data.func (FuncData.mk (Str.ofString "_check_arg_types") (Str.ofString "_check_arg_types") A101 (FuncBody.stmts B101) Z101 3 [] Value.none Value.none Value.none (Value.str (Str.ofString "cpy313.genericpath") 293) none (Value.ref 100) Value.none 0)) #[]) ::
    (nat_lit 102, Obj.mk (Value.type "tuple") none (Data.seq #[]) #[]) ::
    (nat_lit 104, Obj.mk (Value.type "tuple") none (Data.seq #[Value.str (Str.ofString "path") 311]) #[]) ::
    (nat_lit 105, Obj.mk (Value.type "tuple") none (Data.seq #[]) #[]) ::
    (nat_lit 107, Obj.mk (Value.type "code") none (Data.fields #[Value.str (Str.ofString "_get_sep") 308, Value.str (Str.ofString "_get_sep") 309, Value.str (Str.ofString "/claim/cut.py") 310, Value.int 64 0, Value.int 1 0, Value.int 0 0, Value.int 0 0, Value.int 3 0, Value.ref 102, Value.bool true, Value.int 181 0, Value.ref 103, Value.none, Value.ref 104, Value.ref 105, Value.ref 106, Value.int 312 0, Value.int 64 0, Value.str (Str.ofString "/claim/cut.py") 313]) #[]) ::
    (nat_lit 108, Obj.mk (Value.type "function") none (Data.func (FuncData.mk (Str.ofString "_get_sep") (Str.ofString "_get_sep") A108 (FuncBody.stmts B108) Z108 3 [] Value.none Value.none Value.none (Value.str (Str.ofString "cpy313.posixpath") 306) none (Value.ref 107) Value.none 0)) #[]) ::
    (nat_lit 109, Obj.mk (Value.type "tuple") none (Data.seq #[]) #[]) ::
    (nat_lit 111, Obj.mk (Value.type "tuple") none (Data.seq #[Value.str (Str.ofString "a") 318, Value.str (Str.ofString "p") 319, Value.str (Str.ofString "sep") 320, Value.str (Str.ofString "path") 321, Value.str (Str.ofString "b") 322]) #[]) ::
    (nat_lit 112, Obj.mk (Value.type "tuple") none (Data.seq #[]) #[]) ::
    (nat_lit 114, Obj.mk (Value.type "code") none (Data.fields #[Value.str (Str.ofString "join") 315, Value.str (Str.ofString "join") 316, Value.str (Str.ofString "/claim/cut.py") 317, Value.int 69 0, Value.int 1 0, Value.int 0 0, Value.int 0 0, Value.int 7 0, Value.ref 109, Value.bool true, Value.int 181 0, Value.ref 110, Value.none, Value.ref 111, Value.ref 112, Value.ref 113, Value.int 323 0, Value.int 69 0, Value.str (Str.ofString "/claim/cut.py") 324]) #[]) ::
    (nat_lit 115, Obj.mk (Value.type "function") none (Data.func (FuncData.mk (Str.ofString "join") (Str.ofString "join") A115 (FuncBody.stmts B115) Z115 3 [] Value.none Value.none Value.none (Value.str (Str.ofString "cpy313.posixpath") 306) none (Value.ref 114) Value.none 0)) #[]) ::
    (nat_lit 116, Obj.mk (Value.type "tuple") none (Data.seq #[]) #[]) ::
    (nat_lit 118, Obj.mk (Value.type "tuple") none (Data.seq #[Value.str (Str.ofString "p") 329, Value.str (Str.ofString "sep") 330, Value.str (Str.ofString "empty") 331]) #[]) ::
    (nat_lit 119, Obj.mk (Value.type "tuple") none (Data.seq #[]) #[]) ::
    (nat_lit 121, Obj.mk (Value.type "code") none (Data.fields #[Value.str (Str.ofString "splitroot") 326, Value.str (Str.ofString "splitroot") 327, Value.str (Str.ofString "/claim/cut.py") 328, Value.int 86 0, Value.int 1 0, Value.int 0 0, Value.int 0 0, Value.int 3 0, Value.ref 116, Value.bool true, Value.int 181 0, Value.ref 117, Value.none, Value.ref 118, Value.ref 119, Value.ref 120, Value.int 332 0, Value.int 86 0, Value.str (Str.ofString "/claim/cut.py") 333]) #[]) ::
    (nat_lit 122, Obj.mk (Value.type "function") none (Data.func (FuncData.mk (Str.ofString "splitroot") (Str.ofString "splitroot") A122 (FuncBody.stmts B122) Z122 3 [] Value.none Value.none Value.none (Value.str (Str.ofString "cpy313.posixpath") 306) none (Value.ref 121) Value.none 0)) #[]) ::
    (nat_lit 123, Obj.mk (Value.type "tuple") none (Data.seq #[]) #[]) ::
    (nat_lit 125, Obj.mk (Value.type "tuple") none (Data.seq #[Value.str (Str.ofString "p") 338, Value.str (Str.ofString "sep") 339, Value.str (Str.ofString "i") 340, Value.str (Str.ofString "head") 341]) #[]) ::
    (nat_lit 126, Obj.mk (Value.type "tuple") none (Data.seq #[]) #[]) ::
    (nat_lit 128, Obj.mk (Value.type "code") none (Data.fields #[Value.str (Str.ofString "dirname") 335, Value.str (Str.ofString "dirname") 336, Value.str (Str.ofString "/claim/cut.py") 337, Value.int 100 0, Value.int 1 0, Value.int 0 0, Value.int 0 0, Value.int 3 0, Value.ref 123, Value.bool true, Value.int 181 0, Value.ref 124, Value.none, Value.ref 125, Value.ref 126, Value.ref 127, Value.int 342 0, Value.int 100 0, Value.str (Str.ofString "/claim/cut.py") 343]) #[]) ::
    (nat_lit 129, Obj.mk (Value.type "function") none (Data.func (FuncData.mk (Str.ofString "dirname") (Str.ofString "dirname") A129 (FuncBody.stmts B129) Z129 3 [] Value.none Value.none Value.none (Value.str (Str.ofString "cpy313.posixpath") 306) none (Value.ref 128) Value.none 0)) #[]) ::
    (nat_lit 130, Obj.mk (Value.type "tuple") none (Data.seq #[]) #[]) ::
    (nat_lit 132, Obj.mk (Value.type "tuple") none (Data.seq #[Value.str (Str.ofString "path") 348, Value.str (Str.ofString "sep") 349, Value.str (Str.ofString "dot") 350, Value.str (Str.ofString "dotdot") 351, Value.str (Str.ofString "_") 352, Value.str (Str.ofString "initial_slashes") 353, Value.str (Str.ofString "comps") 354, Value.str (Str.ofString "new_comps") 355, Value.str (Str.ofString "comp") 356]) #[]) ::
    (nat_lit 133, Obj.mk (Value.type "tuple") none (Data.seq #[]) #[]) ::
    (nat_lit 135, Obj.mk (Value.type "code") none (Data.fields #[Value.str (Str.ofString "normpath") 345, Value.str (Str.ofString "normpath") 346, Value.str (Str.ofString "/claim/cut.py") 347, Value.int 108 0, Value.int 1 0, Value.int 0 0, Value.int 0 0, Value.int 3 0, Value.ref 130, Value.bool true, Value.int 181 0, Value.ref 131, Value.none, Value.ref 132, Value.ref 133, Value.ref 134, Value.int 357 0, Value.int 108 0, Value.str (Str.ofString "/claim/cut.py") 358]) #[]) ::
    (nat_lit 136, Obj.mk (Value.type "function") none (Data.func (FuncData.mk (Str.ofString "normpath") (Str.ofString "normpath") A136 (FuncBody.stmts B136) Z136 3 [] Value.none Value.none Value.none (Value.str (Str.ofString "cpy313.posixpath") 306) none (Value.ref 135) Value.none 0)) #[]) ::
    (nat_lit 144, Obj.mk (Value.type "tuple") none (Data.seq #[]) #[]) ::
    (nat_lit 146, Obj.mk (Value.type "tuple") none (Data.seq #[Value.str (Str.ofString "self") 377, Value.str (Str.ofString "fp") 378]) #[]) ::
    (nat_lit 147, Obj.mk (Value.type "tuple") none (Data.seq #[]) #[]) ::
    (nat_lit 149, Obj.mk (Value.type "code") none (Data.fields #[Value.str (Str.ofString "__init__") 374, Value.str (Str.ofString "_netrclex.__init__") 375, Value.str (Str.ofString "/claim/cut.py") 376, Value.int 136 0, Value.int 2 0, Value.int 0 0, Value.int 0 0, Value.int 3 0, Value.ref 144, Value.bool true, Value.int 181 0, Value.ref 145, Value.none, Value.ref 146, Value.ref 147, Value.ref 148, Value.int 379 0, Value.int 136 0, Value.str (Str.ofString "/claim/cut.py") 380]) #[]) ::
    (nat_lit 150, Obj.mk (Value.type "function") none (Data.func (FuncData.mk (Str.ofString "__init__") (Str.ofString "_netrclex.__init__") A150 (FuncBody.stmts B150) Z150 3 [] Value.none Value.none Value.none (Value.str (Str.ofString "cpy313.netrc") 360) none (Value.ref 149) Value.none 0)) #[]) ::
    (nat_lit 151, Obj.mk (Value.type "tuple") none (Data.seq #[]) #[]) ::
    (nat_lit 153, Obj.mk (Value.type "tuple") none (Data.seq #[Value.str (Str.ofString "self") 385, Value.str (Str.ofString "ch") 386]) #[]) ::
    (nat_lit 154, Obj.mk (Value.type "tuple") none (Data.seq #[]) #[]) ::
    (nat_lit 156, Obj.mk (Value.type "code") none (Data.fields #[Value.str (Str.ofString "_read_char") 382, Value.str (Str.ofString "_netrclex._read_char") 383, Value.str (Str.ofString "/claim/cut.py") 384, Value.int 142 0, Value.int 1 0, Value.int 0 0, Value.int 0 0, Value.int 3 0, Value.ref 151, Value.bool true, Value.int 181 0, Value.ref 152, Value.none, Value.ref 153, Value.ref 154, Value.ref 155, Value.int 387 0, Value.int 142 0, Value.str (Str.ofString "/claim/cut.py") 388]) #[]) ::
    (nat_lit 157, Obj.mk (Value.type "function") none (Data.func (FuncData.mk (Str.ofString "_read_char") (Str.ofString "_netrclex._read_char") A157 (FuncBody.stmts B157) Z157 3 [] Value.none Value.none Value.none (Value.str (Str.ofString "cpy313.netrc") 360) none (Value.ref 156) Value.none 0)) #[]) ::
    (nat_lit 158, Obj.mk (Value.type "tuple") none (Data.seq #[]) #[]) ::
    (nat_lit 160, Obj.mk (Value.type "tuple") none (Data.seq #[Value.str (Str.ofString "self") 393, Value.str (Str.ofString "token") 394, Value.str (Str.ofString "fiter") 395, Value.str (Str.ofString "ch") 396]) #[]) ::
    (nat_lit 161, Obj.mk (Value.type "tuple") none (Data.seq #[]) #[]) ::
    (nat_lit 163, Obj.mk (Value.type "code") none (Data.fields #[Value.str (Str.ofString "get_token") 390, Value.str (Str.ofString "_netrclex.get_token") 391, Value.str (Str.ofString "/claim/cut.py") 392, Value.int 148 0, Value.int 1 0, Value.int 0 0, Value.int 0 0, Value.int 3 0, Value.ref 158, Value.bool true, Value.int 181 0, Value.ref 159, Value.none, Value.ref 160, Value.ref 161, Value.ref 162, Value.int 397 0, Value.int 148 0, Value.str (Str.ofString "/claim/cut.py") 398]) #[]) ::
    (nat_lit 164, Obj.mk (Value.type "function") none (Data.func (FuncData.mk (Str.ofString "get_token") (Str.ofString "_netrclex.get_token") A164 (FuncBody.stmts B164) Z164 3 [] Value.none Value.none Value.none (Value.str (Str.ofString "cpy313.netrc") 360) none (Value.ref 163) Value.none 0)) #[]) ::
    (nat_lit 165, Obj.mk (Value.type "tuple") none (Data.seq #[]) #[]) ::
    (nat_lit 167, Obj.mk (Value.type "tuple") none (Data.seq #[Value.str (Str.ofString "self") 403, Value.str (Str.ofString "token") 404]) #[]) ::
    (nat_lit 168, Obj.mk (Value.type "tuple") none (Data.seq #[]) #[]) ::
    (nat_lit 170, Obj.mk (Value.type "code") none (Data.fields #[Value.str (Str.ofString "push_token") 400, Value.str (Str.ofString "_netrclex.push_token") 401, Value.str (Str.ofString "/claim/cut.py") 402, Value.int 175 0, Value.int 2 0, Value.int 0 0, Value.int 0 0, Value.int 3 0, Value.ref 165, Value.bool true, Value.int 181 0, Value.ref 166, Value.none, Value.ref 167, Value.ref 168, Value.ref 169, Value.int 405 0, Value.int 175 0, Value.str (Str.ofString "/claim/cut.py") 406]) #[]) ::
    (nat_lit 171, Obj.mk (Value.type "function") none (Data.func (FuncData.mk (Str.ofString "push_token") (Str.ofString "_netrclex.push_token") A171 (FuncBody.stmts B171) Z171 3 [] Value.none Value.none Value.none (Value.str (Str.ofString "cpy313.netrc") 360) none (Value.ref 170) Value.none 0)) #[]) ::
    (nat_lit 172, Obj.mk (Value.type "tuple") none (Data.seq #[Value.str (Str.ofString "instream") 408, Value.str (Str.ofString "lineno") 409, Value.str (Str.ofString "pushback") 410, Value.str (Str.ofString "whitespace") 411]) #[]) ::
    (nat_lit 173, Obj.mk (Value.type "dict") none (Data.dict #[DictEntry.mk (PyData.keyHash P (Str.ofString "__module__")) (Value.str (Str.ofString "__module__") 369) (Value.str (Str.ofString "cpy313.netrc") 360), DictEntry.mk (PyData.keyHash P (Str.ofString "__firstlineno__")) (Value.str (Str.ofString "__firstlineno__") 373) (Value.int 134 372), DictEntry.mk (PyData.keyHash P (Str.ofString "__init__")) (Value.str (Str.ofString "__init__") 381) (Value.ref 150), DictEntry.mk (PyData.keyHash P (Str.ofString "_read_char")) (Value.str (Str.ofString "_read_char") 389) (Value.ref 157), DictEntry.mk (PyData.keyHash P (Str.ofString "get_token")) (Value.str (Str.ofString "get_token") 399) (Value.ref 164), DictEntry.mk (PyData.keyHash P (Str.ofString "push_token")) (Value.str (Str.ofString "push_token") 407) (Value.ref 171), DictEntry.mk (PyData.keyHash P (Str.ofString "__static_attributes__")) (Value.str (Str.ofString "__static_attributes__") 412) (Value.ref 172), DictEntry.mk (PyData.keyHash P (Str.ofString "__dict__")) (Value.str (Str.ofString "__dict__") 414) (Value.ref 175), DictEntry.mk (PyData.keyHash P (Str.ofString "__weakref__")) (Value.str (Str.ofString "__weakref__") 416) (Value.ref 176), DictEntry.mk (PyData.keyHash P (Str.ofString "__doc__")) (Value.str (Str.ofString "__doc__") 417) Value.none] 4) #[]) ::
    (nat_lit 174, Obj.mk (Value.type "type") none (Data.cls (ClassData.mk (Str.ofString "_netrclex") [Value.type "object"] [Value.ref 174, Value.type "object"] 173 (Str.ofString "_netrclex") true [] [] false none false)) #[none, none, some (Value.str (Str.ofString "_netrclex") 362), some (Value.str (Str.ofString "_netrclex") 370), some (Value.builtin "object.__new__"), some (Value.bool true)]) ::
    (nat_lit 175, Obj.mk (Value.type "getset_descriptor") none (Data.fields #[Value.str (Str.ofString "__dict__") 413, Value.ref 174, Value.builtin "function.__dict__", Value.builtin "function.__dict__#set"]) #[]) ::
    (nat_lit 176, Obj.mk (Value.type "getset_descriptor") none (Data.fields #[Value.str (Str.ofString "__weakref__") 415, Value.ref 174, Value.builtin "ExceptionGroup.__weakref__", Value.none]) #[]) ::
    (nat_lit 179, Obj.mk (Value.type "tuple") none (Data.seq #[]) #[]) ::
    (nat_lit 182, Obj.mk (Value.type "code") none (Data.fields #[Value.str (Str.ofString "_law_numbers") 422, Value.str (Str.ofString "_law_numbers") 423, Value.str (Str.ofString "/claim/cut.py") 424, Value.int 178 0, Value.int 1 0, Value.int 0 0, Value.int 0 0, Value.int 3 0, Value.ref 179, Value.bool true, Value.int 181 0, Value.ref 180, Value.none, Value.none, Value.none, Value.ref 181, Value.int 425 0, Value.int 178 0, Value.str (Str.ofString "/claim/cut.py") 426]) #[]) ::
    (nat_lit 183, Obj.mk (Value.type "function") none (Data.func (FuncData.mk (Str.ofString "_law_numbers") (Str.ofString "_law_numbers") A183 (FuncBody.stmts B183) Z183 3 [] Value.none Value.none Value.none (Value.str (Str.ofString "law_pd0074_01") 420) none (Value.ref 182) Value.none 0)) #[]) ::
    (nat_lit 184, Obj.mk (Value.type "tuple") none (Data.seq #[]) #[]) ::
    (nat_lit 186, Obj.mk (Value.type "tuple") none (Data.seq #[Value.str (Str.ofString "figure") 431]) #[]) ::
    (nat_lit 187, Obj.mk (Value.type "tuple") none (Data.seq #[]) #[]) ::
    (nat_lit 189, Obj.mk (Value.type "code") none (Data.fields #[Value.str (Str.ofString "_law_item") 428, Value.str (Str.ofString "_law_item") 429, Value.str (Str.ofString "/claim/cut.py") 430, Value.int 186 0, Value.int 1 0, Value.int 0 0, Value.int 0 0, Value.int 3 0, Value.ref 184, Value.bool true, Value.int 181 0, Value.ref 185, Value.none, Value.ref 186, Value.ref 187, Value.ref 188, Value.int 432 0, Value.int 186 0, Value.str (Str.ofString "/claim/cut.py") 433]) #[]) ::
    (nat_lit 190, Obj.mk (Value.type "function") none (Data.func (FuncData.mk (Str.ofString "_law_item") (Str.ofString "_law_item") A190 (FuncBody.stmts B190) Z190 3 [] Value.none Value.none Value.none (Value.str (Str.ofString "law_pd0074_01") 420) none (Value.ref 189) Value.none 0)) #[]) ::
    (nat_lit 191, Obj.mk (Value.type "tuple") none (Data.seq #[]) #[]) ::
    (nat_lit 193, Obj.mk (Value.type "tuple") none (Data.seq #[Value.str (Str.ofString "word") 438, Value.str (Str.ofString "how") 439, Value.str (Str.ofString "text") 440, Value.str (Str.ofString "c") 441]) #[]) ::
    (nat_lit 194, Obj.mk (Value.type "tuple") none (Data.seq #[]) #[]) ::
    (nat_lit 196, Obj.mk (Value.type "code") none (Data.fields #[Value.str (Str.ofString "_law_write") 435, Value.str (Str.ofString "_law_write") 436, Value.str (Str.ofString "/claim/cut.py") 437, Value.int 190 0, Value.int 2 0, Value.int 0 0, Value.int 0 0, Value.int 3 0, Value.ref 191, Value.bool true, Value.int 181 0, Value.ref 192, Value.none, Value.ref 193, Value.ref 194, Value.ref 195, Value.int 442 0, Value.int 190 0, Value.str (Str.ofString "/claim/cut.py") 443]) #[]) ::
    (nat_lit 197, Obj.mk (Value.type "function") none (Data.func (FuncData.mk (Str.ofString "_law_write") (Str.ofString "_law_write") A197 (FuncBody.stmts B197) Z197 3 [] Value.none Value.none Value.none (Value.str (Str.ofString "law_pd0074_01") 420) none (Value.ref 196) Value.none 0)) #[]) ::
    (nat_lit 198, Obj.mk (Value.type "tuple") none (Data.seq #[]) #[]) ::
    (nat_lit 200, Obj.mk (Value.type "tuple") none (Data.seq #[Value.str (Str.ofString "numbers") 448, Value.str (Str.ofString "text") 449, Value.str (Str.ofString "rows") 450, Value.str (Str.ofString "y") 451, Value.str (Str.ofString "word") 452, Value.str (Str.ofString "way") 453, Value.str (Str.ofString "how") 454, Value.str (Str.ofString "gone") 455]) #[]) ::
    (nat_lit 201, Obj.mk (Value.type "tuple") none (Data.seq #[]) #[]) ::
    (nat_lit 203, Obj.mk (Value.type "code") none (Data.fields #[Value.str (Str.ofString "_law_file") 445, Value.str (Str.ofString "_law_file") 446, Value.str (Str.ofString "/claim/cut.py") 447, Value.int 199 0, Value.int 1 0, Value.int 0 0, Value.int 0 0, Value.int 3 0, Value.ref 198, Value.bool true, Value.int 181 0, Value.ref 199, Value.none, Value.ref 200, Value.ref 201, Value.ref 202, Value.int 456 0, Value.int 199 0, Value.str (Str.ofString "/claim/cut.py") 457]) #[]) ::
    (nat_lit 204, Obj.mk (Value.type "function") none (Data.func (FuncData.mk (Str.ofString "_law_file") (Str.ofString "_law_file") A204 (FuncBody.stmts B204) Z204 3 [] Value.none Value.none Value.none (Value.str (Str.ofString "law_pd0074_01") 420) none (Value.ref 203) Value.none 0)) #[]) ::
    (nat_lit 205, Obj.mk (Value.type "tuple") none (Data.seq #[]) #[]) ::
    (nat_lit 207, Obj.mk (Value.type "tuple") none (Data.seq #[Value.str (Str.ofString "text") 462, Value.str (Str.ofString "give") 463, Value.str (Str.ofString "source") 464]) #[]) ::
    (nat_lit 208, Obj.mk (Value.type "tuple") none (Data.seq #[Value.str (Str.ofString "text") 465, Value.str (Str.ofString "at") 466]) #[]) ::
    (nat_lit 210, Obj.mk (Value.type "code") none (Data.fields #[Value.str (Str.ofString "_law_machine") 459, Value.str (Str.ofString "_law_machine") 460, Value.str (Str.ofString "/claim/cut.py") 461, Value.int 211 0, Value.int 1 0, Value.int 0 0, Value.int 0 0, Value.int 3 0, Value.ref 205, Value.bool true, Value.int 181 0, Value.ref 206, Value.none, Value.ref 207, Value.ref 208, Value.ref 209, Value.int 467 0, Value.int 211 0, Value.str (Str.ofString "/claim/cut.py") 468]) #[]) ::
    (nat_lit 211, Obj.mk (Value.type "function") none (Data.func (FuncData.mk (Str.ofString "_law_machine") (Str.ofString "_law_machine") A211 (FuncBody.stmts B211) Z211 3 [] Value.none Value.none Value.none (Value.str (Str.ofString "law_pd0074_01") 420) none (Value.ref 210) Value.none 0)) #[]) ::
    (nat_lit 212, Obj.mk (Value.type "tuple") none (Data.seq #[]) #[]) ::
    (nat_lit 214, Obj.mk (Value.type "tuple") none (Data.seq #[Value.str (Str.ofString "texts") 473, Value.str (Str.ofString "start") 474, Value.str (Str.ofString "reader") 475, Value.str (Str.ofString "seen") 476, Value.str (Str.ofString "told") 477, Value.str (Str.ofString "word") 478, Value.str (Str.ofString "goal") 479, Value.str (Str.ofString "other") 480]) #[]) ::
    (nat_lit 215, Obj.mk (Value.type "tuple") none (Data.seq #[]) #[]) ::
    (nat_lit 217, Obj.mk (Value.type "code") none (Data.fields #[Value.str (Str.ofString "_law_follow") 470, Value.str (Str.ofString "_law_follow") 471, Value.str (Str.ofString "/claim/cut.py") 472, Value.int 221 0, Value.int 2 0, Value.int 0 0, Value.int 0 0, Value.int 3 0, Value.ref 212, Value.bool true, Value.int 181 0, Value.ref 213, Value.none, Value.ref 214, Value.ref 215, Value.ref 216, Value.int 481 0, Value.int 221 0, Value.str (Str.ofString "/claim/cut.py") 482]) #[]) ::
    (nat_lit 218, Obj.mk (Value.type "function") none (Data.func (FuncData.mk (Str.ofString "_law_follow") (Str.ofString "_law_follow") A218 (FuncBody.stmts B218) Z218 3 [] Value.none Value.none Value.none (Value.str (Str.ofString "law_pd0074_01") 420) none (Value.ref 217) Value.none 0)) #[]) ::
    (nat_lit 219, Obj.mk (Value.type "tuple") none (Data.seq #[]) #[]) ::
    (nat_lit 221, Obj.mk (Value.type "tuple") none (Data.seq #[Value.str (Str.ofString "home") 487, Value.str (Str.ofString "way") 488, Value.str (Str.ofString "names") 489, Value.str (Str.ofString "front") 490, Value.str (Str.ofString "piece") 491]) #[]) ::
    (nat_lit 222, Obj.mk (Value.type "tuple") none (Data.seq #[]) #[]) ::
    (nat_lit 224, Obj.mk (Value.type "code") none (Data.fields #[Value.str (Str.ofString "_law_goal") 484, Value.str (Str.ofString "_law_goal") 485, Value.str (Str.ofString "/claim/cut.py") 486, Value.int 244 0, Value.int 2 0, Value.int 0 0, Value.int 0 0, Value.int 3 0, Value.ref 219, Value.bool true, Value.int 181 0, Value.ref 220, Value.none, Value.ref 221, Value.ref 222, Value.ref 223, Value.int 492 0, Value.int 244 0, Value.str (Str.ofString "/claim/cut.py") 493]) #[]) ::
    (nat_lit 225, Obj.mk (Value.type "function") none (Data.func (FuncData.mk (Str.ofString "_law_goal") (Str.ofString "_law_goal") A225 (FuncBody.stmts B225) Z225 3 [] Value.none Value.none Value.none (Value.str (Str.ofString "law_pd0074_01") 420) none (Value.ref 224) Value.none 0)) #[]) ::
    (nat_lit 226, Obj.mk (Value.type "tuple") none (Data.seq #[]) #[]) ::
    (nat_lit 229, Obj.mk (Value.type "code") none (Data.fields #[Value.str (Str.ofString "_law_levels") 495, Value.str (Str.ofString "_law_levels") 496, Value.str (Str.ofString "/claim/cut.py") 497, Value.int 255 0, Value.int 2 0, Value.int 0 0, Value.int 0 0, Value.int 3 0, Value.ref 226, Value.bool true, Value.int 181 0, Value.ref 227, Value.none, Value.none, Value.none, Value.ref 228, Value.int 498 0, Value.int 255 0, Value.str (Str.ofString "/claim/cut.py") 499]) #[]) ::
    (nat_lit 230, Obj.mk (Value.type "function") none (Data.func (FuncData.mk (Str.ofString "_law_levels") (Str.ofString "_law_levels") A230 (FuncBody.stmts B230) Z230 3 [] Value.none Value.none Value.none (Value.str (Str.ofString "law_pd0074_01") 420) none (Value.ref 229) Value.none 0)) #[]) ::
    (nat_lit 231, Obj.mk (Value.type "tuple") none (Data.seq #[]) #[]) ::
    (nat_lit 234, Obj.mk (Value.type "code") none (Data.fields #[Value.str (Str.ofString "law") 501, Value.str (Str.ofString "law") 502, Value.str (Str.ofString "/claim/cut.py") 503, Value.int 274 0, Value.int 1 0, Value.int 0 0, Value.int 0 0, Value.int 3 0, Value.ref 231, Value.bool true, Value.int 181 0, Value.ref 232, Value.none, Value.none, Value.none, Value.ref 233, Value.int 504 0, Value.int 274 0, Value.str (Str.ofString "/claim/cut.py") 505]) #[]) ::
    (nat_lit 235, Obj.mk (Value.type "function") none (Data.func (FuncData.mk (Str.ofString "law") (Str.ofString "law") A235 (FuncBody.stmts B235) Z235 3 [] Value.none Value.none Value.none (Value.str (Str.ofString "law_pd0074_01") 420) none (Value.ref 234) Value.none 0)) #[]) ::
    [] : List (Nat × Obj))

end
section
/-- one step, the heap as a tree (the library's quick twins) -/
noncomputable def stepQ (p : Program) (w : World) (s : SharedT) (t : Thread) : Option (SharedT × Thread) := PySem.W.Fast.tw10156331382660048174 (PySem.W.Fast.tw11892475500146522536 PySem.W.Fast.tw14364793385576792824) p w s t
theorem stepQ_eq (p : Program) (w : World) (s : SharedT) (t : Thread) : stepQ p w s t = stepT (denote treeTable) p w s t := by
  unfold stepQ
  rw [← PySem.W.Fast.te10156331382660048174, ← PySem.W.Fast.te11892475500146522536, ← PySem.W.Fast.te14364793385576792824]
noncomputable def okQ (n₀ : Nat) (ann : Option Value) (t : Thread) : Bool := PySem.W.Fast.tw6613529449190102663 n₀ ann t
theorem okQ_eq (n₀ : Nat) (ann : Option Value) (t : Thread) : okQ n₀ ann t = stepOk n₀ ann t := by
  unfold okQ
  rw [← PySem.W.Fast.te6613529449190102663]
/-- the top's run, the heap as a tree -/
noncomputable def topRunT (p : Program) (w : World) (n₀ : Nat) (ann : Option Value) : Nat → SharedT → Thread → Option SharedT
  | 0, _, _ => none
  | n + 1, s, t => match through t with
    | true => some s
    | false => match okQ n₀ ann t with
      | false => none
      | true => match stepQ p w s t with
        | some x => topRunT p w n₀ ann n x.1 x.2
        | none => none
theorem topRunT_of {p : Program} {w : World} {n₀ : Nat} {ann : Option Value} : ∀ {n : Nat} {s s' : SharedT} {t : Thread}, topRunT p w n₀ ann n s t = some s' → topRun treeTable p w n₀ ann n s.abs t = some s'.abs
  | 0, _, _, _, h => nomatch h
  | n + 1, s, s', t, h => by
    rw [topRunT] at h
    rw [topRun]
    cases e1 : through t with
    | true => rw [e1] at h; cases h; rfl
    | false =>
      rw [e1] at h
      dsimp only at h ⊢
      rw [okQ_eq] at h
      cases e2 : stepOk n₀ ann t with
      | false => rw [e2] at h; cases h
      | true =>
        rw [e2] at h
        dsimp only at h ⊢
        rw [stepQ_eq] at h
        cases e3 : stepT (denote treeTable) p w s t with
        | none => rw [e3] at h; cases h
        | some x =>
          rw [e3] at h
          rw [stepT_spec (s' := x.1) (t' := x.2) e3]
          exact topRunT_of h
noncomputable def growT : List Obj → BT → Nat → Option (BT × Nat)
  | [], T, n => some (T, n)
  | o :: r, T, n => match ((T.ins n o).get n).isSome with
    | true => growT r (T.ins n o) (n + 1)
    | false => none
theorem growT_spec {life : Life} : ∀ {os : List Obj} {T T' : BT} {n n' : Nat}, growT os T n = some (T', n') → absHeap T' n' life = ⟨(absHeap T n life).objs ++ os.toArray, life⟩
  | [], T, T', n, n', h => by cases h; simp; rfl
  | o :: r, T, T', n, n', h => by
    rw [growT] at h
    cases e : ((T.ins n o).get n).isSome with
    | false => rw [e] at h; cases h
    | true =>
      rw [e] at h
      rw [growT_spec h, absHeap_ins e]
      congr 1
      show ((absHeap T n life).objs.push o) ++ r.toArray = _
      apply Array.toList_inj.mp
      simp
noncomputable def openT {β : Type} (p : Program) (w : World) (N : Nat) (f : Shared → β) : Option β := (fencedOpening treeTable p w N).bind fun s₀ => match s₀.heap.isNs mainGlobals && s₀.gens.size == 0 with
  | true => (growT s₀.heap.objs.toList .nil 0).bind fun x => (topRunT p w s₀.heap.objs.size (s₀.heap.nsMap mainGlobals "__annotations__") N ⟨x.1, x.2, s₀.heap.life, s₀.gens, s₀.drawn, s₀.toks, s₀.os⟩ (topStub p)).bind fun z =>
    match staticsOk (importedModules p.main.body) s₀.heap z.abs.heap && namesBound p z.abs.heap && gensDone z.abs && laidKept s₀.heap z.abs.heap with
    | true => some (f z.abs)
    | false => none
  | false => none
theorem openT_of {β : Type} {p : Program} {w : World} {N : Nat} {f : Shared → β} {r : β} (h : openT p w N f = some r) : (openEnds treeTable p w N).map f = some r := by
  unfold openT at h
  unfold openEnds
  cases e0 : fencedOpening treeTable p w N with
  | none => rw [e0] at h; cases h
  | some s₀ =>
    rw [e0] at h
    simp only [Option.bind_some] at h ⊢
    unfold topFrom
    cases e1 : (s₀.heap.isNs mainGlobals && s₀.gens.size == 0) with
    | false => rw [e1] at h; cases h
    | true =>
      rw [e1] at h
      dsimp only at h ⊢
      cases e2 : growT s₀.heap.objs.toList .nil 0 with
      | none => rw [e2] at h; cases h
      | some x =>
        rw [e2] at h
        simp only [Option.bind_some] at h
        obtain ⟨z, e3, h⟩ := Option.bind_eq_some_iff.mp h
        have e4 := topRunT_of e3
        have ea : absHeap x.1 x.2 s₀.heap.life = s₀.heap := by
          rw [growT_spec (T' := x.1) (n' := x.2) e2]
          have : (absHeap BT.nil 0 s₀.heap.life).objs = #[] := rfl
          rw [this]
          simp
        have eb : SharedT.abs ⟨x.1, x.2, s₀.heap.life, s₀.gens, s₀.drawn, s₀.toks, s₀.os⟩ = s₀ := by
          unfold SharedT.abs
          rw [ea]
        rw [eb] at e4
        rw [e4, Option.bind_some]
        cases e5 : (staticsOk (importedModules p.main.body) s₀.heap z.abs.heap && namesBound p z.abs.heap && gensDone z.abs && laidKept s₀.heap z.abs.heap) with
        | false => rw [e5] at h; cases h
        | true =>
          rw [e5] at h
          exact h
noncomputable def view : Program := { PySem.Challenge.pw_pd0074_01 with main := { PySem.Challenge.pw_pd0074_01.main with body := [0, 2, 4, 6, 7, 9, 11, 13, 14, 15, 16, 17, 19, 21, 22, 23, 24, 25, 26, 27, 28, 29].map fun i => PySem.Challenge.pw_pd0074_01.main.body.getD i (.Pass default) } }
abbrev kA : List Addr := [2, 3, 15, 17, 18, 20, 21, 22, 24, 25, 27, 28, 29, 36, 38, 39, 41, 42, 43, 44, 45, 48, 55, 57, 58, 60, 61, 62, 64, 65, 67, 68, 69, 71, 72, 74, 75, 76, 77, 78, 81, 83, 84, 86, 87, 88, 90, 91, 93, 94, 95, 97, 98, 100, 101, 102, 104, 105, 107, 108, 109, 111, 112, 114, 115, 116, 118, 119, 121, 122, 123, 125, 126, 128, 129, 130, 132, 133, 135, 136, 144, 146, 147, 149, 150, 151, 153, 154, 156, 157, 158, 160, 161, 163, 164, 165, 167, 168, 170, 171, 172, 173, 174, 175, 176, 179, 182, 183, 184, 186, 187, 189, 190, 191, 193, 194, 196, 197, 198, 200, 201, 203, 204, 205, 207, 208, 210, 211, 212, 214, 215, 217, 218, 219, 221, 222, 224, 225, 226, 229, 230, 231, 234, 235]
theorem kA_ok : ∀ P, kA = (hd.heap_39 P).map (·.1) := fun _ => by kernel_rfl
abbrev PL : Program := PySem.Challenge.rw_pd0074_01.row.prog
theorem lk_a : sreFenced PL.main = true := by kernel_rfl
theorem lk_b : ((moduleNames PL.main.body).isEmpty || lookedIntoSs (moduleNames PL.main.body) PL.main.body) = true := by kernel_rfl
theorem lk_c : namesResolve PL = true := by rw [PySem.W.Fast.te8377067652309620493]; kernel_rfl
theorem lk_d : (PL.boundNames.all (fun n => !worldNames.contains n)) = true := by rw [PySem.W.Fast.te18344453789297297638, PySem.W.Fast.te14412699480532031325, PySem.W.Fast.sDec_eq]; kernel_rfl
theorem lk_e : noRoadLSs { strict := !(importedModules PL.main.body).all cThrough.contains, foot := none, bare := (["vars", "dir", "locals"] : List Str).filter (readsOut PL PL.main.body) } PL.main.body = true := by rw [PySem.W.Fast.te8326940854005059898, PySem.W.Fast.te13343964577679436407]; kernel_rfl
theorem lk_f : (namesMeet PL PL.main.body fun _ n => attrL n) = true := by rw [PySem.W.Fast.te17119622794617984870, PySem.W.Fast.te17868728402115742887]; kernel_rfl
theorem looks : looksOpen PL = true := look_both (look_both (look_both (look_both (look_both lk_a lk_b) lk_c) lk_d) lk_e) lk_f
theorem said1 : OpenRow.wellSaid PySem.Challenge.rw_pd0074_01.row = true := by
  unfold OpenRow.wellSaid OpenRow.partSaid
  repeat' (with_reducible refine look_both ?_ ?_)
  all_goals (first | with_reducible exact looks | kernel_rfl)
theorem said2 : noRoadLSs { strict := true, foot := some PySem.Challenge.rw_pd0074_01.bound', writes := PySem.Challenge.rw_pd0074_01.writes, may := PySem.Challenge.rw_pd0074_01.may } PySem.Challenge.rw_pd0074_01.footing = true := by rw [PySem.W.Fast.te8326940854005059898]; kernel_rfl
theorem said : PySem.Challenge.rw_pd0074_01.wellSaid = true := by
  unfold OpenLaw.wellSaid
  repeat' (with_reducible refine look_both ?_ ?_)
  all_goals (first | with_reducible exact said1 | with_reducible exact said2 | kernel_rfl)
theorem left_once : LeftO PL view [] (fun s => xlAt view [] s && recOk (RowW.records (OpenRow.toRowW PySem.Challenge.rw_pd0074_01.row)) s) (Hook.obs (kmHook hd.heap_39 kA kA_ok [206])) (Hook.val (kmHook hd.heap_39 kA kA_ok [206])) 3138 := fun w => openT_of (show openT PL w 3138 _ = _ by kernel_rfl)

end
section

abbrev PR : Program := PySem.Challenge.rw_pd0074_01.row.prog

/-- every object of the one heap stands in the other -/
def Ext (h h' : Heap) : Prop := ∀ b o, h.get? b = some o → h'.get? b = some o
theorem Ext.refl (h : Heap) : Ext h h := fun _ _ e => e
theorem Ext.trans {h h' h'' : Heap} (x : Ext h h') (y : Ext h' h'') : Ext h h'' := fun b o e => y b o (x b o e)

/-- all but S stands as it stood -/
def Kp (S : List Addr) (h h' : Heap) : Prop := ∀ b o, h.get? b = some o → b ∉ S → h'.get? b = some o
theorem Kp.refl (S : List Addr) (h : Heap) : Kp S h h := fun _ _ e _ => e
theorem Kp.trans {S : List Addr} {h h' h'' : Heap} (x : Kp S h h') (y : Kp S h' h'') : Kp S h h'' := fun b o e n => y b o (x b o e n) n
theorem Kp.mono {S S' : List Addr} {h h' : Heap} (x : Kp S h h') (hs : ∀ a ∈ S, a ∈ S') : Kp S' h h' := fun b o e n => x b o e fun q => n (hs b q)
theorem Kp.ext {h h' : Heap} (x : Kp [] h h') : Ext h h' := fun b o e => x b o e (List.not_mem_nil)
theorem Ext.kp {h h' : Heap} (x : Ext h h') (S : List Addr) : Kp S h h' := fun b o e _ => x b o e

/-- what the text's top has left, in a heap -/
structure Gd (w : World) (mg mb : Str → Option Value) (h : Heap) : Prop where
  K : (Mine.hd.heap_39 w.params).In h
  g : h.Ns mainGlobals mg
  b : h.Ns builtinsNs mb
  nolimit : h.NoLimit
  builtins : ∀ x : Str, x ≠ "__name__" → mb x = bootBuiltins x
theorem Gd.keeps {w : World} {mg mb : Str → Option Value} {h h' : Heap} (G : Gd w mg mb h) (hk : Ext h h') : Gd w mg mb h' :=
  ⟨G.K.keeps hk, G.g.keeps hk, G.b.keeps hk, G.nolimit.keeps hk, G.builtins⟩

abbrev Fm := List (Str × Value)
abbrev Lg := List (Addr × (Obj → Prop))

/-- a frame's state: base heap, the frame's address, its names, the ledger (an address and what is said of the object there) -/
structure St (g : Heap) (L : Addr) (h : Heap) (fr : Fm) (led : Lg) : Prop where
  ns : h.Ns L (fun x => fr.lookup x)
  keep : Ext g h
  at_ : ∀ p ∈ led, ∃ o, h.get? p.1 = some o ∧ p.2 o
  off : ∀ p ∈ led, g.get? p.1 = none
  ne : ∀ p ∈ led, p.1 ≠ L
  nL : g.get? L = none
  nd : (led.map (·.1)).Nodup

section
variable {w : World} {A : Around} {E : Value → Shared → Prop} {s : Shared} {g h h' : Heap} {L : Addr} {fr : Fm} {led : Lg}

theorem St.ext (H : St g L h fr led) (x : Ext h h') : St g L h' fr led :=
  ⟨H.ns.keeps x, H.keep.trans x, fun p hp => let ⟨o, e, q⟩ := H.at_ p hp; ⟨o, x _ _ e, q⟩, H.off, H.ne, H.nL, H.nd⟩

/-- the frame's own store -/
def upd (x : Str) (v : Value) : List (Str × Value) → List (Str × Value)
  | [] => [(x, v)]
  | (y, u) :: r => if x = y then (y, v) :: r else (y, u) :: upd x v r
theorem upd_lookup (x : Str) (v : Value) : ∀ (fr : List (Str × Value)) (y : Str), (upd x v fr).lookup y = if y = x then some v else fr.lookup y
  | [], y => by
    unfold upd
    by_cases q : y = x
    · simp [q]
    · have : (y == x) = false := by simpa using q
      simp [List.lookup, this, q]
  | (z, u) :: r, y => by
    unfold upd
    by_cases p : x = z
    · rw [if_pos p]
      subst p
      by_cases q : y = x
      · simp [q]
      · have : (y == x) = false := by simpa using q
        simp [List.lookup, this, q]
    · rw [if_neg p]
      by_cases q : y = z
      · subst q
        have : ¬ y = x := fun e => p e.symm
        simp [List.lookup, this]
      · have : (y == z) = false := by simpa using q
        simp only [List.lookup, this]
        exact upd_lookup x v r y
theorem St.store (H : St g L h fr led) {x : Str} {v : Value} (hn : h'.Ns L (fun y => if y = x then some v else fr.lookup y)) (hs : Heap.SameBut L h h') : St g L h' (upd x v fr) led := by
  refine ⟨?_, fun b o e => ?_, fun p hp => (let ⟨o, e, q⟩ := H.at_ p hp; ⟨o, (hs.2 _ (H.ne p hp)).trans e, q⟩), H.off, H.ne, H.nL, H.nd⟩
  · have : (fun y => (upd x v fr).lookup y) = fun y => if y = x then some v else fr.lookup y := funext fun y => upd_lookup x v fr y
    rw [this]; exact hn
  · refine (hs.2 b fun q => ?_).trans (H.keep b o e)
    rw [q, H.nL] at e; cases e
theorem St.alloc (H : St g L h fr led) (o : Obj) (P : Obj → Prop) (hP : P o) (hf : o.isFreed = false := by rfl) : St g L (h.push o) fr (led ++ [(h.objs.size, P)]) := by
  have k : Ext h (h.push o) := fun b o' e => Heap.get?_push_of_some _ e
  have H' := H.ext k
  have hL : L < h.objs.size := H.ns.lt
  refine ⟨H'.ns, H'.keep, fun p hp => ?_, fun p hp => ?_, fun p hp => ?_, H.nL, ?_⟩
  · rcases List.mem_append.mp hp with q | q
    · exact H'.at_ p q
    · obtain rfl := List.mem_singleton.mp q; exact ⟨o, Heap.get?_push_size _ hf, hP⟩
  · rcases List.mem_append.mp hp with q | q
    · exact H.off p q
    · obtain rfl := List.mem_singleton.mp q
      cases e : g.get? h.objs.size with
      | none => rfl
      | some o' => exact absurd (Heap.lt_size (H.keep _ _ e)) (Nat.lt_irrefl _)
  · rcases List.mem_append.mp hp with q | q
    · exact H.ne p q
    · obtain rfl := List.mem_singleton.mp q; exact Nat.ne_of_gt hL
  · rw [List.map_append, List.nodup_append]
    refine ⟨H.nd, by simp, fun a ha b hb => ?_⟩
    obtain ⟨p, hp, rfl⟩ := List.mem_map.mp ha
    simp only [List.map_cons, List.map_nil, List.mem_singleton] at hb
    subst hb
    obtain ⟨o', e, _⟩ := H.at_ p hp
    exact Nat.ne_of_lt (Heap.lt_size e)
/-- the object at place i is another one now, all else stands -/
theorem St.turnN (H : St g L h fr led) (i : Nat) {a : Addr} {P P' : Obj → Prop} (hi : led[i]? = some (a, P)) (hn : h'.Ns L (fun x => fr.lookup x)) (hs : ∀ b o, b ≠ a → b ≠ L → h.get? b = some o → h'.get? b = some o) (ho : ∃ o, h'.get? a = some o ∧ P' o) : St g L h' fr (led.set i (a, P')) := by
  obtain ⟨hlt, hx⟩ := List.getElem?_eq_some_iff.mp hi
  have hm : (a, P) ∈ led := List.mem_of_getElem? hi
  have split : led = led.take i ++ (a, P) :: led.drop (i + 1) := by rw [← hx, ← List.drop_eq_getElem_cons hlt, List.take_append_drop]
  have es : led.set i (a, P') = led.take i ++ (a, P') :: led.drop (i + 1) := List.set_eq_take_append_cons_drop.trans (if_pos hlt)
  have nd := H.nd
  rw [split, List.map_append, List.map_cons, List.nodup_append] at nd
  obtain ⟨n1, n2, n3⟩ := nd
  have n2' := List.nodup_cons.mp n2
  have cases_ : ∀ p ∈ led.set i (a, P'), p = (a, P') ∨ (p ∈ led ∧ p.1 ≠ a) := by
    intro p hp
    rw [es] at hp
    rcases List.mem_append.mp hp with q | q
    · refine .inr ⟨List.mem_of_mem_take q, ?_⟩
      exact n3 p.1 (List.mem_map_of_mem q) a (.head _)
    · rcases List.mem_cons.mp q with q | q
      · exact .inl q
      · refine .inr ⟨List.mem_of_mem_drop q, fun z => n2'.1 ?_⟩
        have y := List.mem_map_of_mem (f := fun x : Addr × (Obj → Prop) => x.1) q
        rw [z] at y; exact y
  refine ⟨hn, fun b ob eb => hs b ob (fun q => ?_) (fun q => ?_) (H.keep b ob eb), fun p hp => ?_, fun p hp => ?_, fun p hp => ?_, H.nL, ?_⟩
  · rw [q, H.off _ hm] at eb; cases eb
  · rw [q, H.nL] at eb; cases eb
  · rcases cases_ p hp with rfl | ⟨q, n⟩
    · exact ho
    · obtain ⟨o, e, r⟩ := H.at_ p q; exact ⟨o, hs _ _ n (H.ne p q) e, r⟩
  · rcases cases_ p hp with rfl | ⟨q, n⟩
    · exact H.off (a, P) hm
    · exact H.off p q
  · rcases cases_ p hp with rfl | ⟨q, n⟩
    · exact H.ne (a, P) hm
    · exact H.ne p q
  · have : (led.set i (a, P')).map (·.1) = led.map (·.1) := by rw [es]; conv => rhs; rw [split]
                                                               simp
    rw [this]; exact H.nd
theorem St.turn (H : St g L h fr led) (i : Nat) {a : Addr} {P P' : Obj → Prop} (hi : led[i]? = some (a, P)) (hs : ∀ b o, b ≠ a → h.get? b = some o → h'.get? b = some o) (ho : ∃ o, h'.get? a = some o ∧ P' o) : St g L h' fr (led.set i (a, P')) := by
  obtain ⟨oL, esL, epL, hL, rL⟩ := H.ns
  exact H.turnN i hi ⟨oL, esL, epL, hs _ _ (Ne.symm (H.ne _ (List.mem_of_getElem? hi))) hL, rL⟩ (fun b o n _ e => hs b o n e) ho
theorem St.get (H : St g L h fr led) (i : Nat) {a : Addr} {P : Obj → Prop} (hi : led[i]? = some (a, P)) : ∃ o, h.get? a = some o ∧ P o := H.at_ _ (List.mem_of_getElem? hi)
theorem St.old (H : St g L h fr led) {a : Addr} {o : Obj} (e : g.get? a = some o) : h.get? a = some o := H.keep _ _ e
end

end
section

abbrev NE : Value → Shared → Prop := fun _ _ => False
abbrev AW (d u : Nat) : Around := ⟨none, d, none, none, u⟩

theorem wp_weak {α : Type} {M : Model} {A : Around} {d u : Nat} {t : Sem α} {Q : α → Shared → Prop} {E : Value → Shared → Prop} {s : Shared}
    (h : wpAny M (AW d u) t Q E s) (hh : A.handled = none) (hd : A.depth ≤ d) (hu : A.units ≤ u) : wpAny M A t Q E s := fun Γ p hΓ =>
  h Γ p ⟨hΓ.1.trans hh, Nat.le_trans hΓ.2.1 hd, fun _ e => (nomatch e), fun _ e => (nomatch e), Nat.le_trans hΓ.2.2.2.2 hu⟩
theorem code_weak {M : Model} {A : Around} {d u : Nat} {c : Code} {R : Result → Shared → Prop} {s : Shared}
    (h : codeAny M (AW d u) c R s) (hh : A.handled = none) (hd : A.depth ≤ d) (hu : A.units ≤ u) : codeAny M A c R s := fun Γ p hc hΓ =>
  h Γ p hc ⟨hΓ.1.trans hh, Nat.le_trans hΓ.2.1 hd, fun _ e => (nomatch e), fun _ e => (nomatch e), Nat.le_trans hΓ.2.2.2.2 hu⟩
/-- a callee's word at a wider around -/
theorem wpW {α : Type} {M : Model} {d u d' u' : Nat} {t : Sem α} {Q : α → Shared → Prop} {E : Value → Shared → Prop} {s : Shared}
    (h : wpAny M (AW d u) t Q E s) (hd : d' ≤ d := by decide) (hu : u' ≤ u := by decide) : wpAny M (AW d' u') t Q E s := wp_weak h rfl hd hu

structure EnvOk (env : Env) (L : Addr) (ks : List (Str × NameKind)) (cl : List (Str × Addr)) : Prop where
  kind : env.scope.kind = .function
  locals : env.locals = L
  globals : env.globals = mainGlobals
  builtins : env.builtins = builtinsNs
  names : env.scope.names = ks
  cells : env.cells = cl
theorem EnvOk.kindOf {env : Env} {L : Addr} {ks : List (Str × NameKind)} {cl : List (Str × Addr)} (e : EnvOk env L ks cl) (x : Str) : env.kindOf x = ks.lookup x := by
  unfold Env.kindOf; rw [e.names]

def FQ (Q : Value → Shared → Prop) : Flow → Shared → Prop := fun fl s' => Q (match fl with | .ret v => v | _ => .none) s'

section
variable {w : World} {mg mb : Str → Option Value} {g0 g h h' : Heap} {L : Addr} {fr : Fm} {led : Lg}

theorem Ext.none {b : Addr} (x : Ext g0 g) (e : g.get? b = none) : g0.get? b = none := by
  cases q : g0.get? b with
  | none => rfl
  | some o => rw [x _ _ q] at e; cases e
theorem St.base (H : St g L h fr led) (x : Ext g0 g) : St g0 L h fr led :=
  ⟨H.ns, x.trans H.keep, H.at_, fun p hp => x.none (H.off p hp), H.ne, x.none H.nL, H.nd⟩
theorem St.sub (H : St g L h fr led) {led' : Lg} (x : List.Sublist led' led) : St g L h fr led' :=
  ⟨H.ns, H.keep, fun p hp => H.at_ p (x.subset hp), fun p hp => H.off p (x.subset hp), fun p hp => H.ne p (x.subset hp), H.nL, (x.map _).nodup H.nd⟩
theorem St.rebase (H : St g L h fr led) : ∃ g', Ext g g' ∧ St g' L h fr led ∧ ∀ b o, h.get? b = some o → b ≠ L → b ∉ led.map (·.1) → g'.get? b = some o := by
  refine ⟨hideAll h (L :: led.map (·.1)), fun b o e => hideAll_get _ (H.keep b o e) fun q => ?_, ⟨H.ns, fun b o e => of_hideAll _ e, H.at_, fun p hp => hideAll_none _ (.tail _ (List.mem_map_of_mem hp)), H.ne, hideAll_none _ (.head _), H.nd⟩,
    fun b o e n1 n2 => hideAll_get _ e fun q => ?_⟩
  · rcases List.mem_cons.mp q with q | q
    · rw [q, H.nL] at e; cases e
    · obtain ⟨p, hp, rfl⟩ := List.mem_map.mp q
      rw [H.off p hp] at e; cases e
  · rcases List.mem_cons.mp q with q | q
    · exact n1 q
    · exact n2 q

theorem call_def {gn : Array GenState} {dr : Drawn} {tk : Nat} {os : OsState} {f : Addr} {fd : FuncData} {body : List Stmt} {binds : List (Str × Value)} {args : List Value} {d u : Nat} {Q : Value → Shared → Prop} {E : Value → Shared → Prop} {oc : Value} {od : Option Addr} {osl : Array (Option Value)} {ks : List (Str × NameKind)} {cl : List (Str × Addr)}
    (G : Gd w mg mb g0) (X : Ext g0 h) (led : Lg)
    (ho : h.get? f = some ⟨oc, od, .func fd, osl⟩) (hcd : h.CodeRec fd.code fd.qualname) (hbody : fd.body = .stmts body)
    (hbind : bindArgs fd ⟨args, []⟩ = pure binds) (hfr : binds.reverse = fr) (hks : fd.scope.names = ks) (hcl : fd.closure = cl)
    (hl : ∀ p ∈ led, (∃ o, h.get? p.1 = some o ∧ p.2 o) ∧ g0.get? p.1 = none) (nd : (led.map (·.1)).Nodup)
    (hm : ∀ g L h₁ tk₁ env, EnvOk env L ks cl → Gd w mg mb g → Ext g0 g → St g L h₁ fr led → Kp (led.map (·.1)) h g →
      wpAny (model PR w) (AW (d + 1) (u + 3)) (execs body env) (FQ Q) NE ⟨h₁, gn, dr, tk₁, os⟩)
    (hd : d < recursionLimit) (hcell : ∀ x ∈ fd.scope.names, x.2 ≠ .cell) (hloc : ∀ x ∈ binds, fd.scope.names.lookup x.1 = some .local)
    (hco : fd.scope.isCoroutine = false) (hgen : fd.scope.isGenerator = false) (hk : fd.scope.kind = .function) (hgl : fd.globals = mainGlobals) (hbn : fd.builtins = builtinsNs) :
    wpAny (model PR w) (AW d u) (call (.ref f) args) Q E ⟨h, gn, dr, tk, os⟩ := by
  refine wpAny_call (codeAny_call_def hd ho rfl (G.nolimit.keeps X) hcd hbody (BindsTo.of_eq hbind) hcell hloc (fun h₁ hns hk₁ => ?_) hco hgen hk)
  have off : ∀ b o, g0.get? b = some o → b ∉ led.map (·.1) := fun b o e q => by
    obtain ⟨p, hp, rfl⟩ := List.mem_map.mp q
    rw [(hl p hp).2] at e; cases e
  have XG : Ext g0 (hideAll h (led.map (·.1))) := fun b o e => hideAll_get _ (X b o e) (off b o e)
  subst hfr hks hcl
  refine wpAny_mono (hm (hideAll h (led.map (·.1))) h.objs.size h₁ (tk + binds.length) (callEnv fd h.objs.size f) ⟨hk, rfl, hgl, hbn, rfl, rfl⟩ (G.keeps XG) XG
    ⟨hns, fun b o e => hk₁ b o (of_hideAll _ e), fun p hp => (let ⟨o, e, q⟩ := (hl p hp).1; ⟨o, hk₁ _ _ e, q⟩), fun p hp => hideAll_none _ (List.mem_map_of_mem hp), fun p hp => (let ⟨_, e, _⟩ := (hl p hp).1; Nat.ne_of_lt (Heap.lt_size e)), ?_, nd⟩
    fun b o e n => hideAll_get _ e n) (fun fl s' q => q) fun _ _ q => q.elim
  cases e : (hideAll h (led.map (·.1))).get? h.objs.size with
  | none => rfl
  | some o => exact absurd (Heap.lt_size (of_hideAll _ e)) (Nat.lt_irrefl _)
end

section
variable {w : World} {mg mb : Str → Option Value} {A : Around} {E : Value → Shared → Prop} {s : Shared} {g h : Heap} {L : Addr} {fr : Fm} {led : Lg} {env : Env} {ks : List (Str × NameKind)} {cl : List (Str × Addr)} {M : Model}
  {gn : Array GenState} {dr : Drawn} {tk : Nat} {os : OsState}

theorem ld {x : Str} {pos : Pos} {v : Value} {Q : Value → Shared → Prop} (H : St g L h fr led) (e : EnvOk env L ks cl) (hx : ks.lookup x = some .local) (hd : (x == ("__debug__" : Str)) = false) (hv : fr.lookup x = some v) (hq : Q v ⟨h, gn, dr, tk, os⟩) : wpAny M A (eval (.Name x pos) env) Q E ⟨h, gn, dr, tk, os⟩ :=
  wpAny_Name (wpAny_loadName_local e.kind ((e.kindOf x).trans hx) (e.locals ▸ H.ns) hv hq) hd
theorem ldn {x : Str} {v : Value} {Q : Value → Shared → Prop} (H : St g L h fr led) (e : EnvOk env L ks cl) (hx : ks.lookup x = some .local) (hv : fr.lookup x = some v) (hq : Q v ⟨h, gn, dr, tk, os⟩) : wpAny M A (loadName env x) Q E ⟨h, gn, dr, tk, os⟩ :=
  wpAny_loadName_local e.kind ((e.kindOf x).trans hx) (e.locals ▸ H.ns) hv hq
theorem ldg {x : Str} {pos : Pos} {v : Value} {Q : Value → Shared → Prop} (H : St g L h fr led) (e : EnvOk env L ks cl) (G : Gd w mg mb g) (hx : ks.lookup x = some .globalImplicit) (hd : (x == ("__debug__" : Str)) = false) (hv : nsIn (Mine.hd.heap_39 w.params) mainGlobals x = some (some v)) (hq : Q v ⟨h, gn, dr, tk, os⟩) : wpAny M A (eval (.Name x pos) env) Q E ⟨h, gn, dr, tk, os⟩ :=
  Name_function_global e.kind ((e.kindOf x).trans hx) (loadGlobal_global (e.globals ▸ G.g.keeps H.keep) (mg_of G.K G.g hv) hq) hd
theorem ldb {x : Str} {pos : Pos} {v : Value} {Q : Value → Shared → Prop} (H : St g L h fr led) (e : EnvOk env L ks cl) (G : Gd w mg mb g) (hx : ks.lookup x = some .globalImplicit) (hd : (x == ("__debug__" : Str)) = false) (hv : bootBuiltins x = some v) (hn : nsIn (Mine.hd.heap_39 w.params) mainGlobals x = some none) (hne : x ≠ "__name__") (hq : Q v ⟨h, gn, dr, tk, os⟩) : wpAny M A (eval (.Name x pos) env) Q E ⟨h, gn, dr, tk, os⟩ :=
  Name_function_global e.kind ((e.kindOf x).trans hx) (loadGlobal_builtin (e.globals ▸ G.g.keeps H.keep) (mg_none_of G.K G.g hn) (e.builtins ▸ G.b.keeps H.keep) ((G.builtins x hne).trans hv) hq) hd
theorem sto {x : Str} {v : Value} {Q : Unit → Shared → Prop} (H : St g L h fr led) (e : EnvOk env L ks cl) (hx : ks.lookup x = some .local) (hq : ∀ h' tk', St g L h' (upd x v fr) led → Q () ⟨h', gn, dr, tk', os⟩) : wpAny M A (storeName env x v) Q E ⟨h, gn, dr, tk, os⟩ :=
  wpAny_storeName_local ((e.kindOf x).trans hx) (e.locals ▸ H.ns) (fun h' hn hs => hq h' _ (H.store (e.locals ▸ hn) (e.locals ▸ hs))) (by rw [e.kind]; rfl)
/-- as sto, the new frame worked out -/
theorem stoU {x : Str} {v : Value} {F : List (Str × Value)} {Q : Unit → Shared → Prop} (H : St g L h fr led) (e : EnvOk env L ks cl) (hx : ks.lookup x = some .local) (hu : upd x v fr = F) (hq : ∀ h' tk', St g L h' F led → Q () ⟨h', gn, dr, tk', os⟩) : wpAny M A (storeName env x v) Q E ⟨h, gn, dr, tk, os⟩ :=
  sto H e hx fun h' tk' H' => hq h' tk' (hu ▸ H')

/-- what stands behind a statement -/
def Nx (M : Model) (A : Around) (env : Env) (rest : List Stmt) (Q : Flow → Shared → Prop) : Flow → Shared → Prop := fun f s' => match f with
  | .next => wpAny M A (execs rest env) Q NE s'
  | f => Q f s'
variable {Q : Flow → Shared → Prop} {rest : List Stmt}
theorem nx_next (h : wpAny M A (execs rest env) Q NE s) : Nx M A env rest Q .next s := h
theorem nx_cont (h : Q .cont s) : Nx M A env rest Q .cont s := h
theorem nx_ret {v : Value} (h : Q (.ret v) s) : Nx M A env rest Q (.ret v) s := h
theorem fq_ret {v : Value} {Q : Value → Shared → Prop} (h : Q v s) : FQ Q (.ret v) s := h
theorem fq_next {Q : Value → Shared → Prop} (h : Q .none s) : FQ Q .next s := h

theorem exC {st : Stmt} (h : wpAny M A (exec st env) (Nx M A env rest Q) NE s) : wpAny M A (execs (st :: rest) env) Q NE s := by
  refine wpAny_execs_cons (wpAny_mono h (fun f s' q => ?_) fun _ _ x => x)
  cases f <;> exact q
theorem exN (h : Q .next s) : wpAny M A (execs [] env) Q NE s := wpAny_execs_nil h
/-- what stands behind a test -/
abbrev IfQ (M : Model) (A : Around) (env : Env) (body orelse : List Stmt) (Q : Flow → Shared → Prop) : Bool → Shared → Prop := fun b s₂ => (b = true → wpAny M A (execs body env) Q NE s₂) ∧ (b = false → wpAny M A (execs orelse env) Q NE s₂)
theorem exIf {test : Expr} {body orelse : List Stmt} {pos : Pos}
    (h : wpAny M A (isTrue test env (eval test env)) (IfQ M A env body orelse Q) NE s) : wpAny M A (exec (.If test body orelse pos) env) Q NE s := by
  refine wpAny_If (wpAny_mono h (fun b s₂ q => ?_) fun _ _ x => x)
  cases b
  · exact q.2 rfl
  · exact q.1 rfl
theorem exAs {x : Str} {pos' pos : Pos} {value : Expr} (h : wpAny M A (eval value env) (fun v s₁ => wpAny M A (storeName env x v) (fun _ => Q .next) NE s₁) NE s)
    (hs : swapsWith value (some (.Name x pos')) pos.line env = pure false := by rfl) : wpAny M A (exec (.Assign [.Name x pos'] value pos) env) Q NE s := wpAny_Assign_Name h hs
theorem exRet {e : Expr} {pos : Pos} (h : wpAny M A (eval e env) (fun v => Q (.ret v)) NE s) : wpAny M A (exec (.Return (some e) pos) env) Q NE s := wpAny_Return_some h
end

end
section


/-- the end of a turn -/
def Lp (g : Heap) (L : Addr) (gn : Array GenState) (dr : Drawn) (os : OsState) (J : Fm → Lg → Prop) (Q : Flow → Shared → Prop) : Flow → Shared → Prop := fun f s => match f with
  | .next => ∃ fr led h tk, s = ⟨h, gn, dr, tk, os⟩ ∧ St g L h fr led ∧ J fr led
  | .cont => ∃ fr led h tk, s = ⟨h, gn, dr, tk, os⟩ ∧ St g L h fr led ∧ J fr led
  | .brk => Q .next s
  | .ret v => Q (.ret v) s
section
variable {w : World} {g h : Heap} {L : Addr} {gn : Array GenState} {dr : Drawn} {os : OsState} {tk : Nat} {fr : Fm} {led : Lg} {J : Fm → Lg → Prop} {Q : Flow → Shared → Prop} {env : Env} {d u : Nat}
theorem lp_next (H : St g L h fr led) (j : J fr led) : Lp g L gn dr os J Q .next ⟨h, gn, dr, tk, os⟩ := ⟨_, _, _, _, rfl, H, j⟩
theorem lp_cont (H : St g L h fr led) (j : J fr led) : Lp g L gn dr os J Q .cont ⟨h, gn, dr, tk, os⟩ := ⟨_, _, _, _, rfl, H, j⟩
theorem lp_ret {v : Value} {s : Shared} (q : Q (.ret v) s) : Lp g L gn dr os J Q (.ret v) s := q

theorem ne_noted {α : Type} {M : Model} {A : Around} {t : Sem α} {R : α → Shared → Prop} {s : Shared} {E : Value → Shared → Prop} (h : wpAny M A t R NE s) : wpAny M A t R E s := wpAny_mono h (fun _ _ x => x) fun _ _ x => x.elim

theorem St.but {I : Addr} {h' : Heap} (H : St g L h fr led) (k : ∀ b o, b ≠ I → h.get? b = some o → h'.get? b = some o) (nL : I ≠ L) (nl : I ∉ led.map (·.1)) (nG : g.get? I = none) : St g L h' fr led := by
  obtain ⟨oL, es, ep, hL, r⟩ := H.ns
  refine ⟨⟨oL, es, ep, k _ _ (Ne.symm nL) hL, r⟩, fun b o e => k b o (fun q => ?_) (H.keep b o e), fun p hp => (let ⟨o, e, r⟩ := H.at_ p hp; ⟨o, k _ _ (fun q => nl (by rw [← q]; exact List.mem_map_of_mem hp)) e, r⟩), H.off, H.ne, H.nL, H.nd⟩
  · rw [q, nG] at e; cases e

theorem for_core {target : Expr} {body orelse : List Stmt} {I : Addr} {WI : Nat → Obj → Prop} {n : Nat} {P : Nat → Value → Prop} {J : Nat → Fm → Lg → Prop} {R : Result → Shared → Prop}
    (H : St g L h fr led) (hI : ∃ o, h.get? I = some o ∧ WI 0 o) (nL : I ≠ L) (nl : I ∉ led.map (·.1)) (nG : g.get? I = none) (hR : ∀ f s', Q f s' → R (.ok f) s')
    (item : ∀ i h₁ tk₁ (Q' : Option Value → Shared → Prop), i < n → Ext g h₁ → (∃ o, h₁.get? I = some o ∧ WI i o) →
      (∀ v h₂ tk₂, P i v → (∃ o, h₂.get? I = some o ∧ WI (i + 1) o) → (∀ b o, b ≠ I → h₁.get? b = some o → h₂.get? b = some o) → Q' (some v) ⟨h₂, gn, dr, tk₂, os⟩) → wpAny (model PR w) (AW d u) (pyNext (.ref I)) Q' NE ⟨h₁, gn, dr, tk₁, os⟩)
    (done : ∀ h₁ tk₁ (Q' : Option Value → Shared → Prop), Ext g h₁ → (∃ o, h₁.get? I = some o ∧ WI n o) →
      (∀ h₂ tk₂, (∀ b o, b ≠ I → h₁.get? b = some o → h₂.get? b = some o) → Q' none ⟨h₂, gn, dr, tk₂, os⟩) → wpAny (model PR w) (AW d u) (pyNext (.ref I)) Q' NE ⟨h₁, gn, dr, tk₁, os⟩)
    (own : ∀ i v (s₁ : Shared) (Q' : Unit → Shared → Prop), P i v → (∃ o, s₁.heap.get? I = some o ∧ WI (i + 1) o) → Q' () s₁ → wpAny (model PR w) (AW d u) (letOwnedTupleGo target (.ref I) v) Q' NE s₁)
    (hJ : J 0 fr led)
    (turn : ∀ i v g' h₁ tk₁ fr₁ led₁, i < n → P i v → Ext g g' → J i fr₁ led₁ → St g' L h₁ fr₁ led₁ →
      wpAny (model PR w) (AW d u) (assign target env v) (fun _ s₂ => wpAny (model PR w) (AW d u) (execs body env) (Lp g' L gn dr os (J (i + 1)) Q) NE s₂) NE ⟨h₁, gn, dr, tk₁, os⟩)
    (fin : ∀ h₁ tk₁ fr₁ led₁, J n fr₁ led₁ → St g L h₁ fr₁ led₁ → wpAny (model PR w) (AW d u) (execs orelse env) Q NE ⟨h₁, gn, dr, tk₁, os⟩) :
    codeAny (model PR w) (AW d u) (.forLoop target (.ref I) body orelse env) R ⟨h, gn, dr, tk, os⟩ := by
  refine codeAny_forLoop_any (fun m s' => ∃ i h₁ tk₁ fr₁ led₁, s' = ⟨h₁, gn, dr, tk₁, os⟩ ∧ m = n - i ∧ i ≤ n ∧ St g L h₁ fr₁ led₁ ∧ J i fr₁ led₁ ∧ (∃ o, h₁.get? I = some o ∧ WI i o) ∧ I ∉ led₁.map (·.1)) ?_ (n - 0) ⟨0, h, tk, fr, led, rfl, rfl, Nat.zero_le _, H, hJ, hI, nl⟩
  rintro m s' ⟨i, h₁, tk₁, fr₁, led₁, rfl, rfl, hin, H₁, J₁, I₁, nl₁⟩
  rcases Nat.lt_or_ge i n with hlt | hge
  · refine ne_noted (item i h₁ tk₁ _ hlt H₁.keep I₁ fun v h₂ tk₂ hv I₂ k₂ => ?_)
    obtain ⟨g', x', H', in'⟩ := (H₁.but k₂ nL nl₁ nG).rebase
    obtain ⟨oI, eI, wI⟩ := I₂
    have gI := in' I oI eI nL nl₁
    refine ne_noted (own i v _ _ hv ⟨oI, eI, wI⟩ ?_)
    refine ne_noted (wpAny_mono (turn i v g' h₂ tk₂ fr₁ led₁ hlt hv x' J₁ H') (fun _ s₂ q => ne_noted (wpAny_mono q (fun f s₃ q => ?_) fun _ _ x => x)) fun _ _ x => x)
    have step : (∃ fr led h tk, s₃ = (⟨h, gn, dr, tk, os⟩ : Shared) ∧ St g' L h fr led ∧ J (i + 1) fr led) → ∃ m, m < n - i ∧ ∃ i h₁ tk₁ fr₁ led₁, s₃ = (⟨h₁, gn, dr, tk₁, os⟩ : Shared) ∧ m = n - i ∧ i ≤ n ∧ St g L h₁ fr₁ led₁ ∧ J i fr₁ led₁ ∧ (∃ o, h₁.get? I = some o ∧ WI i o) ∧ I ∉ led₁.map (·.1) := by
      rintro ⟨fr', led', h', tk', rfl, H₃, J₃⟩
      refine ⟨n - (i + 1), by omega, i + 1, h', tk', fr', led', rfl, rfl, hlt, H₃.base x', J₃, ⟨oI, H₃.keep _ _ gI, wI⟩, fun q => ?_⟩
      obtain ⟨p, hp, e⟩ := List.mem_map.mp q
      have := H₃.off p hp
      rw [e, gI] at this; cases this
    cases f with
    | next => exact step q
    | cont => exact step q
    | brk => exact hR _ _ q
    | ret v => exact hR _ _ q
  · obtain rfl : i = n := Nat.le_antisymm hin hge
    refine ne_noted (done h₁ tk₁ _ H₁.keep I₁ fun h₂ tk₂ k₂ => ?_)
    exact ne_noted (wpAny_mono (fin h₂ tk₂ fr₁ led₁ J₁ (H₁.but k₂ nL nl₁ nG)) (fun f s₃ q => hR _ _ q) fun _ _ x => x)

/-- a for over a list that stands in the base -/
theorem for_list {target iter : Expr} {body orelse : List Stmt} {pos : Pos} {l : Addr} {items : Array Value} {J : Nat → Fm → Lg → Prop}
    (H : St g L h fr led) (hl : g.IsList l items)
    (hiter : ∀ Q' : Value → Shared → Prop, (∀ tk', Q' (.ref l) ⟨h, gn, dr, tk', os⟩) → wpAny (model PR w) (AW d u) (eval iter env) Q' NE ⟨h, gn, dr, tk, os⟩)
    (hJ : J 0 fr led)
    (turn : ∀ i v g' h₁ tk₁ fr₁ led₁, items[i]? = some v → Ext g g' → J i fr₁ led₁ → St g' L h₁ fr₁ led₁ →
      wpAny (model PR w) (AW d u) (assign target env v) (fun _ s₂ => wpAny (model PR w) (AW d u) (execs body env) (Lp g' L gn dr os (J (i + 1)) Q) NE s₂) NE ⟨h₁, gn, dr, tk₁, os⟩)
    (fin : ∀ h₁ tk₁ fr₁ led₁, J items.size fr₁ led₁ → St g L h₁ fr₁ led₁ → wpAny (model PR w) (AW d u) (execs orelse env) Q NE ⟨h₁, gn, dr, tk₁, os⟩)
    (hr : ∀ (i : Nat) (v : Value), items[i]? = some v → (∃ a, v = Value.ref a) ∨ ∃ x p, target = Expr.Name x p)
    (ht : (∃ x p, target = Expr.Name x p) ∨ ∃ es k p, target = Expr.Tuple es k p)
    (hs : ∀ x, foldedSetIterable iter env x = pure x := by intro _; rfl) :
    wpAny (model PR w) (AW d u) (exec (.For target iter body orelse pos) env) Q NE ⟨h, gn, dr, tk, os⟩ := by
  refine wpAny_For (hiter _ fun tk₀ => wpAny_pyIter_list (items := items) (let ⟨o, e, r⟩ := hl; ⟨o, H.keep _ _ e, r⟩) ?_) hs
  have HP : St g L (h.push { cls := .type "list_iterator", data := .fields #[.ref l, .int 0 0] }) fr led := H.ext fun b o e => Heap.get?_push_of_some _ e
  refine for_core (n := items.size) (P := fun i v => items[i]? = some v) (WI := fun i o => o.cls = .type "list_iterator" ∧ o.data = .fields #[.ref l, .int i 0]) (J := J) HP ⟨_, Heap.get?_push_size _ rfl, rfl, rfl⟩ (Nat.ne_of_gt H.ns.lt) ?_ ?_ (Q := Q) (fun _ _ q => q) ?_ ?_ ?_ hJ
    (fun i v g' h₁ tk₁ fr₁ led₁ _ hv => turn i v g' h₁ tk₁ fr₁ led₁ hv) fin
  · intro q
    obtain ⟨p, hp, e⟩ := List.mem_map.mp q
    obtain ⟨_, eo, _⟩ := H.at_ p hp
    exact Nat.lt_irrefl _ (e ▸ Heap.lt_size eo)
  · cases e : g.get? h.objs.size with
    | none => rfl
    | some o => exact absurd (Heap.lt_size (H.keep _ _ e)) (Nat.lt_irrefl _)
  · rintro i h₁ tk₁ Q' hi x₁ ⟨o, eo, w1, w2⟩ hQ
    have hl₁ : h₁.IsList l items := let ⟨o, e, r⟩ := hl; ⟨o, x₁ _ _ e, r⟩
    refine wpAny_pyNext_list_item ⟨o, eo, w1, w2⟩ hl₁ (Array.getElem?_eq_getElem hi) fun h' hit hsb => ?_
    obtain ⟨o', eo', r1, r2⟩ := hit
    exact hQ _ h' tk₁ (Array.getElem?_eq_getElem hi) ⟨o', eo', r1, r2⟩ fun b o hb e => (hsb.2 b hb).trans e
  · rintro h₁ tk₁ Q' x₁ ⟨o, eo, w1, w2⟩ hQ
    have hl₁ : h₁.IsList l items := let ⟨o, e, r⟩ := hl; ⟨o, x₁ _ _ e, r⟩
    exact wpAny_pyNext_list_end rfl ⟨o, eo, w1, w2⟩ hl₁ (by simp) fun h' he => hQ h' tk₁ fun b o hb e => he b o hb e
  · rintro i v s₁ Q' hv ⟨o, eo, w1, w2⟩ hq
    rcases ht with ⟨x, p, rfl⟩ | ⟨es, k, p, rfl⟩
    · exact wpAny_pure hq
    · rcases hr i v hv with ⟨a, rfl⟩ | ⟨x, p', e⟩
      · exact wpAny_letOwnedTupleGo_listiter ⟨o, eo, w1, w2⟩ hq
      · cases e

/-- a for over the signs of a text below 128 -/
theorem for_str {x : Str} {px : Pos} {iter : Expr} {body orelse : List Stmt} {pos : Pos} {txt : Str} {t₀ : Tok} {J : Nat → Fm → Lg → Prop}
    (H : St g L h fr led) (ha : (txt.cps.all fun c => decide (c < 128)) = true)
    (hiter : ∀ Q' : Value → Shared → Prop, (∀ tk', Q' (.str txt t₀) ⟨h, gn, dr, tk', os⟩) → wpAny (model PR w) (AW d u) (eval iter env) Q' NE ⟨h, gn, dr, tk, os⟩)
    (hJ : J 0 fr led)
    (turn : ∀ i c t g' h₁ tk₁ fr₁ led₁, txt.cps[i]? = some c → Ext g g' → J i fr₁ led₁ → St g' L h₁ fr₁ led₁ →
      wpAny (model PR w) (AW d u) (assign (.Name x px) env (.str ⟨#[c]⟩ t)) (fun _ s₂ => wpAny (model PR w) (AW d u) (execs body env) (Lp g' L gn dr os (J (i + 1)) Q) NE s₂) NE ⟨h₁, gn, dr, tk₁, os⟩)
    (fin : ∀ h₁ tk₁ fr₁ led₁, J txt.cps.size fr₁ led₁ → St g L h₁ fr₁ led₁ → wpAny (model PR w) (AW d u) (execs orelse env) Q NE ⟨h₁, gn, dr, tk₁, os⟩)
    (hs : ∀ x, foldedSetIterable iter env x = pure x := by intro _; rfl) :
    wpAny (model PR w) (AW d u) (exec (.For (.Name x px) iter body orelse pos) env) Q NE ⟨h, gn, dr, tk, os⟩ := by
  refine wpAny_For (hiter _ fun tk₀ => wpAny_pyIter_ascii ha ?_) hs
  have HP : St g L (h.push { cls := .type "str_ascii_iterator", data := .fields #[.str txt t₀, .int 0 0] }) fr led := H.ext fun b o e => Heap.get?_push_of_some _ e
  refine for_core (n := txt.cps.size) (P := fun i v => ∃ c t, txt.cps[i]? = some c ∧ v = .str ⟨#[c]⟩ t) (WI := fun i o => o.cls = .type "str_ascii_iterator" ∧ o.data = .fields #[.str txt t₀, .int i 0]) (J := J) HP ⟨_, Heap.get?_push_size _ rfl, rfl, rfl⟩ (Nat.ne_of_gt H.ns.lt) ?_ ?_ (Q := Q) (fun _ _ q => q) ?_ ?_ ?_ hJ
    (fun i v g' h₁ tk₁ fr₁ led₁ _ hv => by obtain ⟨c, t, hc, rfl⟩ := hv; exact turn i c t g' h₁ tk₁ fr₁ led₁ hc) fin
  · intro q
    obtain ⟨p, hp, e⟩ := List.mem_map.mp q
    obtain ⟨_, eo, _⟩ := H.at_ p hp
    exact Nat.lt_irrefl _ (e ▸ Heap.lt_size eo)
  · cases e : g.get? h.objs.size with
    | none => rfl
    | some o => exact absurd (Heap.lt_size (H.keep _ _ e)) (Nat.lt_irrefl _)
  · rintro i h₁ tk₁ Q' hi x₁ ⟨o, eo, w1, w2⟩ hQ
    refine wpAny_pyNext_ascii_item ⟨o, eo, w1, w2⟩ (Array.getElem?_eq_getElem hi) fun h' hit hsb => ?_
    obtain ⟨o', eo', r1, r2⟩ := hit
    exact hQ _ h' _ ⟨_, _, Array.getElem?_eq_getElem hi, rfl⟩ ⟨o', eo', r1, r2⟩ fun b o hb e => (hsb.2 b hb).trans e
  · rintro h₁ tk₁ Q' x₁ ⟨o, eo, w1, w2⟩ hQ
    exact wpAny_pyNext_ascii_end rfl ⟨o, eo, w1, w2⟩ (by simp) fun h' he => hQ h' tk₁ fun b o hb e => he b o hb e
  · rintro i v s₁ Q' hv ⟨o, eo, w1, w2⟩ hq
    exact wpAny_pure hq

/-- a for over a tuple that stands in the base -/
theorem for_tuple {x : Str} {px : Pos} {iter : Expr} {body orelse : List Stmt} {pos : Pos} {l : Addr} {items : Array Value} {J : Nat → Fm → Lg → Prop}
    (H : St g L h fr led) (hl : g.IsTuple l items)
    (hiter : ∀ Q' : Value → Shared → Prop, (∀ tk', Q' (.ref l) ⟨h, gn, dr, tk', os⟩) → wpAny (model PR w) (AW d u) (eval iter env) Q' NE ⟨h, gn, dr, tk, os⟩)
    (hJ : J 0 fr led)
    (turn : ∀ i v g' h₁ tk₁ fr₁ led₁, items[i]? = some v → Ext g g' → J i fr₁ led₁ → St g' L h₁ fr₁ led₁ →
      wpAny (model PR w) (AW d u) (assign (.Name x px) env v) (fun _ s₂ => wpAny (model PR w) (AW d u) (execs body env) (Lp g' L gn dr os (J (i + 1)) Q) NE s₂) NE ⟨h₁, gn, dr, tk₁, os⟩)
    (fin : ∀ h₁ tk₁ fr₁ led₁, J items.size fr₁ led₁ → St g L h₁ fr₁ led₁ → wpAny (model PR w) (AW d u) (execs orelse env) Q NE ⟨h₁, gn, dr, tk₁, os⟩)
    (hs : ∀ x, foldedSetIterable iter env x = pure x := by intro _; rfl) :
    wpAny (model PR w) (AW d u) (exec (.For (.Name x px) iter body orelse pos) env) Q NE ⟨h, gn, dr, tk, os⟩ := by
  refine wpAny_For (hiter _ fun tk₀ => wpAny_pyIter_tuple (items := items) (let ⟨o, e, r⟩ := hl; ⟨o, H.keep _ _ e, r⟩) ?_) hs
  have HP : St g L (h.push { cls := .type "tuple_iterator", data := .fields #[.ref l, .int 0 0] }) fr led := H.ext fun b o e => Heap.get?_push_of_some _ e
  refine for_core (n := items.size) (P := fun i v => items[i]? = some v) (WI := fun i o => o.cls = .type "tuple_iterator" ∧ o.data = .fields #[.ref l, .int i 0]) (J := J) HP ⟨_, Heap.get?_push_size _ rfl, rfl, rfl⟩ (Nat.ne_of_gt H.ns.lt) ?_ ?_ (Q := Q) (fun _ _ q => q) ?_ ?_ ?_ hJ
    (fun i v g' h₁ tk₁ fr₁ led₁ _ hv => turn i v g' h₁ tk₁ fr₁ led₁ hv) fin
  · intro q
    obtain ⟨p, hp, e⟩ := List.mem_map.mp q
    obtain ⟨_, eo, _⟩ := H.at_ p hp
    exact Nat.lt_irrefl _ (e ▸ Heap.lt_size eo)
  · cases e : g.get? h.objs.size with
    | none => rfl
    | some o => exact absurd (Heap.lt_size (H.keep _ _ e)) (Nat.lt_irrefl _)
  · rintro i h₁ tk₁ Q' hi x₁ ⟨o, eo, w1, w2⟩ hQ
    have hl₁ : h₁.IsTuple l items := let ⟨o, e, r⟩ := hl; ⟨o, x₁ _ _ e, r⟩
    refine wpAny_pyNext_tuple_item ⟨o, eo, w1, w2⟩ hl₁ (Array.getElem?_eq_getElem hi) fun h' hit hsb => ?_
    obtain ⟨o', eo', r1, r2⟩ := hit
    exact hQ _ h' tk₁ (Array.getElem?_eq_getElem hi) ⟨o', eo', r1, r2⟩ fun b o hb e => (hsb.2 b hb).trans e
  · rintro h₁ tk₁ Q' x₁ ⟨o, eo, w1, w2⟩ hQ
    have hl₁ : h₁.IsTuple l items := let ⟨o, e, r⟩ := hl; ⟨o, x₁ _ _ e, r⟩
    exact wpAny_pyNext_tuple_end rfl ⟨o, eo, w1, w2⟩ hl₁ (by simp) fun h' he => hQ h' tk₁ fun b o hb e => he b o hb e
  · rintro i v s₁ Q' hv ⟨o, eo, w1, w2⟩ hq
    exact wpAny_pure hq

/-- a while -/
theorem while_core {test : Expr} {body orelse : List Stmt} {pos : Pos} {J : Nat → Fm → Lg → Prop} {n : Nat}
    (H : St g L h fr led) (hJ : J n fr led)
    (turn : ∀ n h₁ tk₁ fr₁ led₁, J n fr₁ led₁ → St g L h₁ fr₁ led₁ →
      wpAny (model PR w) (AW d u) (isTrue test env (eval test env)) (fun b s₂ =>
        (b = true → wpAny (model PR w) (AW d u) (execs body env) (Lp g L gn dr os (fun fr led => ∃ m, m < n ∧ J m fr led) Q) NE s₂) ∧ (b = false → wpAny (model PR w) (AW d u) (execs orelse env) Q NE s₂)) NE ⟨h₁, gn, dr, tk₁, os⟩) :
    wpAny (model PR w) (AW d u) (exec (.While test body orelse pos) env) Q NE ⟨h, gn, dr, tk, os⟩ := by
  refine wpAny_While (codeAny_whileLoop (fun m s' => ∃ h₁ tk₁ fr₁ led₁, s' = ⟨h₁, gn, dr, tk₁, os⟩ ∧ St g L h₁ fr₁ led₁ ∧ J m fr₁ led₁) ?_ n ⟨h, tk, fr, led, rfl, H, hJ⟩)
  rintro m s' ⟨h₁, tk₁, fr₁, led₁, rfl, H₁, J₁⟩
  refine ne_noted (wpAny_mono (turn m h₁ tk₁ fr₁ led₁ J₁ H₁) (fun b s₂ q => ?_) fun _ _ x => x)
  cases b with
  | false => exact ne_noted (q.2 rfl)
  | true =>
    refine ne_noted (wpAny_mono (q.1 rfl) (fun f s₃ q => ?_) fun _ _ x => x)
    cases f with
    | next => obtain ⟨fr', led', h', tk', rfl, H', m', hm, j⟩ := q; exact ⟨m', hm, h', tk', fr', led', rfl, H', j⟩
    | cont => obtain ⟨fr', led', h', tk', rfl, H', m', hm, j⟩ := q; exact ⟨m', hm, h', tk', fr', led', rfl, H', j⟩
    | brk => exact q
    | ret v => exact q

variable {M : Model} {A : Around} {s : Shared}
theorem orC {x : Expr} {rest : List Expr} {Q : Bool → Shared → Prop}
    (h : wpAny M A (isTrue x env (eval x env)) (fun b s₁ => (b = true → Q true s₁) ∧ (b = false → wpAny M A (allTrue .Or rest env) Q NE s₁)) NE s) : wpAny M A (allTrue .Or (x :: rest) env) Q NE s := by
  refine wpAny_allTrue_Or_cons (wpAny_mono h (fun b s₁ q => ?_) fun _ _ x => x)
  cases b
  · exact q.2 rfl
  · exact q.1 rfl
theorem andC {x : Expr} {rest : List Expr} {Q : Bool → Shared → Prop}
    (h : wpAny M A (isTrue x env (eval x env)) (fun b s₁ => (b = true → wpAny M A (allTrue .And rest env) Q NE s₁) ∧ (b = false → Q false s₁)) NE s) : wpAny M A (allTrue .And (x :: rest) env) Q NE s := by
  refine wpAny_allTrue_And_cons (wpAny_mono h (fun b s₁ q => ?_) fun _ _ x => x)
  cases b
  · exact q.2 rfl
  · exact q.1 rfl
theorem ifxC {test body orelse : Expr} {pos : Pos} {Q : Value → Shared → Prop}
    (h : wpAny M A (isTrue test env (eval test env)) (fun b s₁ => (b = true → wpAny M A (eval body env) Q NE s₁) ∧ (b = false → wpAny M A (eval orelse env) Q NE s₁)) NE s) : wpAny M A (eval (.IfExp test body orelse pos) env) Q NE s := by
  refine wpAny_IfExp (wpAny_mono h (fun b s₁ q => ?_) fun _ _ x => x)
  cases b
  · exact q.2 rfl
  · exact q.1 rfl
end

abbrev S (l : List Nat) : Str := ⟨l.toArray⟩
theorem l_sl : Str.ofString "/" = S [47] := by decide +kernel
theorem l_dot : Str.ofString "." = S [46] := by decide +kernel
theorem l_dd : Str.ofString ".." = S [46, 46] := by decide +kernel
theorem l_em : Str.ofString "" = S [] := by decide +kernel
theorem l_nl : Str.ofString "\n" = S [10] := by decide +kernel
theorem l_qu : Str.ofString "\"" = S [34] := by decide +kernel
theorem l_bs : Str.ofString "\\" = S [92] := by decide +kernel
theorem l_bl : Str.ofString " " = S [32] := by decide +kernel
theorem l_qb : Str.ofString "\"\\" = S [34, 92] := by decide +kernel
theorem l_ws : Str.ofString "\n\t\r " = S [10, 9, 13, 32] := by decide +kernel
theorem l_wf : Str.ofString "f" = S [102] := by decide +kernel
theorem l_wgh : Str.ofString "g h" = S [103, 32, 104] := by decide +kernel
theorem l_wx : Str.ofString "x\\\"" = S [120, 92, 34] := by decide +kernel
theorem l_mk : Str.ofString "<" = S [60] := by decide +kernel
theorem l_yg : Str.ofString "g" = S [103] := by decide +kernel
theorem l_yuf : Str.ofString "../f" = S [46, 46, 47, 102] := by decide +kernel
theorem l_ydf : Str.ofString "d/f" = S [100, 47, 102] := by decide +kernel
theorem l_yeg : Str.ofString "./e//g" = S [46, 47, 101, 47, 47, 103] := by decide +kernel
theorem l_yeug : Str.ofString "e/../g" = S [101, 47, 46, 46, 47, 103] := by decide +kernel
theorem l_ydeg : Str.ofString "/d/e/g" = S [47, 100, 47, 101, 47, 103] := by decide +kernel
theorem l_yuudg : Str.ofString "../../d/g" = S [46, 46, 47, 46, 46, 47, 100, 47, 103] := by decide +kernel
theorem l_yssf : Str.ofString "//f" = S [47, 47, 102] := by decide +kernel
theorem l_pdf : Str.ofString "/d/f" = S [47, 100, 47, 102] := by decide +kernel
theorem l_pf : Str.ofString "/f" = S [47, 102] := by decide +kernel
theorem l_pdg : Str.ofString "/d/g" = S [47, 100, 47, 103] := by decide +kernel
theorem l_ss : Str.ofString "//" = S [47, 47] := by decide +kernel
theorem S_app (a b : List Nat) : S a ++ S b = S (a ++ b) := by
  show Str.append (S a) (S b) = _
  simp [Str.append, S]
theorem S_len (a : List Nat) : (S a).length = a.length := by simp [Str.length]
theorem S_inj {a b : List Nat} : (S a == S b) = (a == b) := by
  rw [Bool.eq_iff_iff, beq_iff_eq, beq_iff_eq]
  exact ⟨fun e => by have := congrArg (fun x : Str => x.cps.toList) e; simpa using this, fun e => by rw [e]⟩
theorem S_bne {a b : List Nat} : (S a != S b) = (a != b) := by rw [bne, bne, S_inj]

section
variable {w : World} {h : Heap} {gn : Array GenState} {dr : Drawn} {os : OsState} {tk : Nat} {env : Env} {A : Around} {E : Value → Shared → Prop} {M : Model}
theorem kS {x : Str} {l : List Nat} {k pos} {Q : Value → Shared → Prop} (hx : x = S l) (hq : ∀ t tk', Q (.str (S l) t) ⟨h, gn, dr, tk', os⟩) : wpAny M A (eval (.Constant (.str x) k pos) env) Q E ⟨h, gn, dr, tk, os⟩ := by
  subst hx; exact wpAny_Constant_str (hq _ _)
theorem kI {i : Int} {k pos} {Q : Value → Shared → Prop} (hq : ∀ t tk', Q (.int i t) ⟨h, gn, dr, tk', os⟩) : wpAny M A (eval (.Constant (.int i) k pos) env) Q E ⟨h, gn, dr, tk, os⟩ := wpAny_Constant_int (hq _ _)
variable {prog : Program}
theorem oEqS {a b : List Nat} {t u : Tok} {Q : Value → Shared → Prop} (hq : Q (.bool (a == b)) ⟨h, gn, dr, tk, os⟩) : wpAny (model prog w) A (compareOp .Eq (.str (S a) t) (.str (S b) u)) Q E ⟨h, gn, dr, tk, os⟩ :=
  eq_str (by rw [S_inj]; exact hq)
theorem oNeS {a b : List Nat} {t u : Tok} {Q : Value → Shared → Prop} (hq : Q (.bool (a != b)) ⟨h, gn, dr, tk, os⟩) : wpAny (model prog w) A (compareOp .NotEq (.str (S a) t) (.str (S b) u)) Q E ⟨h, gn, dr, tk, os⟩ :=
  ne_str (by rw [S_bne]; exact hq)
theorem oIn1 {a : List Nat} {c : Nat} {t u : Tok} {Q : Value → Shared → Prop} (hq : Q (.bool (decide (c ∈ a))) ⟨h, gn, dr, tk, os⟩) : wpAny (model prog w) A (compareOp .In (.str (S [c]) t) (.str (S a) u)) Q E ⟨h, gn, dr, tk, os⟩ :=
  in_str (by rw [StrLaws.found_one]; exact hq)
theorem oAddS {a b : List Nat} {t u : Tok} {Q : Value → Shared → Prop} (hq : ∀ t tk', Q (.str (S (a ++ b)) t) ⟨h, gn, dr, tk', os⟩) (hsz : a.length + b.length ≤ sizeLine) : wpAny (model prog w) A (binaryOp .Add (.str (S a) t) (.str (S b) u)) Q E ⟨h, gn, dr, tk, os⟩ :=
  add_str (fun t' tk' => by rw [S_app]; exact hq t' tk') (by rw [S_len, S_len]; exact hsz)
theorem oIaddS {a b : List Nat} {t u : Tok} {Q : Value → Shared → Prop} (hq : ∀ t tk', Q (.str (S (a ++ b)) t) ⟨h, gn, dr, tk', os⟩) (hsz : a.length + b.length ≤ sizeLine) : wpAny (model prog w) A (inplaceOp .Add (.str (S a) t) (.str (S b) u)) Q E ⟨h, gn, dr, tk, os⟩ :=
  iadd_str (fun t' tk' => by rw [S_app]; exact hq t' tk') (by rw [S_len, S_len]; exact hsz)
theorem oAddI {a b : Int} {t u : Tok} {Q : Value → Shared → Prop} (hq : ∀ t tk', Q (.int (a + b) t) ⟨h, gn, dr, tk', os⟩) : wpAny (model prog w) A (binaryOp .Add (.int a t) (.int b u)) Q E ⟨h, gn, dr, tk, os⟩ := add_int (hq _ _)
theorem oModI {a b : Int} {t u : Tok} {Q : Value → Shared → Prop} (hb : b ≠ 0) (hq : ∀ t tk', Q (.int (Int.fmod a b) t) ⟨h, gn, dr, tk', os⟩) : wpAny (model prog w) A (binaryOp .Mod (.int a t) (.int b u)) Q E ⟨h, gn, dr, tk, os⟩ := mod_int' hb (hq _ _)
theorem oTrS {a : List Nat} {t : Tok} {Q : Bool → Shared → Prop} (hl : a.length < 1000000) (hq : ∀ tk', Q (!a.isEmpty) ⟨h, gn, dr, tk', os⟩) : wpAny (model prog w) A (truthy (.str (S a) t)) Q E ⟨h, gn, dr, tk, os⟩ := by
  refine SBL.truthy (by rw [S_len]; omega) ?_
  have : (((S a).length : Int) != 0) = !a.isEmpty := by
    rw [S_len]
    cases a with
    | nil => rfl
    | cons x r => rw [Bool.eq_iff_iff]; simp; omega
  rw [this]; exact hq _
end

/-- a loop's own name: not bound yet, or bound -/
def Opt1 (x : Str) (rest : Fm) : Prop := rest = [] ∨ ∃ v, rest = [(x, v)]
theorem upd_miss {x : Str} {v : Value} {rest : Fm} : ∀ {base : Fm}, base.lookup x = none → upd x v (base ++ rest) = base ++ upd x v rest
  | [], _ => rfl
  | (y, u) :: r, h => by
    rw [List.lookup_cons] at h
    by_cases q : x = y
    · subst q; simp at h
    · have : (x == y) = false := by simpa using q
      rw [this] at h
      show upd x v ((y, u) :: (r ++ rest)) = _
      rw [upd, if_neg q, upd_miss h]; rfl
theorem asg1 {g h : Heap} {L : Addr} {gn : Array GenState} {dr : Drawn} {os : OsState} {tk : Nat} {base rest : Fm} {led : Lg} {env : Env} {ks : List (Str × NameKind)} {cl : List (Str × Addr)} {A : Around} {E : Value → Shared → Prop} {M : Model} {x : Str} {px : Pos} {v : Value} {Q : Unit → Shared → Prop}
    (H : St g L h (base ++ rest) led) (e : EnvOk env L ks cl) (hr : Opt1 x rest) (hb : base.lookup x = none) (hx : ks.lookup x = some .local) (hq : ∀ h' tk', St g L h' (base ++ [(x, v)]) led → Q () ⟨h', gn, dr, tk', os⟩) :
    wpAny M A (assign (.Name x px) env v) Q E ⟨h, gn, dr, tk, os⟩ := by
  refine wpAny_assign_Name (sto H e hx fun h' tk' H' => hq h' tk' ?_)
  rw [upd_miss hb] at H'
  rcases hr with rfl | ⟨u, rfl⟩
  · exact H'
  · rw [upd, if_pos rfl] at H'; exact H'
theorem cT {b : Bool} {P R : Prop} (hb : b = true) (p : P) : (b = true → P) ∧ (b = false → R) := ⟨fun _ => p, fun q => by rw [hb] at q; cases q⟩
theorem cF {b : Bool} {P R : Prop} (hb : b = false) (r : R) : (b = true → P) ∧ (b = false → R) := ⟨fun q => (by rw [hb] at q; cases q), fun _ => r⟩
theorem cB {b : Bool} {P R : Prop} (p : b = true → P) (r : b = false → R) : (b = true → P) ∧ (b = false → R) := ⟨p, r⟩
theorem look_ne {x y : Str} {v : Value} {fr : Fm} (h : x ≠ y) : List.lookup x ((y, v) :: fr) = List.lookup x fr := by
  rw [List.lookup_cons, (by simpa using h : (x == y) = false)]
section
variable {w : World} {g g' h h' : Heap} {L : Addr} {gn : Array GenState} {dr : Drawn} {os : OsState} {tk : Nat} {fr fr' : Fm} {led : Lg} {env : Env} {ks : List (Str × NameKind)} {clo : List (Str × Addr)} {A : Around} {E : Value → Shared → Prop} {M : Model}
theorem St.frEq (H : St g L h fr led) (e : ∀ x, fr.lookup x = fr'.lookup x) : St g L h fr' led :=
  ⟨(funext e : (fun x => fr.lookup x) = fun x => fr'.lookup x) ▸ H.ns, H.keep, H.at_, H.off, H.ne, H.nL, H.nd⟩
/-- a store: the newest name in front -/
theorem stoF {x : Str} {v : Value} {Q : Unit → Shared → Prop} (H : St g L h fr led) (e : EnvOk env L ks clo) (hx : ks.lookup x = some .local) (hq : ∀ h' tk', St g L h' ((x, v) :: fr) led → Q () ⟨h', gn, dr, tk', os⟩) : wpAny M A (storeName env x v) Q E ⟨h, gn, dr, tk, os⟩ :=
  sto H e hx fun h' tk' H' => hq h' tk' (H'.frEq fun y => by
    rw [upd_lookup, List.lookup_cons]
    by_cases q : y = x
    · subst q; simp
    · have : (y == x) = false := by simpa using q
      rw [this, if_neg q])
end

end
section

/-- all objects of a heap but some: a rule told over a ledger is told over the whole heap by it -/
def allBut (h : Heap) (X : List Addr) : List (Addr × Obj) := (List.range h.objs.size).filterMap fun a => if a ∈ X then none else (h.get? a).map fun o => (a, o)
theorem mem_allBut {h : Heap} {X : List Addr} {p : Addr × Obj} : p ∈ allBut h X ↔ h.get? p.1 = some p.2 ∧ p.1 ∉ X := by
  unfold allBut
  rw [List.mem_filterMap]
  constructor
  · rintro ⟨a, _, e⟩
    split at e
    · cases e
    · rename_i n
      obtain ⟨o, ho, rfl⟩ := Option.map_eq_some_iff.mp e
      exact ⟨ho, n⟩
  · rintro ⟨e, n⟩
    exact ⟨p.1, List.mem_range.mpr (Heap.lt_size e), by rw [if_neg n, e]; rfl⟩
theorem get_nil (b : Addr) : ({} : Heap).get? b = none := by simp [Heap.get?]
theorem fr_nil {h : Heap} {L : Addr} {m : Str → Option Value} (n : h.Ns L m) : Fr {} L h m := ⟨n, fun b o e => (by rw [get_nil] at e; cases e), Nat.zero_le _⟩

/-- an instance's own dict, by its names and values -/
def Ents : List DictEntry → Fm → Prop
  | [], [] => True
  | e :: es, p :: ps => (∃ t, e.key = .str p.1 t) ∧ e.val = p.2 ∧ Ents es ps
  | _, _ => False
theorem Ents.length : ∀ {es : List DictEntry} {kv : Fm}, Ents es kv → es.length = kv.length
  | [], [], _ => rfl
  | _ :: _, _ :: _, h => by rw [List.length_cons, List.length_cons, Ents.length h.2.2]
  | [], _ :: _, h => h.elim
  | _ :: _, [], h => h.elim
theorem isStr_lit (x y : Str) (t : Tok) : (Value.str x t).isStr y = (x == y) := rfl
theorem Ents.noRef : ∀ {es : List DictEntry} {kv : Fm}, Ents es kv → es.any (·.refKey) = false
  | [], [], _ => rfl
  | e :: es, p :: ps, h => by
    obtain ⟨⟨t, ht⟩, _, r⟩ := h
    rw [List.any_cons, Ents.noRef r]
    unfold DictEntry.refKey
    rw [ht]; rfl
  | [], _ :: _, h => h.elim
  | _ :: _, [], h => h.elim
theorem Ents.get (name : Str) : ∀ {es : List DictEntry} {kv : Fm}, Ents es kv → getL name es = some (kv.lookup name)
  | [], [], _ => rfl
  | e :: es, p :: ps, h => by
    have nr := Ents.noRef h
    obtain ⟨⟨t, ht⟩, hv, r⟩ := h
    have ih := Ents.get name r
    obtain ⟨k, v⟩ := p
    unfold getL at ih ⊢
    rw [List.find?_cons, ht, isStr_lit, List.lookup_cons]
    by_cases q : k = name
    · subst q; simp only [beq_self_eq_true]; rw [hv]
    · have q1 : (k == name) = false := by simpa using q
      have q2 : (name == k) = false := by simpa using Ne.symm q
      rw [q1, q2]
      dsimp only
      rw [nr]
      have nr' := Ents.noRef r
      rw [nr'] at ih
      exact ih
  | [], _ :: _, h => h.elim
  | _ :: _, [], h => h.elim
theorem Ents.put (name : Str) (hs : Int) (t : Tok) (v : Value) : ∀ {es : List DictEntry} {kv : Fm}, Ents es kv → Ents (putL name hs (.str name t) v es) (upd name v kv)
  | [], [], _ => ⟨⟨t, rfl⟩, rfl, trivial⟩
  | e :: es, p :: ps, h => by
    obtain ⟨⟨t', ht⟩, hv, r⟩ := h
    obtain ⟨k, u⟩ := p
    unfold putL upd
    rw [ht, isStr_lit]
    by_cases q : k = name
    · subst q
      simp only [beq_self_eq_true, if_true]
      exact ⟨⟨t', rfl⟩, rfl, r⟩
    · have q1 : (k == name) = false := by simpa using q
      rw [q1, if_neg (by simp), if_neg (fun e => q e.symm)]
      exact ⟨⟨t', ht⟩, hv, Ents.put name hs t v r⟩
  | [], _ :: _, h => h.elim
  | _ :: _, [], h => h.elim
def IsI (kv : Fm) : Obj → Prop := fun o => ∃ es n, o = dictOf es n ∧ Ents es kv
def IsLs (its : List Value) : Obj → Prop := fun o => ∃ n, o = listOf its.toArray n
def IsLw (its : List Value) : Obj → Prop := fun o => o.cls = .type "list" ∧ ∃ n, o.data = .seq its.toArray n
def Is (o' : Obj) : Obj → Prop := fun o => o = o'

section
variable {w : World} {mg mb : Str → Option Value} {g h : Heap} {L : Addr} {gn : Array GenState} {dr : Drawn} {os : OsState} {tk : Nat} {fr : Fm} {led : Lg} {A : Around} {E : Value → Shared → Prop}

theorem instAt {x C dx : Addr} {o : Obj} (hx : h.get? x = some (instObj C dx)) (hd : h.get? dx = some o) : W.InstAt h x (instObj C dx) C (some o) := ⟨hx, rfl, rfl, hd⟩

/-- an attribute that lies in the instance's own dict -/
theorem atG {x C dx : Addr} {kv : Fm} {name : Str} {v : Value} {attr : Option Value} {expr : Bool} {Q : Value → Shared → Prop} (G : Gd w mg mb g) (H : St g L h fr led) (hx : h.get? x = some (instObj C dx)) (hd : ∃ o, h.get? dx = some o ∧ IsI kv o)
    (hl : kv.lookup name = some v) (hg : plainGet (Mine.hd.heap_39 w.params) C name = true) (hh : hasDictIn (Mine.hd.heap_39 w.params) C = true) (ha : findIn (Mine.hd.heap_39 w.params) (.ref C) name = some attr) (hn : noGet (Mine.hd.heap_39 w.params) attr = true) (hv : handedIn v = true)
    (hq : ∀ tk', Q v ⟨h, gn, dr, tk', os⟩) : wpAny (model PR w) A (getAttr (.ref x) name expr) Q E ⟨h, gn, dr, tk, os⟩ := by
  obtain ⟨o, eo, es, n, rfl, en⟩ := hd
  exact get_value (G.K.keeps H.keep) (instAt hx eo) (plainGet_of hg).1 (findObj_own hh ha hn (by rw [lookIn_dict, en.get, hl])) hv (hq _)
/-- an attribute stored in the instance's own dict -/
theorem atS {x C dx : Addr} {kv : Fm} {name : Str} {v : Value} {Q : Unit → Shared → Prop} (i : Nat) (G : Gd w mg mb g) (H : St g L h fr led) (hx : h.get? x = some (instObj C dx)) (hi : led[i]? = some (dx, IsI kv)) (hz : kv.length ≤ 900)
    (hs : findIn (Mine.hd.heap_39 w.params) (.ref C) "__setattr__" = some (some (.builtin "object.__setattr__"))) (hp : plainOver (Mine.hd.heap_39 w.params) C = true) (ht : takerIn (Mine.hd.heap_39 w.params) C name = some none) (hh : hasDictIn (Mine.hd.heap_39 w.params) C = true)
    (hq : ∀ h' tk', St g L h' fr (led.set i (dx, IsI (upd name v kv))) → Q () ⟨h', gn, dr, tk', os⟩) : wpAny (model PR w) A (setAttr (.ref x) name v) Q E ⟨h, gn, dr, tk, os⟩ := by
  obtain ⟨o, eo, es, n, rfl, en⟩ := H.get i hi
  have ne : dx ≠ L := H.ne _ (List.mem_of_getElem? hi)
  have N : News {} L h (allBut h [L, dx] ++ (dx, dictOf es n) :: []) := by
    intro p hp
    rcases List.mem_append.mp hp with q | q
    · obtain ⟨a, b⟩ := mem_allBut.mp q
      exact ⟨a, fun z => b (by rw [z]; exact .head _), get_nil _⟩
    · obtain rfl := List.mem_singleton.mp q
      exact ⟨eo, ne, get_nil _⟩
  have len : (putL name (PyData.keyHash w.params name) (.str name (tk + 1)) v es).length ≤ 1000 := by
    have := (Ents.put name (PyData.keyHash w.params name) (tk + 1) v en).length
    have l2 : ∀ kv : Fm, (upd name v kv).length ≤ kv.length + 1 := by
      intro kv
      induction kv with
      | nil => exact Nat.le_refl _
      | cons p r ih =>
        obtain ⟨k, u⟩ := p
        unfold upd
        split
        · simp
        · simp only [List.length_cons]; omega
    have := l2 kv
    omega
  refine set_plain (G.K.keeps H.keep) (instAt hx eo) hs (osa_dict (s := ⟨h, gn, dr, tk + 1, os⟩) (fr_nil H.ns) N (G.K.keeps H.keep) (instAt hx eo) rfl hp ht hh (by rw [lookIn_dict, en.get]; rfl)
    (fun p hp q => (mem_allBut.mp hp).2 (by rw [q]; exact .tail _ (.head _))) (fun _ q => nomatch q) (by rw [putName_dict]) rfl len fun h' F' N' => ?_)
  refine hq h' _ ?_
  have key : ∀ b o, b ≠ dx → b ≠ L → h.get? b = some o → h'.get? b = some o := fun b o n1 n2 e => (N' (b, o) (List.mem_append_left _ (mem_allBut.mpr ⟨e, fun q => by
    rcases List.mem_cons.mp q with q | q
    · exact n2 q
    · exact n1 (List.mem_singleton.mp q)⟩))).1
  exact H.turnN i hi F'.ns key ⟨_, (N' (dx, _) (List.mem_append_right _ (.head _))).1, _, _, rfl, en.put name _ _ v⟩
/-- as atS, the new ledger worked out -/
theorem atSU {x C dx : Addr} {kv : Fm} {name : Str} {v : Value} {F : Lg} {Q : Unit → Shared → Prop} (i : Nat) (G : Gd w mg mb g) (H : St g L h fr led) (hx : h.get? x = some (instObj C dx)) (hi : led[i]? = some (dx, IsI kv)) (hz : kv.length ≤ 900)
    (hs : findIn (Mine.hd.heap_39 w.params) (.ref C) "__setattr__" = some (some (.builtin "object.__setattr__"))) (hp : plainOver (Mine.hd.heap_39 w.params) C = true) (ht : takerIn (Mine.hd.heap_39 w.params) C name = some none) (hh : hasDictIn (Mine.hd.heap_39 w.params) C = true)
    (hu : led.set i (dx, IsI (upd name v kv)) = F) (hq : ∀ h' tk', St g L h' fr F → Q () ⟨h', gn, dr, tk', os⟩) : wpAny (model PR w) A (setAttr (.ref x) name v) Q E ⟨h, gn, dr, tk, os⟩ :=
  atS i G H hx hi hz hs hp ht hh fun h' tk' H' => hq h' tk' (hu ▸ H')
end

end
section

/-! slices of texts -/
def clipZ (n d : Nat) : Option Int → Nat
  | none => d
  | some i => (max 0 (min (if i < 0 then i + n else i) (n : Int))).toNat
/-- l[lo:hi] -/
def sl {α : Type} (l : List α) (lo hi : Option Int) : List α := (l.take (clipZ l.length l.length hi)).drop (clipZ l.length 0 lo)
theorem sl_le {α : Type} (l : List α) (lo hi : Option Int) : (sl l lo hi).length ≤ l.length := by
  unfold sl
  rw [List.length_drop, List.length_take]
  omega
theorem clipZ_le (n d : Nat) (hd : d ≤ n) (o : Option Int) : clipZ n d o ≤ n := by
  cases o with
  | none => exact hd
  | some i => show (max 0 (min (if i < 0 then i + n else i) (n : Int))).toNat ≤ n; omega
theorem pick_range {l : List Nat} : ∀ (k s : Nat), s + k ≤ l.length → ((List.range k).map fun (i : Nat) => ((s : Int) + 1 * (i : Int)).toNat).filterMap (l.toArray[·]?) = (l.drop s).take k
  | 0, _, _ => by simp
  | k + 1, s, h => by
    rw [List.range_succ, List.map_append, List.filterMap_append, pick_range k s (by omega)]
    have e : ((s : Int) + 1 * (k : Int)).toNat = s + k := by omega
    simp only [List.map_cons, List.map_nil, List.filterMap_cons, List.filterMap_nil, e, List.getElem?_toArray]
    rw [List.getElem?_eq_getElem (by omega)]
    have : (l.drop s)[k]? = some l[s + k] := by rw [List.getElem?_drop, List.getElem?_eq_getElem (by omega)]
    rw [List.take_add_one, this]; rfl
theorem slice_S (l : List Nat) (lo hi : Option Int) : Txt.slice (S l) lo hi = S (sl l lo hi) := by
  have hn : (S l).length = l.length := S_len l
  have core : ∀ A B : Int, 0 ≤ A → 0 ≤ B → (List.range (if A < B then (B - A + 1 - 1) / 1 else 0).toNat).map (fun (k : Nat) => (A + 1 * (k : Int)).toNat) = (List.range (B.toNat - A.toNat)).map fun (i : Nat) => ((A.toNat : Int) + 1 * (i : Int)).toNat := by
    intro A B hA hB
    have e : (A.toNat : Int) = A := Int.toNat_of_nonneg hA
    rw [e]
    congr 2
    split <;> omega
  have ind : Builtin.Str.strSliceIndices lo hi 1 l.length = ((List.range (clipZ l.length l.length hi - clipZ l.length 0 lo)).map fun (i : Nat) => ((clipZ l.length 0 lo : Int) + 1 * (i : Int)).toNat) := by
    unfold Builtin.Str.strSliceIndices sliceRange
    cases lo with
    | none =>
      cases hi with
      | none => simpa [clipZ] using core 0 l.length (by omega) (by omega)
      | some b => simpa [clipZ] using core 0 (max 0 (min (if b < 0 then b + (l.length : Int) else b) (l.length : Int))) (by omega) (by omega)
    | some a =>
      cases hi with
      | none => simpa [clipZ] using core (max 0 (min (if a < 0 then a + (l.length : Int) else a) (l.length : Int))) l.length (by omega) (by omega)
      | some b => simpa [clipZ] using core (max 0 (min (if a < 0 then a + (l.length : Int) else a) (l.length : Int))) (max 0 (min (if b < 0 then b + (l.length : Int) else b) (l.length : Int))) (by omega) (by omega)
  have h1 := clipZ_le l.length l.length (Nat.le_refl _) hi
  have h0 := clipZ_le l.length 0 (Nat.zero_le _) lo
  unfold Txt.slice
  rw [hn, ind]
  split
  · rename_i q
    simp only [List.length_map, List.length_range, beq_self_eq_true, Bool.true_and, beq_iff_eq] at q
    have a : clipZ l.length l.length hi = l.length := by omega
    have b : clipZ l.length 0 lo = 0 ∨ l.length = 0 := by omega
    unfold sl
    rw [a, List.take_length]
    rcases b with b | b
    · rw [b, List.drop_zero]
    · have : l = [] := List.length_eq_zero_iff.mp b
      subst this; simp
  · unfold sl S
    congr 2
    rcases Nat.le_total (clipZ l.length 0 lo) (clipZ l.length l.length hi) with q | q
    · rw [pick_range _ _ (by omega)]
      rw [List.drop_take]
    · have : clipZ l.length l.length hi - clipZ l.length 0 lo = 0 := by omega
      rw [this]
      simp only [List.range_zero, List.map_nil, List.filterMap_nil]
      symm
      rw [List.drop_eq_nil_iff, List.length_take]
      omega

/-- a slice of a text: its parts, and what stands behind -/
inductive SlQ (Q : Value → Shared → Prop) (o vl vu : Value) (s₃ : Shared) : Prop
  | mk (l : List Nat) (t : Tok) (lo hi : Option (Int × Tok)) (h1 : o = .str (S l) t) (h2 : vl = partValue lo) (h3 : vu = partValue hi) (h4 : l.length ≤ sizeLine)
    (h5 : ∀ h' tk' t', Ext s₃.heap h' → Q (.str (S (sl l (lo.map (·.1)) (hi.map (·.1)))) t') ⟨h', s₃.gens, s₃.drawn, tk', s₃.os⟩)
section
variable {w : World} {h : Heap} {gn : Array GenState} {dr : Drawn} {os : OsState} {tk : Nat} {A : Around} {E : Value → Shared → Prop} {s : Shared} {env : Env}
theorem sliceQ {value : Expr} {lower upper : Option Expr} {p pos : Pos} {Q : Value → Shared → Prop}
    (hq : wpAny (model PR w) A (eval value env) (fun o s₁ => wpAny (model PR w) A (evalPart lower env) (fun vl s₂ => wpAny (model PR w) A (evalPart upper env) (fun vu s₃ =>
      SlQ Q o vl vu s₃) E s₂) E s₁) E s)
    (ht : ∀ o r, letTemporaryGo value o r = pure ()) : wpAny (model PR w) A (eval (.Subscript value (.Slice lower upper none p) pos) env) Q E s := by
  refine wpAny_Subscript_str_slice (wpAny_mono hq (fun o s₁ q => wpAny_mono q (fun vl s₂ q => wpAny_mono q (fun vu s₃ q => ?_) fun _ _ x => x) fun _ _ x => x) fun _ _ x => x) ht
  obtain ⟨l, t, lo, hi, rfl, rfl, rfl, hl, q9⟩ := q
  refine ⟨S l, t, lo, hi, rfl, rfl, rfl, ?_⟩
  have e := slice_S l (lo.map (·.1)) (hi.map (·.1))
  have x : Ext s₃.heap (s₃.heap.push { cls := .type "slice", data := .fields #[partValue lo, partValue hi, .none] }) := fun b o e => Heap.get?_push_of_some _ e
  unfold sliceMade slicePicked
  have e' : (if (((none : Option (Int × Tok)).map (·.1)).getD 1 == 1 && (Builtin.Str.strSliceIndices (lo.map (·.1)) (hi.map (·.1)) (((none : Option (Int × Tok)).map (·.1)).getD 1) (S l).length).length == (S l).length) = true then S l
      else (⟨((Builtin.Str.strSliceIndices (lo.map (·.1)) (hi.map (·.1)) (((none : Option (Int × Tok)).map (·.1)).getD 1) (S l).length).filterMap ((S l).cps[·]?)).toArray⟩ : Str)) = S (sl l (lo.map (·.1)) (hi.map (·.1))) := e
  split
  · rename_i c
    rw [if_pos c] at e'
    rw [show Made.val (.str (S l) t) = .val (.str (S (sl l (lo.map (·.1)) (hi.map (·.1)))) t) by rw [← e']]
    exact q9 _ _ _ x
  · rename_i c
    rw [if_neg c] at e'
    rw [e']
    refine ⟨?_, ?_⟩
    · rw [S_len]
      unfold sl
      rw [List.length_drop, List.length_take]
      omega
    · exact q9 _ _ _ x
end

end
section

theorem IsLs.isList {its : List Value} {h : Heap} {l : Addr} (x : ∃ o, h.get? l = some o ∧ IsLs its o) : h.IsList l its.toArray := by
  obtain ⟨o, e, n, rfl⟩ := x
  exact ⟨_, e, rfl, n, rfl⟩
theorem IsLw.isList {its : List Value} {h : Heap} {l : Addr} (x : ∃ o, h.get? l = some o ∧ IsLw its o) : h.IsList l its.toArray := by
  obtain ⟨o, e, c, n, d⟩ := x
  exact ⟨_, e, c, n, d⟩
section
variable {w : World} {mg mb : Str → Option Value} {g h : Heap} {L : Addr} {gn : Array GenState} {dr : Drawn} {os : OsState} {tk : Nat} {fr : Fm} {led : Lg} {A : Around} {E : Value → Shared → Prop} {env : Env} {ks : List (Str × NameKind)} {cl : List (Str × Addr)} {M : Model} {s : Shared}

/-- a free name -/
theorem ldf {x : Str} {pos : Pos} {v : Value} {c : Addr} {Q : Value → Shared → Prop} (H : St g L h fr led) (e : EnvOk env L ks cl) (hx : ks.lookup x = some .free) (hd : (x == ("__debug__" : Str)) = false) (hn : (x == ("__classdict__" : Str)) = false) (hc : cl.lookup x = some c) (hv : g.IsCell c (some v))
    (hq : Q v ⟨h, gn, dr, tk, os⟩) : wpAny M A (eval (.Name x pos) env) Q E ⟨h, gn, dr, tk, os⟩ :=
  wpAny_Name (wpAny_loadName_free e.kind ((e.kindOf x).trans hx) (by rw [e.cells]; exact hc) (let ⟨o, q, r⟩ := hv; ⟨o, H.keep _ _ q, r⟩) hq hn) hd

/-- a method of the class -/
theorem gmF {x C dx f : Addr} {kv : Fm} {name : Str} {pl : Sem Bool} {Q : Value × List Value → Shared → Prop} (G : Gd w mg mb g) (H : St g L h fr led) (hx : h.get? x = some (instObj C dx)) (hd : ∃ o, h.get? dx = some o ∧ IsI kv o)
    (hl : kv.lookup name = none) (hg : plainGet (Mine.hd.heap_39 w.params) C name = true) (hf : findIn (Mine.hd.heap_39 w.params) (.ref C) name = some (some (.ref f))) (ht : isFn (Mine.hd.heap_39 w.params) (.ref f) = true)
    (hq : Q (.ref f, [.ref x]) ⟨h, gn, dr, tk, os⟩) : wpAny (model PR w) A (getMethod (.ref x) name pl) Q E ⟨h, gn, dr, tk, os⟩ := by
  obtain ⟨o, eo, es, n, rfl, en⟩ := hd
  exact method_fn (G.K.keeps H.keep) (instAt hx eo) (plainGet_of hg).1 (plainGet_of hg).2 hf (beq_iff_eq.mp ht) (by show (lookIn name (dictOf es n)).map _ = _; rw [lookIn_dict, en.get, hl]; rfl) hq
/-- a function that lies in the instance's own dict -/
theorem gmA {x C dx : Addr} {kv : Fm} {name : Str} {v : Value} {pl : Sem Bool} {Q : Value × List Value → Shared → Prop} (G : Gd w mg mb g) (H : St g L h fr led) (hx : h.get? x = some (instObj C dx)) (hd : ∃ o, h.get? dx = some o ∧ IsI kv o)
    (hl : kv.lookup name = some v) (hg : plainGet (Mine.hd.heap_39 w.params) C name = true) (hh : hasDictIn (Mine.hd.heap_39 w.params) C = true) (hf : findIn (Mine.hd.heap_39 w.params) (.ref C) name = some none) (hv : handedIn v = true)
    (hq : ∀ tk', Q (v, []) ⟨h, gn, dr, tk', os⟩) : wpAny (model PR w) A (getMethod (.ref x) name pl) Q E ⟨h, gn, dr, tk, os⟩ := by
  obtain ⟨o, eo, es, n, rfl, en⟩ := id hd
  exact method_usual (G.K.keeps H.keep) (instAt hx eo) (plainGet_of hg).1 (plainGet_of hg).2 hf rfl (atG G H hx hd hl hg hh hf rfl hv hq)
/-- a list's method -/
theorem gmL {l : Addr} {its : List Value} {name : Str} {id : String} {pl : Sem Bool} {Q : Value × List Value → Shared → Prop} (slot : Slot "list" name id) (hty : typeOf (.builtin id) = pure (.type "method_descriptor")) (hl : ∃ o, h.get? l = some o ∧ IsLs its o)
    (hq : Q (.builtin id, [.ref l]) ⟨h, gn, dr, tk, os⟩) : wpAny (model PR w) A (getMethod (.ref l) name pl) Q E ⟨h, gn, dr, tk, os⟩ := by
  obtain ⟨o, e, n, rfl⟩ := hl
  exact getMethod_builtin ⟨_, e, rfl⟩ PySem.F.plainAttrs_list slot hty (fun a q => by cases q; exact ⟨_, e, rfl⟩) hq

theorem keeper_fn {f : Addr} {o : Obj} {fd : FuncData} (hd : o.data = .func fd) (h : Heap) (e : h.get? f = some o) : ∃ k, (k = Keeper.frame ∨ k = Keeper.machine ∨ k = Keeper.boundFrame) ∧ Looks M h (keeperOf (.ref f)) k :=
  ⟨.frame, .inl rfl, (Looks.ld (part := none) e).andThen (by rw [hd]; exact .now)⟩
/-- a function object called -/
theorem cwF0 {f : Addr} {o : Obj} {fd : FuncData} {first : List Value} {pos : Pos} {Q : Value → Shared → Prop} (hd : o.data = .func fd) (ho : s.heap.get? f = some o) (hq : wpAny M A (call (.ref f) (first ++ [])) Q E s) : wpAny M A (callWith pos (.ref f) first (backTo pos (starEach [] env)) []) Q E s :=
  callWith_of (P := fun h => h.get? f = some o) rfl (keeper_fn hd) (evalArgs_nil3 ⟨ho, hq⟩)
theorem cwF1 {f : Addr} {o : Obj} {fd : FuncData} {first : List Value} {pos : Pos} {e : Expr} {rest : List Expr} {Q : Value → Shared → Prop} (hd : o.data = .func fd)
    (hq : wpAny M A (spliced (backTo pos (starEach (e :: rest) env))) (fun vs s₁ => s₁.heap.get? f = some o ∧ wpAny M A (call (.ref f) (first ++ vs)) Q E s₁) E s)
    (he : starEach (e :: rest) env = (false, eval e env) :: starEach rest env) (hp : (backTo pos (starEach rest env)).any (·.1) = false) : wpAny M A (callWith pos (.ref f) first (backTo pos (starEach (e :: rest) env)) []) Q E s := by
  rw [he] at hq ⊢
  exact callWith_of (P := fun h => h.get? f = some o) (by show ((false || (backTo pos (starEach rest env)).any (·.1)) || false) = false; rw [hp]; rfl) (keeper_fn hd) (evalArgs_plain hq)

/-- an item of a list -/
theorem ixL {value slice : Expr} {l : Addr} {its : List Value} {k : Int} {u : Tok} {v : Value} {Q : Value → Shared → Prop} (hl : h.IsList l its.toArray) (h0 : 0 ≤ k) (hh : k < 1000000) (hx : its[k.toNat]? = some v)
    (hs : subscripted slice false (.ref l) (.int k u) = operate [.ref l, .int k u] (getItem (.ref l) (.int k u))) (hq : Q v ⟨h, gn, dr, tk, os⟩) : wpAny (model PR w) A (subscriptTail value slice (.ref l) (.int k u)) Q E ⟨h, gn, dr, tk, os⟩ :=
  tail_any hl.typeIs slot_list_getitem.lookup (wpAny_getItem_list hl h0 (by omega) (by simpa using hx) hq) hs
/-- an item of a list is stored -/
theorem ixS {l : Addr} {its : List Value} {k : Int} {u : Tok} {v : Value} {Q : Unit → Shared → Prop} (i : Nat) (H : St g L h fr led) (hi : led[i]? = some (l, IsLw its)) (h0 : 0 ≤ k) (hh : k < 1000000) (hx : k < its.length)
    (hq : ∀ h', St g L h' fr (led.set i (l, IsLw (its.set k.toNat v))) → Q () ⟨h', gn, dr, tk, os⟩) : wpAny (model PR w) A (setItem (.ref l) (.int k u) v) Q E ⟨h, gn, dr, tk, os⟩ := by
  refine wpAny_setItem_list (IsLw.isList (H.get i hi)) h0 (by omega) (by simpa using hx) fun h' hl' hs => hq h' (H.turn i hi (fun b o n e => (hs.2 b n).trans e) ?_)
  obtain ⟨o, e, c, n, d⟩ := hl'
  exact ⟨o, e, c, n, by rw [d]; simp⟩
/-- append -/
theorem apL {l : Addr} {its : List Value} {x : Value} {Q : Value → Shared → Prop} (i : Nat) (H : St g L h fr led) (hi : led[i]? = some (l, IsLs its)) (hsz : its.length ≤ sizeLine)
    (hq : ∀ h', St g L h' fr (led.set i (l, IsLs (its ++ [x]))) → Q .none ⟨h', gn, dr, tk, os⟩) : wpAny (model PR w) A (call (.builtin "list.append") [.ref l, x]) Q E ⟨h, gn, dr, tk, os⟩ := by
  obtain ⟨o, e, n, rfl⟩ := H.get i hi
  refine append_at (s := ⟨h, gn, dr, tk, os⟩) e (fun h' hs ho => hq h' (H.turn i hi (fun b o n e => (hs.2 b n).trans e) ⟨_, ho, n + 1, by simp⟩)) (by simpa using hsz)
/-- pop(0) -/
theorem pop0 {l : Addr} {y : Value} {its : List Value} {u : Tok} {Q : Value → Shared → Prop} (i : Nat) (H : St g L h fr led) (hi : led[i]? = some (l, IsLs (y :: its))) (hsz : its.length < 1000000)
    (hq : ∀ h', St g L h' fr (led.set i (l, IsLs its)) → Q y ⟨h', gn, dr, tk, os⟩) : wpAny (model PR w) A (call (.builtin "list.pop") [.ref l, .int 0 u]) Q E ⟨h, gn, dr, tk, os⟩ := by
  obtain ⟨o, e, n, rfl⟩ := H.get i hi
  have hz : (y :: its).toArray.size ≤ sizeLine := by rw [sizeLine_eq]; simp; omega
  refine call_meets PySem.F.slot_list_pop ⟨_, e, rfl⟩ PySem.F.entry_list_pop (PySem.F.args_list_pop_2 _ _) (PySem.MeetsSeq.list_pop_at l _ n 0 u 0 y rfl (by simp [seqIndex?]) (by simp) hz) ⟨e, hq _ (H.turn i hi (fun b o n e => (Heap.get?_update_ne _ _ _ _ n).trans e) ?_)⟩
  have q := PySem.IsL.update e (fun xs => xs.eraseIdxIfInBounds 0)
  refine ⟨_, q, n + 1, ?_⟩
  have e1 : (y :: its).toArray.eraseIdxIfInBounds 0 = its.toArray := kl_erase [] its y
  rw [e1]
  simp
theorem oLenS {a : List Nat} {t : Tok} {Q : Value → Shared → Prop} (hl : a.length ≤ sizeLine) (hq : ∀ t tk', Q (.int a.length t) ⟨h, gn, dr, tk', os⟩) : wpAny (model PR w) A (call (.builtin "len") [.str (S a) t]) Q E ⟨h, gn, dr, tk, os⟩ := by
  have e := S_len a
  refine len_str (by rw [sizeLine_eq] at hl; omega) ?_
  rw [e]; exact hq _ _
theorem oIaddI {a b : Int} {t u : Tok} {Q : Value → Shared → Prop} (hq : ∀ t tk', Q (.int (a + b) t) ⟨h, gn, dr, tk', os⟩) : wpAny (model PR w) A (inplaceOp .Add (.int a t) (.int b u)) Q E ⟨h, gn, dr, tk, os⟩ := wpAny_iadd_int (hq _ _)
theorem St.offI {a : Addr} {P : Obj → Prop} (H : St g L h fr led) (i : Nat) (hi : led[i]? = some (a, P)) : g.get? a = none := H.off _ (List.mem_of_getElem? hi)
end

end
section
end
theorem fill0 (w : World) : (Mine.hd.heap_39 w.params) = (Mine.hd.heap_39 w.params) ∧ PySem.Challenge.rw_pd0074_01.row.prog = PySem.Challenge.rw_pd0074_01.row.prog := by k_fill; exact ⟨rfl, rfl⟩
-- keq_rows: a def is entered; ktr_rel: one step; k_offL: a name; k_clsL: an operator upon values; lcg_sub: a written text; lcg_off: a size; lcg_src: a test
local macro_rules | `(tactic| keq_rows) => `(tactic| (
  (case ho => refine (Frag.In.keeps (Gd.K (by assumption)) (by assumption)) _ _ ?_; k_is)
  (case hcd => refine codeRec_of (Frag.In.keeps (Gd.K (by assumption)) (by assumption)) ?_; k_is); (case hb => rfl); (case hbind => rfl); (case hfr => rfl); (case hks => rfl); (case hcl => rfl); (case hd => decide); (case hcell => decide); (case hloc => exact locs rfl)
  (case hco => rfl); (case hgen => rfl); (case hk => rfl); (case hgl => rfl); (case hbn => rfl)))
local macro_rules | `(tactic| k_offL) => `(tactic| first
  | ((with_reducible refine' ld ?H ?e ?hx ?hd ?hv ?_); (case H => assumption); (case e => assumption); (case hx => rfl); (case hd => rfl); (case hv => rfl))
  | ((with_reducible refine' ldf ?H ?e ?hx ?hd ?hn ?hc ?hv ?_); (case H => assumption); (case e => assumption); (case hx => rfl); (case hd => rfl); (case hn => rfl); (case hc => assumption); (case hv => assumption))
  | ((with_reducible refine' ldg ?H ?e ?G ?hx ?hd ?hv ?_); (case H => assumption); (case e => assumption); (case G => assumption); (case hx => rfl); (case hd => rfl); (case hv => k_is))
  | ((with_reducible refine' ldb ?H ?e ?G ?hx ?hd ?hv ?hn ?hne ?_); (case H => assumption); (case e => assumption); (case G => assumption); (case hx => rfl); (case hd => rfl); (case hv => with_reducible first | exact boot_isinstance | exact boot_len | exact boot_bytes | exact boot_range | exact boot_iter | exact boot_type | exact boot_str | exact boot_zip | exact boot_getattr); (case hn => k_is); (case hne => decide)))
local macro_rules | `(tactic| lcg_sub) => `(tactic| with_reducible first | exact l_sl | exact l_dot | exact l_dd | exact l_em | exact l_nl | exact l_qu | exact l_bs | exact l_bl | exact l_qb | exact l_ws | exact l_wf | exact l_wgh | exact l_wx | exact l_mk | exact l_yg | exact l_yuf | exact l_ydf | exact l_yeg | exact l_yeug | exact l_ydeg | exact l_yuudg | exact l_yssf | exact l_pdf | exact l_pf | exact l_pdg | exact l_ss)
local macro_rules | `(tactic| lcg_off) => `(tactic| first | decide | (rw [sizeLine_eq]; (try simp only [List.length_append, List.length_cons, List.length_nil]); omega))
local macro_rules | `(tactic| k_clsL) => `(tactic| first
  | (with_reducible refine wpAny_truthy_bool ?_) | (with_reducible refine oEqS ?_) | (with_reducible refine oNeS ?_) | (with_reducible refine eq_int ?_) | (with_reducible refine lt_int ?_) | (with_reducible refine oIn1 ?_) | ((with_reducible refine oAddI ?_); intro _ _) | ((with_reducible refine oIaddI ?_); intro _ _)
  | ((with_reducible refine' oModI ?hb ?_); (case hb => decide); intro _ _)
  | ((with_reducible refine' oIaddS ?_ ?hsz); (case hsz => lcg_off); intro _ _)
  | ((with_reducible refine' oAddS ?_ ?hsz); (case hsz => lcg_off); intro _ _))
-- keq_hits: an object of the ledger or of the base; kp_flats: a list
local macro_rules | `(tactic| keq_hits) => `(tactic| first | exact St.get (by assumption) 0 rfl | exact St.get (by assumption) 1 rfl | exact St.get (by assumption) 2 rfl | exact St.get (by assumption) 3 rfl | exact St.get (by assumption) 4 rfl | exact St.get (by assumption) 5 rfl | exact St.get (by assumption) 6 rfl)
local macro_rules | `(tactic| kp_flats) => `(tactic| first | exact IsLw.isList (by keq_hits) | exact IsLs.isList (by keq_hits))
-- kbo_bools: a slice of a text is taken
local macro_rules | `(tactic| kbo_bools) => `(tactic| (
  (first
    | refine ⟨_, _, some (_, _), some (_, _), rfl, rfl, rfl, ?hsz, ?_⟩
    | refine ⟨_, _, none, some (_, _), rfl, rfl, rfl, ?hsz, ?_⟩
    | refine ⟨_, _, some (_, _), none, rfl, rfl, rfl, ?hsz, ?_⟩);
  (case hsz => lcg_off); intro _ _ _ x; (dsimp only [Option.map] at x ⊢); (have H := St.ext (by assumption) x); clear x))
local macro_rules | `(tactic| lcg_src) => `(tactic| first
  | ((with_reducible refine' cT ?hb ?_); (case hb => decide))
  | ((with_reducible refine' cF ?hb ?_); (case hb => decide))
  | ((with_reducible refine' cB ?_ ?_) <;> intro _))
local macro_rules | `(tactic| ktr_rel) => `(tactic| first
  | ((with_reducible show wpAny _ _ (eval _ _) _ _ _); first
    | ((with_reducible show wpAny _ _ (eval (Expr.Name _ _) _) _ _ _); k_offL)
    | ((with_reducible refine' kS ?hl ?_); (case hl => lcg_sub); intro _ _)
    | ((with_reducible refine kI ?_); intro _ _)
    | (with_reducible refine wpAny_BinOp ?_)
    | (with_reducible refine wpAny_Constant_none ?_)
    | (with_reducible refine wpAny_Constant_bool ?_)
    | (with_reducible refine ifxC ?_)
    | ((with_reducible refine' wpAny_Compare1 ?_ ?hm); (case hm => rfl))
    | ((with_reducible refine' MethodCall_ ?_ ?he); (case he => rfl))
    | ((with_reducible refine' Call_ ?_ ?he); (case he => rfl))
    | ((with_reducible refine' Attribute_any_ ?_ ?he); (case he => rfl))
    | ((with_reducible refine' sliceQ ?_ ?ht); (case ht => (intro _ _; rfl)))
    | (with_reducible refine Subscript_ ?_))
  | ((with_reducible show wpAny _ _ (exec _ _) _ _ _); first
    | ((with_reducible refine' exAs ?_ ?hs); (case hs => rfl))
    | (with_reducible refine exIf ?_)
    | (with_reducible refine exRet ?_)
    | (with_reducible refine wpAny_AugAssign_Name ?_)
    | (with_reducible refine wpAny_AugAssign_AttributeAny ?_)
    | ((with_reducible refine' wpAny_Assign_Subscript ?_ ?hs); (case hs => rfl))
    | (with_reducible refine wpAny_Continue ?_))
  | (with_reducible refine exC ?_)
  | (with_reducible refine exN ?_)
  | ((with_reducible show wpAny _ _ (spliced _) _ _ _); first
    | ((with_reducible refine' args_cons ?_ ?he); (case he => rfl))
    | (with_reducible refine args_nil ?_))
  | ((with_reducible show wpAny _ _ (evalPart _ _) _ _ _); first
    | (with_reducible refine evalPart_some_step ?_)
    | (with_reducible refine evalPart_none_step ?_))
  | ((with_reducible show wpAny _ _ (callWith _ (Value.builtin _) _ _ _) _ _ _); first
    | (with_reducible refine PyProof.Rows.callWith_method0 ?_)
    | ((with_reducible refine' PyProof.Rows.callWith_method1 ?_ ?he ?hp); (case he => rfl); (case hp => rfl)))
  | ((with_reducible show wpAny _ _ (isTrue _ _ _) _ _ _); first
    | ((with_reducible refine' wpAny_isTrue_Compare1 ?_ ?hm); (case hm => rfl))
    | (with_reducible refine wpAny_isTrue_BoolOp ?_)
    | (with_reducible refine wpAny_isTrue_Not ?_)
    | ((with_reducible refine' wpAny_isTrue_value ?_ ?he); (case he => rfl)))
  | ((with_reducible refine' stoU ?H ?e ?hx ?hu ?_); (case H => assumption); (case e => assumption); (case hx => rfl); (case hu => first | (refine' (?k : (fun T : Prop => T → T) _) ?p; (case p => (simp (decide := true) only [upd, if_true, if_false] <;> rfl)); (case k => (intro _; kernel_rfl))) | rfl); intro _ _ H)
  | ((with_reducible refine' ixL ?hl ?h0 ?hh ?hx ?hs ?_); (case hl => kp_flats); (case h0 => decide); (case hh => decide); (case hx => rfl); (case hs => rfl))
  | ((with_reducible show wpAny _ _ (call _ (_ ++ _)) _ _ _); first | show wpAny _ _ (call _ [_, _]) _ _ _ | show wpAny _ _ (call _ [_]) _ _ _ | show wpAny _ _ (call _ [_, _, _]) _ _ _)
  | ((with_reducible refine' oLenS ?hl ?_); (case hl => lcg_off); intro _ _)
  | ((with_reducible show wpAny _ _ (setItem _ _ _) _ _ _); first | ((with_reducible refine' ixS 0 ?H ?hi ?h0 ?hh ?hx ?_); (case H => assumption); (case hi => rfl); (case h0 => decide); (case hh => decide); (case hx => (simp only [List.length_cons, List.length_nil]; decide)); intro _ H; (dsimp only [List.set, Int.toNat_zero] at H)))
  | ((with_reducible refine' atG ?G ?H ?hx ?hd ?hl ?hg ?hh ?ha ?hn ?hv ?_); (case G => assumption); (case H => assumption); (case hx => first | exact St.old (by assumption) (by assumption) | assumption); (case hd => keq_hits); (case hl => rfl); (case hg => k_is); (case hh => k_is); (case ha => k_is); (case hn => k_is); (case hv => rfl); intro _)
  | ((with_reducible show wpAny _ _ (getMethod _ _ _) _ _ _); first
    | ((with_reducible refine' gmF ?G ?H ?hx ?hd ?hl ?hg ?hf ?ht ?_); (case G => assumption); (case H => assumption); (case hx => first | exact St.old (by assumption) (by assumption) | assumption); (case hd => keq_hits); (case hl => rfl); (case hg => k_is); (case hf => k_is); (case ht => k_is))
    | ((with_reducible refine' gmL PySem.F.slot_list_append PySem.F.type_list_append ?hl ?_); (case hl => keq_hits))
    | ((with_reducible refine' gmL PySem.F.slot_list_pop PySem.F.type_list_pop ?hl ?_); (case hl => keq_hits)))
  | ((with_reducible show wpAny _ _ (setAttr _ _ _) _ _ _); first | ((with_reducible refine' atSU 0 ?G ?H ?hx ?hi ?hz ?hs ?hp ?ht ?hh ?hu ?_); (case G => assumption); (case H => assumption); (case hx => first | exact St.old (by assumption) (by assumption) | assumption); (case hi => rfl); (case hz => exact Nat.le_of_ble_eq_true rfl); (case hs => k_is); (case hp => k_is); (case ht => k_is); (case hh => k_is); (case hu => first | (refine' (?k : (fun T : Prop => T → T) _) ?p; (case p => (simp (decide := true) only [List.set, upd, if_true, if_false] <;> rfl)); (case k => (intro _; kernel_rfl))) | rfl); intro _ _ H))
  | ((with_reducible show SlQ _ _ _ _ _); kbo_bools)
  | k_clsL
  | ((with_reducible show (_ = true → _) ∧ (_ = false → _)); lcg_src)
  | (with_reducible refine nx_next ?_)
  | (with_reducible refine nx_ret ?_)
  | (with_reducible refine nx_cont ?_)
  | (with_reducible refine fq_ret ?_)
  | (with_reducible refine fq_next ?_)
  | (with_reducible refine orC ?_)
  | (with_reducible refine wpAny_allTrue_Or_nil ?_)
  | (with_reducible refine andC ?_)
  | (with_reducible refine wpAny_allTrue_And_nil ?_)
  | ((with_reducible refine' ldn ?H ?e ?hx ?hv ?_); (case H => assumption); (case e => assumption); (case hx => rfl); (case hv => rfl))
  | (with_reducible refine wpAny_assign_Name ?_))
section
variable {w : World} {mg mb : Str → Option Value} {g0 g h : Heap} {gn : Array GenState} {dr : Drawn} {tk : Nat} {os : OsState}

def escB (how : Int) (c : Nat) : Bool := (Int.fmod how 3 == 2) || (decide (c ∈ [34, 92])) || ((Int.fmod how 3 == 0) && (c == 32))
def esc1 (how : Int) (c : Nat) : List Nat := if escB how c then [92, c] else [c]
def escL (how : Int) (l : List Nat) : List Nat := l.flatMap (esc1 how)
def writeL (l : List Nat) (how : Int) : List Nat := (if Int.fmod how 3 == 1 then 34 :: (escL how l ++ [34]) else escL how l) ++ [if how < 3 then 32 else 10]
inductive WrJ (word : List Nat) (how : Int) (t t' : Tok) (i : Nat) (fr : Fm) (led : Lg) : Prop
  | mk (h1 : led = [])
    (t1 rest : _)
    (h2 : fr = [(Str.ofString "how", .int how t'), (Str.ofString "word", .str (S word) t), (Str.ofString "text", .str (S (escL how (word.take i))) t1)] ++ rest)
    (h3 : Opt1 (Str.ofString "c") rest)
theorem escL_take {how : Int} {l : List Nat} {i c : Nat} (h : l[i]? = some c) : escL how (l.take (i + 1)) = escL how (l.take i) ++ esc1 how c := by
  rw [List.take_add_one, h]; simp [escL]
theorem esc1_len (how : Int) (c : Nat) : (esc1 how c).length ≤ 2 := by unfold esc1; split <;> simp
theorem escL_len (how : Int) : ∀ l : List Nat, (escL how l).length ≤ 2 * l.length
  | [] => by simp [escL]
  | c :: r => by have := escL_len how r; have := esc1_len how c; simp only [escL, List.flatMap_cons, List.length_append, List.length_cons] at *; omega
theorem escL_take_len (how : Int) (l : List Nat) (i : Nat) : (escL how (l.take i)).length ≤ 2 * l.length := by
  have := escL_len how (l.take i); have := List.length_take_le' i l; omega

set_option maxHeartbeats 4000000 in
theorem write_spec {word : List Nat} {how : Int} {t t' : Tok} {Q : Value → Shared → Prop} (G : Gd w mg mb g0) (X : Ext g0 h) (ha : ∀ c ∈ word, c < 128) (hl : word.length ≤ 1000)
    (hq : ∀ h' tk' t', Ext h h' → Q (.str (S (writeL word how)) t') ⟨h', gn, dr, tk', os⟩) :
    wpAny (model PR w) (AW 900 9000) (call (.ref 197) [.str (S word) t, .int how t']) Q NE ⟨h, gn, dr, tk, os⟩ := by
  refine' call_def (fr := [(Str.ofString "how", .int how t'), (Str.ofString "word", .str (S word) t)]) G X [] ?ho ?hcd ?hb ?hbind ?hfr ?hks ?hcl (fun _ q => nomatch q) List.nodup_nil ?main ?hd ?hcell ?hloc ?hco ?hgen ?hk ?hgl ?hbn
  keq_rows
  intro g L h₁ tk₁ env he G' X' H K'
  dsimp only at he
  repeat ktr_rel
  refine for_str (txt := S word) (t₀ := t) (J := WrJ word how t t') (by assumption) ?ha ?hiter ?hJ ?turn ?fin
  case ha => simpa using ha
  case hiter => intro Q' hQ'; ktr_rel; exact hQ' _
  case hJ => exact ⟨rfl, _, [], rfl, .inl rfl⟩
  case turn =>
    rintro i c tc g' h₂ tk₂ fr₁ led₁ hc x' ⟨rfl, t1, rest, rfl, hrest⟩ H'
    have hc' : word[i]? = some c := by simpa using hc
    refine asg1 H' he hrest rfl rfl ?_
    intro h₃ tk₃ H₃
    dsimp only [List.cons_append, List.nil_append] at H₃
    have ln := escL_take_len how word i
    have fin : ∀ (tx : List Nat) (tt : Tok) (h₃ : Heap) (tk₃ : Nat), tx = escL how (word.take (i + 1)) → St g' L h₃ [(Str.ofString "how", .int how t'), (Str.ofString "word", .str (S word) t), (Str.ofString "text", .str (S tx) tt), (Str.ofString "c", .str (S [c]) tc)] [] →
        WrJ word how t t' (i + 1) [(Str.ofString "how", .int how t'), (Str.ofString "word", .str (S word) t), (Str.ofString "text", .str (S tx) tt), (Str.ofString "c", .str (S [c]) tc)] [] := by
      rintro tx tt _ _ rfl _
      exact ⟨rfl, tt, [(Str.ofString "c", .str (S [c]) tc)], rfl, .inr ⟨_, rfl⟩⟩
    repeat' ktr_rel
    all_goals (refine lp_next (by assumption) (fin _ _ _ tk ?_ (by assumption)); rw [escL_take hc']; simp_all [esc1, escB])
  case fin =>
    rintro h₂ tk₂ fr₁ led₁ ⟨rfl, t1, rest, rfl, hrest⟩ H'
    have ln := escL_take_len how word word.length
    simp only [List.size_toArray, List.take_length] at H' ln
    have hq' : ∀ r h' tk' t', r = writeL word how → Ext h h' → Q (.str (S r) t') ⟨h', gn, dr, tk', os⟩ := by rintro r h' tk' t' rfl x; exact hq h' tk' t' x
    have hfin : ∀ (h' : Heap), Ext g h' → Ext h h' := fun h' x => (K'.ext).trans x
    rcases hrest with rfl | ⟨v, rfl⟩
    all_goals (simp only [List.cons_append, List.nil_append, List.append_nil] at H')
    all_goals (repeat' ktr_rel)
    all_goals (refine hq' _ _ _ _ ?_ (hfin _ (St.keep (by assumption))); simp_all [writeL])

end
section

def defBody : Stmt → List Stmt
  | .FunctionDef _ _ b _ _ _ _ _ _ _ => b
  | _ => []
def defScope : Stmt → Scope
  | .FunctionDef _ _ _ _ _ _ sc _ _ _ => sc
  | _ => default
def defParams : Stmt → Arguments
  | .FunctionDef _ a _ _ _ _ _ _ _ _ => a
  | _ => default
def giveStmt : Stmt := (defBody (PR.main.body.getD 25 (.Pass default))).getD 1 (.Pass default)

structure RA where
  r : Addr
  d : Addr
  sr : Addr
  sd : Addr
  gv : Addr
  c1 : Addr
  c2 : Addr
  la : Addr
  pb : Addr
/-- the function give, as its def makes it -/
structure GiveFn (a : RA) (h : Heap) (fd : FuncData) : Prop where
  body : fd.body = .stmts (defBody giveStmt)
  scope : fd.scope = defScope giveStmt
  params : fd.params = defParams giveStmt
  cl1 : fd.closure.lookup (Str.ofString "text") = some a.c1
  cl2 : fd.closure.lookup (Str.ofString "at") = some a.c2
  globals : fd.globals = mainGlobals
  builtins : fd.builtins = builtinsNs
  dflt : fd.defaults = .none
  kwd : fd.kwdefaults = .none
  code : h.CodeRec fd.code fd.qualname
/-- what of a reader stays -/
structure RdB (a : RA) (txt : List Nat) (h : Heap) : Prop where
  ri : h.get? a.r = some (instObj 174 a.d)
  si : h.get? a.sr = some (instObj 174 a.sd)
  sdo : ∃ o kv, h.get? a.sd = some o ∧ IsI kv o ∧ kv.lookup (Str.ofString "read") = some (.ref a.gv)
  gvo : ∃ oc od fd sl, h.get? a.gv = some ⟨oc, od, .func fd, sl⟩ ∧ GiveFn a h fd
  c1o : ∃ t, h.IsCell a.c1 (some (.str (S txt) t))
  c2o : h.IsCell a.c2 (some (.ref a.la))
  dsd : a.d ≠ a.sd
def RdAt (n : Nat) : Obj → Prop := fun o => ∃ t, IsLw [.int n t] o

theorem sl_one {txt : List Nat} {n : Nat} (hn : n ≤ txt.length) : sl txt (some (n : Int)) (some ((n : Int) + 1)) = (txt.drop n).take 1 := by
  unfold sl clipZ
  have e1 : (max 0 (min (if (n : Int) < 0 then (n : Int) + txt.length else n) (txt.length : Int))).toNat = n := by omega
  have e2 : (max 0 (min (if (n : Int) + 1 < 0 then (n : Int) + 1 + txt.length else (n : Int) + 1) (txt.length : Int))).toNat = min (n + 1) txt.length := by omega
  simp only [e1, e2]
  rw [List.take_eq_take_min, Nat.min_assoc, Nat.min_self, ← List.take_eq_take_min, List.drop_take]
  congr 1; omega
variable {w : World} {mg mb : Str → Option Value} {g0 g h : Heap} {gn : Array GenState} {dr : Drawn} {tk : Nat} {os : OsState}
set_option maxHeartbeats 4000000 in
theorem give_spec {a : RA} {txt : List Nat} {n : Nat} {t : Tok} {Q : Value → Shared → Prop} (G : Gd w mg mb g0) (X : Ext g0 h) (B : RdB a txt h) (hat : ∃ o, h.get? a.la = some o ∧ RdAt n o) (nat : g0.get? a.la = none) (hn : n ≤ txt.length) (hl : txt.length ≤ 10000)
    (hq : ∀ h' tk' t', Kp [a.la] h h' → (∃ o, h'.get? a.la = some o ∧ RdAt (n + ((txt.drop n).take 1).length) o) → Q (.str (S ((txt.drop n).take 1)) t') ⟨h', gn, dr, tk', os⟩) :
    wpAny (model PR w) (AW 900 9000) (call (.ref a.gv) [.int 1 t]) Q NE ⟨h, gn, dr, tk, os⟩ := by
  obtain ⟨oc, od, fd, sl, hgv, GF⟩ := B.gvo
  obtain ⟨o, eo, tt, ho⟩ := hat
  obtain ⟨t1, c1o⟩ := B.c1o
  have n1 : a.c1 ≠ a.la := by
    intro q
    obtain ⟨oc, e1, e2⟩ := c1o
    rw [q, eo] at e1
    cases e1
    obtain ⟨_, n, e3⟩ := ho
    rw [e2] at e3; cases e3
  have n2 : a.c2 ≠ a.la := by
    intro q
    obtain ⟨oc, e1, e2⟩ := B.c2o
    rw [q, eo] at e1
    cases e1
    obtain ⟨_, n, e3⟩ := ho
    rw [e2] at e3; cases e3
  obtain ⟨nm, qual, params, body, scope, globals, closure, defaults, kwdefaults, doc, pm, ann, code, ct, bn⟩ := fd
  obtain ⟨g1, g2, g3, g4, g5, g6, g7, g8, g9, g10⟩ := GF
  dsimp only at g1 g2 g3 g4 g5 g6 g7 g8 g9 g10
  subst g1 g2 g3 g6 g7 g8 g9
  refine' call_def (fr := [(Str.ofString "n", .int 1 t)]) (ks := [(Str.ofString "n", .local), (Str.ofString "piece", .local), (Str.ofString "at", .free), (Str.ofString "text", .free), (Str.ofString "len", .globalImplicit)]) (cl := closure) (binds := [(Str.ofString "n", .int 1 t)]) G X [(a.la, IsLw [.int n tt])] hgv g10 rfl ?hbind rfl ?hks rfl ?hl ?nd ?main ?hd ?hcell ?hloc rfl rfl rfl rfl rfl
  case hbind => kernel_rfl
  case hks => kernel_rfl
  case hl => intro p hp; obtain rfl := List.mem_singleton.mp hp; exact ⟨⟨o, eo, ho⟩, nat⟩
  case nd => simp
  case hd => decide
  case hcell => show ∀ x ∈ (defScope giveStmt).names, x.2 ≠ .cell; decide +kernel
  case hloc => exact locs (by kernel_rfl)
  case main =>
    intro g L h₁ tk₁ env he G' X' H K'
    have c1g : g.IsCell a.c1 (some (.str (S txt) t1)) := let ⟨o, e, q⟩ := c1o; ⟨o, K' _ _ e (by simpa using n1), q⟩
    have c2g : g.IsCell a.c2 (some (.ref a.la)) := let ⟨o, e, q⟩ := B.c2o; ⟨o, K' _ _ e (by simpa using n2), q⟩
    refine exC ?_
    repeat' ktr_rel
    simp only [sl_one hn] at *
    have l1 : ((txt.drop n).take 1).length ≤ 1 := List.length_take_le _ _
    repeat' ktr_rel
    refine hq _ _ _ (fun b o e n => St.keep (by assumption) _ _ (K' b o e n)) ?_
    obtain ⟨o', e', q'⟩ := St.get (by assumption) 0 rfl
    rw [← Int.natCast_add] at q'
    exact ⟨o', e', _, q'⟩

def RdD (a : RA) (ln : Nat) : Obj → Prop := fun o => ∃ t1 t2, IsI [(Str.ofString "lineno", .int ln t1), (Str.ofString "instream", .ref a.sr), (Str.ofString "whitespace", .str (S [10, 9, 13, 32]) t2), (Str.ofString "pushback", .ref a.pb)] o
theorem RdB.keep {a : RA} {txt : List Nat} {S' : List Addr} (B : RdB a txt h) (k : Kp S' h g) (hS : ∀ b ∈ S', ∃ o, h.get? b = some o ∧ ((b = a.d ∧ ∃ es n, o.data = .dict es n) ∨ ∃ its n, o.data = .seq its n)) : RdB a txt g := by
  have out : ∀ b o, h.get? b = some o → (∀ es n, o.data ≠ .dict es n ∨ b ≠ a.d) → (∀ its n, o.data ≠ .seq its n) → b ∉ S' := by
    intro b o e n1 n2 hb
    obtain ⟨o', e', q⟩ := hS b hb
    rw [e] at e'; cases e'
    rcases q with ⟨q, es, n, r⟩ | ⟨its, n, r⟩
    · rcases n1 es n with z | z
      · exact z r
      · exact z q
    · exact n2 its n r
  obtain ⟨o, kv, e1, ⟨es, n, e2, e3⟩, e4⟩ := B.sdo
  obtain ⟨oc, od, fd, sl, f1, f2⟩ := B.gvo
  obtain ⟨t, oc1, h1, h2⟩ := B.c1o
  obtain ⟨oc2, h3, h4⟩ := B.c2o
  obtain ⟨cc, oo, vs, tt, k1, k2, k3, k4⟩ := f2.code
  exact ⟨k _ _ B.ri (out _ _ B.ri (fun _ _ => .inl (by simp)) (by simp)), k _ _ B.si (out _ _ B.si (fun _ _ => .inl (by simp)) (by simp)),
    ⟨o, kv, k _ _ e1 (out _ _ e1 (fun _ _ => .inr (Ne.symm B.dsd)) (by rw [e2]; simp)), ⟨es, n, e2, e3⟩, e4⟩,
    ⟨oc, od, fd, sl, k _ _ f1 (out _ _ f1 (fun _ _ => .inl (by simp)) (by simp)), { f2 with code := ⟨cc, oo, vs, tt, k1, k _ _ k2 (out _ _ k2 (fun _ _ => .inl (by rw [k3]; simp)) (by rw [k3]; simp)), k3, k4⟩ }⟩,
    ⟨t, oc1, k _ _ h1 (out _ _ h1 (fun _ _ => .inl (by rw [h2]; simp)) (by rw [h2]; simp)), h2⟩,
    ⟨oc2, k _ _ h3 (out _ _ h3 (fun _ _ => .inl (by rw [h4]; simp)) (by rw [h4]; simp)), h4⟩, B.dsd⟩
theorem RdB.ext {a : RA} {txt : List Nat} (B : RdB a txt g) (x : Ext g h) : RdB a txt h := B.keep (x.kp []) (fun _ q => nomatch q)

set_option maxHeartbeats 4000000 in
theorem read_char_spec {a : RA} {txt : List Nat} {n ln : Nat} {Q : Value → Shared → Prop} (G : Gd w mg mb g0) (X : Ext g0 h) (B : RdB a txt h) (hd : ∃ o, h.get? a.d = some o ∧ RdD a ln o) (hat : ∃ o, h.get? a.la = some o ∧ RdAt n o) (nd : g0.get? a.d = none) (nat : g0.get? a.la = none) (hn : n ≤ txt.length) (hl : txt.length ≤ 10000)
    (hq : ∀ h' tk' t', Kp [a.d, a.la] h h' → (∃ o, h'.get? a.d = some o ∧ RdD a (if (txt.drop n).take 1 == [10] then ln + 1 else ln) o) → (∃ o, h'.get? a.la = some o ∧ RdAt (n + ((txt.drop n).take 1).length) o) → Q (.str (S ((txt.drop n).take 1)) t') ⟨h', gn, dr, tk', os⟩) :
    wpAny (model PR w) (AW 890 8900) (call (.ref 157) [.ref a.r]) Q NE ⟨h, gn, dr, tk, os⟩ := by
  obtain ⟨o1, e1, t1, t2, i1⟩ := hd
  obtain ⟨o2, e2, r2⟩ := id hat
  have ndl : a.d ≠ a.la := by
    intro q
    rw [q, e2] at e1
    cases e1
    obtain ⟨_, ⟨_, nn, r3⟩⟩ := r2
    obtain ⟨es, n, rfl, _⟩ := i1
    cases r3
  have hS : ∀ b ∈ [a.d, a.la], ∃ o, h.get? b = some o ∧ ((b = a.d ∧ ∃ es n, o.data = .dict es n) ∨ ∃ its n, o.data = .seq its n) := by
    intro b hb
    rcases List.mem_cons.mp hb with rfl | hb
    · obtain ⟨es, n, rfl, _⟩ := i1
      exact ⟨_, e1, .inl ⟨rfl, _, _, rfl⟩⟩
    · obtain rfl := List.mem_singleton.mp hb
      obtain ⟨_, ⟨_, nn, r3⟩⟩ := r2
      exact ⟨_, e2, .inr ⟨_, _, r3⟩⟩
  refine' call_def (fr := [(Str.ofString "self", .ref a.r)]) G X [(a.d, IsI [(Str.ofString "lineno", .int ln t1), (Str.ofString "instream", .ref a.sr), (Str.ofString "whitespace", .str (S [10, 9, 13, 32]) t2), (Str.ofString "pushback", .ref a.pb)]), (a.la, RdAt n)] ?ho ?hcd ?hb ?hbind ?hfr ?hks ?hcl ?hl ?nd ?main ?hd ?hcell ?hloc ?hco ?hgen ?hk ?hgl ?hbn
  case hl =>
    intro p hp
    rcases List.mem_cons.mp hp with rfl | hp
    · exact ⟨⟨_, e1, i1⟩, nd⟩
    · obtain rfl := List.mem_singleton.mp hp
      exact ⟨hat, nat⟩
  case nd => simpa using ndl
  keq_rows
  intro g L h₁ tk₁ env he G' X' H K'
  dsimp only at he
  have BG : RdB a txt g := B.keep K' hS
  have ri := BG.ri
  have si := BG.si
  repeat' ktr_rel
  obtain ⟨os', kv, s1, s2, s3⟩ := BG.sdo
  obtain ⟨oc, od, fd, sl, f1, f2⟩ := BG.gvo
  refine gmA G' H (H.keep _ _ si) ⟨os', H.keep _ _ s1, s2⟩ s3 (by k_is) (by k_is) (by k_is) rfl ?_
  intro tk₂
  refine cwF1 (o := ⟨oc, od, .func fd, sl⟩) (fd := fd) rfl ?_ rfl rfl
  repeat' ktr_rel
  refine ⟨H.keep _ _ f1, ?_⟩
  repeat' ktr_rel
  refine wpW (give_spec G' H.keep (BG.ext H.keep) (H.get 1 rfl) (H.offI 1 rfl) hn hl ?_)
  intro h₂ tk₃ t' k₂ hat'
  have H₂ := H.turn 1 rfl (fun b o n e => k₂ b o e (by simpa using n)) hat'
  dsimp only [List.set] at H₂
  clear H
  repeat' ktr_rel
  all_goals (
    rename St _ _ _ _ _ => HE
    rename (_ == _) = _ => hb
    refine hq _ _ _ (fun b o e n => HE.keep _ _ (K' b o e n)) ?_ (HE.get 1 rfl)
    rw [hb]
    obtain ⟨o', e', q'⟩ := HE.get 0 rfl
    exact ⟨o', e', _, _, q'⟩)

end
section

theorem slot_ci_next : Slot "callable_iterator" "__next__" "callable_iterator.__next__" :=
  .of (owner := "callable_iterator") (n := "__next__") (by rw [typeLookup_type, builtinLookup_eq_fast]; kernel_rfl) (by decide +kernel) (by decide +kernel) (by decide +kernel)
    (by first | exact .inl (by decide +kernel) | exact .inr (by decide +kernel)) (by rw [isSubtype_type]; kernel_rfl)
theorem slot_ci_iter : Slot "callable_iterator" "__iter__" "callable_iterator.__iter__" :=
  .of (owner := "callable_iterator") (n := "__iter__") (by rw [typeLookup_type, builtinLookup_eq_fast]; kernel_rfl) (by decide +kernel) (by decide +kernel) (by decide +kernel)
    (by first | exact .inl (by decide +kernel) | exact .inr (by decide +kernel)) (by rw [isSubtype_type]; kernel_rfl)
theorem entry_ci_next : entryFor table "callable_iterator.__next__" = some Builtin.«callable_iterator.__next__» := entryFor_of_fast (by kernel_rfl)
theorem entry_ci_iter : entryFor table "callable_iterator.__iter__" = some Builtin.«dict_keyiterator.__iter__» :=
  entryFor_alias (id' := "dict_keyiterator.__iter__") (by kernel_rfl) rfl (by decide +kernel) (by kernel_rfl)
theorem args_ci_next (a : Value) : argsOk "callable_iterator.__next__" ⟨[a], []⟩ := by unfold argsOk; kernel_rfl
theorem args_ci_iter (a : Value) : argsOk "callable_iterator.__iter__" ⟨[a], []⟩ := by unfold argsOk; kernel_rfl

section
variable {prog : Program} {w : World} {A : Around} {E : Value → Shared → Prop} {s : Shared}
theorem call_bound {b f : Addr} {x : Value} {pos : List Value} {Q : Value → Shared → Prop} (hb : s.heap.get? b = some (methodObj (.ref f) x))
    (h : wpAny (model prog w) A (call (.ref f) (x :: pos)) Q E s) : wpAny (model prog w) A (callBorrowed (.ref b) pos) Q E s := fun Γ p hΓ => by
  have h1 := h Γ p hΓ
  rw [Sem.wp_cmd_call] at h1
  have e : Sem.wp (model prog w) Γ (callBorrowed (.ref b) pos) (fun a _ s' => Q a s') (fun e _ s' => E e s') p s = wpCode (model prog w) (Γ.enter (.call (.ref b) ⟨pos, []⟩) none p) (fun r s' => match r with | .ok (.ret v) => Q v s' | .ok _ => False | .error e => E e s') p s := by
    unfold callBorrowed
    rw [Sem.wp_call]; congr 1; funext r s'
    cases r with
    | error e => rfl
    | ok f => cases f <;> rfl
  rw [e, wpCode_iff_wp]
  show Sem.wp _ _ (callAny (.ref b) ⟨pos, []⟩) _ _ p s
  unfold callAny
  rw [Sem.wp_bind', Sem.wp_cmd_load]
  exact ⟨_, hb, rfl, h1⟩
def IsCI (b : Addr) : Obj → Prop := fun o => o.cls = .type "callable_iterator" ∧ ∃ t, o.data = .fields #[.ref b, .str (S []) t, .bool false]
theorem borrows {b f : Addr} {x : Value} {of : Obj} {fd : FuncData} {Q : Bool → Shared → Prop} (hb : s.heap.get? b = some (methodObj (.ref f) x)) (hf : s.heap.get? f = some of) (hfd : of.data = .func fd) (hq : Q true s) :
    wpAny (model prog w) A (borrowsExactly (.ref b)) Q E s := by
  unfold borrowsExactly
  refine wpAny_bind (wpAny_load hb ?_)
  show wpAny _ _ (load f >>= _) _ _ _
  refine wpAny_bind (wpAny_load hf ?_)
  rw [hfd]
  exact wpAny_pure hq
theorem next_ci {it b f : Addr} {x : Value} {Q : Option Value → Shared → Prop} (hh : A.handled = none) (hit : ∃ o, s.heap.get? it = some o ∧ IsCI b o) (hb : s.heap.get? b = some (methodObj (.ref f) x)) (hf : ∃ of fd, s.heap.get? f = some of ∧ of.data = .func fd)
    (hc : wpAny (model prog w) A.in1 (call (.ref f) [x]) (fun r s' => ∃ l t', r = .str (S l) t' ∧ (∃ o, s'.heap.get? it = some o ∧ IsCI b o) ∧ s'.heap.get? b = some (methodObj (.ref f) x) ∧ (∃ of fd, s'.heap.get? f = some of ∧ of.data = .func fd) ∧
      (l = [] → ∀ h', Heap.ExtBut it s'.heap h' → (∃ o, h'.get? it = some o) → Q none { s' with heap := h' }) ∧ (l ≠ [] → Q (some (.str (S l) t')) s')) (fun _ _ => False) s) :
    wpAny (model prog w) A (pyNext (.ref it)) Q E s := by
  obtain ⟨o, ho, hcl, t, hd⟩ := id hit
  obtain ⟨of, fd, hf1, hf2⟩ := hf
  unfold pyNext
  refine wpAny_bind (wpAny_attempt (wpAny_callSpecial?_slot (name := Str.ofString "__next__") ⟨_, ho, hcl⟩ slot_ci_next
    (wpAny_call_entry slot_ci_next ⟨_, ho, hcl⟩ entry_ci_next ?_ (args_ci_next _))))
  show wpAny _ _ (field (.ref it) 2 >>= _) _ _ s
  refine wpAny_bind (wpAny_field ho hd (x := .bool false) rfl ?_)
  show wpAny _ _ (field (.ref it) 0 >>= _) _ _ s
  refine wpAny_bind (wpAny_field ho hd (x := .ref b) rfl ?_)
  refine wpAny_bind (wpAny_attempt ?_)
  unfold callOutOfASlot
  refine wpAny_bind (borrows hb hf1 hf2 ?_)
  rw [if_pos rfl]
  refine call_bound hb (wpAny_mono hc ?_ (fun _ _ z => z.elim))
  rintro r s' ⟨l, t', rfl, ⟨o', ho', hcl', tt, hd'⟩, hb', ⟨of', fd', hf1', hf2'⟩, q1, q2⟩
  show wpAny _ _ (field (.ref it) 2 >>= _) _ _ s'
  refine wpAny_bind (wpAny_field ho' hd' (x := .bool false) rfl ?_)
  show wpAny _ _ (field (.ref it) 1 >>= _) _ _ s'
  refine wpAny_bind (wpAny_field ho' hd' (x := .str (S []) tt) rfl ?_)
  refine wpAny_bind (wpAny_holding (wpAny_eqBool_str ?_))
  by_cases hl : l = []
  · subst hl
    rw [show (decide (S [] = S ([] : List Nat))) = true from by simp]
    refine wpAny_bind (wpAny_rule ?_)
    refine wpAny_bind ?_
    show wpAny _ _ (field (.ref it) 0 >>= _) _ _ s'
    refine wpAny_bind (wpAny_field ho' hd' (x := .ref b) rfl ?_)
    show wpAny _ _ (slotLetsGo _ (.ref b) _ >>= _) _ _ s'
    refine wpAny_bind ?_
    unfold slotLetsGo
    refine wpAny_bind (borrows hb' hf1' hf2' ?_)
    rw [if_pos rfl]
    refine wpAny_pure ?_
    refine wpAny_bind (wpAny_setField ho' hd' (by simp) ?_)
    have ho2 := Heap.get?_update_self (h := s'.heap) (fun x => x.mapFields fun z => z.set! 0 .none) ho' (Obj.isFreed_of_fields (Obj.data_mapFields hd' _))
    have hd2 := Obj.data_mapFields hd' (fun z => z.set! 0 .none)
    refine wpAny_bind (wpAny_setField ho2 hd2 (by simp) ?_)
    have ho3 := Heap.get?_update_self (fun x => x.mapFields fun z => z.set! 1 .none) ho2 (Obj.isFreed_of_fields (Obj.data_mapFields hd2 _))
    have hd3 := Obj.data_mapFields hd2 (fun z => z.set! 1 .none)
    refine (wpAny_setField ho3 hd3 (by simp) ?_)
    show wpAny _ _ (newExc (.type "StopIteration") [] >>= _) _ _ _
    refine wpAny_bind ?_
    simp only [newExc, newTuple]
    refine wpAny_bind (wpAny_newObj_type ?_ (by size_fits))
    refine wpAny_bind (m := firstArgMember _ _) (wpAny_of_eq (a := Value.none) (by first | rfl | (simp only [firstArgMember]; rfl)) ?_)
    refine wpAny_newObj_type ?_ (by size_fits)
    simp only [raiseNew]
    refine wpAny_bind (wpAny_handled ?_)
    rw [show A.in1.handled = none from hh]
    refine wpAny_bind (wpAny_pure (wpAny_throw ?_))
    refine wpAny_bind (wpAny_isInstance (T := "StopIteration") (b := true) ⟨_, Heap.get?_push_size _ rfl, rfl⟩ isSubtype_stop ?_)
    refine wpAny_pure (q1 rfl _ ((((Heap.SameBut.update ..).extBut.trans ((Heap.SameBut.update ..).extBut.trans (Heap.SameBut.update ..).extBut)).push _).push _) ?_)
    exact ⟨_, Heap.get?_push_of_some _ (Heap.get?_push_of_some _ (Heap.get?_update_self _ ho3 (Obj.isFreed_of_fields (Obj.data_mapFields hd3 _))))⟩
  · rw [show (decide (S [] = S l)) = false from by
      rw [decide_eq_false_iff_not]; intro e
      have := congrArg (fun x : Str => x.cps.toList) e
      exact hl (by simpa using this.symm)]
    refine wpAny_pure ⟨_, rfl, ?_⟩
    exact wpAny_pure (q2 hl)
end

end
section

/-- the whole ledger turned at once -/
theorem St.swap {g h h' : Heap} {L : Addr} {fr : Fm} {led led' : Lg} (H : St g L h fr led) (hk : ∀ b o, b ∉ led.map (·.1) → h.get? b = some o → h'.get? b = some o) (e : led'.map (·.1) = led.map (·.1))
    (hat : ∀ p ∈ led', ∃ o, h'.get? p.1 = some o ∧ p.2 o) : St g L h' fr led' := by
  have mem : ∀ p ∈ led', ∃ q ∈ led, q.1 = p.1 := fun p hp => by
    have : p.1 ∈ led.map (·.1) := e ▸ List.mem_map_of_mem hp
    exact List.mem_map.mp this
  obtain ⟨oL, esL, epL, hL, rL⟩ := H.ns
  refine ⟨⟨oL, esL, epL, hk _ _ ?_ hL, rL⟩, fun b o eb => hk b o ?_ (H.keep _ _ eb), hat, fun p hp => ?_, fun p hp => ?_, H.nL, e ▸ H.nd⟩
  · intro q; obtain ⟨p, hp, z⟩ := List.mem_map.mp q; exact H.ne p hp z
  · intro q; obtain ⟨p, hp, z⟩ := List.mem_map.mp q; have := H.off p hp; rw [z, eb] at this; cases this
  · obtain ⟨q, hq, z⟩ := mem p hp; exact z ▸ H.off q hq
  · obtain ⟨q, hq, z⟩ := mem p hp; exact z ▸ H.ne q hq

abbrev LD (a : RA) (P : Obj → Prop) (it b : Addr) (n ln : Nat) : Lg := [(a.d, RdD a ln), (a.la, RdAt n), (a.pb, P), (it, IsCI b)]

theorem iter_ci {prog : Program} {w : World} {A : Around} {E : Value → Shared → Prop} {s : Shared} {it b : Addr} {Q : Value → Shared → Prop} (hit : ∃ o, s.heap.get? it = some o ∧ IsCI b o) (hq : Q (.ref it) s) :
    wpAny (model prog w) A (pyIter (.ref it)) Q E s := by
  obtain ⟨o, ho, hcl, t, hd⟩ := id hit
  refine wpAny_pyIter_slot ⟨_, ho, hcl⟩ slot_ci_iter (wpAny_call_entry slot_ci_iter ⟨_, ho, hcl⟩ entry_ci_iter ?_ (args_ci_iter _))
  exact wpAny_pure ⟨_, rfl, _, _, ⟨_, ho, hcl⟩, slot_ci_next.lookup, hq⟩

section
variable {w : World} {mg mb : Str → Option Value} {g0 g h : Heap} {L : Addr} {gn : Array GenState} {dr : Drawn} {os : OsState} {tk : Nat} {fr : Fm} {led : Lg} {Q : Flow → Shared → Prop} {env : Env} {d u : Nat}
theorem got {fg : Frag} {f : Addr} {oc : Value} {od : Option Addr} {sl : Array (Option Value)} {fd : FuncData} (hi : fg.In h) (e : List.lookup f fg = some ⟨oc, od, .func fd, sl⟩) : ∃ of fd, h.get? f = some of ∧ of.data = .func fd := ⟨_, _, hi _ _ e, rfl⟩
theorem got157 (G : Gd w mg mb g0) (X : Ext g0 h) : ∃ of fd, h.get? 157 = some of ∧ of.data = .func fd := by
  apply got (G.K.keeps X)
  k_is
theorem for_ci {x : Str} {px : Pos} {iter : Expr} {body orelse : List Stmt} {pos : Pos} {a : RA} {txt : List Nat} {it b : Addr} {P : Obj → Prop} {n ln : Nat} {J : Nat → Nat → Fm → Prop}
    (G : Gd w mg mb g0) (X : Ext g0 g) (BG : RdB a txt g) (hb : g.get? b = some (methodObj (.ref 157) (.ref a.r))) (H : St g L h fr (LD a P it b n ln)) (hn : n ≤ txt.length) (hl : txt.length ≤ 10000)
    (hiter : ∀ Q' : Value → Shared → Prop, (∀ tk', Q' (.ref it) ⟨h, gn, dr, tk', os⟩) → wpAny (model PR w) (AW d u) (eval iter env) Q' NE ⟨h, gn, dr, tk, os⟩)
    (hJ : J n ln fr)
    (turn : ∀ n ln h₁ tk₁ fr₁ c t, txt[n]? = some c → n < txt.length → J n ln fr₁ → St g L h₁ fr₁ (LD a P it b (n + 1) (if c = 10 then ln + 1 else ln)) →
      wpAny (model PR w) (AW d u) (assign (.Name x px) env (.str (S [c]) t)) (fun _ s₂ => wpAny (model PR w) (AW d u) (execs body env) (Lp g L gn dr os (fun fr led => ∃ n' ln', n < n' ∧ n' ≤ txt.length ∧ led = LD a P it b n' ln' ∧ J n' ln' fr) Q) NE s₂) NE ⟨h₁, gn, dr, tk₁, os⟩)
    (fin : ∀ h₁ tk₁ fr₁ ln, J txt.length ln fr₁ → St g L h₁ fr₁ [(a.d, RdD a ln), (a.la, RdAt txt.length), (a.pb, P), (it, fun _ => True)] → wpAny (model PR w) (AW d u) (execs orelse env) Q NE ⟨h₁, gn, dr, tk₁, os⟩)
    (hd : d ≤ 890) (hu : u + 1 ≤ 8900)
    (hs : ∀ x, foldedSetIterable iter env x = pure x := by intro _; rfl) :
    wpAny (model PR w) (AW d u) (exec (.For (.Name x px) iter body orelse pos) env) Q NE ⟨h, gn, dr, tk, os⟩ := by
  refine wpAny_For (hiter _ fun tk₀ => iter_ci (H.get 3 rfl) ?_) hs
  refine codeAny_forLoop_any (fun m s' => ∃ n ln h₁ tk₁ fr₁, s' = ⟨h₁, gn, dr, tk₁, os⟩ ∧ m = txt.length - n ∧ n ≤ txt.length ∧ St g L h₁ fr₁ (LD a P it b n ln) ∧ J n ln fr₁) ?_ (txt.length - n) ⟨n, ln, h, tk₀, fr, rfl, rfl, hn, H, hJ⟩
  clear H hJ hn hiter
  rintro m s' ⟨n, ln, h, tk, fr, rfl, rfl, hn, H, hJ⟩
  have nd := H.nd
  simp only [List.map_cons, List.map_nil, List.nodup_cons, List.mem_cons, List.not_mem_nil, or_false, not_or] at nd
  obtain ⟨⟨d1, d2, d3⟩, ⟨d4, d5⟩, d6, -⟩ := nd
  have hf : ∀ h', Ext g h' → ∃ of fd, h'.get? 157 = some of ∧ of.data = .func fd := by
    intro h' X'
    exact got157 G (X.trans X')
  refine next_ci (f := 157) (b := b) (x := .ref a.r) rfl (H.get 3 rfl) (H.keep _ _ hb) (hf _ H.keep) ?_
  refine wp_weak (read_char_spec G (X.trans H.keep) (BG.ext H.keep) (H.get 0 rfl) (H.get 1 rfl) ?_ ?_ hn hl ?_) rfl hd hu
  · cases e : g0.get? a.d with
    | none => rfl
    | some o => have := H.offI 0 rfl; rw [X _ _ e] at this; cases this
  · cases e : g0.get? a.la with
    | none => rfl
    | some o => have := H.offI 1 rfl; rw [X _ _ e] at this; cases this
  intro h' tk' t' k e1 e2
  have k2 : ∀ b o, b ≠ a.d → b ≠ a.la → h.get? b = some o → h'.get? b = some o := fun b o n1 n2 e => k b o e (by simp [n1, n2])
  have H2 : St g L h' fr (LD a P it b (n + ((txt.drop n).take 1).length) (if (txt.drop n).take 1 == [10] then ln + 1 else ln)) := by
    refine H.swap (fun b o nb e => ?_) rfl ?_
    · simp only [List.map_cons, List.map_nil, List.mem_cons, List.not_mem_nil, or_false, not_or] at nb
      exact k2 b o nb.1 nb.2.1 e
    · intro p hp
      simp only [List.mem_cons, List.not_mem_nil, or_false] at hp
      rcases hp with rfl | rfl | rfl | rfl
      · exact e1
      · exact e2
      · obtain ⟨o, e, q⟩ := H.get 2 rfl; exact ⟨o, k2 _ _ (Ne.symm d2) (Ne.symm d4) e, q⟩
      · obtain ⟨o, e, q⟩ := H.get 3 rfl; exact ⟨o, k2 _ _ (Ne.symm d3) (Ne.symm d5) e, q⟩
  clear e1 e2 k
  refine ⟨_, _, rfl, H2.get 3 rfl, H2.keep _ _ hb, hf _ H2.keep, ?_, ?_⟩
  · intro e h3 x3 e3
    have en : n = txt.length := by
      have := congrArg List.length e
      simp at this; omega
    rw [e] at H2
    subst en
    refine ne_noted (wpAny_mono (fin h3 tk' fr ln hJ ?_) (fun f s₃ q => q) fun _ _ x => x)
    have := H2.turn (h' := h3) 3 rfl (P' := fun _ => True) (fun b o nb e => x3 b o nb e) (let ⟨o, e⟩ := e3; ⟨o, e, trivial⟩)
    exact this
  · intro hne
    have hlt : n < txt.length := by
      rcases Nat.lt_or_ge n txt.length with q | q
      · exact q
      · exact absurd (by simp [q]) hne
    have ec : (txt.drop n).take 1 = [txt[n]] := by
      rw [List.drop_eq_getElem_cons hlt]; rfl
    rw [ec] at H2 ⊢
    have ei : (if ([txt[n]] == [10]) = true then ln + 1 else ln) = if txt[n] = 10 then ln + 1 else ln := by simp
    rw [ei] at H2
    refine ne_noted (wpAny_pure ?_)
    refine ne_noted (wpAny_mono (turn n ln h' tk' fr txt[n] t' (List.getElem?_eq_getElem hlt) hlt hJ H2) (fun _ s₂ q => ne_noted (wpAny_mono q (fun f s₃ q => ?_) fun _ _ x => x)) fun _ _ x => x)
    have step : (∃ fr led h tk, s₃ = (⟨h, gn, dr, tk, os⟩ : Shared) ∧ St g L h fr led ∧ ∃ n' ln', n < n' ∧ n' ≤ txt.length ∧ led = LD a P it b n' ln' ∧ J n' ln' fr) → ∃ m, m < txt.length - n ∧ ∃ n ln h₁ tk₁ fr₁, s₃ = (⟨h₁, gn, dr, tk₁, os⟩ : Shared) ∧ m = txt.length - n ∧ n ≤ txt.length ∧ St g L h₁ fr₁ (LD a P it b n ln) ∧ J n ln fr₁ := by
      rintro ⟨fr', led', h', tk', rfl, H₃, n', ln', l1, l2, rfl, J₃⟩
      exact ⟨txt.length - n', by omega, n', ln', h', tk', fr', rfl, rfl, l2, H₃, J₃⟩
    cases f with
    | next => exact step q
    | cont => exact step q
    | brk => exact q
    | ret v => exact q
end

end
section

section
variable {w : World} {mg mb : Str → Option Value} {g0 g h : Heap} {L : Addr} {gn : Array GenState} {dr : Drawn} {os : OsState} {tk : Nat} {fr : Fm} {led : Lg} {A : Around} {E : Value → Shared → Prop}
theorem atB {x C dx f : Addr} {kv : Fm} {name : Str} {expr : Bool} {Q : Value → Shared → Prop} (G : Gd w mg mb g) (H : St g L h fr led) (hx : h.get? x = some (instObj C dx)) (hd : ∃ o, h.get? dx = some o ∧ IsI kv o)
    (hl : kv.lookup name = none) (hg : plainGet (Mine.hd.heap_39 w.params) C name = true) (hh : hasDictIn (Mine.hd.heap_39 w.params) C = true) (ha : findIn (Mine.hd.heap_39 w.params) (.ref C) name = some (some (.ref f))) (hf : isFn (Mine.hd.heap_39 w.params) (.ref f) = true)
    (hgf : specialIn (Mine.hd.heap_39 w.params) (.ref f) "__get__" = some (some (.builtin "function.__get__"))) (ht : takesIn (Mine.hd.heap_39 w.params) (.ref f) = some false) (hc : copiedNames.contains name = false)
    (hq : ∀ tk', Q (.ref h.objs.size) ⟨h.push (methodObj (.ref f) (.ref x)), gn, dr, tk', os⟩) : wpAny (model PR w) A (getAttr (.ref x) name expr) Q E ⟨h, gn, dr, tk, os⟩ := by
  obtain ⟨o, eo, es, n, rfl, en⟩ := hd
  have X := G.K.keeps H.keep
  exact get_bind X (instAt hx eo) (plainGet_of hg).1 (findObj_fn hh ha hgf ht hc (by show lookIn name (dictOf es n) = _; rw [lookIn_dict, en.get, hl])) (plainGet_of hg).2
    (wpAny_call (fn_get (s := ⟨h, gn, dr, tk + 1, os⟩) X (beq_iff_eq.mp hf) (handed_on rfl (hq _))))
theorem args_iter2 (a b : Value) : argsOk "iter" ⟨[a, b], []⟩ := by unfold argsOk; kernel_rfl
theorem call_meth_look : ∃ r, typeLookup (.type "method") "__call__" = pure (some r) := ⟨.builtin "method.__call__", by rw [typeLookup_type, builtinLookup_eq_fast]; kernel_rfl⟩
theorem iter2 {b : Addr} {f x sent : Value} {Q : Value → Shared → Prop} (hb : h.get? b = some (methodObj f x))
    (hq : Q (.ref h.objs.size) ⟨h.push { cls := .type "callable_iterator", data := .fields #[.ref b, sent, .bool false] }, gn, dr, tk, os⟩) : wpAny (model PR w) A (call (.builtin "iter") [.ref b, sent]) Q E ⟨h, gn, dr, tk, os⟩ := by
  refine call_function_entry (by decide +kernel) (by decide +kernel) kdk_entry_iter (args_iter2 _ _) ?_
  unfold Builtin.«iter»
  refine wpAny_bind (m := someArgs "iter" 1 2 _) (wpAny_of_eq (a := [Value.ref b, sent]) (by first | rfl | kernel_rfl!) ?_)
  obtain ⟨r, hr⟩ := call_meth_look
  show wpAny _ _ (specialOf (.ref b) _ >>= _) _ _ _
  refine wpAny_bind (wpAny_specialOf (T := "method") ⟨_, hb, rfl⟩ hr ?_)
  refine wpAny_bind (wpAny_rule ?_)
  exact wpAny_bind (wpAny_newObj_type (wpAny_pure ⟨_, rfl, hq⟩))
end

end
section

def wsp : List Nat := [10, 9, 13, 32]
/-- in quotes -/
def scanQ : List Nat → List Nat → Option (List Nat × List Nat)
  | [], _ => none
  | [c], acc => if c = 34 then some (acc, []) else none
  | c :: e :: r, acc => if c = 34 then some (acc, e :: r) else if c = 92 then scanQ r (acc ++ [e]) else scanQ (e :: r) (acc ++ [c])
/-- a plain word -/
def scanW : List Nat → List Nat → Option (List Nat × List Nat)
  | [], _ => none
  | [c], acc => if c ∈ wsp then some (acc, []) else none
  | c :: e :: r, acc => if c ∈ wsp then some (acc, e :: r) else if c = 92 then scanW r (acc ++ [e]) else scanW (e :: r) (acc ++ [c])
def scan : List Nat → Option (List Nat × List Nat)
  | [] => some ([], [])
  | c :: r => if c ∈ wsp then scan r else if c = 34 then scanQ r [] else if c = 92 then (match r with | [] => none | e :: r' => scanW r' [e]) else scanW r [c]

section
variable {w : World} {mg mb : Str → Option Value} {g0 g h : Heap} {L : Addr} {gn : Array GenState} {dr : Drawn} {os : OsState} {tk : Nat} {fr : Fm} {led : Lg} {A : Around} {E : Value → Shared → Prop} {a : RA} {ln : Nat}
theorem rdW {expr : Bool} {Q : Value → Shared → Prop} (G : Gd w mg mb g) (H : St g L h fr led) (hr : g.get? a.r = some (instObj 174 a.d)) (hi : led[0]? = some (a.d, RdD a ln)) (hq : ∀ t tk', Q (.str (S wsp) t) ⟨h, gn, dr, tk', os⟩) :
    wpAny (model PR w) A (getAttr (.ref a.r) (Str.ofString "whitespace") expr) Q E ⟨h, gn, dr, tk, os⟩ := by
  obtain ⟨o, e, t1, t2, i⟩ := H.get 0 hi
  exact atG G H (H.keep _ _ hr) ⟨o, e, i⟩ rfl (by k_is) (by k_is) (by k_is) (by k_is) rfl (hq _)
theorem rdP {expr : Bool} {Q : Value → Shared → Prop} (G : Gd w mg mb g) (H : St g L h fr led) (hr : g.get? a.r = some (instObj 174 a.d)) (hi : led[0]? = some (a.d, RdD a ln)) (hq : ∀ tk', Q (.ref a.pb) ⟨h, gn, dr, tk', os⟩) :
    wpAny (model PR w) A (getAttr (.ref a.r) (Str.ofString "pushback") expr) Q E ⟨h, gn, dr, tk, os⟩ := by
  obtain ⟨o, e, t1, t2, i⟩ := H.get 0 hi
  exact atG G H (H.keep _ _ hr) ⟨o, e, i⟩ rfl (by k_is) (by k_is) (by k_is) (by k_is) rfl hq
theorem rdM {pl : Sem Bool} {Q : Value × List Value → Shared → Prop} (G : Gd w mg mb g) (H : St g L h fr led) (hr : g.get? a.r = some (instObj 174 a.d)) (hi : led[0]? = some (a.d, RdD a ln)) (hq : Q (.ref 157, [.ref a.r]) ⟨h, gn, dr, tk, os⟩) :
    wpAny (model PR w) A (getMethod (.ref a.r) (Str.ofString "_read_char") pl) Q E ⟨h, gn, dr, tk, os⟩ := by
  obtain ⟨o, e, t1, t2, i⟩ := H.get 0 hi
  exact gmF G H (H.keep _ _ hr) ⟨o, e, i⟩ rfl (by k_is) (by k_is) (by k_is) hq
theorem rdB {expr : Bool} {Q : Value → Shared → Prop} (G : Gd w mg mb g) (H : St g L h fr led) (hr : g.get? a.r = some (instObj 174 a.d)) (hi : led[0]? = some (a.d, RdD a ln))
    (hq : ∀ tk', Q (.ref h.objs.size) ⟨h.push (methodObj (.ref 157) (.ref a.r)), gn, dr, tk', os⟩) :
    wpAny (model PR w) A (getAttr (.ref a.r) (Str.ofString "_read_char") expr) Q E ⟨h, gn, dr, tk, os⟩ := by
  obtain ⟨o, e, t1, t2, i⟩ := H.get 0 hi
  exact atB G H (H.keep _ _ hr) ⟨o, e, i⟩ rfl (by k_is) (by k_is) (by k_is) (by k_is) (by k_is) (by k_is) (by decide) hq

theorem truC {l : Addr} {y : Value} {its : List Value} {Q : Bool → Shared → Prop} (hl : ∃ o, h.get? l = some o ∧ IsLs (y :: its) o) (hsz : its.length < 1000000) (hq : ∀ tk', Q true ⟨h, gn, dr, tk', os⟩) : wpAny (model PR w) A (truthy (.ref l)) Q E ⟨h, gn, dr, tk, os⟩ :=
  wpAny_truthy_list (IsLs.isList hl) (by simp; omega) (by rw [show (!(y :: its).toArray.isEmpty) = true by simp]; exact hq _)
theorem truN {l : Addr} {Q : Bool → Shared → Prop} (hl : ∃ o, h.get? l = some o ∧ IsLs [] o) (hq : ∀ tk', Q false ⟨h, gn, dr, tk', os⟩) : wpAny (model PR w) A (truthy (.ref l)) Q E ⟨h, gn, dr, tk, os⟩ :=
  wpAny_truthy_list (IsLs.isList hl) (by simp) (hq _)
/-- what a reader's changing parts are, and where they lie -/
structure RdM (a : RA) (ln n : Nat) (its : List Value) (g0 h : Heap) : Prop where
  d : ∃ o, h.get? a.d = some o ∧ RdD a ln o
  la : ∃ o, h.get? a.la = some o ∧ RdAt n o
  pb : ∃ o, h.get? a.pb = some o ∧ IsLs its o
  nd : g0.get? a.d = none
  nla : g0.get? a.la = none
  npb : g0.get? a.pb = none
  ne : a.la ≠ a.pb
theorem RdM.ndup {n : Nat} {its : List Value} (M : RdM a ln n its g0 h) : [a.d, a.la, a.pb].Nodup := by
  obtain ⟨o1, e1, t1, t2, es, k, rfl, _⟩ := M.d
  obtain ⟨o2, e2, t3, _, ⟨k2, r2⟩⟩ := M.la
  obtain ⟨o3, e3, k3, rfl⟩ := M.pb
  have h1 : a.d ≠ a.la := by intro q; rw [q, e2] at e1; cases e1; cases r2
  have h2 : a.d ≠ a.pb := by intro q; rw [q, e3] at e1; have := congrArg Obj.data (Option.some.inj e1); cases this
  simp [h1, h2, M.ne]
theorem RdM.hS {n : Nat} {its : List Value} (M : RdM a ln n its g0 h) : ∀ b ∈ [a.d, a.la, a.pb], ∃ o, h.get? b = some o ∧ ((b = a.d ∧ ∃ es n, o.data = .dict es n) ∨ ∃ its n, o.data = .seq its n) := by
  obtain ⟨o1, e1, t1, t2, es, k, rfl, _⟩ := M.d
  obtain ⟨o2, e2, t3, _, ⟨k2, r2⟩⟩ := M.la
  obtain ⟨o3, e3, k3, rfl⟩ := M.pb
  intro b hb
  simp only [List.mem_cons, List.not_mem_nil, or_false] at hb
  rcases hb with rfl | rfl | rfl
  · exact ⟨_, e1, .inl ⟨rfl, _, _, rfl⟩⟩
  · exact ⟨_, e2, .inr ⟨_, _, r2⟩⟩
  · exact ⟨_, e3, .inr ⟨_, _, rfl⟩⟩
set_option maxHeartbeats 4000000 in
theorem token_pop {txt : List Nat} {n : Nat} {y : Value} {its : List Value} {Q : Value → Shared → Prop} (G : Gd w mg mb g0) (X : Ext g0 h) (B : RdB a txt h) (M : RdM a ln n (y :: its) g0 h) (hsz : its.length < 1000000)
    (hq : ∀ h' tk', Kp [a.d, a.la, a.pb] h h' → RdM a ln n its g0 h' → Q y ⟨h', gn, dr, tk', os⟩) :
    wpAny (model PR w) (AW 880 8800) (call (.ref 164) [.ref a.r]) Q NE ⟨h, gn, dr, tk, os⟩ := by
  refine' call_def (fr := [(Str.ofString "self", .ref a.r)]) G X [(a.d, RdD a ln), (a.la, RdAt n), (a.pb, IsLs (y :: its))] ?ho ?hcd ?hb ?hbind ?hfr ?hks ?hcl ?hl ?nd ?main ?hd ?hcell ?hloc ?hco ?hgen ?hk ?hgl ?hbn
  case hl =>
    intro p hp
    simp only [List.mem_cons, List.not_mem_nil, or_false] at hp
    rcases hp with rfl | rfl | rfl
    · exact ⟨M.d, M.nd⟩
    · exact ⟨M.la, M.nla⟩
    · exact ⟨M.pb, M.npb⟩
  case nd => exact M.ndup
  keq_rows
  intro g L h₁ tk₁ env he G' X' H K'
  dsimp only at he
  have BG : RdB a txt g := B.keep K' M.hS
  have ri := BG.ri
  repeat' ktr_rel
  refine rdP G' H ri rfl ?_
  intro _
  refine truC (H.get 2 rfl) hsz ?_
  intro _
  repeat' ktr_rel
  refine rdP G' H ri rfl ?_
  intro _
  repeat' ktr_rel
  refine pop0 2 H rfl hsz ?_
  intro h₂ H₂
  dsimp only [List.set] at H₂
  repeat' ktr_rel
  exact hq _ _ (fun b o e n => H₂.keep _ _ (K' b o e n)) ⟨H₂.get 0 rfl, H₂.get 1 rfl, H₂.get 2 rfl, M.nd, M.nla, M.npb, M.ne⟩
end

end
section
local macro_rules | `(tactic| ktr_rel) => `(tactic| first
  | ((with_reducible refine' rdW ?G ?H ?hr ?hi ?_); (case G => assumption); (case H => assumption); (case hr => assumption); (case hi => rfl); intro _ _)
  | ((with_reducible refine' rdP ?G ?H ?hr ?hi ?_); (case G => assumption); (case H => assumption); (case hr => assumption); (case hi => rfl); intro _)
  | ((with_reducible refine' rdM ?G ?H ?hr ?hi ?_); (case G => assumption); (case H => assumption); (case hr => assumption); (case hi => rfl)))
inductive TsJ (a : RA) (it : Addr) (txt tok rest : List Nat) (ln n : Nat) (n' : Nat) (ln' : Nat) (fr' : Fm) : Prop
  | mk (h1 : scan (txt.drop n') = some (tok, rest))
    (h2 : ln' + (txt.drop n').count 10 = ln + (txt.drop n).count 10)
    (t r : _)
    (h3 : fr' = [(Str.ofString "self", .ref a.r), (Str.ofString "token", .str (S []) t), (Str.ofString "fiter", .ref it)] ++ r)
    (h4 : Opt1 (Str.ofString "ch") r)
inductive TcJ (f : List Nat → List Nat → Option (List Nat × List Nat)) (a : RA) (it : Addr) (txt tok rest : List Nat) (ln n : Nat) (n' : Nat) (ln' : Nat) (fr' : Fm) : Prop
  | mk (acc t v : _)
    (h1 : fr' = [(Str.ofString "self", .ref a.r), (Str.ofString "token", .str (S acc) t), (Str.ofString "fiter", .ref it)] ++ [(Str.ofString "ch", v)])
    (h2 : acc.length ≤ n')
    (h3 : f (txt.drop n') acc = some (tok, rest))
    (h4 : ln' + (txt.drop n').count 10 = ln + (txt.drop n).count 10)
section
variable {w : World} {mg mb : Str → Option Value} {g0 g h : Heap} {L : Addr} {gn : Array GenState} {dr : Drawn} {os : OsState} {tk : Nat} {fr : Fm} {led : Lg} {A : Around} {E : Value → Shared → Prop} {a : RA} {ln : Nat}
theorem St.fresh (H : St g L h fr led) : h.objs.size ≠ L ∧ h.objs.size ∉ led.map (·.1) := by
  refine ⟨Nat.ne_of_gt H.ns.lt, fun q => ?_⟩
  obtain ⟨p, hp, e⟩ := List.mem_map.mp q
  obtain ⟨_, eo, _⟩ := H.at_ p hp
  exact Nat.lt_irrefl _ (e ▸ Heap.lt_size eo)
theorem St.push (H : St g L h fr led) (o : Obj) (hf : o.isFreed = false := by rfl) : ∃ g', Ext g g' ∧ St g' L (h.push o) fr led ∧ g'.get? h.objs.size = some o := by
  obtain ⟨g', x', H', in'⟩ := (H.ext (h' := h.push o) fun b o' e => Heap.get?_push_of_some _ e).rebase
  exact ⟨g', x', H', in' _ _ (Heap.get?_push_size _ hf) H.fresh.1 H.fresh.2⟩
theorem rdB' {expr : Bool} {Q : Value → Shared → Prop} (G : Gd w mg mb g) (H : St g L h fr led) (hr : g.get? a.r = some (instObj 174 a.d)) (hi : led[0]? = some (a.d, RdD a ln))
    (hq : ∀ g' b h' tk', Ext g g' → St g' L h' fr led → g'.get? b = some (methodObj (.ref 157) (.ref a.r)) → Q (.ref b) ⟨h', gn, dr, tk', os⟩) :
    wpAny (model PR w) A (getAttr (.ref a.r) (Str.ofString "_read_char") expr) Q E ⟨h, gn, dr, tk, os⟩ := by
  refine rdB G H hr hi fun tk' => ?_
  obtain ⟨g1, x1, H1, hb⟩ := H.push (methodObj (.ref 157) (.ref a.r))
  exact hq _ _ _ _ x1 H1 hb
theorem iter2' {b : Addr} {f x : Value} {t : Tok} {Q : Value → Shared → Prop} (H : St g L h fr led) (hb : g.get? b = some (methodObj f x))
    (hq : ∀ it h', St g L h' fr (led ++ [(it, IsCI b)]) → Q (.ref it) ⟨h', gn, dr, tk, os⟩) : wpAny (model PR w) A (call (.builtin "iter") [.ref b, .str (S []) t]) Q E ⟨h, gn, dr, tk, os⟩ :=
  iter2 (H.keep _ _ hb) (hq _ _ (H.alloc _ (IsCI b) ⟨rfl, _, rfl⟩))
theorem scan_ws {c : Nat} {r : List Nat} (q : c ∈ wsp) : scan (c :: r) = scan r := by simp [scan, q]
theorem scan_q {c : Nat} {r : List Nat} (q : ¬ c ∈ wsp) (e : c = 34) : scan (c :: r) = scanQ r [] := by subst e; simp [scan, q]
theorem scan_b {c : Nat} {r : List Nat} {x : List Nat × List Nat} (q : ¬ c ∈ wsp) (e : c = 92) (z : scan (c :: r) = some x) : ∃ e r', r = e :: r' ∧ scanW r' [e] = some x := by
  subst e
  cases r with
  | nil => simp [scan, q] at z
  | cons e r' => exact ⟨e, r', rfl, by simpa [scan, q] using z⟩
theorem scan_w {c : Nat} {r : List Nat} (q : ¬ c ∈ wsp) (e : c ≠ 34) (e' : c ≠ 92) : scan (c :: r) = scanW r [c] := by simp [scan, q, e, e']
theorem scanQ_end {c : Nat} {r acc : List Nat} (e : c = 34) : scanQ (c :: r) acc = some (acc, r) := by subst e; cases r <;> simp [scanQ]
theorem scanQ_b {c : Nat} {r acc : List Nat} {x : List Nat × List Nat} (e : c = 92) (z : scanQ (c :: r) acc = some x) : ∃ e r', r = e :: r' ∧ scanQ r' (acc ++ [e]) = some x := by
  subst e
  cases r with
  | nil => simp [scanQ] at z
  | cons e r' => exact ⟨e, r', rfl, by simpa [scanQ] using z⟩
theorem scanQ_c {c : Nat} {r acc : List Nat} {x : List Nat × List Nat} (e : c ≠ 34) (e' : c ≠ 92) (z : scanQ (c :: r) acc = some x) : scanQ r (acc ++ [c]) = some x := by
  cases r with
  | nil => simp [scanQ, e] at z
  | cons e r' => simpa [scanQ, *] using z
theorem scanW_end {c : Nat} {r acc : List Nat} (e : c ∈ wsp) : scanW (c :: r) acc = some (acc, r) := by cases r <;> simp [scanW, e]
theorem scanW_b {c : Nat} {r acc : List Nat} {x : List Nat × List Nat} (e : c = 92) (z : scanW (c :: r) acc = some x) : ∃ e r', r = e :: r' ∧ scanW r' (acc ++ [e]) = some x := by
  subst e
  have q : ¬ 92 ∈ wsp := by decide
  cases r with
  | nil => simp [scanW, q] at z
  | cons e r' => exact ⟨e, r', rfl, by simpa [scanW, q] using z⟩
theorem scanW_c {c : Nat} {r acc : List Nat} {x : List Nat × List Nat} (e : ¬ c ∈ wsp) (e' : c ≠ 92) (z : scanW (c :: r) acc = some x) : scanW r (acc ++ [c]) = some x := by
  cases r with
  | nil => simp [scanW, e] at z
  | cons e r' => simpa [scanW, *] using z
theorem drop_at {txt : List Nat} {n c : Nat} (hc : txt[n]? = some c) : txt.drop n = c :: txt.drop (n + 1) := by
  obtain ⟨h1, h2⟩ := List.getElem?_eq_some_iff.mp hc
  rw [List.drop_eq_getElem_cons h1, h2]
theorem cnt {txt : List Nat} {n c ln N : Nat} (hc : txt[n]? = some c) (e : ln + (txt.drop n).count 10 = N) : (if c = 10 then ln + 1 else ln) + (txt.drop (n + 1)).count 10 = N := by
  rw [drop_at hc, List.count_cons] at e
  by_cases q : c = 10
  · subst q; simp at e ⊢; omega
  · rw [if_neg q]; rw [if_neg (by simpa using q)] at e; omega
theorem at_drop {txt : List Nat} {n c : Nat} {r : List Nat} (e : txt.drop n = c :: r) : txt[n]? = some c ∧ n < txt.length ∧ txt.drop (n + 1) = r := by
  have h1 : txt[n]? = some c := by rw [← List.head?_drop, e]; rfl
  refine ⟨h1, (List.getElem?_eq_some_iff.mp h1).1, ?_⟩
  rw [drop_at h1] at e
  exact (List.cons.inj e).2
theorem rc {txt : List Nat} {it b : Addr} {P : Obj → Prop} {n c d u : Nat} {Q : Value → Shared → Prop} (G : Gd w mg mb g0) (X : Ext g0 g) (BG : RdB a txt g) (H : St g L h fr (LD a P it b n ln)) (hc : txt[n]? = some c) (hl : txt.length ≤ 10000)
    (hq : ∀ h' tk' t', St g L h' fr (LD a P it b (n + 1) (if c = 10 then ln + 1 else ln)) → Q (.str (S [c]) t') ⟨h', gn, dr, tk', os⟩) (hd : d ≤ 890) (hu : u ≤ 8900) :
    wpAny (model PR w) (AW d u) (call (.ref 157) [.ref a.r]) Q NE ⟨h, gn, dr, tk, os⟩ := by
  have hlt : n < txt.length := (List.getElem?_eq_some_iff.mp hc).1
  have nd := H.nd
  simp only [List.map_cons, List.map_nil, List.nodup_cons, List.mem_cons, List.not_mem_nil, or_false, not_or] at nd
  obtain ⟨⟨d1, d2, d3⟩, ⟨d4, d5⟩, d6, -⟩ := nd
  refine wp_weak (read_char_spec G (X.trans H.keep) (BG.ext H.keep) (H.get 0 rfl) (H.get 1 rfl) ?_ ?_ (Nat.le_of_lt hlt) hl ?_) rfl hd hu
  · cases e : g0.get? a.d with
    | none => rfl
    | some o => have := H.offI 0 rfl; rw [X _ _ e] at this; cases this
  · cases e : g0.get? a.la with
    | none => rfl
    | some o => have := H.offI 1 rfl; rw [X _ _ e] at this; cases this
  intro h' tk' t' k e1 e2
  have k2 : ∀ b o, b ≠ a.d → b ≠ a.la → h.get? b = some o → h'.get? b = some o := fun b o n1 n2 e => k b o e (by simp [n1, n2])
  have ec : (txt.drop n).take 1 = [c] := by rw [drop_at hc]; rfl
  rw [ec] at e1 e2 ⊢
  have ei : (if ([c] == [10]) = true then ln + 1 else ln) = if c = 10 then ln + 1 else ln := by simp
  rw [ei] at e1
  refine hq _ _ _ (H.swap (fun b o nb e => ?_) rfl ?_)
  · simp only [List.map_cons, List.map_nil, List.mem_cons, List.not_mem_nil, or_false, not_or] at nb
    exact k2 b o nb.1 nb.2.1 e
  · intro p hp
    simp only [List.mem_cons, List.not_mem_nil, or_false] at hp
    rcases hp with rfl | rfl | rfl | rfl
    · exact e1
    · exact e2
    · obtain ⟨o, e, q⟩ := H.get 2 rfl; exact ⟨o, k2 _ _ (Ne.symm d2) (Ne.symm d4) e, q⟩
    · obtain ⟨o, e, q⟩ := H.get 3 rfl; exact ⟨o, k2 _ _ (Ne.symm d3) (Ne.symm d5) e, q⟩
/-- self._read_char() -/
theorem rcw {txt : List Nat} {it b : Addr} {P : Obj → Prop} {n c d u : Nat} {pos : Pos} {env : Env} {Q : Value → Shared → Prop} (G : Gd w mg mb g0) (X : Ext g0 g) (BG : RdB a txt g) (H : St g L h fr (LD a P it b n ln)) (hc : txt[n]? = some c) (hl : txt.length ≤ 10000)
    (hq : ∀ h' tk' t', St g L h' fr (LD a P it b (n + 1) (if c = 10 then ln + 1 else ln)) → Q (.str (S [c]) t') ⟨h', gn, dr, tk', os⟩) (hd : d ≤ 890) (hu : u ≤ 8900) :
    wpAny (model PR w) (AW d u) (callWith pos (.ref 157) [.ref a.r] (backTo pos (starEach [] env)) []) Q NE ⟨h, gn, dr, tk, os⟩ := by
  obtain ⟨of, fd, e1, e2⟩ := got157 G (X.trans H.keep)
  exact cwF0 e2 e1 (rc G X BG H hc hl hq hd hu)
set_option maxHeartbeats 4000000 in
theorem token_scan {txt tok rest : List Nat} {n : Nat} {Q : Value → Shared → Prop} (G : Gd w mg mb g0) (X : Ext g0 h) (B : RdB a txt h) (M : RdM a ln n [] g0 h) (hn : n ≤ txt.length) (hl : txt.length ≤ 10000) (hs : scan (txt.drop n) = some (tok, rest))
    (hq : ∀ h' tk' t' n' ln', Kp [a.d, a.la, a.pb] h h' → RdM a ln' n' [] g0 h' → n' ≤ txt.length → txt.drop n' = rest → ln' + rest.count 10 = ln + (txt.drop n).count 10 → Q (.str (S tok) t') ⟨h', gn, dr, tk', os⟩) :
    wpAny (model PR w) (AW 880 8800) (call (.ref 164) [.ref a.r]) Q NE ⟨h, gn, dr, tk, os⟩ := by
  refine' call_def (fr := [(Str.ofString "self", .ref a.r)]) G X [(a.d, RdD a ln), (a.la, RdAt n), (a.pb, IsLs [])] ?ho ?hcd ?hb ?hbind ?hfr ?hks ?hcl ?hl ?nd ?main ?hd ?hcell ?hloc ?hco ?hgen ?hk ?hgl ?hbn
  case hl =>
    intro p hp
    simp only [List.mem_cons, List.not_mem_nil, or_false] at hp
    rcases hp with rfl | rfl | rfl
    · exact ⟨M.d, M.nd⟩
    · exact ⟨M.la, M.nla⟩
    · exact ⟨M.pb, M.npb⟩
  case nd => exact M.ndup
  keq_rows
  intro g L h₁ tk₁ env he G' X' H K'
  dsimp only at he
  have BG : RdB a txt g := B.keep K' M.hS
  have ri := BG.ri
  repeat' ktr_rel
  refine truN (H.get 2 rfl) ?_
  intro _
  repeat' ktr_rel
  clear H; rename St _ _ _ _ _ => H
  refine rdB' G' H ri rfl ?_
  intro g1 b h₂ tk₂ x1 H1 hb
  clear H
  have G1 := G'.keeps x1
  have BG1 := BG.ext x1
  have ri1 := BG1.ri
  repeat' ktr_rel
  refine iter2' H1 hb ?_
  intro it h₃ H2
  dsimp only [List.cons_append, List.nil_append] at H2
  clear H1
  repeat' ktr_rel
  clear H2; rename St _ _ _ _ _ => H2
  refine for_ci (J := TsJ a it txt tok rest ln n) G (X'.trans x1) BG1 hb H2 hn hl ?hiter ?hJ ?turn ?fin (by decide) (by decide)
  case hiter => intro Q' hQ'; ktr_rel; exact hQ' _
  case hJ => exact ⟨hs, rfl, _, [], rfl, .inl rfl⟩
  case fin =>
    rintro h₄ tk₄ fr₁ ln₁ ⟨s1, s2, t, r, rfl, hr⟩ H4
    rw [List.drop_length] at s1 s2
    cases s1
    repeat' ktr_rel
    refine hq _ _ _ txt.length ln₁ (fun b o e n => H4.keep _ _ (x1 _ _ (K' b o e n))) ⟨H4.get 0 rfl, H4.get 1 rfl, H4.get 2 rfl, M.nd, M.nla, M.npb, M.ne⟩ (Nat.le_refl _) (by simp) s2
  case turn =>
    have fin : ∀ fr' h' tk' t' n' ln', St g1 L h' fr' (LD a (IsLs []) it b n' ln') → n' ≤ txt.length → txt.drop n' = rest → ln' + (txt.drop n').count 10 = ln + (txt.drop n).count 10 → Q (.str (S tok) t') ⟨h', gn, dr, tk', os⟩ := by
      intro fr' h' tk' t' n' ln' HE e1 e2 e3
      exact hq _ _ _ n' ln' (fun b o e n => HE.keep _ _ (x1 _ _ (K' b o e n))) ⟨HE.get 0 rfl, HE.get 1 rfl, HE.get 2 rfl, M.nd, M.nla, M.npb, M.ne⟩ e1 e2 (e2 ▸ e3)
    rintro n₁ ln₁ h₄ tk₄ fr₁ c t hc hlt ⟨s1, s2, t, r, rfl, hr⟩ H4
    refine asg1 H4 he hr rfl rfl ?_
    intro h₅ tk₅ H5
    dsimp only [List.cons_append, List.nil_append] at H5
    clear H4
    have s3 := cnt hc s2
    rw [drop_at hc] at s1
    repeat' ktr_rel
    · rename decide (c ∈ wsp) = _ => w1
      rw [scan_ws (by simpa using w1)] at s1
      exact lp_cont H5 ⟨n₁ + 1, _, Nat.lt_succ_self _, hlt, rfl, s1, s3, t, _, rfl, .inr ⟨_, rfl⟩⟩
    · rename decide (c ∈ wsp) = _ => w1
      rename ([c] == [34]) = _ => w2
      rw [scan_q (by simpa using w1) (by simpa using w2)] at s1
      refine for_ci (J := TcJ scanQ a it txt tok rest ln n) G (X'.trans x1) BG1 hb H5 hlt hl ?hiter ?hJ ?turn ?fin (by decide) (by decide)
      case hiter => intro Q' hQ'; ktr_rel; exact hQ' _
      case hJ => exact ⟨[], _, _, rfl, Nat.zero_le _, s1, s3⟩
      case fin =>
        rintro h₆ tk₆ fr₂ ln₂ ⟨acc, t2, v, rfl, l1, z, _⟩ H6
        rw [List.drop_length] at z; cases z
      case turn =>
        rintro n₂ ln₂ h₆ tk₆ fr₂ c₂ t₂ hc₂ hlt₂ ⟨acc, t3, v, rfl, l1, z1, z2⟩ H6
        refine asg1 H6 he (.inr ⟨_, rfl⟩) rfl rfl ?_
        intro h₇ tk₇ H7
        dsimp only [List.cons_append, List.nil_append] at H7
        clear H6
        have z3 := cnt hc₂ z2
        rw [drop_at hc₂] at z1
        repeat' ktr_rel
        · rename ([c₂] == [34]) = _ => v1
          rw [scanQ_end (by simpa using v1)] at z1
          cases z1
          exact fin _ _ _ _ _ _ H7 hlt₂ rfl z3
        · rename ([c₂] == [92]) = _ => v2
          obtain ⟨e, r', d1, d2⟩ := scanQ_b (by simpa using v2) z1
          obtain ⟨d3, d4, d5⟩ := at_drop d1
          refine rcw G (X'.trans x1) BG1 H7 d3 hl ?_ (by decide) (by decide)
          intro h₈ tk₈ t₈ H8
          clear H7
          repeat' ktr_rel
          rename St _ _ _ _ _ => HE
          exact lp_next HE ⟨n₂ + 1 + 1, _, by omega, d4, rfl, acc ++ [e], _, _, rfl, by simp; omega, d5 ▸ d2, cnt d3 z3⟩
        · rename ([c₂] == [34]) = _ => v1
          rename ([c₂] == [92]) = _ => v2
          rename St _ _ _ _ _ => HE
          exact lp_next HE ⟨n₂ + 1, _, by omega, hlt₂, rfl, acc ++ [c₂], _, _, rfl, by simp; omega, scanQ_c (by simpa using v1) (by simpa using v2) z1, z3⟩
    · rename decide (c ∈ wsp) = _ => w1
      rename ([c] == [34]) = _ => w2
      rename ([c] == [92]) = _ => w3
      obtain ⟨e, r', d1, d2⟩ := scan_b (by simpa using w1) (by simpa using w3) s1
      obtain ⟨d3, d4, d5⟩ := at_drop d1
      refine rcw G (X'.trans x1) BG1 H5 d3 hl ?_ (by decide) (by decide)
      intro h₈ tk₈ t₈ H8
      clear H5
      repeat' ktr_rel
      rename St _ _ _ _ _ => HF
      refine for_ci (J := TcJ scanW a it txt tok rest ln n) G (X'.trans x1) BG1 hb HF d4 hl ?hiter ?hJ ?turn ?fin (by decide) (by decide)
      case hiter => intro Q' hQ'; ktr_rel; exact hQ' _
      case hJ => exact ⟨[e], _, _, rfl, by simp, (d5 ▸ d2), cnt d3 s3⟩
      case fin =>
        rintro h₆ tk₆ fr₂ ln₂ ⟨acc, t2, v, rfl, l1, z, _⟩ H6
        rw [List.drop_length] at z; cases z
      case turn =>
        rintro n₂ ln₂ h₆ tk₆ fr₂ c₂ t₂ hc₂ hlt₂ ⟨acc, t3, v, rfl, l1, z1, z2⟩ H6
        refine asg1 H6 he (.inr ⟨_, rfl⟩) rfl rfl ?_
        intro h₇ tk₇ H7
        dsimp only [List.cons_append, List.nil_append] at H7
        clear H6 HF
        have z3 := cnt hc₂ z2
        rw [drop_at hc₂] at z1
        repeat' ktr_rel
        · rename decide (c₂ ∈ wsp) = _ => v1
          rw [scanW_end (by simpa using v1)] at z1
          cases z1
          exact fin _ _ _ _ _ _ H7 hlt₂ rfl z3
        · rename ([c₂] == [92]) = _ => v2
          obtain ⟨e, r', d1, d2⟩ := scanW_b (by simpa using v2) z1
          obtain ⟨d3, d4, d5⟩ := at_drop d1
          refine rcw G (X'.trans x1) BG1 H7 d3 hl ?_ (by decide) (by decide)
          intro h₈ tk₈ t₈ H8
          clear H7
          repeat' ktr_rel
          rename St _ _ _ _ _ => HE
          exact lp_next HE ⟨n₂ + 1 + 1, _, by omega, d4, rfl, acc ++ [e], _, _, rfl, by simp; omega, d5 ▸ d2, cnt d3 z3⟩
        · rename decide (c₂ ∈ wsp) = _ => v1
          rename ([c₂] == [92]) = _ => v2
          rename St _ _ _ _ _ => HE
          exact lp_next HE ⟨n₂ + 1, _, by omega, hlt₂, rfl, acc ++ [c₂], _, _, rfl, by simp; omega, scanW_c (by simpa using v1) (by simpa using v2) z1, z3⟩
    · rename decide (c ∈ wsp) = _ => w1
      rename ([c] == [34]) = _ => w2
      rename ([c] == [92]) = _ => w3
      rw [scan_w (by simpa using w1) (by simpa using w2) (by simpa using w3)] at s1
      rename St _ _ _ _ _ => HF
      refine for_ci (J := TcJ scanW a it txt tok rest ln n) G (X'.trans x1) BG1 hb HF hlt hl ?hiter ?hJ ?turn ?fin (by decide) (by decide)
      case hiter => intro Q' hQ'; ktr_rel; exact hQ' _
      case hJ => exact ⟨[c], _, _, rfl, by simp, s1, s3⟩
      case fin =>
        rintro h₆ tk₆ fr₂ ln₂ ⟨acc, t2, v, rfl, l1, z, _⟩ H6
        rw [List.drop_length] at z; cases z
      case turn =>
        rintro n₂ ln₂ h₆ tk₆ fr₂ c₂ t₂ hc₂ hlt₂ ⟨acc, t3, v, rfl, l1, z1, z2⟩ H6
        refine asg1 H6 he (.inr ⟨_, rfl⟩) rfl rfl ?_
        intro h₇ tk₇ H7
        dsimp only [List.cons_append, List.nil_append] at H7
        clear H6 HF
        have z3 := cnt hc₂ z2
        rw [drop_at hc₂] at z1
        repeat' ktr_rel
        · rename decide (c₂ ∈ wsp) = _ => v1
          rw [scanW_end (by simpa using v1)] at z1
          cases z1
          exact fin _ _ _ _ _ _ H7 hlt₂ rfl z3
        · rename ([c₂] == [92]) = _ => v2
          obtain ⟨e, r', d1, d2⟩ := scanW_b (by simpa using v2) z1
          obtain ⟨d3, d4, d5⟩ := at_drop d1
          refine rcw G (X'.trans x1) BG1 H7 d3 hl ?_ (by decide) (by decide)
          intro h₈ tk₈ t₈ H8
          clear H7
          repeat' ktr_rel
          rename St _ _ _ _ _ => HE
          exact lp_next HE ⟨n₂ + 1 + 1, _, by omega, d4, rfl, acc ++ [e], _, _, rfl, by simp; omega, d5 ▸ d2, cnt d3 z3⟩
        · rename decide (c₂ ∈ wsp) = _ => v1
          rename ([c₂] == [92]) = _ => v2
          rename St _ _ _ _ _ => HE
          exact lp_next HE ⟨n₂ + 1, _, by omega, hlt₂, rfl, acc ++ [c₂], _, _, rfl, by simp; omega, scanW_c (by simpa using v1) (by simpa using v2) z1, z3⟩
end

end
section
local macro_rules | `(tactic| ktr_rel) => `(tactic| first
  | ((with_reducible refine' rdW ?G ?H ?hr ?hi ?_); (case G => assumption); (case H => assumption); (case hr => assumption); (case hi => rfl); intro _ _)
  | ((with_reducible refine' rdP ?G ?H ?hr ?hi ?_); (case G => assumption); (case H => assumption); (case hr => assumption); (case hi => rfl); intro _)
  | ((with_reducible refine' rdM ?G ?H ?hr ?hi ?_); (case G => assumption); (case H => assumption); (case hr => assumption); (case hi => rfl)))
section
variable {w : World} {mg mb : Str → Option Value} {g0 g h : Heap} {L : Addr} {gn : Array GenState} {dr : Drawn} {os : OsState} {tk : Nat} {fr : Fm} {led : Lg} {A : Around} {E : Value → Shared → Prop} {a : RA} {ln : Nat}
theorem exE {env : Env} {ks : List (Str × NameKind)} {cl : List (Str × Addr)} {e : Expr} {pos : Pos} {s : Shared} {Q : Flow → Shared → Prop} (he : EnvOk env L ks cl) (h : wpAny (model PR w) A (eval e env) (fun _ => Q .next) E s) (hs : swapsWith e none pos.line env = pure false) :
    wpAny (model PR w) A (exec (.Expr e pos) env) Q E s := wpAny_Expr_any h (by unfold interactive; rw [he.kind]; rfl) hs
set_option maxHeartbeats 4000000 in
theorem push_spec {txt : List Nat} {n : Nat} {y : Value} {its : List Value} {Q : Value → Shared → Prop} (G : Gd w mg mb g0) (X : Ext g0 h) (B : RdB a txt h) (M : RdM a ln n its g0 h) (hsz : its.length < 1000000)
    (hq : ∀ h' tk', Kp [a.d, a.la, a.pb] h h' → RdM a ln n (its ++ [y]) g0 h' → Q .none ⟨h', gn, dr, tk', os⟩) :
    wpAny (model PR w) (AW 880 8800) (call (.ref 171) [.ref a.r, y]) Q NE ⟨h, gn, dr, tk, os⟩ := by
  refine' call_def (fr := [(Str.ofString "token", y), (Str.ofString "self", .ref a.r)]) G X [(a.d, RdD a ln), (a.la, RdAt n), (a.pb, IsLs its)] ?ho ?hcd ?hb ?hbind ?hfr ?hks ?hcl ?hl ?nd ?main ?hd ?hcell ?hloc ?hco ?hgen ?hk ?hgl ?hbn
  case hl =>
    intro p hp
    simp only [List.mem_cons, List.not_mem_nil, or_false] at hp
    rcases hp with rfl | rfl | rfl
    · exact ⟨M.d, M.nd⟩
    · exact ⟨M.la, M.nla⟩
    · exact ⟨M.pb, M.npb⟩
  case nd => exact M.ndup
  keq_rows
  intro g L h₁ tk₁ env he G' X' H K'
  dsimp only at he
  have BG : RdB a txt g := B.keep K' M.hS
  have ri := BG.ri
  repeat' ktr_rel
  refine exE he ?_ rfl
  repeat' ktr_rel
  refine apL 2 H rfl (by rw [sizeLine_eq]; omega) ?_
  intro h₂ H₂
  dsimp only [List.set] at H₂
  repeat' ktr_rel
  exact hq _ _ (fun b o e n => H₂.keep _ _ (K' b o e n)) ⟨H₂.get 0 rfl, H₂.get 1 rfl, H₂.get 2 rfl, M.nd, M.nla, M.npb, M.ne⟩
end

end
section
section
variable {w : World} {mg mb : Str → Option Value} {g0 g h : Heap} {L : Addr} {tk : Nat} {fr : Fm} {led : Lg} {A : Around} {E : Value → Shared → Prop} {a : RA} {ln : Nat}
/-- a def entered by the code of a call -/
theorem call_defC {gn : Array GenState} {dr : Drawn} {tk : Nat} {os : OsState} {f : Addr} {fd : FuncData} {body : List Stmt} {binds : List (Str × Value)} {args : List Value} {d u : Nat} {Q : Value → Shared → Prop} {R : Result → Shared → Prop} {oc : Value} {od : Option Addr} {osl : Array (Option Value)} {ks : List (Str × NameKind)} {cl : List (Str × Addr)}
    (hR : ∀ v s', Q v s' → R (.ok (.ret v)) s')
    (G : Gd w mg mb g0) (X : Ext g0 h) (led : Lg)
    (ho : h.get? f = some ⟨oc, od, .func fd, osl⟩) (hcd : h.CodeRec fd.code fd.qualname) (hbody : fd.body = .stmts body)
    (hbind : bindArgs fd ⟨args, []⟩ = pure binds) (hfr : binds.reverse = fr) (hks : fd.scope.names = ks) (hcl : fd.closure = cl)
    (hl : ∀ p ∈ led, (∃ o, h.get? p.1 = some o ∧ p.2 o) ∧ g0.get? p.1 = none) (nd : (led.map (·.1)).Nodup)
    (hm : ∀ g L h₁ tk₁ env, EnvOk env L ks cl → Gd w mg mb g → Ext g0 g → St g L h₁ fr led → Kp (led.map (·.1)) h g →
      wpAny (model PR w) (AW (d + 1) (u + 3)) (execs body env) (FQ Q) NE ⟨h₁, gn, dr, tk₁, os⟩)
    (hd : d < recursionLimit) (hcell : ∀ x ∈ fd.scope.names, x.2 ≠ .cell) (hloc : ∀ x ∈ binds, fd.scope.names.lookup x.1 = some .local)
    (hco : fd.scope.isCoroutine = false) (hgen : fd.scope.isGenerator = false) (hk : fd.scope.kind = .function) (hgl : fd.globals = mainGlobals) (hbn : fd.builtins = builtinsNs) :
    codeAny (model PR w) (AW d u) (.call (.ref f) ⟨args, []⟩) R ⟨h, gn, dr, tk, os⟩ := by
  refine codeAny_call_def hd ho rfl (G.nolimit.keeps X) hcd hbody (BindsTo.of_eq hbind) hcell hloc (fun h₁ hns hk₁ => ?_) hco hgen hk
  have off : ∀ b o, g0.get? b = some o → b ∉ led.map (·.1) := fun b o e q => by
    obtain ⟨p, hp, rfl⟩ := List.mem_map.mp q
    rw [(hl p hp).2] at e; cases e
  have XG : Ext g0 (hideAll h (led.map (·.1))) := fun b o e => hideAll_get _ (X b o e) (off b o e)
  subst hfr hks hcl
  refine wpAny_mono (hm (hideAll h (led.map (·.1))) h.objs.size h₁ (tk + binds.length) (callEnv fd h.objs.size f) ⟨hk, rfl, hgl, hbn, rfl, rfl⟩ (G.keeps XG) XG
    ⟨hns, fun b o e => hk₁ b o (of_hideAll _ e), fun p hp => (let ⟨o, e, q⟩ := (hl p hp).1; ⟨o, hk₁ _ _ e, q⟩), fun p hp => hideAll_none _ (List.mem_map_of_mem hp), fun p hp => (let ⟨_, e, _⟩ := (hl p hp).1; Nat.ne_of_lt (Heap.lt_size e)), ?_, nd⟩
    fun b o e n => hideAll_get _ e n) (fun fl s' q => hR _ _ q) fun _ _ q => q.elim
  cases e : (hideAll h (led.map (·.1))).get? h.objs.size with
  | none => rfl
  | some o => exact absurd (Heap.lt_size (of_hideAll _ e)) (Nat.lt_irrefl _)

inductive PoL (gn : Array GenState) (dr : Drawn) (os : OsState) (L : Addr) (Q : Value → Shared → Prop) (vs : List Value) (s₁ : Shared) : Prop
  | mk (h1 : vs.length ≤ sizeLine) (h' : Heap) (tk' : Nat) (fr' : Fm) (g' : Heap) (led' : Lg) (h2 : s₁ = ⟨h', gn, dr, tk', os⟩) (h3 : St g' L h' fr' led')
    (h4 : ∀ l h₂, St g' L h₂ fr' (led' ++ [(l, IsLs vs)]) → Q (.ref l) ⟨h₂, gn, dr, tk', os⟩)
theorem newL {elts : List Expr} {pos : Pos} {env : Env} {gn : Array GenState} {dr : Drawn} {os : OsState} {Q : Value → Shared → Prop}
    (hw : wpAny (model PR w) A (spliced (backTo pos (starEach elts env))) (PoL gn dr os L Q) E ⟨h, gn, dr, tk, os⟩) :
    wpAny (model PR w) A (eval (.List elts pos) env) Q E ⟨h, gn, dr, tk, os⟩ := by
  refine wpAny_List (wpAny_mono hw (fun vs s₁ q => ?_) fun _ _ z => z)
  obtain ⟨q1, h', tk', fr', g', led', rfl, H, q9⟩ := q
  exact ⟨q1, q9 _ _ (H.alloc _ (IsLs vs) ⟨0, rfl⟩)⟩
end

end
section
local macro_rules | `(tactic| ktr_rel) => `(tactic| first
  | ((with_reducible refine' plainObj_wpAny_Assign_Attribute ?_ ?hs); (case hs => rfl)))
section
variable {w : World} {mg mb : Str → Option Value} {g0 g h : Heap} {L : Addr} {tk : Nat} {fr : Fm} {led : Lg} {A : Around} {E : Value → Shared → Prop} {a : RA} {ln : Nat} {gn : Array GenState} {dr : Drawn} {os : OsState}
set_option maxHeartbeats 4000000 in
theorem init_code {x dx : Addr} {fp : Value} {R : Result → Shared → Prop} (G : Gd w mg mb g0) (X : Ext g0 h) (hx : h.get? x = some (instObj 174 dx)) (hdx : ∃ o, h.get? dx = some o ∧ IsI [] o) (ndx : g0.get? dx = none)
    (hq : ∀ h' tk' pb, Kp [dx] h h' → (∃ o, h'.get? dx = some o ∧ ∃ t1 t2, IsI [(Str.ofString "lineno", .int 1 t1), (Str.ofString "instream", fp), (Str.ofString "whitespace", .str (S wsp) t2), (Str.ofString "pushback", .ref pb)] o) →
      (∃ o, h'.get? pb = some o ∧ IsLs [] o) → h.get? pb = none → R (.ok (.ret .none)) ⟨h', gn, dr, tk', os⟩) :
    codeAny (model PR w) (AW 870 8700) (.call (.ref 150) ⟨[.ref x, fp], []⟩) R ⟨h, gn, dr, tk, os⟩ := by
  refine' call_defC (Q := fun v s' => R (.ok (.ret v)) s') (fr := [(Str.ofString "fp", fp), (Str.ofString "self", .ref x)]) (fun _ _ z => z) G X [(dx, IsI [])] ?ho ?hcd ?hb ?hbind ?hfr ?hks ?hcl ?hl ?nd ?main ?hd ?hcell ?hloc ?hco ?hgen ?hk ?hgl ?hbn
  case hl => intro p hp; obtain rfl := List.mem_singleton.mp hp; exact ⟨hdx, ndx⟩
  case nd => simp
  keq_rows
  intro g L h₁ tk₁ env he G' X' H K'
  dsimp only at he
  have hxg : g.get? x = some (instObj 174 dx) := K' _ _ hx (by
    intro q
    obtain rfl := List.mem_singleton.mp q
    obtain ⟨o, e, es, n, rfl, _⟩ := hdx
    rw [hx] at e; have := congrArg Obj.data (Option.some.inj e); cases this)
  repeat' ktr_rel
  clear H; rename St _ _ _ _ _ => H
  refine newL (L := L) ?_
  repeat' ktr_rel
  refine ⟨by decide, _, _, _, _, _, rfl, H, ?_⟩
  intro l h₂ H₂
  have nl : h.get? l = none := by
    cases e : h.get? l with
    | none => rfl
    | some o =>
      have n1 := H₂.offI 1 rfl
      have n2 := H₂.nd
      simp only [List.map_cons, List.map_nil, List.cons_append, List.nil_append, List.nodup_cons, List.mem_cons, List.not_mem_nil, or_false] at n2
      rw [K' _ _ e (by simpa using Ne.symm n2.1)] at n1
      cases n1
  dsimp only [List.cons_append, List.nil_append] at H₂
  clear H
  repeat' ktr_rel
  rename St _ _ _ _ _ => HE
  obtain ⟨o', e', q'⟩ := HE.get 0 rfl
  exact hq _ _ l (fun b o e n => HE.keep _ _ (K' b o e n)) ⟨o', e', _, _, q'⟩ (HE.get 1 rfl) nl
end

end
section
section
variable {w : World} {mg mb : Str → Option Value} {g0 g h : Heap} {L : Addr} {tk : Nat} {gn : Array GenState} {dr : Drawn} {os : OsState}
set_option maxHeartbeats 4000000 in
theorem mk_lex {fp : Value} {Q : Value → Shared → Prop} (G : Gd w mg mb g0) (X : Ext g0 h)
    (hq : ∀ x dx pb h' tk', Ext h h' → h'.get? x = some (instObj 174 dx) → (∃ o, h'.get? dx = some o ∧ ∃ t1 t2, IsI [(Str.ofString "lineno", .int 1 t1), (Str.ofString "instream", fp), (Str.ofString "whitespace", .str (S wsp) t2), (Str.ofString "pushback", .ref pb)] o) →
      (∃ o, h'.get? pb = some o ∧ IsLs [] o) → h.get? x = none → h.get? dx = none → h.get? pb = none → Q (.ref x) ⟨h', gn, dr, tk', os⟩) :
    wpAny (model PR w) (AW 860 8600) (call (.ref 174) [fp]) Q NE ⟨h, gn, dr, tk, os⟩ := by
  have XK := G.K.keeps X
  have k0 : Ext h ((h.push emptyDict).push (instObj 174 h.objs.size)) := fun b o e => Heap.get?_push_of_some _ (Heap.get?_push_of_some _ e)
  have none_ge : ∀ n, h.objs.size ≤ n → h.get? n = none := fun n q => by
    cases e : h.get? n with
    | none => rfl
    | some o => exact absurd (Heap.lt_size e) (Nat.not_lt.mpr q)
  have hx : ((h.push emptyDict).push (instObj 174 h.objs.size)).get? (h.objs.size + 1) = some (instObj 174 h.objs.size) := by
    have := Heap.get?_push_size (h.push emptyDict) (o := instObj 174 h.objs.size) rfl
    rwa [Heap.size_push] at this
  have hdx : ((h.push emptyDict).push (instObj 174 h.objs.size)).get? h.objs.size = some emptyDict := Heap.get?_push_of_some _ (Heap.get?_push_size _ rfl)
  refine wpAny_call (make_core (init := .ref 150) (makes_of XK (by k_is)) (looks_findIn XK (by k_is)) (fun self => bind_fn XK self (by k_is)) (.inl rfl) ?_)
  refine code_weak (init_code G (X.trans k0) hx ⟨_, hdx, ?_⟩ ?_ ?_) rfl (Nat.le_of_ble_eq_true rfl) (Nat.le_of_ble_eq_true rfl)
  · exact ⟨[], 0, rfl, trivial⟩
  · cases e : g0.get? h.objs.size with
    | none => rfl
    | some o => exact absurd (Heap.lt_size (X _ _ e)) (Nat.lt_irrefl _)
  · intro h' tk' pb k e1 e2 e3
    refine ⟨rfl, hq _ _ pb _ _ (fun b o e => k b o (k0 b o e) ?_) (k _ _ hx (by simp)) e1 e2 (none_ge _ (Nat.le_succ _)) (none_ge _ (Nat.le_refl _)) ?_⟩
    · simpa using Nat.ne_of_lt (Heap.lt_size e)
    · cases e : h.get? pb with
      | none => rfl
      | some o => rw [k0 _ _ e] at e3; cases e3
end

end
section
def IsCl (v : Option Value) : Obj → Prop := fun o => o.data = .cell v
section
variable {w : World} {mg mb : Str → Option Value} {g0 g h : Heap} {L : Addr} {tk : Nat} {gn : Array GenState} {dr : Drawn} {os : OsState} {fr : Fm} {led : Lg}
/-- a def with cells entered -/
theorem call_cells {f : Addr} {fd : FuncData} {body : List Stmt} {binds : List (Str × Value)} {args : List Value} {d u : Nat} {Q : Value → Shared → Prop} {E : Value → Shared → Prop} {oc : Value} {od : Option Addr} {osl : Array (Option Value)} {ks : List (Str × NameKind)}
    (G : Gd w mg mb g0) (X : Ext g0 h) (led : Lg)
    (ho : h.get? f = some ⟨oc, od, .func fd, osl⟩) (hcd : h.CodeRec fd.code fd.qualname) (hbody : fd.body = .stmts body)
    (hbind : bindArgs fd ⟨args, []⟩ = pure binds) (hks : fd.scope.names = ks) (hcl : fd.closure = [])
    (hfr : (bindL (fun x => ks.lookup x) binds fun _ => none) = fun x => fr.lookup x)
    (hl : ∀ p ∈ led, (∃ o, h.get? p.1 = some o ∧ p.2 o) ∧ g0.get? p.1 = none) (nd : (led.map (·.1)).Nodup)
    (hlook : ∀ n, ∀ p ∈ cellsFrom n ks [], (cellsFrom n ks []).lookup p.1 = some p.2)
    (hkind : ∀ n, ∀ x ∈ binds, ks.lookup x.1 = some .local ∨ (ks.lookup x.1 = some .cell ∧ ((cellsFrom n ks []).lookup x.1).isSome = true))
    (hm : ∀ g L h₁ tk₁ env, EnvOk env L ks (cellsFrom (L + 1) ks []) → env.code = fd.code → env.qual = fd.qualname ++ ".<locals>." → Gd w mg mb g → Ext g0 g → St g L h₁ fr (led ++ (cellsFrom (L + 1) ks []).map fun p => (p.2, IsCl (bindC (fun x => ks.lookup x) binds (fun _ => none) p.1))) → Kp (led.map (·.1)) h g → L = h.objs.size →
      wpAny (model PR w) (AW (d + 1) (u + 3)) (execs body env) (FQ Q) NE ⟨h₁, gn, dr, tk₁, os⟩)
    (hd : d < recursionLimit)
    (hco : fd.scope.isCoroutine = false) (hgen : fd.scope.isGenerator = false) (hk : fd.scope.kind = .function) (hgl : fd.globals = mainGlobals) (hbn : fd.builtins = builtinsNs) :
    wpAny (model PR w) (AW d u) (call (.ref f) args) Q E ⟨h, gn, dr, tk, os⟩ := by
  subst hks
  refine wpAny_call (codeAny_call_cells hd ho rfl (G.nolimit.keeps X) hcd hbody hbind hcl (hkind _) (fun s₁ Y => ?_) hco hgen hk)
  have off : ∀ b o, g0.get? b = some o → b ∉ led.map (·.1) := fun b o e q => by
    obtain ⟨p, hp, rfl⟩ := List.mem_map.mp q
    rw [(hl p hp).2] at e; cases e
  have XG : Ext g0 (hideAll h (led.map (·.1))) := fun b o e => hideAll_get _ (X b o e) (off b o e)
  have fresh : ∀ b, h.objs.size ≤ b → (hideAll h (led.map (·.1))).get? b = none := fun b q => by
    cases e : (hideAll h (led.map (·.1))).get? b with
    | none => rfl
    | some o => exact absurd (Heap.lt_size (of_hideAll _ e)) (Nat.not_lt.mpr q)
  obtain ⟨⟨⟨h₁, tk₁, rfl⟩, ns, kp, fs⟩, cell, apart, above⟩ := Y
  refine wpAny_mono (hm (hideAll h (led.map (·.1))) h.objs.size h₁ tk₁ (callEnvC fd h.objs.size f) ⟨hk, rfl, hgl, hbn, rfl, rfl⟩ rfl rfl (G.keeps XG) XG ?_ (fun b o e n => hideAll_get _ e n) rfl) (fun fl s' q => q) fun _ _ q => q.elim
  refine ⟨hfr ▸ ns, fun b o e => kp b o (of_hideAll _ e), fun p hp => ?_, fun p hp => ?_, fun p hp => ?_, fresh _ (Nat.le_refl _), ?_⟩
  · rcases List.mem_append.mp hp with q | q
    · obtain ⟨o, e, r⟩ := (hl p q).1; exact ⟨o, kp _ _ e, r⟩
    · obtain ⟨r, hr, rfl⟩ := List.mem_map.mp q
      exact cell _ _ (hlook _ r hr)
  · rcases List.mem_append.mp hp with q | q
    · exact hideAll_none _ (List.mem_map_of_mem q)
    · obtain ⟨r, hr, rfl⟩ := List.mem_map.mp q
      exact fresh _ (Nat.le_of_lt (above _ _ hr))
  · rcases List.mem_append.mp hp with q | q
    · obtain ⟨_, e, _⟩ := (hl p q).1; exact Nat.ne_of_lt (Heap.lt_size e)
    · obtain ⟨r, hr, rfl⟩ := List.mem_map.mp q
      exact Nat.ne_of_gt (above _ _ hr)
  · rw [List.map_append, List.nodup_append]
    refine ⟨nd, ?_, ?_⟩
    · rw [List.map_map]
      exact List.pairwise_map.mpr apart
    · intro x hx y hy
      obtain ⟨p, hp, rfl⟩ := List.mem_map.mp hx
      obtain ⟨q, hq, rfl⟩ := List.mem_map.mp hy
      obtain ⟨r, hr, rfl⟩ := List.mem_map.mp hq
      obtain ⟨_, e, _⟩ := (hl p hp).1
      exact Nat.ne_of_lt (Nat.lt_trans (Heap.lt_size e) (above _ _ hr))
end

end
section
section
variable {w : World} {mg mb : Str → Option Value} {g0 g h h' : Heap} {L : Addr} {tk : Nat} {gn : Array GenState} {dr : Drawn} {os : OsState} {fr : Fm} {led : Lg} {env : Env} {ks : List (Str × NameKind)} {cl : List (Str × Addr)} {M : Model} {A : Around} {E : Value → Shared → Prop}
theorem ldc {x : Str} {pos : Pos} {v : Value} {c : Addr} {Q : Value → Shared → Prop} (H : St g L h fr led) (e : EnvOk env L ks cl) (hx : ks.lookup x = some .cell) (hd : (x == ("__debug__" : Str)) = false) (hc : cl.lookup x = some c) (hv : ∃ o, h.get? c = some o ∧ IsCl (some v) o) (hq : Q v ⟨h, gn, dr, tk, os⟩) :
    wpAny M A (eval (.Name x pos) env) Q E ⟨h, gn, dr, tk, os⟩ :=
  wpAny_Name (wpAny_loadName_cell e.kind ((e.kindOf x).trans hx) (e.cells ▸ hc) hv hq) hd
theorem stc {x : Str} {v : Value} {v₀ : Option Value} {c : Addr} {Q : Unit → Shared → Prop} (i : Nat) (H : St g L h fr led) (e : EnvOk env L ks cl) (hx : ks.lookup x = some .cell) (hc : cl.lookup x = some c) (hi : led[i]? = some (c, IsCl v₀))
    (hq : ∀ h', St g L h' fr (led.set i (c, IsCl (some v))) → Q () ⟨h', gn, dr, tk, os⟩) : wpAny M A (storeName env x v) Q E ⟨h, gn, dr, tk, os⟩ :=
  wpAny_storeName_cell e.kind ((e.kindOf x).trans hx) (e.cells ▸ hc) (H.get i hi) fun h' hc' hs' => hq h' (H.turn i hi (fun b o n e => (hs'.2 b n).trans e) hc')

/-- a fresh object joins the ledger -/
theorem St.add (H : St g L h fr led) (x : Ext h h') {b : Addr} {P : Obj → Prop} (n : h.get? b = none) (hb : ∃ o, h'.get? b = some o ∧ P o) : St g L h' fr (led ++ [(b, P)]) := by
  have H' := H.ext x
  refine ⟨H'.ns, H'.keep, fun p hp => ?_, fun p hp => ?_, fun p hp => ?_, H.nL, ?_⟩
  · rcases List.mem_append.mp hp with q | q
    · exact H'.at_ p q
    · obtain rfl := List.mem_singleton.mp q; exact hb
  · rcases List.mem_append.mp hp with q | q
    · exact H.off p q
    · obtain rfl := List.mem_singleton.mp q
      exact Ext.none H.keep n
  · rcases List.mem_append.mp hp with q | q
    · exact H.ne p q
    · obtain rfl := List.mem_singleton.mp q
      intro z
      obtain ⟨o, _, _, e, _⟩ := H.ns
      rw [← z, n] at e; cases e
  · rw [List.map_append, List.nodup_append]
    refine ⟨H.nd, by simp, fun a ha b' hb' => ?_⟩
    obtain ⟨p, hp, rfl⟩ := List.mem_map.mp ha
    simp only [List.map_cons, List.map_nil, List.mem_singleton] at hb'
    subst hb'
    obtain ⟨o', e, _⟩ := H.at_ p hp
    intro z; rw [z, n] at e; cases e

/-- what the top leaves for a nested def -/
def Bx (mg : Str → Option Value) (h : Heap) : Prop := h.BuiltinsAt mg 206
theorem Bx.keeps (x : Bx mg h) (k : Ext h h') : Bx mg h' :=
  let ⟨bm, o, b1, b2, b3, b4, b5, r⟩ := x; ⟨bm, o, b1, b2, b3, b4, k _ _ b5, r⟩
abbrev qGive : Str := (Str.ofString "_law_machine" ++ (".<locals>." : Str)) ++ Str.ofString "give"
/-- the table of the nested def's code: empty, or with that code in it -/
def IsTab (g : Heap) (o : Obj) : Prop := o = tabObj #[] ∨ ∃ c' : Addr, o = tabObj #[rawInt 214, rawInt 4, .ref c'] ∧ g.CodeRec (.ref c') qGive
theorem IsTab.keeps {o : Obj} (x : IsTab g o) (k : Ext g h) : IsTab h o := by
  rcases x with x | ⟨c, x, y⟩
  · exact .inl x
  · exact .inr ⟨c, x, y.keeps k⟩

theorem give_clos {c1 c2 : Addr} (he : env.cells.lookup (Str.ofString "text") = some c1) (hc : env.cells.lookup (Str.ofString "at") = some c2) : closureFor (defScope giveStmt) env = pure [(Str.ofString "text", c1), (Str.ofString "at", c2)] := by
  show closureFor { kind := .function, names := [(Str.ofString "n", .local), (Str.ofString "piece", .local), (Str.ofString "at", .free), (Str.ofString "text", .free), (Str.ofString "len", .globalImplicit)], isGenerator := false, isCoroutine := false, more := [] } env = _
  unfold closureFor cellOf
  simp only [List.forIn_cons, List.forIn_nil]
  rw [he, hc]
  rfl
end

end
section
section
variable {w : World} {mg mb : Str → Option Value} {g g' g'' g0 h h' h0 : Heap} {L : Addr} {tk : Nat} {gn : Array GenState} {dr : Drawn} {os : OsState} {fr : Fm} {led : Lg} {env : Env} {ks : List (Str × NameKind)} {cl : List (Str × Addr)} {A : Around} {E : Value → Shared → Prop} {M : Model}
/-- what is new in a base was not there in the heap before -/
def Nw (g h g' : Heap) : Prop := ∀ b o, g'.get? b = some o → g.get? b = some o ∨ h.get? b = none
theorem Nw.refl (g h : Heap) : Nw g h g := fun _ _ e => .inl e
theorem Nw.trans (x : Nw g h g') (y : Nw g' h g'') : Nw g h g'' := fun b o e => (y b o e).elim (x b o) .inr
theorem Nw.none (x : Nw g h g') {b : Addr} {o : Obj} (n : g.get? b = none) (e : h.get? b = some o) : g'.get? b = none := by
  cases q : g'.get? b with
  | none => rfl
  | some o' =>
    rcases x b o' q with z | z
    · rw [n] at z; cases z
    · rw [e] at z; cases z
def oldOf (g h0 h : Heap) : List Addr := (List.range h.objs.size).filter fun b => (h0.get? b).isSome && (g.get? b).isNone
theorem mem_oldOf {b : Addr} {o : Obj} (e : h.get? b = some o) : b ∈ oldOf g h0 h ↔ (h0.get? b).isSome = true ∧ g.get? b = none := by
  unfold oldOf
  rw [List.mem_filter, List.mem_range]
  constructor
  · rintro ⟨_, q⟩; rw [Bool.and_eq_true] at q; exact ⟨q.1, by simpa using q.2⟩
  · rintro ⟨q1, q2⟩; exact ⟨Heap.lt_size e, by rw [q1, q2]; rfl⟩
/-- the base grows by what is new since h0 -/
theorem St.grow (H : St g L h fr led) (h0 : Heap) : ∃ g', Ext g g' ∧ St g' L h fr led ∧ Nw g h0 g' ∧ (∀ b o, h.get? b = some o → h0.get? b = none → b ≠ L → b ∉ led.map (·.1) → g'.get? b = some o) ∧ ∀ p ∈ led, g'.get? p.1 = none := by
  have keep : ∀ b o, g.get? b = some o → b ∉ (L :: led.map (·.1)) ++ oldOf g h0 h := fun b o e q => by
    rcases List.mem_append.mp q with q | q
    · rcases List.mem_cons.mp q with q | q
      · rw [q, H.nL] at e; cases e
      · obtain ⟨p, hp, rfl⟩ := List.mem_map.mp q
        rw [H.off p hp] at e; cases e
    · rw [((mem_oldOf (H.keep _ _ e)).mp q).2] at e; cases e
  have offL : ∀ p ∈ led, (hideAll h ((L :: led.map (·.1)) ++ oldOf g h0 h)).get? p.1 = none := fun p hp => hideAll_none _ (List.mem_append_left _ (.tail _ (List.mem_map_of_mem hp)))
  refine ⟨hideAll h ((L :: led.map (·.1)) ++ oldOf g h0 h), fun b o e => hideAll_get _ (H.keep b o e) (keep b o e), ⟨H.ns, fun b o e => of_hideAll _ e, H.at_, offL, H.ne, hideAll_none _ (List.mem_append_left _ (.head _)), H.nd⟩, fun b o e => ?_, fun b o e n1 n2 n3 => hideAll_get _ e fun q => ?_, offL⟩
  · cases q : h0.get? b with
    | none => exact .inr rfl
    | some o' =>
      left
      cases q2 : g.get? b with
      | some o'' => rw [← of_hideAll _ e, H.keep _ _ q2]
      | none =>
        have := hideAll_none (h := h) _ (List.mem_append_right (L :: led.map (·.1)) ((mem_oldOf (g := g) (h0 := h0) (of_hideAll _ e)).mpr ⟨by rw [q]; rfl, q2⟩))
        rw [this] at e; cases e
  · rcases List.mem_append.mp q with q | q
    · rcases List.mem_cons.mp q with q | q
      · exact n2 q
      · exact n3 q
    · have := ((mem_oldOf e).mp q).1
      rw [n1] at this; cases this
/-- a callee has left new objects -/
theorem St.take (H : St g L h fr led) (k : Ext h h') (x1 : Ext g g') (x2 : Ext g' h') (nw : Nw g h g') : St g' L h' fr led := by
  have H' := H.ext k
  refine ⟨H'.ns, x2, H'.at_, fun p hp => ?_, H.ne, ?_, H.nd⟩
  · obtain ⟨o, e, _⟩ := H.at_ p hp
    exact nw.none (H.off p hp) e
  · obtain ⟨o, _, _, e, _⟩ := H.ns
    exact nw.none H.nL e
theorem St.as (H : St g L h fr led) (i : Nat) {a : Addr} {P P' : Obj → Prop} (hi : led[i]? = some (a, P)) (k : ∀ o, P o → P' o) : St g L h fr (led.set i (a, P')) :=
  let ⟨o, e, q⟩ := H.get i hi; H.turn i hi (fun _ _ _ e => e) ⟨o, e, k o q⟩
theorem St.no (H : St g L h fr led) {b : Addr} (n : h.get? b = none) : b ≠ L ∧ b ∉ led.map (·.1) := by
  constructor
  · rintro rfl
    obtain ⟨o, _, _, e, _⟩ := H.ns
    rw [n] at e; cases e
  · intro q
    obtain ⟨p, hp, rfl⟩ := List.mem_map.mp q
    obtain ⟨o, e, _⟩ := H.at_ p hp
    rw [n] at e; cases e
theorem none_ge {n : Nat} (q : h.objs.size ≤ n) : h.get? n = none := by
  cases e : h.get? n with
  | none => rfl
  | some o => exact absurd (Heap.lt_size e) (Nat.not_lt.mpr q)

theorem St.inb (H : St g L h fr led) {b : Addr} {o : Obj} (e : g.get? b = some o) : b ≠ L ∧ b ∉ led.map (·.1) := by
  constructor
  · rintro rfl; rw [H.nL] at e; cases e
  · intro q
    obtain ⟨p, hp, rfl⟩ := List.mem_map.mp q
    rw [H.off p hp] at e; cases e
/-- fresh objects join the ledger -/
theorem St.adds (H : St g L h fr led) (x : Ext h h') {new : Lg} (nd : (new.map (·.1)).Nodup) (n : ∀ p ∈ new, h.get? p.1 = none) (hb : ∀ p ∈ new, ∃ o, h'.get? p.1 = some o ∧ p.2 o) : St g L h' fr (led ++ new) := by
  have H' := H.ext x
  refine ⟨H'.ns, H'.keep, fun p hp => ?_, fun p hp => ?_, fun p hp => ?_, H.nL, ?_⟩
  · rcases List.mem_append.mp hp with q | q
    · exact H'.at_ p q
    · exact hb p q
  · rcases List.mem_append.mp hp with q | q
    · exact H.off p q
    · exact Ext.none H.keep (n p q)
  · rcases List.mem_append.mp hp with q | q
    · exact H.ne p q
    · exact (H.no (n p q)).1
  · rw [List.map_append, List.nodup_append]
    refine ⟨H.nd, nd, fun a ha b' hb' => ?_⟩
    obtain ⟨p, hp, rfl⟩ := List.mem_map.mp hb'
    rintro rfl
    exact (H.no (n p hp)).2 ha

/-- the code of the nested def: it stood before, or it is new -/
def CodeN (g1 h0 g : Heap) (cd : Value) : Prop := g.CodeRec cd qGive ∧ (g1.CodeRec cd qGive ∨ ∃ c' : Addr, cd = .ref c' ∧ h0.get? c' = none)
def IsTabN (o₀ : Obj) (g1 h0 g : Heap) (o : Obj) : Prop := (∃ c' : Addr, o = tabObj #[rawInt 214, rawInt 4, .ref c'] ∧ CodeN g1 h0 g (.ref c')) ∧ (o₀ = tabObj #[] ∨ o = o₀)
theorem CodeN.lift {gE g2 : Heap} {cd : Value} (x : CodeN g1 h0 gE cd) (k : Ext g1 g2) (l : ∀ b o, gE.get? b = some o → h0.get? b = none → g2.get? b = some o) : g2.CodeRec cd qGive := by
  obtain ⟨⟨c, o, vs, t, e1, e2, r⟩, y⟩ := x
  rcases y with y | ⟨c', e3, y⟩
  · exact y.keeps k
  · rw [e3] at e1; cases e1
    exact ⟨_, o, vs, t, e3, l _ _ e2 y, r⟩
theorem CodeN.keeps {gE g2 : Heap} {cd : Value} (x : CodeN g1 h0 gE cd) (k : Ext gE g2) : CodeN g1 h0 g2 cd := ⟨x.1.keeps k, x.2⟩
theorem IsTabN.keeps {gE g2 : Heap} {o o₀ : Obj} (x : IsTabN o₀ g1 h0 gE o) (k : Ext gE g2) : IsTabN o₀ g1 h0 g2 o := let ⟨⟨c, e, y⟩, z⟩ := x; ⟨⟨c, e, y.keeps k⟩, z⟩
theorem IsTabN.lift {gE g2 : Heap} {o o₀ : Obj} (x : IsTabN o₀ g1 h0 gE o) (k : Ext g1 g2) (l : ∀ b o, gE.get? b = some o → h0.get? b = none → g2.get? b = some o) : IsTab g2 o := let ⟨⟨c, e, y⟩, _⟩ := x; .inr ⟨c, e, y.lift k l⟩

/-- the nested def is made -/
theorem nest_give {g1 : Heap} {c1 c2 : Addr} {pos : Pos} {Q : Value → Shared → Prop} (i : Nat) (H : St g L h fr led) (e : EnvOk env L ks cl) (hcode : env.code = .ref 210) (G : Gd w mg mb g) (B : Bx mg g) (C : CodeHd g 210 206) {o₀ : Obj} (hi : led[i]? = some (206, fun o => o = o₀)) (ho : IsTab g1 o₀) (x1 : Ext g1 g) (hpos : pos.line = 214 ∧ pos.col = 4)
    (hc1 : cl.lookup (Str.ofString "text") = some c1) (hc2 : cl.lookup (Str.ofString "at") = some c2) (h0 : Heap) (h0n : ∀ b, h.objs.size ≤ b → h0.get? b = none)
    (hq : ∀ g' f h' tk' oc od fd sl, Ext g g' → St g' L h' fr (led.set i (206, IsTabN o₀ g1 h0 g')) → g'.get? f = some ⟨oc, od, .func fd, sl⟩ → h0.get? f = none → (∀ a : RA, a.c1 = c1 → a.c2 = c2 → ∀ gE, gE.CodeRec fd.code qGive → GiveFn a gE fd) → CodeN g1 h0 g' fd.code → Q (.ref f) ⟨h', gn, dr, tk', os⟩) :
    wpAny M A (makeFunction (Str.ofString "give") qGive (defParams giveStmt) (.stmts (defBody giveStmt)) (defScope giveStmt) env [] [] [] pos pos.line) Q E ⟨h, gn, dr, tk, os⟩ := by
  obtain ⟨o, eo, rfl⟩ := H.get i hi
  have Ch := C.keeps H.keep
  have hcl := give_clos (e.cells ▸ hc1) (e.cells ▸ hc2)
  have hg := G.g.keeps H.keep
  have hb : h.BuiltinsAt mg 206 := B.keeps H.keep
  have hm := List.mem_of_getElem? hi
  have key : ∀ (h1 : Heap) (c' : Addr) (ctv doc pm : Value) (X : Array Value), Heap.ExtBut 206 h h1 → h1.get? 206 = some (tabObj X) → X = #[rawInt 214, rawInt 4, .ref c'] → (o = tabObj #[] ∨ tabObj #[rawInt 214, rawInt 4, .ref c'] = o) → (h1.CodeRec (.ref c') qGive) → ((g1.CodeRec (.ref c') qGive) ∨ h.objs.size ≤ c') → h.objs.size ≤ h1.objs.size →
      ∀ tk', Q (.ref h1.objs.size) ⟨h1.push { cls := .type "function", data := .func (fnX (Str.ofString "give") qGive (defParams giveStmt) (defBody giveStmt) (defScope giveStmt) [(Str.ofString "text", c1), (Str.ofString "at", c2)] .none .none doc pm none (.ref c') ctv) }, gn, dr, tk', os⟩ := by
    intro h1 c' ctv doc pm X hx h206 hX hoo hrec hc' hsz tk'
    subst hX
    have H1 : St g L (h1.push { cls := .type "function", data := .func (fnX (Str.ofString "give") qGive (defParams giveStmt) (defBody giveStmt) (defScope giveStmt) [(Str.ofString "text", c1), (Str.ofString "at", c2)] .none .none doc pm none (.ref c') ctv) }) fr (led.set i (206, fun o => o = tabObj #[rawInt 214, rawInt 4, .ref c'])) :=
      H.turn i hi (fun b o n e => Heap.get?_push_of_some _ (hx b o n e)) ⟨_, Heap.get?_push_of_some _ h206, rfl⟩
    have fresh : ∀ b, h.objs.size ≤ b → b ≠ L ∧ b ∉ (led.set i (206, fun o => o = tabObj #[rawInt 214, rawInt 4, .ref c'])).map (·.1) := by
      intro b hb
      have n := none_ge hb
      have z := H.no n
      refine ⟨z.1, fun q => z.2 ?_⟩
      obtain ⟨p, hp, rfl⟩ := List.mem_map.mp q
      rcases List.mem_or_eq_of_mem_set hp with r | r
      · exact List.mem_map_of_mem r
      · subst r; exact List.mem_map_of_mem (f := (·.1)) hm
    obtain ⟨g', k1, H2, nw, in', _⟩ := H1.grow h0
    have cr : CodeN g1 h0 g' (.ref c') := by
      rcases hc' with r | r
      · exact ⟨r.keeps fun b o e => k1 _ _ (x1 _ _ e), .inl r⟩
      · obtain ⟨c2, oc, vs, t, q1, q2, q3, q4⟩ := hrec
        cases q1
        exact ⟨⟨c', oc, vs, t, rfl, in' _ _ (Heap.get?_push_of_some _ q2) (h0n _ r) (fresh _ r).1 (fresh _ r).2, q3, q4⟩, .inr ⟨_, rfl, h0n _ r⟩⟩
    obtain ⟨hlt, _⟩ := List.getElem?_eq_some_iff.mp hi
    have H3 := H2.as (P := fun o => o = tabObj #[rawInt 214, rawInt 4, .ref c']) (P' := IsTabN o g1 h0 g') i (a := 206) (by simp [hlt]) fun o z => ⟨⟨c', z, cr⟩, z ▸ hoo⟩
    rw [List.set_set] at H3
    refine hq g' h1.objs.size _ tk' _ _ _ _ k1 H3 (in' _ _ (Heap.get?_push_size _ rfl) (h0n _ hsz) (fresh _ hsz).1 (fresh _ hsz).2) (h0n _ hsz) ?_ cr
    intro a ha1 ha2 gE ce
    exact ⟨rfl, rfl, rfl, by rw [ha1]; rfl, by rw [ha2]; rfl, rfl, rfl, rfl, rfl, ce⟩
  rcases ho with rfl | ⟨c', rfl, hcr⟩
  · refine makeFunction_K (mg := mg) (P := 206) (ps := #[]) hcl e.globals hg hcode Ch eo trivial rfl (by decide) hb ?_
    intro c' ctv doc h1 tk' hx hge hlt hrec htb
    have : (#[rawInt pos.line, rawInt pos.col, .ref c'] : Array Value) = #[rawInt 214, rawInt 4, .ref c'] := by rw [hpos.1, hpos.2]; rfl
    exact key h1 c' ctv doc _ _ hx htb (by rw [Array.empty_append, this]) (.inl rfl) hrec (.inr hge) (Nat.le_trans hge (Nat.le_of_lt hlt)) tk'
  · refine makeFunction_hit (mg := mg) (P := 206) (cv := .ref c') hcl e.globals hg hcode Ch eo (by simp [TriplesOk, rawInt]) (by simp [codeAmong, rawInt, hpos.1, hpos.2]) hb ?_
    intro ctv doc h1 tk' hk hsz
    exact key h1 c' ctv doc _ _ (fun b o _ e => hk b o e) (hk _ _ eo) rfl (.inr rfl) (hcr.keeps fun b o e => hk _ _ (H.keep _ _ (x1 _ _ e))) (.inl hcr) hsz tk'
end

end
section
local macro_rules | `(tactic| ktr_rel) => `(tactic| first
  | ((with_reducible refine' plainObj_wpAny_Assign_Attribute ?_ ?hs); (case hs => rfl)))
section
variable {w : World} {mg mb : Str → Option Value} {g g' g'' g0 h h' h0 : Heap} {L : Addr} {tk : Nat} {gn : Array GenState} {dr : Drawn} {os : OsState} {fr : Fm} {led : Lg} {env : Env} {ks : List (Str × NameKind)} {cl : List (Str × Addr)} {A : Around} {E : Value → Shared → Prop} {M : Model}
theorem code210 (G : Gd w mg mb g) : CodeHd g 210 206 := codeHd_of_K (c := 210) (P := 206) G.K (by kernel_rfl)
set_option maxHeartbeats 4000000 in
theorem machine_spec {txt : List Nat} {t : Tok} {Q : Value → Shared → Prop} (G : Gd w mg mb g0) (X : Ext g0 h) (B : Bx mg g0) (n206 : g0.get? 206 = none) (T : ∃ o, h.get? 206 = some o ∧ IsTab g0 o)
    (hq : ∀ (a : RA) h' tk' g2, Kp [206] h h' → Ext g0 g2 → Ext g2 h' → Nw g0 h g2 → (∃ o, h'.get? 206 = some o ∧ IsTab g2 o ∧ o ≠ tabObj #[] ∧ (h.get? 206 = some (tabObj #[]) ∨ h.get? 206 = some o)) → RdB a txt g2 → RdM a 1 0 [] h h' → g2.get? a.d = none → g2.get? a.la = none → g2.get? a.pb = none → Q (.ref a.r) ⟨h', gn, dr, tk', os⟩) :
    wpAny (model PR w) (AW 850 8500) (call (.ref 211) [.str (S txt) t]) Q NE ⟨h, gn, dr, tk, os⟩ := by
  obtain ⟨o₀, eT, hT⟩ := T
  refine' call_cells (fr := []) (ks := [(Str.ofString "text", .cell), (Str.ofString "give", .local), (Str.ofString "source", .local), (Str.ofString "at", .cell), (Str.ofString "_netrclex", .globalImplicit)]) (binds := [(Str.ofString "text", .str (S txt) t)]) G X [(206, fun o => o = o₀)] ?ho ?hcd ?hb ?hbind ?hks ?hcl ?hfr ?hl ?nd ?hlook ?hkind ?main ?hd ?hco ?hgen ?hk ?hgl ?hbn
  case ho => refine (Frag.In.keeps G.K X) _ _ ?_; k_is
  case hcd => refine codeRec_of (Frag.In.keeps G.K X) ?_; k_is
  case hb => rfl
  case hbind => rfl
  case hks => rfl
  case hcl => rfl
  case hfr => funext x; rfl
  case hl => intro p hp; obtain rfl := List.mem_singleton.mp hp; exact ⟨⟨o₀, eT, rfl⟩, n206⟩
  case nd => simp
  case hlook =>
    intro n p hp
    change p ∈ [(Str.ofString "at", n + 1), (Str.ofString "text", n)] at hp
    rcases List.mem_cons.mp hp with rfl | hp
    · rfl
    · obtain rfl := List.mem_singleton.mp hp; rfl
  case hkind => intro n x hx; obtain rfl := List.mem_singleton.mp hx; exact .inr ⟨rfl, rfl⟩
  case hd => decide
  case hco => rfl
  case hgen => rfl
  case hk => rfl
  case hgl => rfl
  case hbn => rfl
  intro g L h₁ tk₁ env he hcode hqual G' X' H K' hL
  change St g L h₁ [] [(206, fun o => o = o₀), (L + 2, IsCl none), (L + 1, IsCl (some (.str (S txt) t)))] at H
  change EnvOk env L _ [(Str.ofString "at", L + 2), (Str.ofString "text", L + 1)] at he
  dsimp only at hcode hqual
  have old : ∀ {gg hh : Heap} {fr' : Fm} {led' : Lg} {b : Addr}, St gg L hh fr' led' → Ext g gg → (∃ P, (206, P) ∈ led') → hh.get? b = none → h.get? b = none := by
    intro gg hh fr' led' b HH xx ⟨P, hp⟩ n
    cases e : h.get? b with
    | none => rfl
    | some o =>
      by_cases q : b = 206
      · obtain ⟨o', e', _⟩ := HH.at_ _ hp
        rw [q, e'] at n; cases n
      · rw [HH.keep _ _ (xx _ _ (K' _ _ e (by simpa using q)))] at n; cases n
  repeat' ktr_rel
  refine newL (L := L) ?_
  repeat' ktr_rel
  refine ⟨Nat.le_of_ble_eq_true rfl, _, _, _, _, _, rfl, H, ?_⟩
  intro la h₂ H₂
  dsimp only [List.cons_append, List.nil_append] at H₂
  have nla : h.get? la = none := by
    cases e : h.get? la with
    | none => rfl
    | some o =>
      have n1 := H₂.offI 3 rfl
      have n2 := H₂.nd
      simp only [List.map_cons, List.map_nil, List.nodup_cons, List.mem_cons, List.not_mem_nil, or_false, not_or] at n2
      rw [K' _ _ e (by simpa using Ne.symm n2.1.2.2)] at n1
      cases n1
  clear H
  refine stc 1 H₂ he rfl rfl rfl ?_
  intro h₃ H₃
  dsimp only [List.set] at H₃
  clear H₂
  repeat' ktr_rel
  refine nestDef_K rfl rfl rfl ?_
  have hq2 : qualnameIn env (Str.ofString "give") (Str.ofString "give") = qGive := by unfold qualnameIn; rw [he.kindOf, hqual]; rfl
  rw [hq2]
  refine nest_give (c1 := L + 1) (c2 := L + 2) 0 H₃ he hcode G' (B.keeps X') (code210 G') rfl hT X' ⟨rfl, rfl⟩ rfl rfl h (fun b hb => none_ge (Nat.le_trans (hL ▸ Nat.le_of_lt H₃.ns.lt) hb)) ?_
  intro g1 f h₄ tk₄ oc od fd sl x1 H₄ hf nf hGF hCN
  dsimp only [List.set] at H₄
  clear H₃
  have G1 := G'.keeps x1
  repeat' ktr_rel
  clear H₄; rename St _ _ _ _ _ => H₄
  refine callWith_K G1.K (by k_is) ?_ rfl rfl
  repeat' ktr_rel
  refine ⟨G1.K.keeps H₄.keep, ?_⟩
  refine wpW (mk_lex G1 H₄.keep ?_)
  intro sr sd pb1 h₅ tk₅ k5 e1 e2 e3 n1 n2 n3
  obtain ⟨o2, e2, t1, t2, i2⟩ := e2
  have H₅ := H₄.add k5 n2 ⟨o2, e2, i2⟩
  dsimp only [List.cons_append, List.nil_append] at H₅
  have nsr := old H₄ x1 ⟨_, .head _⟩ n1
  have nsd := old H₄ x1 ⟨_, .head _⟩ n2
  have esr := H₄.no n1
  have dsr : sr ≠ sd := by
    rintro rfl
    obtain ⟨es, n, rfl, _⟩ := i2
    rw [e1] at e2; have := congrArg Obj.data (Option.some.inj e2); cases this
  obtain ⟨g2, x2, H₆, nw2, in2, of2⟩ := H₅.grow h
  have gsr : g2.get? sr = some (instObj 174 sd) := in2 _ _ e1 nsr esr.1 (by
    intro q
    simp only [List.map_cons, List.map_nil, List.mem_cons, List.not_mem_nil, or_false] at q esr
    simp_all)
  have G2 := G1.keeps x2
  clear H₅ e1
  repeat' ktr_rel
  clear H₆; rename St _ _ _ _ _ => H₆
  refine atS 4 G2 H₆ (H₆.keep _ _ gsr) rfl (Nat.le_of_ble_eq_true rfl) (by k_is) (by k_is) (by k_is) (by k_is) ?_
  intro h₇ tk₇ H₇
  simp (decide := true) only [List.set, upd, if_true, if_false] at H₇
  clear H₆
  repeat' ktr_rel
  refine callWith_K G2.K (by k_is) ?_ rfl rfl
  repeat' ktr_rel
  refine ⟨G2.K.keeps H₇.keep, ?_⟩
  refine wpW (mk_lex G2 H₇.keep ?_)
  intro rr rd rpb h₈ tk₈ k8 f1 f2 f3 m1 m2 m3
  obtain ⟨o3, f2, t3, t4, i3⟩ := f2
  repeat' ktr_rel
  have nrr := old H₇ (Ext.trans x1 x2) ⟨_, .head _⟩ m1
  have nrd := old H₇ (Ext.trans x1 x2) ⟨_, .head _⟩ m2
  have nrp := old H₇ (Ext.trans x1 x2) ⟨_, .head _⟩ m3
  obtain ⟨o4, f4, i4⟩ := f3
  have dpd : rd ≠ rpb := by
    rintro rfl
    obtain ⟨es, n, rfl, _⟩ := i3
    obtain ⟨n', rfl⟩ := i4
    rw [f2] at f4; have := congrArg Obj.data (Option.some.inj f4); cases this
  have H₈ := H₇.adds k8 (new := [(rd, IsI [(Str.ofString "lineno", .int 1 t3), (Str.ofString "instream", .ref sr), (Str.ofString "whitespace", .str (S wsp) t4), (Str.ofString "pushback", .ref rpb)]), (rpb, IsLs [])]) (by simpa using dpd)
    (by
      intro p hp
      rcases List.mem_cons.mp hp with rfl | hp
      · exact m2
      · obtain rfl := List.mem_singleton.mp hp; exact m3)
    (by
      intro p hp
      rcases List.mem_cons.mp hp with rfl | hp
      · exact ⟨_, f2, i3⟩
      · obtain rfl := List.mem_singleton.mp hp; exact ⟨_, f4, i4⟩)
  have err := H₇.no m1
  have drd : rr ≠ rd := by
    rintro rfl
    obtain ⟨es, n, rfl, _⟩ := i3
    rw [f1] at f2; have := congrArg Obj.data (Option.some.inj f2); cases this
  have drp : rr ≠ rpb := by
    rintro rfl
    obtain ⟨n', rfl⟩ := i4
    rw [f1] at f4; have := congrArg Obj.data (Option.some.inj f4); cases this
  dsimp only [List.cons_append, List.nil_append] at H₈
  clear H₇ H₄
  have nd := H₈.nd
  simp only [List.map_cons, List.map_nil, List.nodup_cons, List.mem_cons, List.not_mem_nil, or_false, not_or] at nd err
  obtain ⟨⟨a1, a2, a3, a4, a5, a6⟩, ⟨b1, b2, b3, b4, b5⟩, ⟨c1, c2, c3, c4⟩, ⟨d1, d2, d3⟩, ⟨q1, q2⟩, r1, -⟩ := nd
  have xE : Ext g g2 := Ext.trans x1 x2
  have HS := H₈.sub (.cons_cons _ (.cons _ (.cons _ (.cons_cons _ (.cons _ (.cons_cons _ (.cons_cons _ .slnil)))))))
  obtain ⟨gF, xF, HF, nwF, inF, ofF⟩ := (HS.base (Ext.trans X' xE)).grow h
  have lift : ∀ b o, h₈.get? b = some o → h.get? b = none → b ≠ L → b ≠ 206 → b ≠ la → b ≠ rd → b ≠ rpb → gF.get? b = some o := by
    intro b o e n k1 k2 k3 k4 k5
    refine inF b o e n k1 ?_
    simp only [List.map_cons, List.map_nil, List.mem_cons, List.not_mem_nil, or_false, not_or]
    exact ⟨k2, k3, k4, k5⟩
  have liftB : ∀ b o, g2.get? b = some o → h.get? b = none → gF.get? b = some o := by
    intro b o e n
    have z := H₈.inb e
    simp only [List.map_cons, List.map_nil, List.mem_cons, List.not_mem_nil, or_false, not_or] at z
    exact lift b o (H₈.keep _ _ e) n z.1 z.2.1 z.2.2.2.2.1 z.2.2.2.2.2.2.1 z.2.2.2.2.2.2.2
  have nL1 : h.get? (L + 1) = none := none_ge (hL ▸ Nat.le_succ _)
  have nL2 : h.get? (L + 2) = none := none_ge (hL ▸ Nat.le_add_right _ 2)
  obtain ⟨oc1, j1, j2⟩ := H₈.get 2 rfl
  obtain ⟨oc2, j3, j4⟩ := H₈.get 1 rfl
  obtain ⟨osd, j5, j6⟩ := H₈.get 4 rfl
  have hF := hGF ⟨rr, rd, sr, sd, f, L + 1, L + 2, la, rpb⟩ rfl rfl gF (hCN.lift xF fun b o e n => liftB b o (x2 _ _ e) n)
  obtain ⟨ot, j7, j8⟩ := H₈.get 0 rfl
  refine hq ⟨rr, rd, sr, sd, f, L + 1, L + 2, la, rpb⟩ _ _ gF (fun b o e n => H₈.keep _ _ (xE _ _ (K' b o e n))) xF HF.keep nwF ⟨ot, j7, j8.lift xF (fun b o e n => liftB b o (x2 _ _ e) n), (by obtain ⟨⟨c', rfl, _⟩, _⟩ := j8; intro z; simp [tabObj] at z), (by rw [eT]; rcases j8.2 with z | z; exact .inl (by rw [z]); exact .inr (by rw [z]))⟩ ?_ ?_ ?_ ?_ ?_
  · refine ⟨?_, ?_, ?_, ?_, ?_, ?_, ?_⟩
    · refine lift _ _ f1 nrr err.1 err.2.1 err.2.2.2.2.1 drd drp
    · exact liftB _ _ gsr nsr
    · refine ⟨osd, _, lift _ _ j5 nsd (H₈.ne _ (List.mem_of_getElem? (i := 4) rfl)) (Ne.symm a4) (Ne.symm d1) q1 q2, j6, rfl⟩
    · exact ⟨_, _, _, _, liftB _ _ (x2 _ _ hf) nf, hF⟩
    · exact ⟨_, oc1, lift _ _ j1 nL1 (Nat.succ_ne_self L) (Ne.symm a2) c1 c3 c4, j2⟩
    · exact ⟨oc2, lift _ _ j3 nL2 (Nat.ne_of_gt (Nat.lt_add_of_pos_right (by decide))) (Ne.symm a1) b2 b4 b5, j4⟩
    · exact Ne.symm q1
  · refine ⟨?_, ?_, ?_, nrd, nla, nrp, d3⟩
    · obtain ⟨o, e, i⟩ := H₈.get 5 rfl
      exact ⟨o, e, _, _, i⟩
    · obtain ⟨o, e, n, rfl⟩ := H₈.get 3 rfl
      exact ⟨_, e, _, rfl, n, rfl⟩
    · exact H₈.get 6 rfl
  · exact ofF _ (List.mem_of_getElem? (i := 2) rfl)
  · exact ofF _ (List.mem_of_getElem? (i := 1) rfl)
  · exact ofF _ (List.mem_of_getElem? (i := 3) rfl)
end

end
section
section
variable {prog : Program} {w : World} {A : Around} {E : Value → Shared → Prop} {s : Shared}
theorem sub_strstr : isSubtype (.type "str") (.type "str") = pure true := by rw [isSubtype_type]; kernel_rfl
theorem issub_leaf {k : Value} {dep : Int} {tk : Tok} {Q : Fin → Shared → Prop} (hk : k = .int dep tk) (hq : Q (.done (.ret (.bool true))) s) :
    wpAny (model prog w) A (Builtin.«issubclass.nested» ⟨[.type "str", .type "str", k], []⟩) Q E s := by
  subst hk
  have hself := sub_strstr
  repeat (any_goals (first | assumption | (rw [hself]) | wp_step))

theorem kind_issubn : builtinKind "issubclass.nested" = none := by decide +kernel
theorem plain_issubn : plainId "issubclass.nested" = true := by decide +kernel
theorem args_issubn (a b c : Value) : argsOk "issubclass.nested" ⟨[a, b, c], []⟩ := by unfold argsOk; kernel_rfl
theorem issub_leaf_call {k : Value} {dep : Int} {tk : Tok} {Q : Value → Shared → Prop} (hk : k = .int dep tk) (hq : Q (.bool true) s) : wpAny (model prog w) A (call (.builtin "issubclass.nested") [.type "str", .type "str", k]) Q E s :=
  call_function_entry kind_issubn plain_issubn F.entry_issubclass_nested (args_issubn _ _ _) (issub_leaf hk ⟨_, rfl, hq⟩)
theorem issub_tup {t : Addr} {Q : Fin → Shared → Prop} (ht : s.heap.IsTuple t #[.type "str", .type "bytes"]) (hq : Q (.done (.ret (.bool true))) s) :
    wpAny (model prog w) A (Builtin.«issubclass.nested» ⟨[.type "str", .ref t, .int 0 0], []⟩) Q E s := by
  have hty := ht.typeIs
  obtain ⟨o, eo, oc, on, od⟩ := id ht
  have hs := F.sub_tuple_tuple
  unfold Builtin.«issubclass.nested»
  repeat (any_goals (first | assumption | wp_step))
  rw [od]
  refine wpAny_pure ?_
  simp only [Option.getD_some]
  refine wpAny_bind ?_
  rw [← Array.forIn_toList]
  simp only [List.forIn_cons]
  refine wpAny_bind (wpAny_bind (issub_leaf_call rfl ?_))
  refine wpAny_bind (wpAny_truthy_bool ?_)
  rw [if_pos rfl]
  refine wpAny_bind (wpAny_pure (wpAny_pure ?_))
  exact wpAny_pure (wpAny_pure hq)
theorem oSub {t : Addr} {Q : Value → Shared → Prop} (ht : s.heap.IsTuple t #[.type "str", .type "bytes"]) (hq : Q (.bool true) s) :
    wpAny (model prog w) A (call (.builtin "issubclass") [.type "str", .ref t]) Q E s :=
  call_issubclass (S := fun _ R s => s.heap.IsTuple t #[.type "str", .type "bytes"] ∧ R (.ok (.ret (.bool true))) s) (fun _ _ _ _ _ hs => issubclass_outer (issub_tup hs.1 hs.2)) ⟨ht, hq⟩
end

end
section
abbrev Lx (x : Str) : List Nat := x.cps.toList
theorem S_L (x : Str) : S (Lx x) = x := rfl
theorem b_issub : bootBuiltins (Str.ofString "issubclass") = some (.builtin "issubclass") := by kernel_rfl
theorem b_bytes : bootBuiltins (Str.ofString "bytes") = some (.type "bytes") := by kernel_rfl
theorem b_type : bootBuiltins (Str.ofString "type") = some (.type "type") := by kernel_rfl
theorem b_str : bootBuiltins (Str.ofString "str") = some (.type "str") := by kernel_rfl
section
variable {w : World} {mg mb : Str → Option Value} {g g' g0 h h' : Heap} {L : Addr} {tk : Nat} {gn : Array GenState} {dr : Drawn} {os : OsState} {fr : Fm} {led : Lg} {env : Env} {A : Around} {E : Value → Shared → Prop}
theorem oType {x : Str} {t : Tok} {Q : Value → Shared → Prop} (hq : Q (.type "str") ⟨h, gn, dr, tk, os⟩) : wpAny (model PR w) A (call (.type "type") [.str x t]) Q E ⟨h, gn, dr, tk, os⟩ :=
  call_type_of (typeIs_str _ _ _) (by decide) hq
theorem oFindR {a b : List Nat} {t u : Tok} {Q : Value → Shared → Prop} (hq : ∀ t tk', Q (.int (Txt.rfind (S a) (S b)) t) ⟨h, gn, dr, tk', os⟩) : wpAny (model PR w) A (call (.builtin "str.rfind") [.str (S a) t, .str (S b) u]) Q E ⟨h, gn, dr, tk, os⟩ := SC.rfind (hq _ _)
theorem oCount {a b : List Nat} {t u : Tok} {Q : Value → Shared → Prop} (hq : ∀ t tk', Q (.int (Txt.count (S a) (S b)) t) ⟨h, gn, dr, tk', os⟩) : wpAny (model PR w) A (call (.builtin "str.count") [.str (S a) t, .str (S b) u]) Q E ⟨h, gn, dr, tk, os⟩ := SC.count (hq _ _)
theorem oStarts {a b : List Nat} {t u : Tok} {Q : Value → Shared → Prop} (hq : Q (.bool (Txt.startswith (S a) (S b))) ⟨h, gn, dr, tk, os⟩) : wpAny (model PR w) A (call (.builtin "str.startswith") [.str (S a) t, .str (S b) u]) Q E ⟨h, gn, dr, tk, os⟩ := SC.startswith hq
theorem oEnds {a b : List Nat} {t u : Tok} {Q : Value → Shared → Prop} (hq : Q (.bool (Txt.endswith (S a) (S b))) ⟨h, gn, dr, tk, os⟩) : wpAny (model PR w) A (call (.builtin "str.endswith") [.str (S a) t, .str (S b) u]) Q E ⟨h, gn, dr, tk, os⟩ := SC.endswith hq
theorem oStripR {a b : List Nat} {t u : Tok} {Q : Value → Shared → Prop} (hs : a.length ≤ sizeLine) (hq : ∀ t tk', Q (.str (S (Lx (Txt.rstripChars (S a) (S b)))) t) ⟨h, gn, dr, tk', os⟩) : wpAny (model PR w) A (call (.builtin "str.rstrip") [.str (S a) t, .str (S b) u]) Q E ⟨h, gn, dr, tk, os⟩ :=
  SC.rstripChars (fun t' k => hq t' k) (by rw [S_len]; exact hs)
theorem oStripL {a b : List Nat} {t u : Tok} {Q : Value → Shared → Prop} (hs : a.length ≤ sizeLine) (hq : ∀ t tk', Q (.str (S (Lx (Txt.lstripChars (S a) (S b)))) t) ⟨h, gn, dr, tk', os⟩) : wpAny (model PR w) A (call (.builtin "str.lstrip") [.str (S a) t, .str (S b) u]) Q E ⟨h, gn, dr, tk, os⟩ :=
  SC.lstripChars (fun t' k => hq t' k) (by rw [S_len]; exact hs)
/-- a new object that does not change: the base grows -/
theorem St.pushG (H : St g L h fr led) (o : Obj) (hf : o.isFreed = false := by rfl) : ∃ g', Ext g g' ∧ St g' L (h.push o) fr led ∧ g'.get? h.objs.size = some o ∧ h.get? h.objs.size = none := by
  obtain ⟨g', x', H', e⟩ := H.push o hf
  exact ⟨g', x', H', e, none_ge (Nat.le_refl _)⟩
inductive PoT (gn : Array GenState) (dr : Drawn) (os : OsState) (L : Addr) (Q : Value → Shared → Prop) (vs : List Value) (s₁ : Shared) : Prop
  | mk (h1 : vs.length ≤ sizeLine) (h' : Heap) (tk' : Nat) (fr' : Fm) (g' : Heap) (led' : Lg) (h2 : s₁ = ⟨h', gn, dr, tk', os⟩) (h3 : St g' L h' fr' led')
    (h4 : ∀ g'' l h₂, Ext g' g'' → St g'' L h₂ fr' led' → g''.IsTuple l vs.toArray → h'.get? l = none → Ext h' h₂ → Q (.ref l) ⟨h₂, gn, dr, tk', os⟩)
theorem newT {elts : List Expr} {k : Nat} {pos : Pos} {Q : Value → Shared → Prop}
    (hw : wpAny (model PR w) A (spliced (backTo pos (starEach elts env))) (PoT gn dr os L Q) E ⟨h, gn, dr, tk, os⟩) :
    wpAny (model PR w) A (eval (.Tuple elts k pos) env) Q E ⟨h, gn, dr, tk, os⟩ := by
  refine PySem.wpAny_Tuple (wpAny_mono hw (fun vs s₁ q => ?_) fun _ _ z => z)
  obtain ⟨q1, h', tk', fr', g', led', rfl, H, q9⟩ := q
  obtain ⟨g'', x'', H'', e, n⟩ := H.pushG { cls := .type "tuple", data := .seq vs.toArray }
  exact ⟨q1, q9 _ _ _ x'' H'' ⟨_, e, rfl, _, rfl⟩ n fun b o e => Heap.get?_push_of_some _ e⟩
end
end
local macro_rules | `(tactic| k_offL) => `(tactic| first
  | ((with_reducible refine' ldb ?H ?e ?G ?hx ?hd ?hv ?hn ?hne ?_); (case H => assumption); (case e => assumption); (case G => assumption); (case hx => rfl); (case hd => rfl); (case hv => with_reducible first | exact b_issub | exact b_bytes | exact b_type | exact b_str); (case hn => k_is); (case hne => decide)))
local macro_rules | `(tactic| ktr_rel) => `(tactic| first
  | ((with_reducible show wpAny _ _ (callWith _ (Value.ref _) _ _ _) _ _ _); first
    | ((with_reducible refine' callWith_K (Gd.K (by assumption)) ?hk ?_ ?he ?hp); (case hk => k_is); (case he => rfl); (case hp => rfl)))
  | ((with_reducible show _ ∧ wpAny _ _ (call (Value.ref _) _) _ _ _); refine ⟨Frag.In.keeps (Gd.K (by assumption)) (St.keep (by assumption)), ?_⟩)
  | ((with_reducible show wpAny _ _ (callWith _ (Value.type _) _ _ _) _ _ _); ((with_reducible refine' PyProof.Rows.callWith_type1 ?_ ?he ?hp); (case he => rfl); (case hp => rfl)))
  | ((with_reducible show wpAny _ _ (call (Value.builtin _) _) _ _ _); first
    | (with_reducible refine IsiPair.str_bytes ?_)
    | ((with_reducible refine' oFindR ?_); intro _ _)
    | ((with_reducible refine' oStripR ?hs ?_); (case hs => lcg_off); intro _ _)
    | ((with_reducible refine' oStripL ?hs ?_); (case hs => lcg_off); intro _ _)
    | (with_reducible refine oStarts ?_)
    | (with_reducible refine oEnds ?_)
    | ((with_reducible refine oCount ?_); intro _ _))
  | ((with_reducible show wpAny _ _ (call (Value.type _) _) _ _ _); ((with_reducible refine oType ?_)))
  | ((with_reducible show wpAny _ _ (getMethod (Value.str _ _) _ _) _ _ _); first
    | (with_reducible refine GM.rfind ?_) | (with_reducible refine GM.rstrip ?_) | (with_reducible refine GM.lstrip ?_) | (with_reducible refine GM.startswith ?_) | (with_reducible refine GM.endswith ?_) | (with_reducible refine GM.split ?_) | (with_reducible refine GM.join ?_) | (with_reducible refine GM.count ?_)))
section
section
variable {w : World} {mg mb : Str → Option Value} {g0 g h : Heap} {tk : Nat} {gn : Array GenState} {dr : Drawn} {os : OsState}
set_option maxHeartbeats 4000000 in
theorem fspath_spec {l : List Nat} {t : Tok} {Q : Value → Shared → Prop} (G : Gd w mg mb g0) (X : Ext g0 h) (hq : ∀ h' tk', Ext h h' → Q (.str (S l) t) ⟨h', gn, dr, tk', os⟩) :
    wpAny (model PR w) (AW 840 8400) (call (.ref 94) [.str (S l) t]) Q NE ⟨h, gn, dr, tk, os⟩ := by
  refine' call_def (fr := [(Str.ofString "path", .str (S l) t)]) G X [] ?ho ?hcd ?hb ?hbind ?hfr ?hks ?hcl (fun _ q => nomatch q) List.nodup_nil ?main ?hd ?hcell ?hloc ?hco ?hgen ?hk ?hgl ?hbn
  keq_rows
  intro g L h₁ tk₁ env he G' X' H K'
  dsimp only at he
  repeat' ktr_rel
  clear H; rename St _ _ _ _ _ => H
  refine newT (L := L) ?_
  repeat' ktr_rel
  refine ⟨Nat.le_of_ble_eq_true rfl, _, _, _, _, _, rfl, H, ?_⟩
  intro g2 tp h₂ x2 H₂ htp _ _
  have G2 := G'.keeps x2
  repeat' ktr_rel
  refine oSub (let ⟨o, e, r⟩ := htp; ⟨o, H₂.keep _ _ e, r⟩) ?_
  repeat' ktr_rel
  exact hq _ _ (fun b o e => H₂.keep _ _ (x2 _ _ (K'.ext _ _ e)))
set_option maxHeartbeats 4000000 in
theorem sep_spec {l : List Nat} {t : Tok} {Q : Value → Shared → Prop} (G : Gd w mg mb g0) (X : Ext g0 h) (hq : ∀ h' tk' t', Ext h h' → Q (.str (S [47]) t') ⟨h', gn, dr, tk', os⟩) :
    wpAny (model PR w) (AW 840 8400) (call (.ref 108) [.str (S l) t]) Q NE ⟨h, gn, dr, tk, os⟩ := by
  refine' call_def (fr := [(Str.ofString "path", .str (S l) t)]) G X [] ?ho ?hcd ?hb ?hbind ?hfr ?hks ?hcl (fun _ q => nomatch q) List.nodup_nil ?main ?hd ?hcell ?hloc ?hco ?hgen ?hk ?hgl ?hbn
  keq_rows
  intro g L h₁ tk₁ env he G' X' H K'
  dsimp only at he
  repeat' ktr_rel
  exact hq _ _ _ (fun b o e => H.keep _ _ (K'.ext _ _ e))
end

end
section
theorem mul_one (n : Nat) (c : Nat) : Txt.mul (S [c]) (n : Int) = S (List.replicate n c) := by
  unfold Txt.mul
  match n with
  | 0 => rfl
  | 1 => rfl
  | k + 2 =>
    have h1 : ¬ ((k + 2 : Nat) : Int) < 1 := by omega
    have h2 : ¬ ((((k + 2 : Nat) : Int) == 1 || (S [c]).length == 0) = true) := by
      rw [S_len]; simp; omega
    rw [if_neg h1, if_neg h2]
    have e : ∀ (m : Nat) (a : Array Nat), (List.replicate m (S [c]).cps).foldl (· ++ ·) a = a ++ (List.replicate m c).toArray := by
      intro m
      induction m with
      | zero => intro a; simp
      | succ m ih => intro a; rw [List.replicate_succ, List.foldl_cons, ih, List.replicate_succ]; apply Array.toList_inj.mp; simp [S]
    rw [e]
    have e2 : ((k + 2 : Nat) : Int).toNat = k + 2 := by omega
    rw [e2]; simp
section
variable {w : World} {mg mb : Str → Option Value} {g g' g0 h h' : Heap} {L : Addr} {tk : Nat} {gn : Array GenState} {dr : Drawn} {os : OsState} {A : Around} {E : Value → Shared → Prop}
theorem oMulS {c n : Nat} {t u : Tok} {Q : Value → Shared → Prop} (hn : n ≤ 100000) (hq : ∀ t tk', Q (.str (S (List.replicate n c)) t) ⟨h, gn, dr, tk', os⟩) : wpAny (model PR w) A (binaryOp .Mult (.str (S [c]) t) (.int (n : Int) u)) Q E ⟨h, gn, dr, tk, os⟩ := by
  refine SB.mul ⟨by simp; omega, fun _ _ q => ?_, fun _ _ => ?_⟩ (fun t' k => by rw [mul_one]; exact hq t' k)
  · rw [S_len] at q
    have hp : 0 < (n : Int) := by omega
    have : (1 : Int) ≤ (2 ^ 63 - 1) / (n : Int) := by
      rw [Int.le_ediv_iff_mul_le hp]; omega
    exact absurd q (Int.not_lt.mpr (by simpa using this))
  · rw [S_len]
    unfold Builtin.Str.tooLong
    rw [sizeLine_eq]; simp; omega
end
def dirL (p : List Nat) : List Nat :=
  let head := sl p none (some (Txt.rfind (S p) (S [47]) + 1))
  if (!head.isEmpty && head != List.replicate head.length 47) = true then Lx (Txt.rstripChars (S head) (S [47])) else head
def rootL (p : List Nat) : List Nat × List Nat :=
  if (sl p none (some 1) != [47]) = true then ([], p)
  else if (sl p (some 1) (some 2) != [47] || sl p (some 2) (some 3) == [47]) = true then ([47], sl p (some 1) none)
  else (sl p none (some 2), sl p (some 2) none)
end
local macro_rules | `(tactic| ktr_rel) => `(tactic| first
  | ((with_reducible show wpAny _ _ (call (Value.ref 94) _) _ _ _); (refine' wpW (fspath_spec ?G (St.keep ?H) ?_)); (case H => assumption); (case G => assumption); intro _ _ x; (have H := St.ext (by assumption) x); clear x)
  | ((with_reducible show wpAny _ _ (call (Value.ref 108) _) _ _ _); (refine' wpW (sep_spec ?G (St.keep ?H) ?_)); (case H => assumption); (case G => assumption); intro _ _ _ x; (have H := St.ext (by assumption) x); clear x)
  | ((with_reducible show wpAny _ _ (truthy (Value.str (S _) _)) _ _ _); ((with_reducible refine' oTrS ?hl ?_); (case hl => first | omega | (simp only [List.length_append, List.length_cons, List.length_nil]; omega)); intro _))
  | ((with_reducible show wpAny _ _ (binaryOp Operator.Mult (Value.str (S [_]) _) (Value.int (Nat.cast _) _)) _ _ _); ((with_reducible refine' oMulS ?hl ?_); (case hl => omega); intro _ _)))
section
section
variable {w : World} {mg mb : Str → Option Value} {g0 g h : Heap} {tk : Nat} {gn : Array GenState} {dr : Drawn} {os : OsState}
set_option maxHeartbeats 4000000 in
theorem dirname_spec {l : List Nat} {t : Tok} {Q : Value → Shared → Prop} (G : Gd w mg mb g0) (X : Ext g0 h) (hl : l.length ≤ 10000) (hq : ∀ h' tk' t', Ext h h' → Q (.str (S (dirL l)) t') ⟨h', gn, dr, tk', os⟩) :
    wpAny (model PR w) (AW 830 8300) (call (.ref 129) [.str (S l) t]) Q NE ⟨h, gn, dr, tk, os⟩ := by
  refine' call_def (fr := [(Str.ofString "p", .str (S l) t)]) G X [] ?ho ?hcd ?hb ?hbind ?hfr ?hks ?hcl (fun _ q => nomatch q) List.nodup_nil ?main ?hd ?hcell ?hloc ?hco ?hgen ?hk ?hgl ?hbn
  keq_rows
  intro g L h₁ tk₁ env he G' X' H K'
  dsimp only at he
  have hsl := sl_le l none (some (Txt.rfind (S l) (S [47]) + 1))
  have hq' : ∀ r h' tk' t', r = dirL l → Ext g h' → Q (.str (S r) t') ⟨h', gn, dr, tk', os⟩ := by rintro r h' tk' t' rfl x; exact hq h' tk' t' (K'.ext.trans x)
  repeat' ktr_rel
  all_goals (refine hq' _ _ _ _ ?_ (St.keep (by assumption)))
  all_goals (unfold dirL; dsimp only; first
    | (rename (!List.isEmpty _) = true => b1; rename (_ != _) = true => b2; rw [if_pos (by rw [b1, b2]; rfl)])
    | (rename (_ != _) = false => b2; rw [if_neg (by rw [b2]; simp)])
    | (rename (!List.isEmpty _) = false => b1; rw [if_neg (by rw [b1]; simp)]))
/-- what a callee hands out: a small base with what is new -/
theorem St.out {g h' : Heap} {L : Addr} {fr : Fm} {led : Lg} (H : St g L h' fr led) (x : Ext g0 g) (h : Heap) : ∃ g2, Ext g0 g2 ∧ Ext g2 h' ∧ Nw g0 h g2 ∧ ∀ b o, g.get? b = some o → h.get? b = none → g2.get? b = some o := by
  obtain ⟨g2, a1, a2, a3, a4, _⟩ := (H.base x).grow h
  exact ⟨g2, a1, a2.keep, a3, fun b o e n => a4 b o (H.keep _ _ e) n (H.inb e).1 (H.inb e).2⟩
theorem St.keep2 {g h : Heap} {L : Addr} {fr : Fm} {led : Lg} (H : St g L h fr led) : St g L h fr led := H
theorem fresh_of {h h' : Heap} (k : Ext h h') {b : Addr} (n : h'.get? b = Option.none) : h.get? b = Option.none := Ext.none k n
set_option maxHeartbeats 4000000 in
theorem splitroot_spec {l : List Nat} {t : Tok} {Q : Value → Shared → Prop} (G : Gd w mg mb g0) (X : Ext g0 h) (hl : l.length ≤ 10000)
    (hq : ∀ a g2 h' tk' t1 t2 t3, Ext g0 g2 → Ext g2 h' → Nw g0 h g2 → Ext h h' → g2.IsTuple a #[.str (S []) t1, .str (S (rootL l).1) t2, .str (S (rootL l).2) t3] → Q (.ref a) ⟨h', gn, dr, tk', os⟩) :
    wpAny (model PR w) (AW 830 8300) (call (.ref 122) [.str (S l) t]) Q NE ⟨h, gn, dr, tk, os⟩ := by
  refine' call_def (fr := [(Str.ofString "p", .str (S l) t)]) G X [] ?ho ?hcd ?hb ?hbind ?hfr ?hks ?hcl (fun _ q => nomatch q) List.nodup_nil ?main ?hd ?hcell ?hloc ?hco ?hgen ?hk ?hgl ?hbn
  keq_rows
  intro g L h₁ tk₁ env he G' X' H K'
  dsimp only at he
  have fin : ∀ {h' : Heap} {fr' led'} {r1 r2 : List Nat} {t1 t2 t3 : Tok}, St g L h' fr' led' → led' = [] → rootL l = (r1, r2) → ∀ g'' a h₂ tk', Ext g g'' → St g'' L h₂ fr' led' → g''.IsTuple a [Value.str (S []) t1, Value.str (S r1) t2, Value.str (S r2) t3].toArray → h'.get? a = none → Ext h' h₂ → Q (.ref a) ⟨h₂, gn, dr, tk', os⟩ := by
    intro h' fr' led' r1 r2 t1 t2 t3 H1 hled hr g'' a h₂ tk' x1 H2 ht n k
    have kk : Ext h h' := K'.ext.trans H1.keep
    obtain ⟨g2, a1, a2, a3, a4⟩ := H2.out (X'.trans x1) h
    refine hq a g2 h₂ tk' t1 t2 t3 a1 a2 a3 (kk.trans k) ?_
    obtain ⟨o, e, r⟩ := ht
    rw [hr]
    exact ⟨o, a4 _ _ e (fresh_of kk n), r⟩
  have h1 := sl_le l none (some 1)
  repeat' ktr_rel
  all_goals (
    clear H; rename St _ _ _ _ _ => H
    refine newT (L := L) ?_
    repeat' ktr_rel
    refine ⟨Nat.le_of_ble_eq_true rfl, _, _, _, _, _, rfl, St.keep2 (by assumption), ?_⟩
    intro g2 tp h₂ x2 H₂ htp n2 k2
    repeat' ktr_rel
    refine fin (St.keep2 (by assumption)) rfl ?_ _ _ _ _ x2 H₂ htp n2 k2
    unfold rootL)
  · rename (sl l none (some 1) != _) = true => b1
    rw [if_pos b1]
  · rename (sl l none (some 1) != _) = false => b1
    rename (sl l (some 1) (some 2) != _) = true => b2
    rw [if_neg (by rw [b1]; simp), if_pos (by rw [b2]; rfl)]
  · rename (sl l none (some 1) != _) = false => b1
    rename (sl l (some 2) (some 3) == _) = true => b3
    rw [if_neg (by rw [b1]; simp), if_pos (by rw [b3]; simp)]
  · rename (sl l none (some 1) != _) = false => b1
    rename (sl l (some 1) (some 2) != _) = false => b2
    rename (sl l (some 2) (some 3) == _) = false => b3
    rw [if_neg (by rw [b1]; simp), if_neg (by rw [b2, b3]; simp)]
end

end
section
section
variable {w : World} {mg mb : Str → Option Value} {g0 g h h' : Heap} {L : Addr} {fr : Fm} {led : Lg} {M : Model} {A : Around} {env : Env} {s : Shared}
/-- a def whose last parameter takes the rest -/
theorem call_rest {gn : Array GenState} {dr : Drawn} {tk : Nat} {os : OsState} {f : Addr} {fd : FuncData} {body : List Stmt} {binds : Value → List (Str × Value)} {args vs : List Value} {d u : Nat} {Q : Value → Shared → Prop} {E : Value → Shared → Prop} {oc : Value} {od : Option Addr} {osl : Array (Option Value)} {ks : List (Str × NameKind)} {cl : List (Str × Addr)} {frf : Value → Fm}
    (G : Gd w mg mb g0) (X : Ext g0 h)
    (ho : h.get? f = some ⟨oc, od, .func fd, osl⟩) (hcd : h.CodeRec fd.code fd.qualname) (hbody : fd.body = .stmts body)
    (hbind : bindArgs fd ⟨args, []⟩ = (newTuple vs >>= fun t => pure (binds t))) (hfr : ∀ t, (binds t).reverse = frf t) (hks : fd.scope.names = ks) (hcl : fd.closure = cl) (hvs : vs.length ≤ sizeLine)
    (hm : ∀ g L T h₁ tk₁ env, EnvOk env L ks cl → Gd w mg mb g → Ext g0 g → St g L h₁ (frf (.ref T)) [] → Ext h g → g.IsTuple T vs.toArray →
      wpAny (model PR w) (AW (d + 1) (u + 3)) (execs body env) (FQ Q) NE ⟨h₁, gn, dr, tk₁, os⟩)
    (hd : d < recursionLimit) (hcell : ∀ x ∈ fd.scope.names, x.2 ≠ .cell) (hloc : ∀ t, ∀ x ∈ binds t, fd.scope.names.lookup x.1 = some .local)
    (hco : fd.scope.isCoroutine = false) (hgen : fd.scope.isGenerator = false) (hk : fd.scope.kind = .function) (hgl : fd.globals = mainGlobals) (hbn : fd.builtins = builtinsNs) :
    wpAny (model PR w) (AW d u) (call (.ref f) args) Q E ⟨h, gn, dr, tk, os⟩ := by
  refine wpAny_call (codeAny_call_function hd ho rfl hco hgen hbody hcd ?_)
  rw [hbind]
  refine wpAny_bind (PySem.wpAny_newTuple ?_ hvs)
  have X1 : Ext h (h.push { cls := .type "tuple", data := .seq vs.toArray }) := fun b o e => Heap.get?_push_of_some _ e
  have hT : (h.push { cls := .type "tuple", data := .seq vs.toArray }).IsTuple h.objs.size vs.toArray := ⟨_, Heap.get?_push_size _ rfl, rfl, _, rfl⟩
  generalize h.push { cls := .type "tuple", data := .seq vs.toArray } = h1 at X1 hT
  refine wpAny_pure ?_
  refine wpAny_newFunctionEnv hcell (hloc _) (fun h₀ hns₀ hsb₀ => ?_) hk
  have k0 : Ext h1 h₀ := fun b o e => (hsb₀.2 b (Nat.ne_of_lt (Heap.lt_size e))).trans (Heap.get?_push_of_some _ e)
  subst hks hcl
  refine ⟨(G.nolimit.keeps X).keeps fun b o e => k0 _ _ (X1 _ _ e), codeAny_func ?_⟩
  refine wpAny_mono (hm h1 h1.objs.size _ h₀ _ _ ⟨hk, rfl, hgl, hbn, rfl, rfl⟩ (G.keeps (X.trans X1)) (X.trans X1) ⟨hfr _ ▸ hns₀, k0, (fun _ q => nomatch q), (fun _ q => nomatch q), (fun _ q => nomatch q), none_ge (Nat.le_refl _), List.nodup_nil⟩ X1 hT) (fun fl s' q => q) fun _ _ q => q.elim
variable {Q : Flow → Shared → Prop}
theorem exTry {body orelse : List Stmt} {h₀ : ExceptHandler} {hs : List ExceptHandler} {pos : Pos}
    (h : wpAny (model PR w) A (execs body env) (Nx (model PR w) A env orelse Q) NE s) : wpAny (model PR w) A (exec (.Try body (h₀ :: hs) orelse [] pos) env) Q NE s := by
  refine wpAny_Try_except (wpAny_mono h (fun f s₁ q => ?_) fun _ _ q => q.elim)
  cases f <;> exact q
end
def joinL (a b : List Nat) : List Nat := if (Txt.startswith (S b) (S [47]) || a.isEmpty) = true then b else if Txt.endswith (S a) (S [47]) = true then a ++ b else a ++ ([47] ++ b)
def pathAt (a b : List Nat) (i : Nat) : List Nat := match i with | 0 => a | _ => joinL a b
inductive JnJ (a b : List Nat) (t : Tok) (T : Addr) (i : Nat) (fr : Fm) (led : Lg) : Prop
  | mk (h1 : led = [])
    (t1 t2 rest : _)
    (h2 : fr = [(Str.ofString "p", Value.ref T), (Str.ofString "a", Value.str (S a) t), (Str.ofString "sep", Value.str (S [47]) t1), (Str.ofString "path", Value.str (S (pathAt a b i)) t2)] ++ rest)
    (h3 : Opt1 (Str.ofString "b") rest)
section
variable {w : World} {mg mb : Str → Option Value} {g0 g h : Heap} {tk : Nat} {gn : Array GenState} {dr : Drawn} {os : OsState}
set_option maxHeartbeats 4000000 in
theorem join_spec {a b : List Nat} {t t' : Tok} {Q : Value → Shared → Prop} (G : Gd w mg mb g0) (X : Ext g0 h) (ha : a.length ≤ 10000) (hb : b.length ≤ 10000) (hq : ∀ h' tk' t', Ext h h' → Q (.str (S (joinL a b)) t') ⟨h', gn, dr, tk', os⟩) :
    wpAny (model PR w) (AW 830 8300) (call (.ref 115) [.str (S a) t, .str (S b) t']) Q NE ⟨h, gn, dr, tk, os⟩ := by
  refine' call_rest (vs := [.str (S b) t']) (binds := fun T => [(Str.ofString "a", .str (S a) t), (Str.ofString "p", T)]) (frf := fun T => [(Str.ofString "p", T), (Str.ofString "a", .str (S a) t)]) G X ?ho ?hcd ?hb ?hbind ?hfr ?hks ?hcl ?hvs ?main ?hd ?hcell ?hloc ?hco ?hgen ?hk ?hgl ?hbn
  case hvs => exact Nat.le_of_ble_eq_true rfl
  case hfr => intro _; rfl
  case hbind => kernel_rfl
  case ho => refine (Frag.In.keeps (Gd.K (by assumption)) (by assumption)) _ _ ?_; k_is
  case hcd => refine codeRec_of (Frag.In.keeps (Gd.K (by assumption)) (by assumption)) ?_; k_is
  case hb => rfl
  case hks => rfl
  case hcl => rfl
  case hd => decide
  case hcell => decide
  case hloc => intro T; exact locs rfl
  case hco => rfl
  case hgen => rfl
  case hk => rfl
  case hgl => rfl
  case hbn => rfl
  intro g L T h₁ tk₁ env he G' X' H K' hT
  dsimp only at he
  repeat' ktr_rel
  clear H; rename St _ _ _ _ _ => H
  refine exTry ?_
  refine exC ?_
  have hq' : ∀ r h' tk' t', r = joinL a b → Ext g h' → Q (.str (S r) t') ⟨h', gn, dr, tk', os⟩ := by rintro r h' tk' t' rfl x; exact hq h' tk' t' (K'.trans x)
  refine for_tuple (items := #[.str (S b) t']) (J := JnJ a b t T) H hT ?hiter ?hJ ?turn ?fin
  case hiter => intro Q' hQ'; ktr_rel; exact hQ' _
  case hJ => exact ⟨rfl, _, _, [], rfl, .inl rfl⟩
  case turn =>
    rintro i v g' h₂ tk₂ fr₁ led₁ hv x' ⟨rfl, t1, t2, rest, rfl, hrest⟩ H'
    obtain ⟨rfl, rfl⟩ : i = 0 ∧ v = .str (S b) t' := by
      match i with
      | 0 => exact ⟨rfl, by simpa using hv.symm⟩
      | i + 1 => simp at hv
    change St g' L h₂ ([(Str.ofString "p", Value.ref T), (Str.ofString "a", Value.str (S a) t), (Str.ofString "sep", Value.str (S [47]) t1), (Str.ofString "path", Value.str (S a) t2)] ++ rest) [] at H'
    refine asg1 H' he hrest rfl rfl ?_
    intro h₃ tk₃ H₃
    dsimp only [List.cons_append, List.nil_append] at H₃
    clear H H'
    have G2 := G'.keeps x'
    have fin : ∀ (tx : List Nat) (t1 tt tb : Tok) (h₃ : Heap), tx = joinL a b → St g' L h₃ [(Str.ofString "p", Value.ref T), (Str.ofString "a", Value.str (S a) t), (Str.ofString "sep", Value.str (S [47]) t1), (Str.ofString "path", Value.str (S tx) tt), (Str.ofString "b", .str (S b) tb)] [] →
        JnJ a b t T (0 + 1) [(Str.ofString "p", Value.ref T), (Str.ofString "a", Value.str (S a) t), (Str.ofString "sep", Value.str (S [47]) t1), (Str.ofString "path", Value.str (S tx) tt), (Str.ofString "b", .str (S b) tb)] [] := by
      rintro tx t1 tt tb _ rfl _
      exact ⟨rfl, t1, tt, [(Str.ofString "b", .str (S b) tb)], rfl, .inr ⟨_, rfl⟩⟩
    repeat' ktr_rel
    all_goals (refine lp_next (by assumption) (fin _ _ _ _ _ ?_ (by assumption)); unfold joinL)
    · rename Txt.startswith _ _ = true => b1
      rw [if_pos (by rw [b1]; rfl)]
    · rename (!(!List.isEmpty _)) = true => b2
      rw [if_pos (by simp at b2; subst b2; simp)]
    · rename Txt.startswith _ _ = false => b1
      rename (!(!List.isEmpty _)) = false => b2
      rename Txt.endswith _ _ = true => b3
      rw [if_neg (by simp at b2; simp [b1, b2]), if_pos b3]
    · rename Txt.startswith _ _ = false => b1
      rename (!(!List.isEmpty _)) = false => b2
      rename Txt.endswith _ _ = false => b3
      rw [if_neg (by simp at b2; simp [b1, b2]), if_neg (by simp [b3])]
  case fin =>
    rintro h₂ tk₂ fr₁ led₁ ⟨rfl, t1, t2, rest, rfl, hrest⟩ H'
    change St g L h₂ ([(Str.ofString "p", Value.ref T), (Str.ofString "a", Value.str (S a) t), (Str.ofString "sep", Value.str (S [47]) t1), (Str.ofString "path", Value.str (S (joinL a b)) t2)] ++ rest) [] at H'
    clear H
    rcases hrest with rfl | ⟨v, rfl⟩
    all_goals (simp only [List.cons_append, List.nil_append, List.append_nil] at H')
    all_goals (repeat' ktr_rel)
    all_goals (exact hq' _ _ _ _ rfl (St.keep (by assumption)))
end

end
section
/-- texts with their tokens -/
abbrev TL := List (List Nat × Tok)
def vsOf (l : TL) : List Value := l.map fun p => .str (S p.1) p.2
section
variable {w : World} {mg mb : Str → Option Value} {g0 g h h' : Heap} {L : Addr} {fr : Fm} {led : Lg} {A : Around} {env : Env} {ks : List (Str × NameKind)} {cl : List (Str × Addr)} {gn : Array GenState} {dr : Drawn} {tk : Nat} {os : OsState} {E : Value → Shared → Prop}
theorem truL {l : Addr} {its : List Value} {Q : Bool → Shared → Prop} (hl : h.IsList l its.toArray) (hsz : its.length < 1000000) (hq : ∀ tk', Q (!its.isEmpty) ⟨h, gn, dr, tk', os⟩) : wpAny (model PR w) A (truthy (.ref l)) Q E ⟨h, gn, dr, tk, os⟩ :=
  wpAny_truthy_list hl (by simp; omega) (by rw [show (!its.toArray.isEmpty) = !its.isEmpty by simp]; exact hq _)
theorem oNegI {a : Int} {t : Tok} {Q : Value → Shared → Prop} (hq : ∀ t tk', Q (.int (-a) t) ⟨h, gn, dr, tk', os⟩) : wpAny (model PR w) A (unaryOp .USub (.int a t)) Q E ⟨h, gn, dr, tk, os⟩ := neg_int (hq _ _)
/-- the last item -/
theorem ixLast {value slice : Expr} {l : Addr} {its : List Value} {u : Tok} {v : Value} {Q : Value → Shared → Prop} (hl : h.IsList l its.toArray) (hx : its.getLast? = some v)
    (hs : subscripted slice false (.ref l) (.int (-1) u) = operate [.ref l, .int (-1) u] (getItem (.ref l) (.int (-1) u))) (hq : Q v ⟨h, gn, dr, tk, os⟩) : wpAny (model PR w) A (subscriptTail value slice (.ref l) (.int (-1) u)) Q E ⟨h, gn, dr, tk, os⟩ := by
  have hne : its ≠ [] := by rintro rfl; cases hx
  have hlen : 0 < its.length := List.length_pos_iff.mpr hne
  refine tail_any hl.typeIs slot_list_getitem.lookup (wpAny_getItem_list_neg hl (by decide) (by simp; omega) (by decide) ?_ hq) hs
  rw [List.getLast?_eq_getElem?] at hx
  have : ((-1 : Int) + (its.toArray.size : Int)).toNat = its.length - 1 := by simp; omega
  rw [this]; simpa using hx
/-- pop() -/
theorem popL {l : Addr} {y : Value} {its : List Value} {Q : Value → Shared → Prop} (i : Nat) (H : St g L h fr led) (hi : led[i]? = some (l, IsLs (its ++ [y]))) (hsz : its.length < 1000000)
    (hq : ∀ h', St g L h' fr (led.set i (l, IsLs its)) → Q y ⟨h', gn, dr, tk, os⟩) : wpAny (model PR w) A (call (.builtin "list.pop") [.ref l]) Q E ⟨h, gn, dr, tk, os⟩ := by
  obtain ⟨o, e, n, rfl⟩ := H.get i hi
  have hz : (its ++ [y]).toArray.size ≤ sizeLine := by rw [sizeLine_eq]; simp; omega
  refine call_meets PySem.F.slot_list_pop ⟨_, e, rfl⟩ PySem.F.entry_list_pop (PySem.F.args_list_pop_1 _) (PySem.MeetsSeq.list_pop_last l _ n y (by simp) hz) ⟨e, hq _ (H.turn i hi (fun b o n e => (Heap.get?_update_ne _ _ _ _ n).trans e) ?_)⟩
  have q := PySem.IsL.update e (fun xs => xs.eraseIdxIfInBounds ((its ++ [y]).toArray.size - 1))
  have e1 : (its ++ [y]).toArray.eraseIdxIfInBounds ((its ++ [y]).toArray.size - 1) = its.toArray := by
    simp only [Array.eraseIdxIfInBounds]
    simp [List.eraseIdx_append_of_length_le]
  rw [e1] at q
  exact ⟨_, q, n + 1, by simp⟩
theorem strValues_vs (l : List (Str × Tok)) : strValues l = vsOf (l.map fun p => (Lx p.1, p.2)) := by
  unfold strValues vsOf
  rw [List.map_map]; rfl
/-- split: a new list of texts, that does not change -/
theorem oSplit {a b : List Nat} {t u : Tok} {Q : Value → Shared → Prop} (H : St g L h fr led) (hb : b ≠ []) (ha : a.length ≤ 10000)
    (hq : ∀ g' l (ts : TL) h' tk', Ext g g' → St g' L h' fr led → g'.IsList l (vsOf ts).toArray → ts.map (·.1) = (Txt.split (S a) (S b)).map Lx → Ext h h' → h.get? l = none → Q (.ref l) ⟨h', gn, dr, tk', os⟩) :
    wpAny (model PR w) A (call (.builtin "str.split") [.str (S a) t, .str (S b) u]) Q E ⟨h, gn, dr, tk, os⟩ := by
  have key : ∀ (l : List (Str × Tok)) tk', l.map (·.1) = Txt.split (S a) (S b) → Q (.ref h.objs.size) ⟨h.push { cls := .type "list", data := .seq (strValues l).toArray }, gn, dr, tk', os⟩ := by
    intro l tk' hl
    obtain ⟨g', x', H', e, n⟩ := H.pushG { cls := .type "list", data := .seq (strValues l).toArray }
    refine hq g' _ (l.map fun p => (Lx p.1, p.2)) _ tk' x' H' ⟨_, e, rfl, _, by rw [strValues_vs]⟩ ?_ (fun b o e => Heap.get?_push_of_some _ e) n
    rw [← hl, List.map_map, List.map_map]; rfl
  have hy : ((S b).length == 0) = false := by
    rw [S_len]
    cases b with
    | nil => exact absurd rfl hb
    | cons => simp
  have hsz : (S a).length ≤ sizeLine := by rw [S_len, sizeLine_eq]; omega
  cases h1 : (decide ((S a).length < (S b).length) || decide (Builtin.Str.strKind (S a) < Builtin.Str.strKind (S b)))
  · cases hf : (Builtin.Str.occurrences (S a) (S b) 0 (S a).length ((S a).length + 1)).isEmpty
    · have hn : (Builtin.Str.partsBetween (S a) (Builtin.Str.occurrences (S a) (S b) 0 (S a).length ((S a).length + 1)) (S b).length).length ≤ sizeLine := by
        rw [length_partsBetween]
        have := StrLaws.occ_length_le (S a) (S b) 0 (S a).length ((S a).length + 1)
        rw [S_len] at this ⊢
        rw [sizeLine_eq]; omega
      refine call_meets F.slot_str_split (typeIs_str _ _ _) F.entry_str_split (F.args_str_split_2 _ _) (PySem.meets_str_split_sep (S a) (S b) t u h1 hy hf hsz hn) ?_
      have := key (numbered tk (Builtin.Str.partsBetween (S a) (Builtin.Str.occurrences (S a) (S b) 0 (S a).length ((S a).length + 1)) (S b).length)) (tk + (Builtin.Str.partsBetween (S a) (Builtin.Str.occurrences (S a) (S b) 0 (S a).length ((S a).length + 1)) (S b).length).length)
        ((numbered_texts _ _).trans ((if_neg (ne_true_of_eq_false h1)).trans (if_neg (ne_true_of_eq_false hf))).symm)
      rw [← strsFrom_eq] at this
      exact this
    · refine call_meets F.slot_str_split (typeIs_str _ _ _) F.entry_str_split (F.args_str_split_2 _ _) (PySem.meets_str_split_not_found (S a) (S b) t u h1 hy hf) ?_
      exact key [(S a, t)] tk ((if_neg (ne_true_of_eq_false h1)).trans (if_pos hf)).symm
  · refine call_meets F.slot_str_split (typeIs_str _ _ _) F.entry_str_split (F.args_str_split_2 _ _) (PySem.meets_str_split_cannot_occur (S a) (S b) t u h1) ?_
    exact key [(S a, t)] tk (if_pos h1).symm
/-- join of a list of texts -/
theorem oJoin {a : List Nat} {ts : TL} {l : Addr} {t : Tok} {Q : Value → Shared → Prop} (hl : h.IsList l (vsOf ts).toArray) (hok : JoinOk (S a) (ts.map fun p => S p.1) = true)
    (hq : ∀ t tk', Q (.str (S (Lx (Txt.join (S a) (ts.map fun p => S p.1)))) t) ⟨h, gn, dr, tk', os⟩) : wpAny (model PR w) A (call (.builtin "str.join") [.str (S a) t, .ref l]) Q E ⟨h, gn, dr, tk, os⟩ := by
  have e : vsOf ts = strValues (ts.map fun p => (S p.1, p.2)) := by
    unfold strValues vsOf
    rw [List.map_map]; rfl
  rw [e] at hl
  exact SC.join hl (by rw [List.map_map]; rfl) hok (fun t' k => hq t' k)
/-- a tuple's items to their names -/
theorem asgT {elts : List Expr} {k : Nat} {pos : Pos} {t : Addr} {items : Array Value} {d u : Nat} {Q : Unit → Shared → Prop} (H : St g L h fr led) (ht : g.IsTuple t items)
    (hn : (assignEach elts env).length = items.size) (hstar : (assignEach elts env).findIdx? (·.1) = none)
    (hq : ∀ h', St g L h' fr led → wpAny (model PR w) (AW d u) (assignInOrder ((assignEach elts env).map (·.2)) items.toList) Q E ⟨h', gn, dr, tk, os⟩) :
    wpAny (model PR w) (AW d u) (assign (.Tuple elts k pos) env (.ref t)) Q E ⟨h, gn, dr, tk, os⟩ := by
  refine PySem.wpAny_assign_Tuple rfl (let ⟨o, e, r⟩ := ht; ⟨o, H.keep _ _ e, r⟩) hn hstar fun h' x => hq h' (H.ext fun b o e => x b o (Nat.ne_of_lt (Heap.lt_size e)) e)
end

end
section
def stepC (abs : Bool) (acc : List (List Nat)) (c : List Nat) : List (List Nat) :=
  if c.isEmpty || c == [46] then acc
  else if c != [46, 46] || (!abs && acc.isEmpty) || acc.getLast? == some [46, 46] then acc ++ [c]
  else acc.dropLast
def compsOf (p : List Nat) : List (List Nat) := (Txt.split (S (rootL p).2) (S [47])).map Lx
def normC (p : List Nat) : List (List Nat) := (compsOf p).foldl (stepC (!(rootL p).1.isEmpty)) []
def normJ (p : List Nat) : List Nat := (rootL p).1 ++ Lx (Txt.join (S [47]) ((normC p).map S))
def normL (p : List Nat) : List Nat := if p.isEmpty then [46] else if (normJ p).isEmpty then [46] else normJ p
def normOk (p : List Nat) : Bool := decide (p.length ≤ 1000) && decide ((compsOf p).length ≤ 1000) && (compsOf p).all (fun c => decide (c.length ≤ 1000)) && decide ((rootL p).1.length ≤ 1000) && decide ((rootL p).2.length ≤ 1000) && JoinOk (S [47]) ((normC p).map S) && decide ((Lx (Txt.join (S [47]) ((normC p).map S))).length ≤ 10000)
theorem stepC_len (abs : Bool) : ∀ (l acc : List (List Nat)), (l.foldl (stepC abs) acc).length ≤ acc.length + l.length
  | [], acc => by simp
  | c :: r, acc => by
    have h1 := stepC_len abs r (stepC abs acc c)
    have h2 : (stepC abs acc c).length ≤ acc.length + 1 := by
      unfold stepC
      split
      · omega
      · split
        · simp
        · simp; omega
    simp only [List.foldl_cons, List.length_cons]; omega
section
variable {ab : Bool} {acc : List (List Nat)} {c z rt : List Nat}
theorem stepC_1 (b : (!(!c.isEmpty)) = true) : stepC ab acc c = acc := by unfold stepC; rw [if_pos (by simp at b; simp [b])]
theorem stepC_2 (b : (c == [46]) = true) : stepC ab acc c = acc := by unfold stepC; rw [if_pos (by simp [b])]
theorem stepC_0 (b1 : (!(!c.isEmpty)) = false) (b2 : (c == [46]) = false) : stepC ab acc c = if (c != [46, 46] || (!ab && acc.isEmpty) || acc.getLast? == some [46, 46]) = true then acc ++ [c] else acc.dropLast := by
  unfold stepC; rw [if_neg (by rw [b2]; simpa using b1)]
theorem stepC_3 (b1 : (!(!c.isEmpty)) = false) (b2 : (c == [46]) = false) (b3 : (c != [46, 46]) = true) : stepC ab acc c = acc ++ [c] := by rw [stepC_0 b1 b2, if_pos (by rw [b3]; rfl)]
theorem stepC_3' (b1 : (!(!c.isEmpty)) = false) (b2 : (c == [46]) = false) (b3 : (c != [46, 46]) = true) : stepC ab [] c = [c] := stepC_3 b1 b2 b3
theorem stepC_4 (b1 : (!(!c.isEmpty)) = false) (b2 : (c == [46]) = false) (b4 : (!(!rt.isEmpty)) = true) : stepC (!rt.isEmpty) [] c = [c] := by rw [stepC_0 b1 b2, if_pos (by rw [b4]; simp)]; rfl
theorem stepC_5 (b1 : (!(!c.isEmpty)) = false) (b2 : (c == [46]) = false) (b3 : (c != [46, 46]) = false) (b4 : (!(!rt.isEmpty)) = false) : stepC (!rt.isEmpty) [] c = [] := by rw [stepC_0 b1 b2, if_neg (by rw [b3, b4]; simp)]; rfl
theorem stepC_6 (b1 : (!(!c.isEmpty)) = false) (b2 : (c == [46]) = false) (b6 : (z == [46, 46]) = true) : stepC ab (acc ++ [z]) c = acc ++ [z] ++ [c] := by rw [stepC_0 b1 b2, if_pos (by rw [beq_iff_eq.mp b6]; simp)]
theorem stepC_7 (b1 : (!(!c.isEmpty)) = false) (b2 : (c == [46]) = false) (b3 : (c != [46, 46]) = false) (b6 : (z == [46, 46]) = false) : stepC ab (acc ++ [z]) c = acc := by
  rw [stepC_0 b1 b2, if_neg (by rw [b3]; simp; simpa using b6)]; simp
end
inductive NpJ (p rt : List Nat) (nc lc : Addr) (i : Nat) (fr : Fm) (led : Lg) : Prop
  | mk (cs : TL) (t1 t2 t3 t4 t5 t6 : Tok) (rest : Fm)
    (h1 : led = [(nc, IsLs (vsOf cs))])
    (h2 : fr = [(Str.ofString "path", Value.str (S (rootL p).2) t1), (Str.ofString "sep", Value.str (S [47]) t2), (Str.ofString "dot", Value.str (S [46]) t3), (Str.ofString "dotdot", Value.str (S [46, 46]) t4), (Str.ofString "_", Value.str (S []) t5), (Str.ofString "initial_slashes", Value.str (S rt) t6), (Str.ofString "comps", .ref lc), (Str.ofString "new_comps", .ref nc)] ++ rest)
    (h3 : Opt1 (Str.ofString "comp") rest)
    (h4 : cs.map (·.1) = ((compsOf p).take i).foldl (stepC (!rt.isEmpty)) [])
section
variable {w : World} {mg mb : Str → Option Value} {g0 g h h' : Heap} {A : Around} {gn : Array GenState} {dr : Drawn} {tk : Nat} {os : OsState} {E : Value → Shared → Prop}
theorem truE {l : Addr} {y : Value} {its : List Value} {Q : Bool → Shared → Prop} (hl : ∃ o, h.get? l = some o ∧ IsLs (its ++ [y]) o) (hsz : its.length < 1000) (hq : ∀ tk', Q true ⟨h, gn, dr, tk', os⟩) : wpAny (model PR w) A (truthy (.ref l)) Q E ⟨h, gn, dr, tk, os⟩ :=
  truL (IsLs.isList hl) (by simp; omega) (by rw [show (!(its ++ [y]).isEmpty) = true by simp]; exact hq)
end
end
local macro_rules | `(tactic| ktr_rel) => `(tactic| first
  | ((with_reducible show wpAny _ _ (exec (Stmt.Expr _ _) _) _ _ _); (refine' exE ?he ?_ ?hs); (case he => assumption); (case hs => rfl))
  | ((with_reducible show wpAny _ _ (exec (Stmt.Assign [Expr.Tuple _ _ _] _ _) _) _ _ _); (refine' Assign_Tuple ?_ ?hs ?hw); (case hs => rfl); (case hw => rfl))
  | ((with_reducible show wpAny _ _ (assign (Expr.Tuple _ _ _) _ (Value.ref _)) _ _ _); (refine' asgT ?H ?ht ?hn ?hst ?_); (case H => assumption); (case ht => assumption); (case hn => rfl); (case hst => rfl); intro _ _)
  | ((with_reducible show wpAny _ _ (assignInOrder _ _) _ _ _); first | refine assignInOrder_cons ?_ | refine assignInOrder_nil ?_)
  | ((with_reducible show wpAny _ _ (truthy (Value.ref _)) _ _ _); first | ((with_reducible refine' truN ?hl ?_); (case hl => keq_hits); intro _) | ((with_reducible refine' truE ?hl ?hs ?_); (case hl => keq_hits); (case hs => assumption); intro _))
  | ((with_reducible show wpAny _ _ (unaryOp UnaryOp.USub (Value.int _ _)) _ _ _); refine oNegI ?_; intro _ _)
  | ((with_reducible show wpAny _ _ (eval (Expr.UnaryOp _ _ _) _) _ _ _); refine wpAny_UnaryOp ?_)
  | ((with_reducible show wpAny _ _ (eval (Expr.BoolOp BoolOp.Or (_ :: _ :: _) _) _) _ _ _); refine BoolOp_or ?_)
  | ((with_reducible show wpAny _ _ (eval (Expr.BoolOp _ [_] _) _) _ _ _); refine BoolOp_one ?_)
  | ((with_reducible show wpAny _ _ (subscriptTail _ _ (Value.ref _) (Value.int (-1) _)) _ _ _); (refine' ixLast ?hl ?hx ?hs ?_); (case hl => kp_flats); (case hx => exact List.getLast?_concat); (case hs => rfl))
  | ((with_reducible show wpAny _ _ (call (Value.ref 122) _) _ _ _); (refine' wpW (splitroot_spec ?G (St.keep ?H) ?hl ?_)); (case H => assumption); (case G => assumption); (case hl => assumption); intro _ _ _ _ _ _ _ x1 x2 nw k ht; (have H := St.take (by assumption) k x1 x2 nw); (have G := Gd.keeps (by assumption) x1); clear nw k x2)
  | ((with_reducible show wpAny _ _ (call (Value.builtin "str.split") _) _ _ _); (refine' oSplit ?H ?hb ?ha ?_); (case H => assumption); (case hb => decide); (case ha => omega))
  | ((with_reducible show wpAny _ _ (call (Value.builtin "list.append") _) _ _ _); (refine' apL 0 ?H ?hi ?hs ?_); (case H => assumption); (case hi => rfl); (case hs => lcg_off); intro _ H; (dsimp only [List.set] at H))
  | ((with_reducible show wpAny _ _ (call (Value.builtin "list.pop") [_]) _ _ _); (refine' popL 0 ?H ?hi ?hs ?_); (case H => assumption); (case hi => rfl); (case hs => omega); intro _ H; (dsimp only [List.set] at H)))
section
section
variable {w : World} {mg mb : Str → Option Value} {g0 g h : Heap} {tk : Nat} {gn : Array GenState} {dr : Drawn} {os : OsState}
set_option maxHeartbeats 4000000 in
theorem normpath_spec {p : List Nat} {t : Tok} {Q : Value → Shared → Prop} (G : Gd w mg mb g0) (X : Ext g0 h) (hok : normOk p = true) (hq : ∀ h' tk' t', Ext h h' → Q (.str (S (normL p)) t') ⟨h', gn, dr, tk', os⟩) :
    wpAny (model PR w) (AW 820 8200) (call (.ref 136) [.str (S p) t]) Q NE ⟨h, gn, dr, tk, os⟩ := by
  unfold normOk at hok
  simp only [Bool.and_eq_true, decide_eq_true_eq, List.all_eq_true] at hok
  obtain ⟨⟨⟨⟨⟨⟨o1, o2⟩, o3⟩, o4⟩, o4'⟩, o5⟩, o6⟩ := hok
  refine' call_def (fr := [(Str.ofString "path", .str (S p) t)]) G X [] ?ho ?hcd ?hb ?hbind ?hfr ?hks ?hcl (fun _ q => nomatch q) List.nodup_nil ?main ?hd ?hcell ?hloc ?hco ?hgen ?hk ?hgl ?hbn
  keq_rows
  intro g L h₁ tk₁ env he G' X' H K'
  dsimp only at he
  have hq' : ∀ r h' tk' t', r = normL p → Ext g h' → Q (.str (S r) t') ⟨h', gn, dr, tk', os⟩ := by rintro r h' tk' t' rfl x; exact hq h' tk' t' (K'.ext.trans x)
  have o1' : p.length ≤ 10000 := by omega
  repeat' ktr_rel
  · rename (!(!List.isEmpty _)) = true => b1
    refine hq' _ _ _ _ ?_ (St.keep (by assumption))
    unfold normL
    rw [if_pos (by simpa using b1)]
  · rename (!(!List.isEmpty _)) = false => b1
    rename Ext g _ => x1
    intro g3 lc ts h₃ tk₃ x3 H₃ hlc hts k3 n3
    have G3 := (G'.keeps x1).keeps x3
    clear H
    have hts' : ts.map (·.1) = compsOf p := hts
    have htl : ts.length ≤ 1000 := by rw [← hts', List.length_map] at o2; exact o2
    repeat' ktr_rel
    clear H₃; rename St g3 _ _ _ _ => H₃
    refine newL (L := L) ?_
    repeat' ktr_rel
    refine ⟨Nat.le_of_ble_eq_true rfl, _, _, _, _, _, rfl, H₃, ?_⟩
    intro nc h₄ H₄
    dsimp only [List.nil_append] at H₄
    clear H₃
    repeat' ktr_rel
    clear H₄; rename St g3 _ _ _ _ => H₄
    generalize hrt : (rootL p).1 = rt at *
    refine for_list (items := (vsOf ts).toArray) (J := NpJ p rt nc lc) H₄ hlc ?hiter ?hJ ?turn ?fin ?hr ?ht
    case hiter => intro Q' hQ'; ktr_rel; exact hQ' _
    case hJ => exact ⟨[], _, _, _, _, _, _, [], rfl, rfl, .inl rfl, rfl⟩
    case hr =>
      intro i v _
      exact .inr ⟨_, _, rfl⟩
    case ht => exact .inl ⟨_, _, rfl⟩
    case turn =>
      rintro i v g' h₅ tk₅ fr₁ led₁ hv x' ⟨cs, t1, t2, t3, t4, t5, t6, rest, rfl, rfl, hrest, hcs⟩ H'
      obtain ⟨⟨c, tc⟩, hc, rfl⟩ : ∃ q : List Nat × Tok, ts[i]? = some q ∧ v = .str (S q.1) q.2 := by
        simp only [vsOf, List.getElem?_toArray, List.getElem?_map, Option.map_eq_some_iff] at hv
        obtain ⟨q, a1, a2⟩ := hv
        exact ⟨q, a1, a2.symm⟩
      have hci : (compsOf p)[i]? = some c := by rw [← hts', List.getElem?_map, hc]; rfl
      have hcl : c.length ≤ 1000 := o3 c (List.mem_of_getElem? hci)
      have step : ((compsOf p).take (i + 1)).foldl (stepC (!rt.isEmpty)) [] = stepC (!rt.isEmpty) (cs.map (·.1)) c := by
        rw [List.take_add_one, hci, List.foldl_append, hcs]; rfl
      have hlen : cs.length ≤ 1000 := by
        have := stepC_len (!rt.isEmpty) ((compsOf p).take i) []
        rw [← hcs, List.length_map, List.length_nil] at this
        have := List.length_take_le' i (compsOf p)
        omega
      refine asg1 H' he hrest rfl rfl ?_
      intro h₆ tk₆ H₆
      dsimp only [List.cons_append, List.nil_append] at H₆
      clear H₄ H'
      have G4 := G3.keeps x'
      have fin : ∀ (cs' : TL) (vs' : List Value) (hh : Heap), vs' = vsOf cs' → cs'.map (·.1) = stepC (!rt.isEmpty) (cs.map (·.1)) c → St g' L hh [(Str.ofString "path", Value.str (S (rootL p).2) t1), (Str.ofString "sep", Value.str (S [47]) t2), (Str.ofString "dot", Value.str (S [46]) t3), (Str.ofString "dotdot", Value.str (S [46, 46]) t4), (Str.ofString "_", Value.str (S []) t5), (Str.ofString "initial_slashes", Value.str (S rt) t6), (Str.ofString "comps", .ref lc), (Str.ofString "new_comps", .ref nc), (Str.ofString "comp", .str (S c) tc)] [(nc, IsLs vs')] →
          NpJ p rt nc lc (i + 1) [(Str.ofString "path", Value.str (S (rootL p).2) t1), (Str.ofString "sep", Value.str (S [47]) t2), (Str.ofString "dot", Value.str (S [46]) t3), (Str.ofString "dotdot", Value.str (S [46, 46]) t4), (Str.ofString "_", Value.str (S []) t5), (Str.ofString "initial_slashes", Value.str (S rt) t6), (Str.ofString "comps", .ref lc), (Str.ofString "new_comps", .ref nc), (Str.ofString "comp", .str (S c) tc)] [(nc, IsLs vs')] := by
        rintro cs' _ _ rfl e _
        exact ⟨cs', t1, t2, t3, t4, t5, t6, [(Str.ofString "comp", .str (S c) tc)], rfl, rfl, .inr ⟨_, rfl⟩, by rw [step, e]⟩
      rcases List.eq_nil_or_concat cs with rfl | ⟨ini, y, rfl⟩
      · have hv0 : vsOf [] = [] := rfl
        rw [hv0] at H₆
        repeat' ktr_rel
        · refine lp_cont (by assumption) (fin [] _ _ rfl (stepC_1 (by assumption)).symm (by assumption))
        · refine lp_cont (by assumption) (fin [] _ _ rfl (stepC_2 (by assumption)).symm (by assumption))
        · refine lp_next (by assumption) (fin [(c, tc)] _ _ rfl (stepC_3' (by assumption) (by assumption) (by assumption)).symm (by assumption))
        · refine lp_next (by assumption) (fin [(c, tc)] _ _ rfl (stepC_4 (by assumption) (by assumption) (by assumption)).symm (by assumption))
        · refine lp_next (by assumption) (fin [] _ _ rfl (stepC_5 (by assumption) (by assumption) (by assumption) (by assumption)).symm (by assumption))
      · have hv1 : vsOf (ini ++ [y]) = vsOf ini ++ [Value.str (S y.1) y.2] := by simp [vsOf]
        have hv2 : vsOf ini ++ [Value.str (S y.1) y.2] ++ [Value.str (S c) tc] = vsOf (ini ++ [y] ++ [(c, tc)]) := by simp [vsOf]
        rw [List.concat_eq_append, hv1] at H₆
        rw [List.concat_eq_append] at fin hlen
        have hini : (vsOf ini).length < 1000 := by simp [vsOf] at hlen ⊢; omega
        have em : (ini ++ [y]).map (·.1) = ini.map (·.1) ++ [y.1] := by simp
        have em2 : (ini ++ [y] ++ [(c, tc)]).map (·.1) = ini.map (·.1) ++ [y.1] ++ [c] := by simp
        repeat' ktr_rel
        · refine lp_cont (by assumption) (fin (ini ++ [y]) _ _ hv1.symm (stepC_1 (by assumption)).symm (by assumption))
        · refine lp_cont (by assumption) (fin (ini ++ [y]) _ _ hv1.symm (stepC_2 (by assumption)).symm (by assumption))
        · refine lp_next (by assumption) (fin (ini ++ [y] ++ [(c, tc)]) _ _ hv2 ?_ (by assumption))
          rw [em2, em]; exact (stepC_3 (by assumption) (by assumption) (by assumption)).symm
        all_goals first
          | (refine lp_next (by assumption) (fin (ini ++ [y] ++ [(c, tc)]) _ _ hv2 ?_ (by assumption)); rw [em2, em]; exact (stepC_6 (by assumption) (by assumption) (by assumption)).symm)
          | (refine lp_next (by assumption) (fin ini _ _ rfl ?_ (by assumption)); rw [em]; exact (stepC_7 (by assumption) (by assumption) (by assumption) (by assumption)).symm)
    case fin =>
      rintro h₅ tk₅ fr₁ led₁ ⟨cs, t1, t2, t3, t4, t5, t6, rest, rfl, rfl, hrest, hcs⟩ H'
      have hsz : (vsOf ts).toArray.size = (compsOf p).length := by simp [vsOf, ← hts']
      rw [hsz, List.take_length] at hcs
      have hcs' : cs.map (·.1) = normC p := by rw [hcs]; unfold normC; rw [hrt]
      have hst : cs.map (fun p => S p.1) = (normC p).map S := by rw [← hcs', List.map_map]; rfl
      have hJ : normJ p = rt ++ Lx (Txt.join (S [47]) ((normC p).map S)) := by unfold normJ; rw [hrt]
      have hN1 : (!(normJ p).isEmpty) = true → normL p = normJ p := fun e => by
        unfold normL; rw [if_neg (by simpa using b1), if_neg (by simpa using e)]
      have hN2 : (!(normJ p).isEmpty) = false → normL p = [46] := fun e => by
        unfold normL; rw [if_neg (by simpa using b1), if_pos (by simpa using e)]
      have xx : Ext g g3 := x1.trans x3
      rw [hJ] at hN1 hN2
      clear H₄
      rcases hrest with rfl | ⟨v, rfl⟩
      all_goals (simp only [List.cons_append, List.nil_append, List.append_nil] at H')
      all_goals (repeat' ktr_rel)
      all_goals (clear H'; rename St g3 _ _ _ _ => H'; refine oJoin (ts := cs) (IsLs.isList (H'.get 0 rfl)) (by rw [hst]; exact o5) ?_; intro _ _; rw [hst])
      all_goals (repeat' ktr_rel)
      all_goals split
      all_goals (rename_i bb; repeat' ktr_rel)
      · exact hq' _ _ _ _ (hN1 bb).symm (xx.trans (St.keep (by assumption)))
      · exact hq' _ _ _ _ (hN2 (by simpa using bb)).symm (xx.trans (St.keep (by assumption)))
      · exact hq' _ _ _ _ (hN1 bb).symm (xx.trans (St.keep (by assumption)))
      · exact hq' _ _ _ _ (hN2 (by simpa using bb)).symm (xx.trans (St.keep (by assumption)))
end

end
section
section
variable {w : World} {g h : Heap} {L : Addr} {gn : Array GenState} {dr : Drawn} {os : OsState} {tk : Nat} {fr : Fm} {led : Lg} {Q : Flow → Shared → Prop} {env : Env} {d u : Nat}
/-- what a for over a list asks, when the list is at hand -/
structure ForL (w : World) (d u : Nat) (env : Env) (gn : Array GenState) (dr : Drawn) (os : OsState) (L : Addr) (target : Expr) (body orelse : List Stmt) (Q : Flow → Shared → Prop) (v : Value) (s : Shared) : Prop where
  out : ∃ l h tk g items fr led, ∃ J : Nat → Fm → Lg → Prop, v = .ref l ∧ s = ⟨h, gn, dr, tk, os⟩ ∧ St g L h fr led ∧ g.IsList l items ∧ J 0 fr led ∧
    (∀ i v g' h₁ tk₁ fr₁ led₁, items[i]? = some v → Ext g g' → J i fr₁ led₁ → St g' L h₁ fr₁ led₁ →
      wpAny (model PR w) (AW d u) (assign target env v) (fun _ s₂ => wpAny (model PR w) (AW d u) (execs body env) (Lp g' L gn dr os (J (i + 1)) Q) NE s₂) NE ⟨h₁, gn, dr, tk₁, os⟩) ∧
    (∀ h₁ tk₁ fr₁ led₁, J items.size fr₁ led₁ → St g L h₁ fr₁ led₁ → wpAny (model PR w) (AW d u) (execs orelse env) Q NE ⟨h₁, gn, dr, tk₁, os⟩) ∧
    (∀ (i : Nat) (v : Value), items[i]? = some v → (∃ a, v = Value.ref a) ∨ ∃ x p, target = Expr.Name x p)
theorem for_listE {target iter : Expr} {body orelse : List Stmt} {pos : Pos}
    (hw : wpAny (model PR w) (AW d u) (eval iter env) (ForL w d u env gn dr os L target body orelse Q) NE ⟨h, gn, dr, tk, os⟩)
    (ht : (∃ x p, target = Expr.Name x p) ∨ ∃ es k p, target = Expr.Tuple es k p)
    (hs : ∀ x, foldedSetIterable iter env x = pure x := by intro _; rfl) :
    wpAny (model PR w) (AW d u) (exec (.For target iter body orelse pos) env) Q NE ⟨h, gn, dr, tk, os⟩ := by
  refine wpAny_For (wpAny_mono hw (fun v₀ s₀ q => ?_) fun _ _ x => x) hs
  obtain ⟨l, h, tk, g, items, fr, led, J, rfl, rfl, H, hl, hJ, turn, fin, hr⟩ := q.out
  refine wpAny_pyIter_list (items := items) (let ⟨o, e, r⟩ := hl; ⟨o, H.keep _ _ e, r⟩) ?_
  have HP : St g L (h.push { cls := .type "list_iterator", data := .fields #[.ref l, .int 0 0] }) fr led := H.ext fun b o e => Heap.get?_push_of_some _ e
  have fresh : h.get? h.objs.size = none := none_ge (Nat.le_refl _)
  refine for_core (n := items.size) (P := fun i v => items[i]? = some v) (WI := fun i o => o.cls = .type "list_iterator" ∧ o.data = .fields #[.ref l, .int i 0]) (J := J) HP ⟨_, Heap.get?_push_size _ rfl, rfl, rfl⟩ (H.no fresh).1 (H.no fresh).2 (Ext.none H.keep fresh) (Q := Q) (fun _ _ q => q) ?_ ?_ ?_ hJ
    (fun i v g' h₁ tk₁ fr₁ led₁ _ hv => turn i v g' h₁ tk₁ fr₁ led₁ hv) fin
  · rintro i h₁ tk₁ Q' hi x₁ ⟨o, eo, w1, w2⟩ hQ
    have hl₁ : h₁.IsList l items := let ⟨o, e, r⟩ := hl; ⟨o, x₁ _ _ e, r⟩
    refine wpAny_pyNext_list_item ⟨o, eo, w1, w2⟩ hl₁ (Array.getElem?_eq_getElem hi) fun h' hit hsb => ?_
    obtain ⟨o', eo', r1, r2⟩ := hit
    exact hQ _ h' tk₁ (Array.getElem?_eq_getElem hi) ⟨o', eo', r1, r2⟩ fun b o hb e => (hsb.2 b hb).trans e
  · rintro h₁ tk₁ Q' x₁ ⟨o, eo, w1, w2⟩ hQ
    have hl₁ : h₁.IsList l items := let ⟨o, e, r⟩ := hl; ⟨o, x₁ _ _ e, r⟩
    exact wpAny_pyNext_list_end rfl ⟨o, eo, w1, w2⟩ hl₁ (by simp) fun h' he => hQ h' tk₁ fun b o hb e => he b o hb e
  · rintro i v s₁ Q' hv ⟨o, eo, w1, w2⟩ hq
    rcases ht with ⟨x, p, rfl⟩ | ⟨es, k, p, rfl⟩
    · exact wpAny_pure hq
    · rcases hr i v hv with ⟨a, rfl⟩ | ⟨x, p', e⟩
      · exact wpAny_letOwnedTupleGo_listiter ⟨o, eo, w1, w2⟩ hq
      · cases e
end

end
section
theorem slicePick_sl (its : List Value) (lo hi : Option Int) : slicePick its.toArray lo hi none = (sl its lo hi).toArray := by
  rw [slicePick_plain]
  unfold sl
  rw [List.drop_take]
  congr 1
  cases lo <;> cases hi <;> simp [clipZ, clipAt]
theorem sl_map {α β : Type} (f : α → β) (l : List α) (lo hi : Option Int) : sl (l.map f) lo hi = (sl l lo hi).map f := by
  unfold sl
  rw [List.length_map, List.map_drop, List.map_take]
section
variable {w : World} {g g' g0 h h' : Heap} {L : Addr} {tk : Nat} {gn : Array GenState} {dr : Drawn} {os : OsState} {fr : Fm} {led : Lg} {env : Env} {A : Around} {E : Value → Shared → Prop}
/-- a slice of a list: a new list -/
theorem oSliceL {value slice : Expr} {l : Addr} {its : List Value} {vl vu vs : Value} {lo hi st : Option Int} {Q : Value → Shared → Prop} (H : St g L h fr led) (hl : h.IsList l its.toArray) (hsz : its.length ≤ 100000) (pl : IsPart vl lo) (pu : IsPart vu hi) (ps : IsPart vs st) (h0 : st ≠ some 0)
    (hs : ∀ i, ∃ ops, subscripted slice false (.ref l) (.ref i) = operate ops (getItem (.ref l) (.ref i)))
    (hq : ∀ h' a, St g L h' fr (led ++ [(a, IsLs (slicePick its.toArray lo hi st).toList)]) → Ext h h' → h.get? a = none → Q (.ref a) ⟨h', gn, dr, tk, os⟩) :
    wpAny (model PR w) A (subscriptTail value slice (.ref l) (.ref h.objs.size)) Q E ⟨h.push { cls := .type "slice", data := .fields #[vl, vu, vs] }, gn, dr, tk, os⟩ := by
  obtain ⟨ops, e⟩ := hs h.objs.size
  have x1 : Ext h (h.push { cls := .type "slice", data := .fields #[vl, vu, vs] }) := fun b o e => Heap.get?_push_of_some _ e
  refine tail_any (hl.push _).typeIs slot_list_getitem.lookup (wpAny_getItem_list_slice (hl.push _) (Heap.IsSliceOf.new ..) pl pu ps h0 ?_ (by rw [sizeLine_eq]; simp; omega)) e
  have H2 := (H.ext x1).alloc { cls := .type "list", data := .seq (slicePick its.toArray lo hi st) } (IsLs (slicePick its.toArray lo hi st).toList) ⟨0, by simp⟩
  refine hq _ _ H2 (x1.trans fun b o e => Heap.get?_push_of_some _ e) (none_ge ?_)
  rw [Heap.size_push]; exact Nat.le_succ _
/-- a list and a list -/
theorem oAddL {l b : Addr} {xs ys : List Value} {Q : Value → Shared → Prop} (H : St g L h fr led) (hl : ∃ o, h.get? l = some o ∧ IsLs xs o) (hb : ∃ o, h.get? b = some o ∧ IsLs ys o) (hsz : xs.length + ys.length ≤ 100000)
    (hq : ∀ h' a, St g L h' fr (led ++ [(a, IsLs (xs ++ ys))]) → Ext h h' → h.get? a = none → Q (.ref a) ⟨h', gn, dr, tk, os⟩) : wpAny (model PR w) A (binaryOp .Add (.ref l) (.ref b)) Q E ⟨h, gn, dr, tk, os⟩ := by
  obtain ⟨o1, e1, n1, rfl⟩ := hl
  obtain ⟨o2, e2, n2, rfl⟩ := hb
  refine P.add_list e1 e2 ?_ (by rw [sizeLine_eq]; simp; omega)
  exact hq _ _ (H.alloc _ (IsLs (xs ++ ys)) ⟨0, by simp⟩) (fun b o e => Heap.get?_push_of_some _ e) (none_ge (Nat.le_refl _))
theorem oSubI {a b : Int} {t u : Tok} {Q : Value → Shared → Prop} (hq : ∀ t tk', Q (.int (a - b) t) ⟨h, gn, dr, tk', os⟩) : wpAny (model PR w) A (binaryOp .Sub (.int a t) (.int b u)) Q E ⟨h, gn, dr, tk, os⟩ := sub_int (hq _ _)
end
def partsL (x : List Nat) : List (List Nat) := (Txt.split (S x) (S [47])).map Lx
def stepG (acc : List (List Nat)) (c : List Nat) : List (List Nat) := if c == [46, 46] then sl acc none (some (-1)) else if (c != [] && c != [46]) = true then acc ++ [c] else acc
def frontL (way : List Nat) : Int := (way.length : Int) - ((Lx (Txt.lstripChars (S way) (S [47]))).length : Int)
def goalN (home way : List Nat) : List (List Nat) := (partsL way).foldl stepG (if frontL way > 0 then [] else sl (partsL home) (some 1) (some (-1)))
def goalL (home way : List Nat) : List Nat := (if frontL way == 2 then [47, 47] else [47]) ++ Lx (Txt.join (S [47]) ((goalN home way).map S))
def goalOk (home way : List Nat) : Bool := decide (home.length ≤ 1000) && decide (way.length ≤ 1000) && decide ((partsL way).length ≤ 1000) && decide ((partsL home).length ≤ 1000) && decide ((Lx (Txt.lstripChars (S way) (S [47]))).length ≤ 1000) && JoinOk (S [47]) ((goalN home way).map S) && decide ((Lx (Txt.join (S [47]) ((goalN home way).map S))).length ≤ 10000)
theorem stepG_len : ∀ (l acc : List (List Nat)), (l.foldl stepG acc).length ≤ acc.length + l.length
  | [], acc => by simp
  | c :: r, acc => by
    have h1 := stepG_len r (stepG acc c)
    have h2 : (stepG acc c).length ≤ acc.length + 1 := by
      unfold stepG
      split
      · have := sl_le acc none (some (-1)); omega
      · split
        · simp
        · omega
    simp only [List.foldl_cons, List.length_cons]; omega
local macro_rules | `(tactic| ktr_rel) => `(tactic| first
  | ((with_reducible show wpAny _ _ (binaryOp Operator.Sub (Value.int _ _) (Value.int _ _)) _ _ _); (refine oSubI ?_); intro _ _)
  | ((with_reducible show wpAny _ _ (compareOp CmpOp.Gt (Value.int _ _) (Value.int _ _)) _ _ _); (refine gt_int ?_))
  | ((with_reducible show wpAny _ _ (eval (Expr.Subscript _ (Expr.Slice _ _ _ _) _) _) _ _ _); refine Subscript_ ?_)
  | ((with_reducible show wpAny _ _ (eval (Expr.Slice _ _ _ _) _) _ _ _); refine wpAny_Slice ?_))
section
variable {w : World} {mg mb : Str → Option Value} {g0 g h : Heap} {tk : Nat} {gn : Array GenState} {dr : Drawn} {os : OsState}
set_option maxHeartbeats 4000000 in
theorem goal_spec {home way : List Nat} {t t' : Tok} {Q : Value → Shared → Prop} (G : Gd w mg mb g0) (X : Ext g0 h) (hok : goalOk home way = true) (hq : ∀ h' tk' t', Ext h h' → Q (.str (S (goalL home way)) t') ⟨h', gn, dr, tk', os⟩) :
    wpAny (model PR w) (AW 820 8200) (call (.ref 225) [.str (S home) t, .str (S way) t']) Q NE ⟨h, gn, dr, tk, os⟩ := by
  unfold goalOk at hok
  simp only [Bool.and_eq_true, decide_eq_true_eq, List.all_eq_true] at hok
  obtain ⟨⟨⟨⟨⟨⟨o1, o2⟩, o3⟩, o4⟩, o4'⟩, o5⟩, o6⟩ := hok
  refine' call_def (fr := [(Str.ofString "way", .str (S way) t'), (Str.ofString "home", .str (S home) t)]) G X [] ?ho ?hcd ?hb ?hbind ?hfr ?hks ?hcl (fun _ q => nomatch q) List.nodup_nil ?main ?hd ?hcell ?hloc ?hco ?hgen ?hk ?hgl ?hbn
  keq_rows
  intro g L h₁ tk₁ env he G' X' H K'
  dsimp only at he
  have hq' : ∀ r h' tk' t', r = goalL home way → Ext g h' → Q (.str (S r) t') ⟨h', gn, dr, tk', os⟩ := by rintro r h' tk' t' rfl x; exact hq h' tk' t' (K'.ext.trans x)
  repeat' ktr_rel
  intro g3 lp ts h₃ tk₃ x3 H₃ hlp hts k3 n3
  have G3 := G'.keeps x3
  clear H
  have tail : ∀ (nl : Addr) (cs : TL) (t1 t2 t3 : Tok) (hh : Heap) (tk : Nat), cs.map (·.1) = (if frontL way > 0 then [] else sl (partsL home) (some 1) (some (-1))) → St g3 L hh [(Str.ofString "way", Value.str (S way) t1), (Str.ofString "home", Value.str (S home) t2), (Str.ofString "names", .ref nl), (Str.ofString "front", .int (frontL way) t3)] [(nl, IsLs (vsOf cs))] →
      wpAny (model PR w) (AW (820 + 1) (8200 + 3)) (exec ((defBody (PR.main.body.getD 27 (.Pass default))).getD 3 (.Pass default)) env) (Nx (model PR w) (AW (820 + 1) (8200 + 3)) env ((defBody (PR.main.body.getD 27 (.Pass default))).drop 4) (FQ Q)) NE ⟨hh, gn, dr, tk, os⟩ := by
    clear H₃ hts hlp k3 n3
    intro nl cs t1 t2 t3 hh tk hcs0 H
    refine for_listE (L := L) ?_ (.inl ⟨_, _, rfl⟩)
    repeat' ktr_rel
    intro g4 lp2 ts2 h₅ tk₅ x4 H₅ hlp2 hts2 k5 n5
    clear H
    have hts2' : ts2.map (·.1) = partsL way := hts2
    have hsz2 : (vsOf ts2).toArray.size = (partsL way).length := by simp [vsOf, ← hts2']
    have hn0 : cs.length ≤ 1000 := by
      have : (cs.map (·.1)).length ≤ 1000 := by
        rw [hcs0]; split
        · simp
        · have := sl_le (partsL home) (some 1) (some (-1)); omega
      simpa using this
    refine ⟨lp2, h₅, tk₅, g4, (vsOf ts2).toArray, _, _, (fun i fr led => ∃ (nl : Addr) (cs : TL) (t1 t2 t3 : Tok) (rest : Fm), led = [(nl, IsLs (vsOf cs))] ∧ fr = [(Str.ofString "way", Value.str (S way) t1), (Str.ofString "home", Value.str (S home) t2), (Str.ofString "names", .ref nl), (Str.ofString "front", .int (frontL way) t3)] ++ rest ∧ Opt1 (Str.ofString "piece") rest ∧ cs.map (·.1) = ((partsL way).take i).foldl stepG (if frontL way > 0 then [] else sl (partsL home) (some 1) (some (-1)))), rfl, rfl, H₅, hlp2, ?hJ, ?turn, ?fin, fun _ _ _ => .inr ⟨_, _, rfl⟩⟩
    case hJ => exact ⟨nl, cs, _, _, _, [], rfl, rfl, .inl rfl, hcs0⟩
    case turn =>
      rintro i v g' h₆ tk₆ fr₁ led₁ hv x' ⟨nl, cs, t1, t2, t3, rest, rfl, rfl, hrest, hcs⟩ H'
      obtain ⟨⟨c, tc⟩, hc, rfl⟩ : ∃ q : List Nat × Tok, ts2[i]? = some q ∧ v = .str (S q.1) q.2 := by
        simp only [vsOf, List.getElem?_toArray, List.getElem?_map, Option.map_eq_some_iff] at hv
        obtain ⟨q, a1, a2⟩ := hv
        exact ⟨q, a1, a2.symm⟩
      have hci : (partsL way)[i]? = some c := by rw [← hts2', List.getElem?_map, hc]; rfl
      have step : ((partsL way).take (i + 1)).foldl stepG (if frontL way > 0 then [] else sl (partsL home) (some 1) (some (-1))) = stepG (cs.map (·.1)) c := by
        rw [List.take_add_one, hci, List.foldl_append, hcs]; rfl
      have hlen : cs.length ≤ 2000 := by
        have := stepG_len ((partsL way).take i) (if frontL way > 0 then [] else sl (partsL home) (some 1) (some (-1)))
        rw [← hcs, List.length_map, ← hcs0, List.length_map] at this
        have := List.length_take_le' i (partsL way)
        omega
      have hlv : (vsOf cs).length ≤ 2000 := by simpa [vsOf] using hlen
      refine asg1 H' he hrest rfl rfl ?_
      intro h₇ tk₇ H₇
      dsimp only [List.cons_append, List.nil_append] at H₇
      clear H₅ H'
      have fin : ∀ (nl' : Addr) (cs' : TL) (hh : Heap) (led' : Lg), led' = [(nl', IsLs (vsOf cs'))] → cs'.map (·.1) = stepG (cs.map (·.1)) c → St g' L hh [(Str.ofString "way", Value.str (S way) t1), (Str.ofString "home", Value.str (S home) t2), (Str.ofString "names", .ref nl'), (Str.ofString "front", .int (frontL way) t3), (Str.ofString "piece", .str (S c) tc)] led' →
          ∃ (nl : Addr) (cs : TL) (u1 u2 u3 : Tok) (rest : Fm), led' = [(nl, IsLs (vsOf cs))] ∧ ([(Str.ofString "way", Value.str (S way) t1), (Str.ofString "home", Value.str (S home) t2), (Str.ofString "names", .ref nl'), (Str.ofString "front", .int (frontL way) t3), (Str.ofString "piece", .str (S c) tc)] : Fm) = [(Str.ofString "way", Value.str (S way) u1), (Str.ofString "home", Value.str (S home) u2), (Str.ofString "names", .ref nl), (Str.ofString "front", .int (frontL way) u3)] ++ rest ∧ Opt1 (Str.ofString "piece") rest ∧ cs.map (·.1) = ((partsL way).take (i + 1)).foldl stepG (if frontL way > 0 then [] else sl (partsL home) (some 1) (some (-1))) := by
        rintro nl' cs' _ _ rfl e _
        exact ⟨nl', cs', t1, t2, t3, [(Str.ofString "piece", .str (S c) tc)], rfl, rfl, .inr ⟨_, rfl⟩, by rw [step, e]⟩
      repeat' ktr_rel
      · rename (c == _) = true => b1
        refine oSliceL (its := vsOf cs) H₇ (IsLs.isList (H₇.get 0 rfl)) (by omega) .none (.int _ _) .none (by simp) (fun i => ⟨_, rfl⟩) ?_
        intro h₈ nl2 H₈ k8 n8
        rw [slicePick_sl] at H₈
        have e1 : (sl (vsOf cs) none (some (-1))).toArray.toList = vsOf (sl cs none (some (-1))) := by unfold vsOf; rw [sl_map]
        rw [e1] at H₈
        have H₉ := H₈.sub (.cons _ (.cons_cons _ .slnil))
        clear H₇ H₈
        repeat' ktr_rel
        refine lp_next (by assumption) (fin nl2 (sl cs none (some (-1))) _ _ rfl ?_ (by assumption))
        unfold stepG; rw [if_pos b1, ← sl_map]
      · rename (c == _) = false => b1
        rename (c != []) = true => b2
        rename (c != [46]) = true => b3
        refine newL (L := L) ?_
        repeat' ktr_rel
        refine ⟨Nat.le_of_ble_eq_true rfl, _, _, _, _, _, rfl, H₇, ?_⟩
        intro pl h₈ H₈
        refine oAddL H₈ (H₈.get 0 rfl) (H₈.get 1 rfl) (by simp; omega) ?_
        intro h₉ nl2 H₉ k9 n9
        have H₁₀ := H₉.sub (.cons _ (.cons _ (.cons_cons _ .slnil)))
        clear H₇ H₈ H₉
        have e1 : vsOf cs ++ [Value.str (S c) tc] = vsOf (cs ++ [(c, tc)]) := by simp [vsOf]
        rw [e1] at H₁₀
        repeat' ktr_rel
        refine lp_next (by assumption) (fin nl2 (cs ++ [(c, tc)]) _ _ rfl ?_ (by assumption))
        unfold stepG; rw [if_neg (by rw [b1]; simp), if_pos (by rw [b2, b3]; rfl)]; simp
      · rename (c == _) = false => b1
        rename (c != [46]) = false => b3
        refine lp_next (by assumption) (fin nl cs _ _ rfl ?_ (by assumption))
        unfold stepG; rw [if_neg (by rw [b1]; simp), if_neg (by rw [b3]; simp)]
      · rename (c == _) = false => b1
        rename (c != []) = false => b2
        refine lp_next (by assumption) (fin nl cs _ _ rfl ?_ (by assumption))
        unfold stepG; rw [if_neg (by rw [b1]; simp), if_neg (by rw [b2]; simp)]
    case fin =>
      rintro h₆ tk₆ fr₁ led₁ ⟨nl, cs, t1, t2, t3, rest, rfl, rfl, hrest, hcs⟩ H'
      rw [hsz2, List.take_length] at hcs
      have hcs' : cs.map (·.1) = goalN home way := hcs
      have hst : cs.map (fun p => S p.1) = (goalN home way).map S := by rw [← hcs', List.map_map]; rfl
      clear H₅
      rcases hrest with rfl | ⟨v, rfl⟩
      all_goals (simp only [List.cons_append, List.nil_append, List.append_nil] at H')
      all_goals (repeat' ktr_rel)
      all_goals (refine exC ?_)
      all_goals (repeat' ktr_rel)
      all_goals (refine oJoin (ts := cs) (IsLs.isList (H'.get 0 rfl)) (by rw [hst]; exact o5) ?_; intro _ _; rw [hst])
      all_goals (repeat' ktr_rel)
      all_goals (refine hq' _ _ _ _ ?_ (x3.trans (x4.trans (St.keep (by assumption)))); unfold goalL; first | (rename (frontL way == 2) = true => b1; rw [if_pos b1]) | (rename (frontL way == 2) = false => b1; rw [if_neg (by rw [b1]; simp)]))
  repeat' ktr_rel
  refine oSliceL (its := vsOf ts) H₃ (let ⟨o, e, r⟩ := hlp; ⟨o, H₃.keep _ _ e, r⟩) ?_ (.int _ _) (.int _ _) .none (by simp) (fun i => ⟨_, rfl⟩) ?_
  · have : ts.length = (partsL home).length := by unfold partsL; rw [← hts]; simp
    simp [vsOf]; omega
  intro h₄ nl H₄ k4 n4
  rw [slicePick_sl] at H₄
  have e0 : (sl (vsOf ts) (some 1) (some (-1))).toArray.toList = vsOf (sl ts (some 1) (some (-1))) := by unfold vsOf; rw [sl_map]
  have e00 : (-1 : Int) = -1 := rfl
  rw [e0] at H₄
  dsimp only [List.nil_append] at H₄
  clear H₃
  repeat' ktr_rel
  · clear H₄; rename St g3 _ _ _ _ => H₄
    refine newL (L := L) ?_
    repeat' ktr_rel
    refine ⟨Nat.le_of_ble_eq_true rfl, _, _, _, _, _, rfl, H₄, ?_⟩
    intro nl2 h₅ H₅
    have H₆ := H₅.sub (.cons _ (.cons_cons _ .slnil))
    clear H₄ H₅
    repeat' ktr_rel
    clear H₆; rename St g3 _ _ _ _ => H₅
    rename decide (_ > _) = true => b1
    have hcs : (([] : TL).map (·.1)) = if frontL way > 0 then [] else sl (partsL home) (some 1) (some (-1)) := by
      exact (if_pos (c := frontL way > 0) (of_decide_eq_true b1)).symm
    have hc0 : vsOf [] = [] := rfl
    rw [← hc0] at H₅
    exact tail _ _ _ _ _ _ _ hcs H₅
  · clear H₄; rename St g3 _ _ _ _ => H₅
    rename decide (_ > _) = false => b1
    have hcs : ((sl ts (some 1) (some (-1))).map (·.1)) = if frontL way > 0 then [] else sl (partsL home) (some 1) (some (-1)) := by
      rw [if_neg (c := frontL way > 0) (of_decide_eq_false b1), ← sl_map, hts]; rfl
    exact tail _ _ _ _ _ _ _ hcs H₅
end

end
section
def menuW : List (List Nat) := [[102], [103, 32, 104], [120, 92, 34]]
def menuY : List (List Nat) := [[103], [46, 46, 47, 102], [102], [100, 47, 102], [46, 47, 101, 47, 47, 103], [101, 47, 46, 46, 47, 103], [47, 100, 47, 101, 47, 103], [46, 46, 47, 46, 46, 47, 100, 47, 103], [47, 47, 102]]
def itemW (f : Nat) : List Nat := if f < 3 then menuW.getD f [] else [60]
def itemY (f : Nat) : List Nat := if f < 3 then [] else menuY.getD (f - 3) []
section
variable {w : World} {g h h' : Heap} {tk : Nat} {gn : Array GenState} {dr : Drawn} {os : OsState} {A : Around} {E : Value → Shared → Prop}
theorem ixLT {value slice : Expr} {l : Addr} {its : List Value} {k : Int} {u : Tok} {c : List Nat} {Q : Value → Shared → Prop} (hl : h.IsList l its.toArray) (h0 : 0 ≤ k) (hh : k < 1000000) (hx : ∃ t, its[k.toNat]? = some (.str (S c) t))
    (hs : subscripted slice false (.ref l) (.int k u) = operate [.ref l, .int k u] (getItem (.ref l) (.int k u))) (hq : ∀ t, Q (.str (S c) t) ⟨h, gn, dr, tk, os⟩) : wpAny (model PR w) A (subscriptTail value slice (.ref l) (.int k u)) Q E ⟨h, gn, dr, tk, os⟩ := by
  obtain ⟨t, e⟩ := hx
  exact ixL hl h0 hh e hs (hq t)
end
local macro_rules | `(tactic| ktr_rel) => `(tactic| first
  | ((with_reducible show wpAny _ _ (binaryOp Operator.Sub (Value.int _ _) (Value.int _ _)) _ _ _); (refine oSubI ?_); intro _ _))
section
variable {w : World} {mg mb : Str → Option Value} {g0 g h : Heap} {tk : Nat} {gn : Array GenState} {dr : Drawn} {os : OsState}
set_option maxHeartbeats 4000000 in
theorem item_spec {f : Int} {t : Tok} {Q : Value → Shared → Prop} (G : Gd w mg mb g0) (X : Ext g0 h) (f0 : 0 ≤ f) (f1 : f < 12)
    (hq : ∀ a g2 h' tk' t1 t2, Ext g0 g2 → Ext g2 h' → Nw g0 h g2 → Ext h h' → g2.IsTuple a #[.str (S (itemW f.toNat)) t1, .str (S (itemY f.toNat)) t2] → Q (.ref a) ⟨h', gn, dr, tk', os⟩) :
    wpAny (model PR w) (AW 820 8200) (call (.ref 190) [.int f t]) Q NE ⟨h, gn, dr, tk, os⟩ := by
  refine' call_def (fr := [(Str.ofString "figure", .int f t)]) G X [] ?ho ?hcd ?hb ?hbind ?hfr ?hks ?hcl (fun _ q => nomatch q) List.nodup_nil ?main ?hd ?hcell ?hloc ?hco ?hgen ?hk ?hgl ?hbn
  keq_rows
  intro g L h₁ tk₁ env he G' X' H K'
  dsimp only at he
  have fin : ∀ {h' : Heap} {fr' led'} {r1 r2 : List Nat} {t1 t2 : Tok}, St g L h' fr' led' → r1 = itemW f.toNat → r2 = itemY f.toNat → ∀ g'' a h₂ tk', Ext g g'' → St g'' L h₂ fr' led' → g''.IsTuple a [Value.str (S r1) t1, Value.str (S r2) t2].toArray → h'.get? a = none → Ext h' h₂ → Q (.ref a) ⟨h₂, gn, dr, tk', os⟩ := by
    rintro h' fr' led' r1 r2 t1 t2 H1 rfl rfl g'' a h₂ tk' x1 H2 ht n k
    have kk : Ext h h' := K'.ext.trans H1.keep
    obtain ⟨g2, a1, a2, a3, a4⟩ := H2.out (X'.trans x1) h
    obtain ⟨o, e, r⟩ := ht
    exact hq a g2 h₂ tk' t1 t2 a1 a2 a3 (kk.trans k) ⟨o, a4 _ _ e (fresh_of kk n), r⟩
  repeat' ktr_rel
  · rename decide (f < 3) = true => b1
    have b1' : f < 3 := of_decide_eq_true b1
    refine newT (L := L) ?_
    repeat' ktr_rel
    refine newL (L := L) ?_
    repeat' ktr_rel
    refine ⟨Nat.le_of_ble_eq_true rfl, _, _, _, _, _, rfl, H, ?_⟩
    intro l h₂ H₂
    dsimp only [List.nil_append] at H₂
    repeat' ktr_rel
    refine ixLT (c := itemW f.toNat) (IsLs.isList (H₂.get 0 rfl)) f0 (by omega) ?_ rfl ?_
    · rcases (by omega : f = 0 ∨ f = 1 ∨ f = 2) with rfl | rfl | rfl <;> exact ⟨_, rfl⟩
    intro t9
    repeat' ktr_rel
    refine ⟨Nat.le_of_ble_eq_true rfl, _, _, _, _, _, rfl, H₂, ?_⟩
    intro g2 tp h₃ x2 H₃ htp n2 k2
    repeat' ktr_rel
    refine fin H₂ rfl ?_ _ _ _ _ x2 H₃ htp n2 k2
    unfold itemY; rw [if_pos (by omega)]
  · rename decide (f < 3) = false => b1
    have b1' : ¬ f < 3 := of_decide_eq_false b1
    refine newT (L := L) ?_
    repeat' ktr_rel
    refine newL (L := L) ?_
    repeat' ktr_rel
    refine ⟨Nat.le_of_ble_eq_true rfl, _, _, _, _, _, rfl, H, ?_⟩
    intro l h₂ H₂
    dsimp only [List.nil_append] at H₂
    repeat' ktr_rel
    refine ixLT (c := itemY f.toNat) (IsLs.isList (H₂.get 0 rfl)) (by omega) (by omega) ?_ rfl ?_
    · rcases (by omega : f = 3 ∨ f = 4 ∨ f = 5 ∨ f = 6 ∨ f = 7 ∨ f = 8 ∨ f = 9 ∨ f = 10 ∨ f = 11) with rfl | rfl | rfl | rfl | rfl | rfl | rfl | rfl | rfl <;> exact ⟨_, rfl⟩
    intro t9
    repeat' ktr_rel
    refine ⟨Nat.le_of_ble_eq_true rfl, _, _, _, _, _, rfl, H₂, ?_⟩
    intro g2 tp h₃ x2 H₃ htp n2 k2
    repeat' ktr_rel
    refine fin H₂ ?_ rfl _ _ _ _ x2 H₃ htp n2 k2
    unfold itemW; rw [if_neg (by omega)]
end

end
section
/-- two lists, item by item -/
def Rel2 {α β : Type} (R : α → β → Prop) : List α → List β → Prop
  | [], [] => True
  | a :: as, b :: bs => R a b ∧ Rel2 R as bs
  | _, _ => False
section
variable {α β γ : Type} {R R' : α → β → Prop}
theorem Rel2.append : ∀ {a c : List α} {b d : List β}, Rel2 R a b → Rel2 R c d → Rel2 R (a ++ c) (b ++ d)
  | [], _, [], _, _, y => y
  | _ :: _, _, _ :: _, _, x, y => ⟨x.1, Rel2.append x.2 y⟩
  | [], _, _ :: _, _, x, _ => x.elim
  | _ :: _, _, [], _, x, _ => x.elim
theorem Rel2.length : ∀ {a : List α} {b : List β}, Rel2 R a b → a.length = b.length
  | [], [], _ => rfl
  | _ :: _, _ :: _, x => by rw [List.length_cons, List.length_cons, Rel2.length x.2]
  | [], _ :: _, x => x.elim
  | _ :: _, [], x => x.elim
theorem Rel2.get : ∀ {a : List α} {b : List β}, Rel2 R a b → ∀ {i : Nat} {x : α}, a[i]? = some x → ∃ y, b[i]? = some y ∧ R x y
  | _ :: _, _ :: _, q, 0, x, e => by cases e; exact ⟨_, rfl, q.1⟩
  | _ :: _, _ :: _, q, i + 1, x, e => Rel2.get q.2 e
  | [], [], _, _, _, e => by simp at e
  | [], _ :: _, q, _, _, _ => q.elim
  | _ :: _, [], q, _, _, _ => q.elim
theorem Rel2.mono (k : ∀ a b, R a b → R' a b) : ∀ {a : List α} {b : List β}, Rel2 R a b → Rel2 R' a b
  | [], [], _ => trivial
  | _ :: _, _ :: _, x => ⟨k _ _ x.1, Rel2.mono k x.2⟩
  | [], _ :: _, x => x.elim
  | _ :: _, [], x => x.elim
theorem Rel2.map (f : γ → α) : ∀ {a : List γ} {b : List β}, Rel2 (fun x => R (f x)) a b → Rel2 R (a.map f) b
  | [], [], _ => trivial
  | _ :: _, _ :: _, x => ⟨x.1, Rel2.map f x.2⟩
  | [], _ :: _, x => x.elim
  | _ :: _, [], x => x.elim
theorem Rel2.drop : ∀ {a : List α} {b : List β} (n : Nat), Rel2 R a b → Rel2 R (a.drop n) (b.drop n)
  | _, _, 0, x => x
  | [], [], _ + 1, _ => trivial
  | _ :: _, _ :: _, n + 1, x => Rel2.drop n x.2
  | [], _ :: _, _ + 1, x => x.elim
  | _ :: _, [], _ + 1, x => x.elim
theorem Rel2.mem (k : Rel2 R a b) {x : α} (hx : x ∈ a) : ∃ y, y ∈ b ∧ R x y := by
  obtain ⟨i, e⟩ := List.getElem?_of_mem hx
  obtain ⟨y, e2, r⟩ := k.get e
  exact ⟨y, List.mem_of_getElem? e2, r⟩
end
theorem count_S (l : List Nat) (c : Nat) : Txt.count (S l) (S [c]) = (l.count c : Int) := by
  show Txt.count (S l) ⟨#[c]⟩ = _
  rw [count_cnt]
  show PyProof.Rows.cnt c (S l).cps.toList = _
  simp only [List.toList_toArray]
  induction l with
  | nil => rw [cnt_nil]; rfl
  | cons a r ih =>
    rw [cnt_cons, ih, List.count_cons]
    by_cases q : a = c
    · subst q; simp; omega
    · simp [q]
def IsTp (vs : List Value) : Obj → Prop := fun o => o.cls = .type "tuple" ∧ ∃ n, o.data = .seq vs.toArray n
theorem IsTp.isTuple {vs : List Value} {h : Heap} {l : Addr} (x : ∃ o, h.get? l = some o ∧ IsTp vs o) : h.IsTuple l vs.toArray := let ⟨o, e, c, n, d⟩ := x; ⟨o, e, c, n, d⟩
section
variable {w : World} {g g' g0 h h' : Heap} {L : Addr} {tk : Nat} {gn : Array GenState} {dr : Drawn} {os : OsState} {fr : Fm} {led : Lg} {env : Env} {A : Around} {E : Value → Shared → Prop}
inductive PoTL (gn : Array GenState) (dr : Drawn) (os : OsState) (L : Addr) (Q : Value → Shared → Prop) (vs : List Value) (s₁ : Shared) : Prop
  | mk (h1 : vs.length ≤ sizeLine) (h' : Heap) (tk' : Nat) (fr' : Fm) (g' : Heap) (led' : Lg) (h2 : s₁ = ⟨h', gn, dr, tk', os⟩) (h3 : St g' L h' fr' led')
    (h4 : ∀ l h₂, St g' L h₂ fr' (led' ++ [(l, IsTp vs)]) → h'.get? l = none → Ext h' h₂ → Q (.ref l) ⟨h₂, gn, dr, tk', os⟩)
/-- a new tuple, kept in the ledger -/
theorem newTL {elts : List Expr} {k : Nat} {pos : Pos} {Q : Value → Shared → Prop}
    (hw : wpAny (model PR w) A (spliced (backTo pos (starEach elts env))) (PoTL gn dr os L Q) E ⟨h, gn, dr, tk, os⟩) :
    wpAny (model PR w) A (eval (.Tuple elts k pos) env) Q E ⟨h, gn, dr, tk, os⟩ := by
  refine PySem.wpAny_Tuple (wpAny_mono hw (fun vs s₁ q => ?_) fun _ _ z => z)
  obtain ⟨q1, h', tk', fr', g', led', rfl, H, q9⟩ := q
  exact ⟨q1, q9 _ _ (H.alloc _ (IsTp vs) ⟨rfl, _, rfl⟩) (none_ge (Nat.le_refl _)) fun b o e => Heap.get?_push_of_some _ e⟩
theorem oDivI {a b : Int} {t u : Tok} {Q : Value → Shared → Prop} (hb : b ≠ 0) (hq : ∀ t tk', Q (.int (a.fdiv b) t) ⟨h, gn, dr, tk', os⟩) (hp : Builtin.divisionGoesByPylong a b = false := by exact PyProof.noPylong_of_log2 (by decide +kernel)) : wpAny (model PR w) A (binaryOp .FloorDiv (.int a t) (.int b u)) Q E ⟨h, gn, dr, tk, os⟩ := floordiv_int hb (hq _ _) (.inl hp)
end

end
section
theorem Rel2.of_mem {α β : Type} {R R' : α → β → Prop} : ∀ {a : List α} {b : List β}, Rel2 R a b → (∀ x ∈ a, ∀ y, R x y → R' x y) → Rel2 R' a b
  | [], [], _, _ => trivial
  | _ :: _, _ :: _, q, k => ⟨k _ (.head _) _ q.1, Rel2.of_mem q.2 fun x hx => k x (.tail _ hx)⟩
  | [], _ :: _, q, _ => q.elim
  | _ :: _, [], q, _ => q.elim
def figOf (y : Int) : Nat := (Int.fmod y 12).toNat
def howOf (y : Int) : Int := Int.fmod (Int.fdiv y 12) 6
def itemT (y : Int) : List Nat := writeL (itemW (figOf y)) (howOf y) ++ (if (itemY (figOf y) != []) = true then writeL (itemY (figOf y)) (howOf y) else [])
def lineOf (tx : List Nat) (how : Int) : Int := 1 + ((if Int.fmod how 3 == 1 then sl tx none (some (-1)) else tx).count 10 : Nat)
abbrev Row := List Nat × List Nat × Int
def rowOf (tx : List Nat) (y : Int) : Row := (itemW (figOf y), itemY (figOf y), lineOf (tx ++ itemT y) (howOf y))
def rowsF : List Int → List Nat → List Row
  | [], _ => []
  | y :: r, tx => rowOf tx y :: rowsF r (tx ++ itemT y)
def fileT (ns : List Int) : List Nat := ns.flatMap itemT
theorem rowsF_snoc (y : Int) : ∀ (l : List Int) (tx : List Nat), rowsF (l ++ [y]) tx = rowsF l tx ++ [rowOf (tx ++ fileT l) y]
  | [], tx => by simp [rowsF, fileT]
  | a :: r, tx => by
    show rowOf tx a :: rowsF (r ++ [y]) (tx ++ itemT a) = rowOf tx a :: (rowsF r (tx ++ itemT a) ++ _)
    rw [rowsF_snoc y r]
    simp [fileT]
def RowAt (g : Heap) (v : Value) (r : Row) : Prop := ∃ a t1 t2 t3, v = .ref a ∧ g.IsTuple a #[.str (S r.1) t1, .str (S r.2.1) t2, .int r.2.2 t3]
def RowsAt (g : Heap) (rl : Addr) (rows : List Row) : Prop := ∃ vs, g.IsList rl vs.toArray ∧ Rel2 (RowAt g) vs rows
theorem RowAt.keeps {g g' : Heap} (k : Ext g g') {v : Value} {r : Row} (x : RowAt g v r) : RowAt g' v r := let ⟨a, t1, t2, t3, e, o, q, s⟩ := x; ⟨a, t1, t2, t3, e, o, k _ _ q, s⟩
theorem RowsAt.keeps {g g' : Heap} (k : Ext g g') {rl : Addr} {rows : List Row} (x : RowsAt g rl rows) : RowsAt g' rl rows := let ⟨vs, ⟨o, q, s⟩, r⟩ := x; ⟨vs, ⟨o, k _ _ q, s⟩, r.mono fun _ _ y => y.keeps k⟩
theorem wY_ok : ∀ f, f < 12 → ((itemW f).all (fun c => decide (c < 128)) && (itemY f).all (fun c => decide (c < 128)) && decide ((itemW f).length ≤ 10) && decide ((itemY f).length ≤ 10)) = true := by decide
theorem writeL_len (l : List Nat) (how : Int) : (writeL l how).length ≤ 2 * l.length + 3 := by
  have := escL_len how l
  unfold writeL
  split <;> simp <;> omega
theorem fig_lt (y : Int) : 0 ≤ Int.fmod y 12 ∧ Int.fmod y 12 < 12 := by
  rw [Int.fmod_eq_emod_of_nonneg _ (by decide)]; omega
theorem how_lt (y : Int) : 0 ≤ howOf y ∧ howOf y < 6 := by
  unfold howOf; rw [Int.fmod_eq_emod_of_nonneg _ (by decide)]; omega
theorem fig_ok (y : Int) : (∀ c ∈ itemW (figOf y), c < 128) ∧ (∀ c ∈ itemY (figOf y), c < 128) ∧ (itemW (figOf y)).length ≤ 10 ∧ (itemY (figOf y)).length ≤ 10 := by
  have h := wY_ok (figOf y) (by have := fig_lt y; unfold figOf; omega)
  simp only [Bool.and_eq_true, List.all_eq_true, decide_eq_true_eq] at h
  exact ⟨h.1.1.1, h.1.1.2, h.1.2, h.2⟩
theorem itemT_len (y : Int) : (itemT y).length ≤ 50 := by
  obtain ⟨_, _, a, b⟩ := fig_ok y
  have h1 := writeL_len (itemW (figOf y)) (howOf y)
  have h2 := writeL_len (itemY (figOf y)) (howOf y)
  unfold itemT
  split <;> simp <;> omega
theorem fileT_len : ∀ ns : List Int, (fileT ns).length ≤ 50 * ns.length
  | [] => by simp [fileT]
  | y :: r => by
    have := fileT_len r
    have := itemT_len y
    simp only [fileT, List.flatMap_cons, List.length_append, List.length_cons] at *; omega
local macro_rules | `(tactic| ktr_rel) => `(tactic| first
  | ((with_reducible show wpAny _ _ (binaryOp Operator.FloorDiv (Value.int _ _) (Value.int _ _)) _ _ _); (refine' oDivI ?hb ?_); (case hb => decide); intro _ _)
  | ((with_reducible show wpAny _ _ (call (Value.ref 190) _) _ _ _); (refine' wpW (item_spec ?G (St.keep ?H) ?f0 ?f1 ?_)); (case H => assumption); (case G => assumption); (case f0 => exact (fig_lt _).1); (case f1 => exact (fig_lt _).2); intro _ _ _ _ _ _ x1 x2 nw k ht; (have H := St.take (by assumption) k x1 x2 nw); (have G := Gd.keeps (by assumption) x1); clear nw k x2)
  | ((with_reducible show wpAny _ _ (call (Value.ref 197) _) _ _ _); (refine' wpW (write_spec ?G (St.keep ?H) ?ha ?hl ?_)); (case H => assumption); (case G => assumption); (case ha => assumption); (case hl => assumption); intro _ _ _ x; (have H := St.ext (by assumption) x); clear x))
section
variable {w : World} {mg mb : Str → Option Value} {g0 g h : Heap} {tk : Nat} {gn : Array GenState} {dr : Drawn} {os : OsState}
def RowV (p : Addr × List Value) (r : Row) : Prop := ∃ t1 t2 t3, p.2 = [.str (S r.1) t1, .str (S r.2.1) t2, .int r.2.2 t3]
theorem itemT_1 {fl : List Nat} {y : Int} (b : (itemY (Int.fmod y 12).toNat != []) = true) : fl ++ writeL (itemW (Int.fmod y 12).toNat) (Int.fmod (Int.fdiv y 12) 6) ++ writeL (itemY (Int.fmod y 12).toNat) (Int.fmod (Int.fdiv y 12) 6) = fl ++ itemT y := by
  unfold itemT figOf howOf; rw [if_pos b, List.append_assoc]
theorem itemT_0 {fl : List Nat} {y : Int} (b : (itemY (Int.fmod y 12).toNat != []) = false) : fl ++ writeL (itemW (Int.fmod y 12).toNat) (Int.fmod (Int.fdiv y 12) 6) = fl ++ itemT y := by
  unfold itemT figOf howOf; rw [if_neg (by rw [b]; simp), List.append_nil]
theorem line_1 {tx tx' : List Nat} {y : Int} (b : (Int.fmod (Int.fmod (Int.fdiv y 12) 6) 3 == 1) = true) (e : tx = tx') : 1 + Txt.count (S (sl tx none (some (-1)))) (S [10]) = lineOf tx' (howOf y) := by
  subst e; unfold lineOf howOf; rw [if_pos b, count_S]
theorem line_0 {tx tx' : List Nat} {y : Int} (b : (Int.fmod (Int.fmod (Int.fdiv y 12) 6) 3 == 1) = false) (e : tx = tx') : 1 + Txt.count (S tx) (S [10]) = lineOf tx' (howOf y) := by
  subst e; unfold lineOf howOf; rw [if_neg (by rw [b]; simp), count_S]
inductive FlJ (ns : List Int) (rl : Addr) (i : Nat) (fr : Fm) (led : Lg) : Prop
  | mk (ps : List (Addr × List Value)) (t1 : Tok)
    (h1 : led = (rl, IsLs (ps.map fun p => Value.ref p.1)) :: ps.map (fun p => (p.1, IsTp p.2)))
    (h2 : fr.lookup (Str.ofString "text") = some (.str (S (fileT (ns.take i))) t1))
    (h3 : fr.lookup (Str.ofString "rows") = some (.ref rl))
    (h4 : Rel2 RowV ps (rowsF (ns.take i) []))
local macro_rules | `(tactic| k_offL) => `(tactic| first
  | ((with_reducible refine' ld ?H ?e ?hx ?hd ?hv ?_); (case H => assumption); (case e => assumption); (case hx => rfl); (case hd => rfl); (case hv => first | rfl | assumption)))
local macro_rules | `(tactic| ktr_rel) => `(tactic| first
  | ((with_reducible refine' stoF ?H ?e ?hx ?_); (case H => assumption); (case e => assumption); (case hx => rfl); intro _ _ H)
  | ((with_reducible refine' ldn ?H ?e ?hx ?hv ?_); (case H => assumption); (case e => assumption); (case hx => rfl); (case hv => first | rfl | assumption)))
set_option maxHeartbeats 8000000 in
theorem file_spec {nl : Addr} {its : List Value} {ns : List Int} {Q : Value → Shared → Prop} (G : Gd w mg mb g0) (X : Ext g0 h) (hnl : g0.IsList nl its.toArray) (hr : Rel2 (fun v y => ∃ t, v = .int y t) its ns) (hlen : ns.length ≤ 100)
    (hq : ∀ a g2 h' tk' t1 rl, Ext g0 g2 → Ext g2 h' → Nw g0 h g2 → Ext h h' → g2.IsTuple a #[.str (S (fileT ns)) t1, .ref rl] → RowsAt g2 rl (rowsF ns []) → Q (.ref a) ⟨h', gn, dr, tk', os⟩) :
    wpAny (model PR w) (AW 810 8100) (call (.ref 204) [.ref nl]) Q NE ⟨h, gn, dr, tk, os⟩ := by
  refine' call_def (fr := [(Str.ofString "numbers", .ref nl)]) G X [] ?ho ?hcd ?hb ?hbind ?hfr ?hks ?hcl (fun _ q => nomatch q) List.nodup_nil ?main ?hd ?hcell ?hloc ?hco ?hgen ?hk ?hgl ?hbn
  keq_rows
  intro g L h₁ tk₁ env he G' X' H K'
  dsimp only at he
  repeat' ktr_rel
  clear H; rename St g _ _ _ _ => H
  refine newL (L := L) ?_
  repeat' ktr_rel
  refine ⟨Nat.le_of_ble_eq_true rfl, _, _, _, _, _, rfl, H, ?_⟩
  intro rl h₂ H₂
  dsimp only [List.nil_append] at H₂
  clear H
  repeat' ktr_rel
  clear H₂; rename St g _ _ _ _ => H
  refine for_list (items := its.toArray) (J := FlJ ns rl) H (let ⟨o, e, r⟩ := hnl; ⟨o, X' _ _ e, r⟩) ?hiter ?hJ ?turn ?fin ?hr ?ht
  case hiter => intro Q' hQ'; ktr_rel; exact hQ' _
  case hJ => exact ⟨[], _, rfl, rfl, rfl, trivial⟩
  case hr =>
    intro i v _
    exact .inr ⟨_, _, rfl⟩
  case ht => exact .inl ⟨_, _, rfl⟩
  case turn =>
    rintro i v g' h₅ tk₅ fr₁ led₁ hv x' ⟨ps, t1, rfl, e1, e2, hps⟩ H'
    obtain ⟨y, hy, t, rfl⟩ := hr.get (by simpa using hv)
    have G2 := G'.keeps x'
    obtain ⟨k1, k2, k3, k4⟩ := fig_ok y
    have k3' : (itemW (figOf y)).length ≤ 1000 := by omega
    have k4' : (itemY (figOf y)).length ≤ 1000 := by omega
    have l1 := writeL_len (itemW (figOf y)) (howOf y)
    have l2 := writeL_len (itemY (figOf y)) (howOf y)
    have l3 : (fileT (ns.take i)).length ≤ 5000 := by
      have := fileT_len (ns.take i)
      have := List.length_take_le' i ns
      omega
    clear H
    have hpl : ps.length ≤ 100 := by
      rw [hps.length]
      have : ∀ (l : List Int) tx, (rowsF l tx).length = l.length := by
        intro l; induction l with
        | nil => intro _; rfl
        | cons a r ih => intro tx; simp [rowsF, ih]
      rw [this]
      have := List.length_take_le' i ns
      omega
    simp only [figOf, howOf] at k1 k2 k3 k4 k3' k4' l1 l2
    have hplm : (List.map (fun p : Addr × List Value => Value.ref p.1) ps).length ≤ 100 := by rw [List.length_map]; exact hpl
    have step : rowsF (ns.take (i + 1)) [] = rowsF (ns.take i) [] ++ [rowOf (fileT (ns.take i)) y] := by rw [List.take_add_one, hy]; exact rowsF_snoc y _ _
    have step2 : fileT (ns.take (i + 1)) = fileT (ns.take i) ++ itemT y := by rw [List.take_add_one, hy]; simp [fileT]
    have fin : ∀ (tp : Addr) (tx : List Nat) (ln : Int) (ta tb tc td : Tok) (fr' : Fm), tx = fileT (ns.take i) ++ itemT y → ln = lineOf (fileT (ns.take i) ++ itemT y) (howOf y) → fr'.lookup (Str.ofString "text") = some (.str (S tx) td) → fr'.lookup (Str.ofString "rows") = some (.ref rl) →
        FlJ ns rl (i + 1) fr' ((rl, IsLs (ps.map (fun p => Value.ref p.1) ++ [Value.ref tp])) :: (ps.map (fun p => (p.1, IsTp p.2)) ++ [(tp, IsTp [.str (S (itemW (Int.fmod y 12).toNat)) ta, .str (S (itemY (Int.fmod y 12).toNat)) tb, .int ln tc])])) := by
      rintro tp _ _ ta tb tc td fr' rfl rfl z1 z2
      refine ⟨ps ++ [(tp, [.str (S (itemW (Int.fmod y 12).toNat)) ta, .str (S (itemY (Int.fmod y 12).toNat)) tb, .int (lineOf (fileT (ns.take i) ++ itemT y) (howOf y)) tc])], td, by simp, by rw [step2]; exact z1, z2, ?_⟩
      rw [step]
      exact hps.append ⟨⟨ta, tb, tc, rfl⟩, trivial⟩
    repeat' ktr_rel
    all_goals (
      clear H'
      rename St _ _ _ _ _ => H3
      rename Ext g' _ => x3
      refine newTL (L := L) ?_
      repeat' ktr_rel
      refine ⟨Nat.le_of_ble_eq_true rfl, _, _, _, _, _, rfl, H3, ?_⟩
      intro tp h₈ H₈ n8 k8
      dsimp only [List.cons_append] at H₈
      clear H3
      repeat' ktr_rel
      clear H₈
      rename St _ _ _ _ _ => H9)
    all_goals (
      rename (Int.fmod _ 3 == 1) = _ => b2
      rename (_ != []) = _ => b1)
    all_goals (refine lp_next (H9.base x3) (fin tp _ _ _ _ _ _ _ ?_ ?_ rfl e2) <;> with_reducible first | exact itemT_1 b1 | exact itemT_0 b1 | exact line_1 b2 (itemT_1 b1) | exact line_1 b2 (itemT_0 b1) | exact line_0 b2 (itemT_1 b1) | exact line_0 b2 (itemT_0 b1))
  case fin =>
    rintro h₅ tk₅ fr₁ led₁ ⟨ps, t1, rfl, e1, e2, hps⟩ H'
    have hsz : its.toArray.size = ns.length := by rw [List.size_toArray]; exact hr.length
    rw [hsz, List.take_length] at hps e1
    clear H
    repeat' ktr_rel
    all_goals (
      refine newT (L := L) ?_
      repeat' ktr_rel
      refine ⟨Nat.le_of_ble_eq_true rfl, _, _, _, _, _, rfl, H', ?_⟩
      intro g2 tp h₆ x2 H₆ htp n2 k2
      repeat' ktr_rel
      have kx : Ext h h₅ := K'.ext.trans H'.keep
      obtain ⟨gF, y1, y2, y3, y4, _⟩ := ((H₆.sub (List.nil_sublist _)).base (X'.trans x2)).grow h
      have lift : ∀ p ∈ ((rl, IsLs (ps.map fun p => Value.ref p.1)) :: ps.map (fun p => (p.1, IsTp p.2)) : Lg), ∃ o, gF.get? p.1 = some o ∧ p.2 o := by
        intro p hp
        obtain ⟨o, e, q⟩ := H₆.at_ p hp
        exact ⟨o, y4 _ _ e (fresh_of K'.ext (H'.off p hp)) (H'.ne p hp) (List.not_mem_nil), q⟩
      obtain ⟨ot, et, ct⟩ := htp
      refine hq tp gF h₆ _ t1 rl y1 y2.keep y3 (kx.trans k2) ⟨ot, y4 _ _ (H₆.keep _ _ et) (fresh_of kx n2) (H'.no n2).1 (List.not_mem_nil), ct⟩ ⟨ps.map fun p => Value.ref p.1, ?_, ?_⟩
      · exact IsLs.isList (lift _ (.head _))
      · refine Rel2.map _ (Rel2.of_mem hps fun p hp r hr => ?_)
        obtain ⟨t1, t2, t3, e⟩ := hr
        have := lift (p.1, IsTp p.2) (.tail _ (List.mem_map_of_mem (f := fun p : Addr × List Value => (p.1, IsTp p.2)) hp))
        rw [e] at this
        exact ⟨p.1, t1, t2, t3, rfl, IsTp.isTuple this⟩)
end

end
section
/-- one word: off the pushback, or by the text -/
def getT (pb : List (List Nat)) (rest : List Nat) : Option (List Nat × List (List Nat) × List Nat) := match pb with
  | t :: r => some (t, r, rest)
  | [] => match scan rest with
    | some (t, r) => some (t, [], r)
    | none => none
abbrev Files := List (List Nat × List Int)
abbrev Told := List (List Nat × Int)
/-- another file's words, handed on -/
def innP (goal : List Nat) : Nat → List Nat → List Nat → List (List Nat) → Option (List (List Nat))
  | 0, _, _, _ => none
  | k + 1, w, rest, pb =>
    if w = [] then some pb
    else if pb.length > 1000 then none
    else if w = [60] then
      match scan rest with
      | none => none
      | some (way, r1) =>
        if way.length > 1000 then none
        else match scan r1 with
          | none => none
          | some (w2, r2) => innP goal k w2 r2 (pb ++ [w] ++ [joinL (dirL goal) way])
    else match scan rest with
      | none => none
      | some (w2, r2) => innP goal k w2 r2 (pb ++ [w])
def wayBad (start way : List Nat) : Bool := decide (way.length > 1000) || decide ((dirL start).length > 1000) || decide (start.length > 1000) || !normOk (joinL (dirL start) way)
def goalBad (goal : List Nat) : Bool := decide (goal.length > 1000) || decide ((dirL goal).length > 1000)
abbrev FolR := Told × List (List Nat) × List (List Nat) × List Nat
/-- the reader's way through the files -/
def folP (files : Files) (start : List Nat) (N : Nat) : Nat → List Nat → List (List Nat) → List Nat → Told → List (List Nat) → Option FolR
  | 0, _, _, _, _, _ => none
  | m + 1, w, pb, rest, told, seen =>
    if w = [] then some (told, seen, pb, rest)
    else if pb.length > 1000 ∨ told.length > 1000 ∨ seen.length > 1000 then none
    else if w ≠ [60] then
      match getT pb rest with
      | none => none
      | some (w2, pb2, r2) => folP files start N m w2 pb2 r2 (told ++ [(w, (N : Int) - (rest.count 10 : Nat))]) seen
    else match getT pb rest with
      | none => none
      | some (way, pb1, r1) =>
        if wayBad start way = true then none
        else match (if normL (joinL (dirL start) way) ∈ seen then none else files.lookup (normL (joinL (dirL start) way))) with
          | none => (match getT pb1 r1 with
            | none => none
            | some (w2, pb2, r2) => folP files start N m w2 pb2 r2 (told ++ [(normL (joinL (dirL start) way), (N : Int) - (r1.count 10 : Nat))]) seen)
          | some ns =>
            if goalBad (normL (joinL (dirL start) way)) = true then none
            else match scan (fileT ns) with
              | none => none
              | some (w1, q1) => match innP (normL (joinL (dirL start) way)) 100 w1 q1 pb1 with
                | none => none
                | some pb2 => if pb2.length > 1000 then none else match getT pb2 r1 with
                  | none => none
                  | some (w3, pb3, r3) => folP files start N m w3 pb3 r3 told (seen ++ [normL (joinL (dirL start) way)])

end
section
theorem scanQ_esc1 (e : Nat) (r acc : List Nat) : scanQ (92 :: e :: r) acc = scanQ r (acc ++ [e]) := by simp [scanQ]
theorem scanQ_pl {c : Nat} {r acc : List Nat} (h1 : c ≠ 34) (h2 : c ≠ 92) (h3 : r ≠ []) : scanQ (c :: r) acc = scanQ r (acc ++ [c]) := by
  cases r with
  | nil => exact absurd rfl h3
  | cons e r => simp [scanQ, h1, h2]
theorem scanW_esc1 (e : Nat) (r acc : List Nat) : scanW (92 :: e :: r) acc = scanW r (acc ++ [e]) := by
  have : ¬ 92 ∈ wsp := by decide
  simp [scanW, this]
theorem scanW_pl {c : Nat} {r acc : List Nat} (h1 : ¬ c ∈ wsp) (h2 : c ≠ 92) (h3 : r ≠ []) : scanW (c :: r) acc = scanW r (acc ++ [c]) := by
  cases r with
  | nil => exact absurd rfl h3
  | cons e r => simp [scanW, h1, h2]
theorem escL_cons (how : Int) (c : Nat) (l : List Nat) : escL how (c :: l) = esc1 how c ++ escL how l := by simp [escL]
theorem esc_no {how : Int} {c : Nat} (h : ¬ escB how c = true) : c ≠ 34 ∧ c ≠ 92 ∧ (Int.fmod how 3 = 0 → c ≠ 32) ∧ Int.fmod how 3 ≠ 2 := by
  unfold escB at h
  simp only [Bool.or_eq_true, Bool.and_eq_true, beq_iff_eq, decide_eq_true_eq, List.mem_cons, List.not_mem_nil, or_false, not_or, not_and] at h
  exact ⟨h.1.2.1, h.1.2.2, h.2, h.1.1⟩
theorem scanQ_esc (how : Int) : ∀ (l acc r : List Nat), scanQ (escL how l ++ 34 :: r) acc = some (acc ++ l, r)
  | [], acc, r => by simpa [escL] using scanQ_end (c := 34) (r := r) (acc := acc) rfl
  | c :: l, acc, r => by
    rw [escL_cons, List.append_assoc]
    by_cases hb : escB how c = true
    · rw [esc1, if_pos hb]
      show scanQ (92 :: c :: (escL how l ++ 34 :: r)) acc = _
      rw [scanQ_esc1, scanQ_esc how l]; simp
    · obtain ⟨n1, n2, _⟩ := esc_no hb
      rw [esc1, if_neg hb]
      show scanQ (c :: (escL how l ++ 34 :: r)) acc = _
      rw [scanQ_pl n1 n2 (by simp), scanQ_esc how l]; simp
theorem plain_ws {how : Int} {c : Nat} (hm : Int.fmod how 3 ≠ 1) (h0 : 0 ≤ Int.fmod how 3 ∧ Int.fmod how 3 < 3) (hb : ¬ escB how c = true) (ok : c ≠ 10 ∧ c ≠ 9 ∧ c ≠ 13) : ¬ c ∈ wsp := by
  obtain ⟨_, _, n3, n4⟩ := esc_no hb
  have : Int.fmod how 3 = 0 := by omega
  simp [wsp, ok, n3 this]
theorem scanW_esc {how : Int} (hm : Int.fmod how 3 ≠ 1) (h0 : 0 ≤ Int.fmod how 3 ∧ Int.fmod how 3 < 3) {s : Nat} (hs : s ∈ wsp) : ∀ (l acc r : List Nat), (∀ c ∈ l, c ≠ 10 ∧ c ≠ 9 ∧ c ≠ 13) → scanW (escL how l ++ s :: r) acc = some (acc ++ l, r)
  | [], acc, r, _ => by simpa [escL] using scanW_end (r := r) (acc := acc) hs
  | c :: l, acc, r, ok => by
    have okl : ∀ c ∈ l, c ≠ 10 ∧ c ≠ 9 ∧ c ≠ 13 := fun x hx => ok x (.tail _ hx)
    rw [escL_cons, List.append_assoc]
    by_cases hb : escB how c = true
    · rw [esc1, if_pos hb]
      show scanW (92 :: c :: (escL how l ++ s :: r)) acc = _
      rw [scanW_esc1, scanW_esc hm h0 hs l _ _ okl]; simp
    · obtain ⟨_, n2, _⟩ := esc_no hb
      rw [esc1, if_neg hb]
      show scanW (c :: (escL how l ++ s :: r)) acc = _
      rw [scanW_pl (plain_ws hm h0 hb (ok c (.head _))) n2 (by simp), scanW_esc hm h0 hs l _ _ okl]; simp
def sepOf (how : Int) : Nat := if how < 3 then 32 else 10
theorem sepOf_ws (how : Int) : sepOf how ∈ wsp := by unfold sepOf; split <;> decide
theorem mod3 (how : Int) : 0 ≤ Int.fmod how 3 ∧ Int.fmod how 3 < 3 := by rw [Int.fmod_eq_emod_of_nonneg _ (by decide)]; omega
theorem scan_sep {c : Nat} {t : List Nat} (hc : c ∈ wsp) : scan (c :: t) = scan t := scan_ws hc
/-- what is written is read -/
theorem scan_write {l : List Nat} (t : List Nat) (how : Int) (hl : l ≠ []) (ok : ∀ c ∈ l, c ≠ 10 ∧ c ≠ 9 ∧ c ≠ 13) : scan (writeL l how ++ t) = some (l, if Int.fmod how 3 = 1 then sepOf how :: t else t) := by
  unfold writeL
  by_cases hm : Int.fmod how 3 = 1
  · rw [if_pos (by simpa using hm), if_pos hm]
    have e : 34 :: (escL how l ++ [34]) ++ [if how < 3 then 32 else 10] ++ t = 34 :: (escL how l ++ 34 :: (sepOf how :: t)) := by simp [sepOf]
    rw [e, scan_q (by decide) rfl, scanQ_esc]; rfl
  · rw [if_neg (by simpa using hm), if_neg hm]
    have e : escL how l ++ [if how < 3 then 32 else 10] ++ t = escL how l ++ (sepOf how :: t) := by simp [sepOf]
    rw [e]
    cases l with
    | nil => exact absurd rfl hl
    | cons c l =>
      have okl : ∀ c ∈ l, c ≠ 10 ∧ c ≠ 9 ∧ c ≠ 13 := fun x hx => ok x (.tail _ hx)
      rw [escL_cons, List.append_assoc]
      by_cases hb : escB how c = true
      · rw [esc1, if_pos hb]
        show scan (92 :: c :: (escL how l ++ sepOf how :: t)) = _
        have : scan (92 :: c :: (escL how l ++ sepOf how :: t)) = scanW (escL how l ++ sepOf how :: t) [c] := by
          have h1 : ¬ 92 ∈ wsp := by decide
          simp [scan, h1]
        rw [this, scanW_esc hm (mod3 how) (sepOf_ws how) l _ _ okl]; rfl
      · obtain ⟨n1, n2, _⟩ := esc_no hb
        rw [esc1, if_neg hb]
        show scan (c :: (escL how l ++ sepOf how :: t)) = _
        rw [scan_w (plain_ws hm (mod3 how) hb (ok c (.head _))) n1 n2, scanW_esc hm (mod3 how) (sepOf_ws how) l _ _ okl]; rfl

end
section
section
variable {w : World} {g h h' : Heap} {L : Addr} {gn : Array GenState} {dr : Drawn} {os : OsState} {tk : Nat} {fr : Fm} {led : Lg} {env : Env} {d u : Nat} {ks : List (Str × NameKind)} {clo : List (Str × Addr)}
theorem compEnv_ok {scope : Scope} {cl : List (Str × Addr)} {C : Addr} (he : EnvOk env L ks clo) (hkind : scope.kind = .function) : EnvOk (compEnvC scope cl C env) C (relabel scope env).names cl :=
  ⟨hkind, rfl, he.globals, he.builtins, rfl, rfl⟩
theorem ne_notedBy {α : Type} {M : Model} {A : Around} {t : Sem α} {R : α → Shared → Prop} {s : Shared} {E : Value → Shared → Prop} (h : wpAny M A t R NE s) : wpAny M A t R E s := ne_noted h
/-- the turns of a comprehension: its own frame C, the list D, the iterator I; the base hB is all else -/
theorem comp_core {elt iter : Expr} {x : Str} {px : Pos} {scope : Scope} {cl : List (Str × Addr)} {pos : Pos} {I : Addr} {WI : Nat → Obj → Prop} {n : Nat} {P : Nat → Value → Prop} {J : Heap → Nat → List Value → Prop} {RR : Value → Addr → Result → Shared → Prop} {hB : Heap}
    (he : EnvOk env L ks clo) (hcell : ∀ y ∈ scope.names, y.2 ≠ .cell) (hkind : scope.kind = .function) (hx : scope.names.lookup x = some .local)
    (hI : ∃ o, h.get? I = some o ∧ WI 0 o) (xB : Ext hB h) (nB : hB.get? I = none) (hn : n ≤ 100000)
    (self : ∀ (s : Shared) (Q' : Value → Shared → Prop) (E' : Value → Shared → Prop), (∃ o, s.heap.get? I = some o ∧ WI 0 o) → Q' (.ref I) s → wpAny (model PR w) (AW d u) (pyIter (.ref I)) Q' E' s)
    (item : ∀ i h₁ tk₁ (Q' : Option Value → Shared → Prop), i < n → Ext hB h₁ → (∃ o, h₁.get? I = some o ∧ WI i o) →
      (∀ v h₂ tk₂, P i v → (∃ o, h₂.get? I = some o ∧ WI (i + 1) o) → (∀ b o, b ≠ I → h₁.get? b = some o → h₂.get? b = some o) → Q' (some v) ⟨h₂, gn, dr, tk₂, os⟩) → wpAny (model PR w) (AW d u) (pyNext (.ref I)) Q' NE ⟨h₁, gn, dr, tk₁, os⟩)
    (done : ∀ h₁ tk₁ (Q' : Option Value → Shared → Prop), Ext hB h₁ → (∃ o, h₁.get? I = some o ∧ WI n o) →
      (∀ h₂ tk₂, (∀ b o, b ≠ I → h₁.get? b = some o → h₂.get? b = some o) → Q' none ⟨h₂, gn, dr, tk₂, os⟩) → wpAny (model PR w) (AW d u) (pyNext (.ref I)) Q' NE ⟨h₁, gn, dr, tk₁, os⟩)
    (hJ : J hB 0 [])
    (turn : ∀ i v GB h₁ tk₁ ys C D cenv, i < n → P i v → Ext hB GB → J GB i ys → EnvOk cenv C (relabel scope env).names cl → St GB C h₁ [(x, v)] [(D, IsLs ys), (I, WI (i + 1))] → ys.length = i →
      wpAny (model PR w) (AW d u) (eval elt cenv) (fun y s₃ => ∃ GB' h' tk' fr', s₃ = ⟨h', gn, dr, tk', os⟩ ∧ Opt1 x fr' ∧ Ext GB GB' ∧ St GB' C h' fr' [(D, IsLs ys), (I, WI (i + 1))] ∧ J GB' (i + 1) (ys ++ [y])) NE ⟨h₁, gn, dr, tk₁, os⟩)
    (fin : ∀ C D GB ys h' tk' fr', Ext hB GB → J GB n ys → h.get? C = none → h.get? D = none → St GB C h' fr' [(D, IsLs ys)] → RR (.ref D) C (.ok .next) ⟨h', gn, dr, tk', os⟩) :
    wpAny (model PR w) (AW d u) (newList []) (fun acc s₃ => wpAny (model PR w) (AW d u) (newFunctionEnv scope env.globals cl [] env.qual none .none (some env)) (fun cenv s₄ =>
      codeAny (model PR w) (AW d u) (.compStart (.ListComp elt [⟨.Name x px, iter, [], 0⟩] scope pos) 0 (.ref I) acc { cenv with scope := relabel scope env }) (RR acc cenv.locals) s₄) NE s₃) NE ⟨h, gn, dr, tk, os⟩ := by
  refine wpAny_newObj_type (wpAny_newFunctionEnv hcell (by intro y hy; simp at hy) (fun h₁ hns₁ hsb₁ => ?_) hkind)
  dsimp only at hns₁ hsb₁ ⊢
  have hD0 : (h.push { cls := .type "list", data := .seq ([] : List Value).toArray }).get? h.objs.size = some { cls := .type "list", data := .seq ([] : List Value).toArray } := Heap.get?_push_size _ rfl
  have k0 : Ext h (h.push { cls := .type "list", data := .seq ([] : List Value).toArray }) := fun b o e => Heap.get?_push_of_some _ e
  have hsz : (h.push { cls := .type "list", data := .seq ([] : List Value).toArray }).objs.size = h.objs.size + 1 := Heap.size_push ..
  generalize h.push { cls := .type "list", data := .seq ([] : List Value).toArray } = H2 at hns₁ hsb₁ hD0 k0 hsz
  have k1 : Ext H2 h₁ := fun b o e => (hsb₁.2 b (Nat.ne_of_lt (Heap.lt_size e))).trans (Heap.get?_push_of_some _ e)
  have hCn : h.get? H2.objs.size = none := none_ge (by rw [hsz]; exact Nat.le_succ _)
  have hDn : h.get? h.objs.size = none := none_ge (Nat.le_refl _)
  have S0 : St hB H2.objs.size h₁ [] [(h.objs.size, IsLs []), (I, WI 0)] := by
    refine ⟨hns₁, xB.trans (Ext.trans k0 k1), ?_, ?_, ?_, Ext.none xB hCn, ?_⟩
    · intro p hp
      rcases List.mem_cons.mp hp with rfl | hp
      · exact ⟨_, k1 _ _ hD0, 0, rfl⟩
      · obtain rfl := List.mem_singleton.mp hp
        obtain ⟨o, e, q⟩ := hI
        exact ⟨o, k1 _ _ (k0 _ _ e), q⟩
    · intro p hp
      rcases List.mem_cons.mp hp with rfl | hp
      · exact Ext.none xB hDn
      · obtain rfl := List.mem_singleton.mp hp; exact nB
    · intro p hp
      rcases List.mem_cons.mp hp with rfl | hp
      · exact Nat.ne_of_lt (by rw [hsz]; exact Nat.lt_succ_self _)
      · obtain rfl := List.mem_singleton.mp hp
        obtain ⟨o, e, q⟩ := hI
        intro z; dsimp only at z; rw [z, hCn] at e; cases e
    · simp only [List.map_cons, List.map_nil, List.nodup_cons, List.mem_cons, List.not_mem_nil, or_false, not_false_eq_true, List.nodup_nil, and_true]
      intro z
      obtain ⟨o, e, _⟩ := hI
      rw [← z, hDn] at e; cases e
  have loop : ∀ tk₁, codeAny (model PR w) (AW d u) (.compLoop (.ListComp elt [⟨.Name x px, iter, [], 0⟩] scope pos) 0 (.ref I) (.ref h.objs.size) (compEnvC scope cl H2.objs.size env)) (RR (.ref h.objs.size) H2.objs.size) ⟨h₁, gn, dr, tk₁, os⟩ := by
    intro tk₁
    refine codeAny_compLoop_list (fun m s' => ∃ i GB hh tk fr ys, s' = (⟨hh, gn, dr, tk, os⟩ : Shared) ∧ m = n - i ∧ i ≤ n ∧ Ext hB GB ∧ J GB i ys ∧ Opt1 x fr ∧ ys.length = i ∧ St GB H2.objs.size hh fr [(h.objs.size, IsLs ys), (I, WI i)]) ?_ (n - 0) ⟨0, hB, h₁, tk₁, [], [], rfl, rfl, Nat.zero_le _, Ext.refl _, hJ, .inl rfl, rfl, S0⟩
    rintro m s' ⟨i, GB, hh, tk₂, fr₂, ys, rfl, rfl, hin, xG, hJi, hopt, hyl, HS⟩
    rcases Nat.lt_or_ge i n with hlt | hge
    · refine ne_notedBy (item i hh tk₂ _ hlt (xG.trans HS.keep) (HS.get 1 rfl) fun v h₃ tk₃ hv I₃ k₃ => ?_)
      have HS' := HS.turn 1 rfl (fun b o nb e => k₃ b o nb e) I₃
      dsimp only [List.set] at HS'
      have hce := compEnv_ok (scope := scope) (cl := cl) (C := H2.objs.size) he hkind
      have hlk : (relabel scope env).names.lookup x = some .local := lookup_relabel_local hx
      refine ne_notedBy (asg1 (base := []) HS' hce hopt rfl hlk ?_)
      intro h₄ tk₄ H₄
      dsimp only [List.nil_append] at H₄
      refine ne_notedBy (wpAny_mono (turn i v GB h₄ tk₄ ys H2.objs.size h.objs.size _ hlt hv xG hJi hce H₄ hyl) (fun y s₃ q => ?_) fun _ _ z => z)
      obtain ⟨GB', h₅, tk₅, fr₅, rfl, hopt5, xG', H₅, hJ'⟩ := q
      refine ne_notedBy (apL 0 H₅ rfl (by rw [sizeLine_eq]; omega) ?_)
      intro h₆ H₆
      dsimp only [List.set] at H₆
      exact ⟨n - (i + 1), by omega, i + 1, GB', h₆, _, fr₅, ys ++ [y], rfl, rfl, hlt, xG.trans xG', hJ', hopt5, by simp [hyl], H₆⟩
    · obtain rfl : i = n := Nat.le_antisymm hin hge
      refine ne_notedBy (done hh tk₂ _ (xG.trans HS.keep) (HS.get 1 rfl) fun h₃ tk₃ k₃ => ?_)
      have nd := HS.nd
      simp only [List.map_cons, List.map_nil, List.nodup_cons, List.mem_cons, List.not_mem_nil, or_false, not_false_eq_true, List.nodup_nil, and_true] at nd
      have HS1 : St GB H2.objs.size hh fr₂ [(h.objs.size, IsLs ys)] := HS.sub (.cons_cons _ (.cons _ .slnil))
      exact fin _ _ GB ys _ _ fr₂ xG hJi hCn hDn (HS1.but k₃ (HS.ne _ (List.mem_of_getElem? (i := 1) rfl)) (by simpa using Ne.symm nd) (HS.offI 1 rfl))
  exact codeAny_compStart_list (loop _) (self _ _ _ (let ⟨o, e, q⟩ := hI; ⟨o, k1 _ _ (k0 _ _ e), q⟩) (loop _))
end

end
section
section
variable {w : World} {g h h' hB GB : Heap} {L C D : Addr} {gn : Array GenState} {dr : Drawn} {os : OsState} {tk : Nat} {fr fr' : Fm} {led : Lg} {env : Env} {d u : Nat} {ks : List (Str × NameKind)} {clo : List (Str × Addr)} {ys : List Value} {A : Around}
/-- the outer frame behind a comprehension -/
theorem comp_out (H : St g L h fr led) (xB : Ext h hB) (xG : Ext hB GB) (nC : h.get? C = none) (nD : h.get? D = none) (HS : St GB C h' fr' [(D, IsLs ys)]) {h2 : Heap} (hs : Heap.SameBut C h' h2) :
    ∃ g', Ext g g' ∧ Nw g h g' ∧ (∀ b o, GB.get? b = some o → h.get? b = none → g'.get? b = some o) ∧ St g' L h2 fr (led ++ [(D, IsLs ys)]) := by
  have k : Ext h h' := xB.trans (xG.trans HS.keep)
  have H2 := H.adds k (new := [(D, IsLs ys)]) (by simp) (by intro p hp; obtain rfl := List.mem_singleton.mp hp; exact nD) (by intro p hp; obtain rfl := List.mem_singleton.mp hp; exact HS.get 0 rfl)
  have nCC := H.no nC
  have dC : D ≠ C := HS.ne (D, IsLs ys) (.head _)
  have H3 : St g L h2 fr (led ++ [(D, IsLs ys)]) := H2.but (I := C) (fun b o nb e => (hs.2 b nb).trans e) nCC.1 (by
    rw [List.map_append]; intro q
    rcases List.mem_append.mp q with q | q
    · exact nCC.2 q
    · simp at q; exact dC q.symm) (Ext.none H.keep nC)
  obtain ⟨g', x1, H4, nw, inn, _⟩ := H3.grow h
  refine ⟨g', x1, nw, fun b o e n => ?_, H4⟩
  have z := HS.inb e
  have zz := H.no n
  refine inn b o ((hs.2 b z.1).trans (HS.keep _ _ e)) n zz.1 ?_
  rw [List.map_append]; intro q
  rcases List.mem_append.mp q with q | q
  · exact zz.2 q
  · exact z.2 q
theorem ns_but {h h2 : Heap} {C L : Addr} {m : Str → Option Value} (x : h.Ns C m) (k : ∀ o, h.get? C = some o → h2.get? C = some o) : h2.Ns C m := by
  obtain ⟨o, es, ep, e, r⟩ := x
  exact ⟨o, es, ep, k _ e, r⟩
/-- ... when the list is stored -/
theorem comp_outS {y : Str} {py : Pos} {Q : Shared → Prop} (he : EnvOk env L ks clo) (hy : ks.lookup y = some .local) (H : St g L h fr led) (xB : Ext h hB) (xG : Ext hB GB) (nC : h.get? C = none) (nD : h.get? D = none) (HS : St GB C h' fr' [(D, IsLs ys)])
    (hq : ∀ g' h2 tk', Ext g g' → Nw g h g' → (∀ b o, GB.get? b = some o → h.get? b = none → g'.get? b = some o) → St g' L h2 (upd y (.ref D) fr) (led ++ [(D, IsLs ys)]) → Q ⟨h2, gn, dr, tk', os⟩) :
    wpAny (model PR w) A (assign (.Name y py) env (.ref D)) (fun _ s'' => ∃ m, s''.heap.Ns C m ∧ ∀ h2, Heap.SameBut C s''.heap h2 → Q { s'' with heap := h2 }) NE ⟨h', gn, dr, tk, os⟩ := by
  have k : Ext h h' := xB.trans (xG.trans HS.keep)
  have nCC := H.no nC
  have H0 := H.ext k
  refine wpAny_assign_Name (wpAny_storeName_local ((he.kindOf y).trans hy) (he.locals ▸ H0.ns) (fun h1 hn hs => ⟨_, ns_but (L := L) HS.ns (fun o e => ((he.locals ▸ hs : Heap.SameBut L h' h1).2 C nCC.1).trans e), fun h2 hs2 => ?_⟩) (by rw [he.kind]; rfl))
  have hsL : Heap.SameBut L h' h1 := he.locals ▸ hs
  have dC : D ≠ C := HS.ne (D, IsLs ys) (.head _)
  have H2 := H.adds k (new := [(D, IsLs ys)]) (by simp) (by intro p hp; obtain rfl := List.mem_singleton.mp hp; exact nD) (by intro p hp; obtain rfl := List.mem_singleton.mp hp; exact HS.get 0 rfl)
  have H3 : St g L h1 (upd y (.ref D) fr) (led ++ [(D, IsLs ys)]) := H2.store (he.locals ▸ hn) hsL
  have H4 := H3.but (I := C) (fun b o nb e => (hs2.2 b nb).trans e) nCC.1 (by
    rw [List.map_append]; intro q
    rcases List.mem_append.mp q with q | q
    · exact nCC.2 q
    · simp at q; exact dC q.symm) (Ext.none H.keep nC)
  obtain ⟨g', x1, H5, nw, inn, _⟩ := H4.grow h
  refine hq g' h2 _ x1 nw (fun b o e n => ?_) H5
  have z := HS.inb e
  have zz := H.no n
  refine inn b o ((hs2.2 b z.1).trans ((hsL.2 b zz.1).trans (HS.keep _ _ e))) n zz.1 ?_
  rw [List.map_append]; intro q
  rcases List.mem_append.mp q with q | q
  · exact zz.2 q
  · exact z.2 q
/-- a list comprehension over a list, stored in a name -/
theorem asgLC {elt iter : Expr} {x y : Str} {px py : Pos} {scope : Scope} {cl : List (Str × Addr)} {pos spos : Pos} {Q : Flow → Shared → Prop}
    (hsw : swapsWith (.ListComp elt [⟨.Name x px, iter, [], 0⟩] scope pos) (some (.Name y py)) spos.line env = pure true)
    (he : EnvOk env L ks clo) (hclos : closureFor scope env = pure cl) (hcell : ∀ y ∈ scope.names, y.2 ≠ .cell) (hkind : scope.kind = .function) (hnames : ∀ z ∈ scope.names, z.2 = .local → scope.names.lookup z.1 = some .local) (hx : scope.names.lookup x = some .local) (hy : ks.lookup y = some .local)
    (hw : wpAny (model PR w) (AW d u) (eval iter env) (fun v s₁ => ∃ l h tk g items fr led, ∃ J : Heap → Nat → List Value → Prop, v = .ref l ∧ s₁ = ⟨h, gn, dr, tk, os⟩ ∧ St g L h fr led ∧ h.IsList l items ∧ items.size ≤ 100000 ∧
      (∀ hB, Ext h hB → J hB 0 [] ∧ ∀ i v GB h₁ tk₁ ys C D I WI cenv, items[i]? = some v → Ext hB GB → J GB i ys → EnvOk cenv C (relabel scope env).names cl → St GB C h₁ [(x, v)] [(D, IsLs ys), (I, WI)] → ys.length = i →
        wpAny (model PR w) (AW d u) (eval elt cenv) (fun y s₃ => ∃ GB' h' tk' fr', s₃ = ⟨h', gn, dr, tk', os⟩ ∧ Opt1 x fr' ∧ Ext GB GB' ∧ St GB' C h' fr' [(D, IsLs ys), (I, WI)] ∧ J GB' (i + 1) (ys ++ [y])) NE ⟨h₁, gn, dr, tk₁, os⟩) ∧
      (∀ g' h2 tk' D GB ys, Ext g g' → Nw g h g' → (∀ b o, GB.get? b = some o → h.get? b = none → g'.get? b = some o) → J GB items.size ys → h.get? D = none → St g' L h2 (upd y (.ref D) fr) (led ++ [(D, IsLs ys)]) → Q .next ⟨h2, gn, dr, tk', os⟩)) NE ⟨h, gn, dr, tk, os⟩)
    (hs : ∀ x, foldedSetIterable iter env x = pure x := by intro _; rfl) :
    wpAny (model PR w) (AW d u) (exec (.Assign [.Name y py] (.ListComp elt [⟨.Name x px, iter, [], 0⟩] scope pos) spos) env) Q NE ⟨h, gn, dr, tk, os⟩ := by
  rw [exec_Assign_Name_used _ _ _ _ hsw]
  refine wpAny_bind (wpAny_standAt (wpAny_bind ?_))
  show wpAny _ _ (do let _ ← comprehension (.ListComp elt [⟨.Name x px, iter, [], 0⟩] scope pos) scope env _ (newList []) false (eval iter env) (some (assign (.Name y py) env))) _ _ _
  refine wpAny_bind (wpAny_mono (wpAny_comprehension_free (use := some (assign (.Name y py) env)) (Q := fun _ s' => Q .next s') rfl hs hclos hkind hnames
    (wpAny_mono hw (fun xv s₁ q => ?_) fun _ _ e => e)) (fun _ s' hq => wpAny_pure (wpAny_pure hq)) fun _ _ e => e)
  obtain ⟨l, h, tk, g, items, fr, led, J, rfl, rfl, H, hl, hsz, hb, hq⟩ := q
  have hl1 := hl
  refine wpAny_pyIter_list (items := items) hl1 ?_
  have nI : h.get? h.objs.size = none := none_ge (Nat.le_refl _)
  have xP : Ext h (h.push { cls := .type "list_iterator", data := .fields #[.ref l, .int 0 0] }) := fun b o e => Heap.get?_push_of_some _ e
  obtain ⟨j0, turn⟩ := hb h (Ext.refl h)
  refine comp_core (hB := h) (n := items.size) (P := fun i v => items[i]? = some v) (WI := fun i o => o.cls = .type "list_iterator" ∧ o.data = .fields #[.ref l, .int i 0]) (J := J) (RR := fun acc C => compPost (model PR w) (AW d u) NE (some (assign (.Name y py) env)) (fun _ s' => Q .next s') acc C) he hcell hkind hx ⟨_, Heap.get?_push_size _ rfl, rfl, rfl⟩ xP nI hsz ?_ ?_ ?_ j0 ?_ ?_
  · rintro s Q' E' ⟨o, eo, w1, w2⟩ hQ
    exact wpAny_pyIter_listiter (l := l) (i := 0) ⟨o, eo, w1, w2⟩ hQ
  · rintro i h₁ tk₁ Q' hi x₁ ⟨o, eo, w1, w2⟩ hQ
    have hl₁ : h₁.IsList l items := let ⟨o, e, r⟩ := hl1; ⟨o, x₁ _ _ e, r⟩
    refine wpAny_pyNext_list_item ⟨o, eo, w1, w2⟩ hl₁ (Array.getElem?_eq_getElem hi) fun h' hit hsb => ?_
    obtain ⟨o', eo', r1, r2⟩ := hit
    exact hQ _ h' tk₁ (Array.getElem?_eq_getElem hi) ⟨o', eo', r1, r2⟩ fun b o hb e => (hsb.2 b hb).trans e
  · rintro h₁ tk₁ Q' x₁ ⟨o, eo, w1, w2⟩ hQ
    have hl₁ : h₁.IsList l items := let ⟨o, e, r⟩ := hl1; ⟨o, x₁ _ _ e, r⟩
    exact wpAny_pyNext_list_end rfl ⟨o, eo, w1, w2⟩ hl₁ (by simp) fun h' he => hQ h' tk₁ fun b o hb e => he b o hb e
  · intro i v GB h₁ tk₁ ys C D cenv _ hv xG jj ce HS hy
    exact turn i v GB h₁ tk₁ ys C D _ _ cenv hv xG jj ce HS hy
  · intro C D GB ys h' tk' fr' xG jj nC nD HS
    have nC' : h.get? C = none := Ext.none xP nC
    have nD' : h.get? D = none := Ext.none xP nD
    exact comp_outS he hy H (Ext.refl h) xG nC' nD' HS fun g' h2 tk' x1 nw lift H5 => hq g' h2 tk' D GB ys x1 nw lift jj nD' H5
end

end
section
def IsRg (a b : Int) : Obj → Prop := fun o => ∃ t u v, o = { cls := .type "range", dict := none, data := .fields #[.int a t, .int b u, .int 1 v], slots := #[] }
section
variable {w : World} {g h h' : Heap} {L : Addr} {gn : Array GenState} {dr : Drawn} {os : OsState} {tk : Nat} {fr : Fm} {led : Lg} {env : Env} {d u : Nat} {A : Around} {E : Value → Shared → Prop} {Q : Flow → Shared → Prop}
theorem oRange2 {a b : Int} {t u : Tok} {Q : Value → Shared → Prop} (H : St g L h fr led) (hq : ∀ g' r h' tk', Ext g g' → St g' L h' fr led → (∃ o, g'.get? r = some o ∧ IsRg a b o) → Ext h h' → h.get? r = none → Q (.ref r) ⟨h', gn, dr, tk', os⟩) :
    wpAny (model PR w) A (call (.type "range") [.int a t, .int b u]) Q E ⟨h, gn, dr, tk, os⟩ := by
  refine call_range_2 ?_
  obtain ⟨g', x, H', e, n⟩ := H.pushG { cls := .type "range", data := .fields #[.int a t, .int b u, .int 1 tk] }
  exact hq g' _ _ _ x H' ⟨_, e, t, u, tk, rfl⟩ (fun b o e => Heap.get?_push_of_some _ e) n
theorem oRange1 {b : Int} {u : Tok} {Q : Value → Shared → Prop} (H : St g L h fr led) (hq : ∀ g' r h' tk', Ext g g' → St g' L h' fr led → (∃ o, g'.get? r = some o ∧ IsRg 0 b o) → Ext h h' → h.get? r = none → Q (.ref r) ⟨h', gn, dr, tk', os⟩) :
    wpAny (model PR w) A (call (.type "range") [.int b u]) Q E ⟨h, gn, dr, tk, os⟩ := by
  refine call_range_1 ?_
  obtain ⟨g', x, H', e, n⟩ := H.pushG { cls := .type "range", data := .fields #[.int 0 tk, .int b u, .int 1 (tk + 1)] }
  exact hq g' _ _ _ x H' ⟨_, e, tk, u, tk + 1, rfl⟩ (fun b o e => Heap.get?_push_of_some _ e) n
theorem oLenL {l : Addr} {its : List Value} {Q : Value → Shared → Prop} (hl : h.IsList l its.toArray) (hz : its.length ≤ 1000000) (hq : ∀ t tk', Q (.int its.length t) ⟨h, gn, dr, tk', os⟩) : wpAny (model PR w) A (call (.builtin "len") [.ref l]) Q E ⟨h, gn, dr, tk, os⟩ := by
  refine len_list hl (by simp; omega) ?_
  have e : ((its.toArray.size : Nat) : Int) = its.length := by simp
  rw [e]; exact hq _ _
/-- a for over a range of steps of one -/
theorem for_rangeE {x : Str} {px : Pos} {iter : Expr} {body orelse : List Stmt} {pos : Pos}
    (hw : wpAny (model PR w) (AW d u) (eval iter env) (fun v s => ∃ r h tk g fr led, ∃ (a b : Int) (n : Nat) (J : Nat → Fm → Lg → Prop), v = .ref r ∧ s = ⟨h, gn, dr, tk, os⟩ ∧ St g L h fr led ∧ (∃ o, g.get? r = some o ∧ IsRg a b o) ∧ n = (b - a).toNat ∧ 0 ≤ a ∧ a ≤ 1000000 ∧ 0 ≤ b ∧ b ≤ 1000000 ∧ J 0 fr led ∧
      (∀ i t g' h₁ tk₁ fr₁ led₁, i < n → Ext g g' → J i fr₁ led₁ → St g' L h₁ fr₁ led₁ →
        wpAny (model PR w) (AW d u) (assign (.Name x px) env (.int (a + i) t)) (fun _ s₂ => wpAny (model PR w) (AW d u) (execs body env) (Lp g' L gn dr os (J (i + 1)) Q) NE s₂) NE ⟨h₁, gn, dr, tk₁, os⟩) ∧
      (∀ h₁ tk₁ fr₁ led₁, J n fr₁ led₁ → St g L h₁ fr₁ led₁ → wpAny (model PR w) (AW d u) (execs orelse env) Q NE ⟨h₁, gn, dr, tk₁, os⟩)) NE ⟨h, gn, dr, tk, os⟩)
    (hs : ∀ x, foldedSetIterable iter env x = pure x := by intro _; rfl) :
    wpAny (model PR w) (AW d u) (exec (.For (.Name x px) iter body orelse pos) env) Q NE ⟨h, gn, dr, tk, os⟩ := by
  refine wpAny_For (wpAny_mono hw (fun v₀ s₀ q => ?_) fun _ _ x => x) hs
  obtain ⟨r, h, tk, g, fr, led, a, b, n, J, rfl, rfl, H, ⟨o, eo, t1, t2, t3, rfl⟩, hn, ha, ha', hb, hb', hJ, turn, fin⟩ := q
  refine wpAny_pyIter_range (a := a) (b := b) (c := 1) (t := t1) (u := t2) (v := t3) (H.keep _ _ eo) (small_one (by omega) (by omega) (by omega) (by omega)) ?_
  have es : Builtin.Range.rangeSize a b 1 = (n : Int) := by
    rw [rangeSize_one, hn]; split <;> omega
  rw [es]
  have HP : St g L (h.push { cls := .type "range_iterator", data := .fields #[rawInt a, rawInt (n : Int), rawInt 1] }) fr led := H.ext fun b o e => Heap.get?_push_of_some _ e
  have fresh : h.get? h.objs.size = none := none_ge (Nat.le_refl _)
  have hb1 : b - a ≤ n := by omega
  refine for_core (n := n) (P := fun i v => ∃ t, v = .int (a + i) t) (WI := fun i o => i ≤ n ∧ o = { cls := .type "range_iterator", dict := none, data := .fields #[rawInt (a + (i : Int)), rawInt ((n : Int) - (i : Int)), rawInt 1], slots := #[] }) (J := J) HP ⟨_, Heap.get?_push_size _ rfl, Nat.zero_le _, by simp⟩ (H.no fresh).1 (H.no fresh).2 (Ext.none H.keep fresh) (Q := Q) (fun _ _ q => q) ?_ ?_ ?_ hJ
    (fun i v g' h₁ tk₁ fr₁ led₁ hi hv x j HH => by obtain ⟨t, rfl⟩ := hv; exact turn i t g' h₁ tk₁ fr₁ led₁ hi x j HH) fin
  · rintro i h₁ tk₁ Q' hi x₁ ⟨o, eo, _, rfl⟩ hQ
    refine wpAny_pyNext_range_item (x := a + i) (left := (n : Int) - i) (step := 1) eo (by omega) fun h' hit hsb => ?_
    refine hQ _ h' _ ⟨_, rfl⟩ ⟨_, hit, hi, ?_⟩ fun b o hb e => (hsb.2 b hb).trans e
    have e1 : a + (i : Int) + 1 = a + ((i + 1 : Nat) : Int) := by omega
    have e2 : (n : Int) - (i : Int) - 1 = (n : Int) - ((i + 1 : Nat) : Int) := by omega
    rw [e1, e2]
  · rintro h₁ tk₁ Q' x₁ ⟨o, eo, _, rfl⟩ hQ
    exact wpAny_pyNext_range_end rfl (x := a + n) (left := (n : Int) - n) (step := 1) eo (by omega) fun h' he => hQ h' tk₁ fun b o hb e => he b o hb e
  · rintro i v s₁ Q' hv _ hq
    exact wpAny_pure hq
end

end
section
def IntV (v : Value) : Prop := ∃ y t, v = .int y t
def IntsV (its : List Value) : Prop := ∀ v ∈ its, IntV v
def IsLn (its : List Value) : Obj → Prop := fun o => IsLw its o ∧ (its.length < 12 → IsLs its o)
theorem IsLs.lw {its : List Value} {o : Obj} (x : IsLs its o) : IsLw its o := by obtain ⟨n, rfl⟩ := x; exact ⟨rfl, n, rfl⟩
theorem IntsV.set {its : List Value} {n : Nat} {v : Value} (x : IntsV its) (hv : IntV v) : IntsV (its.set n v) := fun y hy => by
  rcases List.mem_or_eq_of_mem_set hy with q | q
  · exact x y q
  · exact q ▸ hv
theorem IntsV.at {its : List Value} {n : Nat} (x : IntsV its) (hn : n < its.length) : ∃ y t, its[n]? = some (.int y t) := by
  obtain ⟨y, t, e⟩ := x _ (List.getElem_mem hn)
  exact ⟨y, t, by rw [List.getElem?_eq_getElem hn, e]⟩
theorem IntsV.sl {its : List Value} {lo hi : Option Int} (x : IntsV its) : IntsV (sl its lo hi) := fun y hy => x y (List.mem_of_mem_take (List.mem_of_mem_drop hy))
theorem b_range : bootBuiltins (Str.ofString "range") = some (.type "range") := by kernel_rfl
section
variable {w : World} {g h h' : Heap} {L : Addr} {gn : Array GenState} {dr : Drawn} {os : OsState} {tk : Nat} {fr : Fm} {led : Lg} {A : Around} {E : Value → Shared → Prop}
theorem gtL {l : Addr} {its : List Value} {k : Int} {u : Tok} {v : Value} {Q : Value → Shared → Prop} (hl : h.IsList l its.toArray) (h0 : 0 ≤ k) (hh : k < 1000000) (hx : its[k.toNat]? = some v) (hq : Q v ⟨h, gn, dr, tk, os⟩) : wpAny (model PR w) A (getItem (.ref l) (.int k u)) Q E ⟨h, gn, dr, tk, os⟩ :=
  wpAny_getItem_list hl h0 (by omega) (by simpa using hx) hq
theorem ixSn {l : Addr} {its : List Value} {k : Int} {u : Tok} {v : Value} {Q : Unit → Shared → Prop} (i : Nat) (H : St g L h fr led) (hi : led[i]? = some (l, IsLn its)) (h0 : 0 ≤ k) (hh : k < 1000000) (hx : k < its.length) (h12 : 12 ≤ its.length)
    (hq : ∀ h', St g L h' fr (led.set i (l, IsLn (its.set k.toNat v))) → Q () ⟨h', gn, dr, tk, os⟩) : wpAny (model PR w) A (setItem (.ref l) (.int k u) v) Q E ⟨h, gn, dr, tk, os⟩ := by
  obtain ⟨o, e, q, _⟩ := H.get i hi
  refine wpAny_setItem_list (IsLw.isList ⟨o, e, q⟩) h0 (by omega) (by simpa using hx) fun h' hl' hs => hq h' (H.turn i hi (fun b o n e => (hs.2 b n).trans e) ?_)
  obtain ⟨o, e, c, n, d⟩ := hl'
  exact ⟨o, e, ⟨c, n, by rw [d]; simp⟩, fun z => absurd z (by simp; omega)⟩
end
section
variable {env : Env} {L : Addr} {ks : List (Str × NameKind)} {clo : List (Str × Addr)}
theorem sw_list {elt : Expr} {gens : List Comprehension} {scope : Scope} {pos py : Pos} {y : Str} {line : Nat} (he : EnvOk env L ks clo) (hy : ks.lookup y = some .local) (hl : (py.line == pos.line) = true) (hn : (scope.names.any fun (n, k) => n == y && (k == .local || k == .cell)) = false) :
    swapsWith (.ListComp elt gens scope pos) (some (.Name y py)) line env = pure true := by
  show (pure (env.blockKind == .function && env.kindOf y == some .local && py.line == pos.line && !(scope.names.any fun (n, k) => n == y && (k == .local || k == .cell))) : Sem Bool) = pure true
  rw [he.kindOf, hy, hl, hn]
  unfold Env.blockKind
  rw [he.kind]; rfl
theorem sw_dict {kx vx : Expr} {gens : List Comprehension} {scope : Scope} {pos py : Pos} {y : Str} {line : Nat} (he : EnvOk env L ks clo) (hy : ks.lookup y = some .local) (hl : (py.line == pos.line) = true) (hn : (scope.names.any fun (n, k) => n == y && (k == .local || k == .cell)) = false) :
    swapsWith (.DictComp kx vx gens scope pos) (some (.Name y py)) line env = pure true := by
  show (pure (env.blockKind == .function && env.kindOf y == some .local && py.line == pos.line && !(scope.names.any fun (n, k) => n == y && (k == .local || k == .cell))) : Sem Bool) = pure true
  rw [he.kindOf, hy, hl, hn]
  unfold Env.blockKind
  rw [he.kind]; rfl
end
local macro_rules | `(tactic| k_offL) => `(tactic| first
  | ((with_reducible refine' ldb ?H ?e ?G ?hx ?hd ?hv ?hn ?hne ?_); (case H => assumption); (case e => assumption); (case G => assumption); (case hx => rfl); (case hd => rfl); (case hv => with_reducible exact b_range); (case hn => k_is); (case hne => decide)))
local macro_rules | `(tactic| ktr_rel) => `(tactic| first
  | ((with_reducible show wpAny _ _ (binaryOp Operator.Sub (Value.int _ _) (Value.int _ _)) _ _ _); (refine oSubI ?_); intro _ _)
  | ((with_reducible show wpAny _ _ (compareOp CmpOp.GtE (Value.int _ _) (Value.int _ _)) _ _ _); (refine PyProof.Rows.ge_int ?_))
  | ((with_reducible show wpAny _ _ (eval (Expr.Subscript _ (Expr.Slice _ _ _ _) _) _) _ _ _); refine Subscript_ ?_)
  | ((with_reducible show wpAny _ _ (eval (Expr.Slice _ _ _ _) _) _ _ _); refine wpAny_Slice ?_))
section
variable {w : World} {mg mb : Str → Option Value} {g0 g h : Heap} {tk : Nat} {gn : Array GenState} {dr : Drawn} {os : OsState}
set_option maxHeartbeats 8000000 in
theorem numbers_spec {sc : Addr} {its : List Value} {Q : Value → Shared → Prop} (G : Gd w mg mb g0) (X : Ext g0 h) (hsc : g0.IsList sc its.toArray) (hi : IntsV its) (hlen : its.length ≤ 63)
    (hq : ∀ a g2 h' tk' its', Ext g0 g2 → Ext g2 h' → Nw g0 h g2 → Ext h h' → g2.IsList a its'.toArray → IntsV its' → its'.length ≤ 12 → Q (.ref a) ⟨h', gn, dr, tk', os⟩) :
    wpAny (model PR w) (AW 810 8100) (call (.ref 183) [.ref sc]) Q NE ⟨h, gn, dr, tk, os⟩ := by
  refine' call_def (fr := [(Str.ofString "script", .ref sc)]) G X [] ?ho ?hcd ?hb ?hbind ?hfr ?hks ?hcl (fun _ q => nomatch q) List.nodup_nil ?main ?hd ?hcell ?hloc ?hco ?hgen ?hk ?hgl ?hbn
  keq_rows
  intro g L h₁ tk₁ env he G' X' H K'
  dsimp only at he
  repeat' ktr_rel
  have hsg : g.IsList sc its.toArray := let ⟨o, e, r⟩ := hsc; ⟨o, X' _ _ e, r⟩
  refine asgLC (sw_list he rfl rfl rfl) he (closureFor_none (by decide)) (by decide) rfl (by decide) rfl rfl ?_
  repeat' ktr_rel
  refine oSliceL (its := its) H (let ⟨o, e, r⟩ := hsg; ⟨o, H.keep _ _ e, r⟩) (by omega) .none (.int _ _) .none (by simp) (fun i => ⟨_, rfl⟩) ?_
  intro h₂ l1 H₂ k2 n2
  rw [slicePick_sl] at H₂
  dsimp only [List.nil_append] at H₂
  have hlen2 := sl_le its none (some 12)
  have hlen3 : (sl its none (some 12)).length = min 12 its.length := by
    unfold sl clipZ; simp; omega
  refine ⟨l1, h₂, _, g, (sl its none (some 12)).toArray, _, _, (fun _ i ys => IntsV ys ∧ ys.length = i), rfl, rfl, H₂, IsLs.isList (H₂.get 0 rfl), by simp; omega, ?_, ?_⟩
  · intro hB xB
    refine ⟨⟨(fun _ z => nomatch z), rfl⟩, ?_⟩
    intro i v GB h₃ tk₃ ys C D I WI cenv hv xG hys hce HS hy
    obtain ⟨y, ty, rfl⟩ := hi.sl (lo := none) (hi := some 12) v (by simpa using List.mem_of_getElem? (by simpa using hv))
    have snoc : ∀ v, IntV v → IntsV (ys ++ [v]) ∧ (ys ++ [v]).length = i + 1 := fun v hv => ⟨fun z hz => by
      rcases List.mem_append.mp hz with q | q
      · exact hys.1 z q
      · obtain rfl := List.mem_singleton.mp q; exact hv, by simp [hy]⟩
    repeat' ktr_rel
    all_goals exact ⟨GB, _, _, _, rfl, .inr ⟨_, rfl⟩, Ext.refl _, HS, snoc _ ⟨_, _, rfl⟩⟩
  · intro g2 h₃ tk₃ D GB ys x2 nw lift hys nD H₃
    obtain ⟨hys, hyl⟩ := hys
    rw [List.size_toArray, hlen3] at hyl
    simp (decide := true) only [List.cons_append, List.nil_append, upd, if_true, if_false] at H₃
    have H₄ := (H₃.sub (.cons _ (.cons_cons _ .slnil))).as (P' := IsLn ys) 0 rfl (fun o q => ⟨IsLs.lw q, fun _ => q⟩)
    dsimp only [List.set] at H₄
    have G2 := G'.keeps x2
    have hsg2 : g2.IsList sc its.toArray := let ⟨o, e, r⟩ := hsg; ⟨o, x2 _ _ e, r⟩
    have nD' : h.get? D = none := fresh_of (K'.ext.trans H₂.keep) nD
    clear H H₂ H₃
    repeat' ktr_rel
    refine for_rangeE (L := L) ?_
    repeat' ktr_rel
    refine oLenL (its := its) (let ⟨o, e, r⟩ := hsg2; ⟨o, H₄.keep _ _ e, r⟩) (by omega) ?_
    intro _ _
    repeat' ktr_rel
    refine oRange2 H₄ ?_
    intro g3 r h₅ tk₅ x3 H₅ hr _ _
    have G3 := G2.keeps x3
    have hsg3 : g3.IsList sc its.toArray := let ⟨o, e, r⟩ := hsg2; ⟨o, x3 _ _ e, r⟩
    clear H₄
    refine ⟨r, h₅, tk₅, g3, _, _, 12, its.length, its.length - 12, (fun i fr led => ∃ (ys : List Value) (rest : Fm), led = [(D, IsLn ys)] ∧ IntsV ys ∧ ys.length = min 12 its.length ∧ fr = [(Str.ofString "script", Value.ref sc), (Str.ofString "drawn", Value.ref D)] ++ rest ∧ (rest = [] ∨ ∃ a b, rest = [(Str.ofString "k", a), (Str.ofString "x", b)])), rfl, rfl, H₅, hr, by omega, by decide, by decide, by omega, by omega, ⟨ys, [], rfl, hys, hyl, rfl, .inl rfl⟩, ?_, ?_⟩
    · rintro i t g' h₆ tk₆ fr₁ led₁ hin x' ⟨ys, rest, rfl, hys, hyl, rfl, hrest⟩ H'
      have G4 := G3.keeps x'
      have h12 : 12 ≤ ys.length := by omega
      obtain ⟨y, ty, hy⟩ := hi.at (n := (12 + (i : Int)).toNat) (by omega)
      have hk0 : 0 ≤ Int.fmod (12 + (i : Int)) 12 ∧ Int.fmod (12 + (i : Int)) 12 < 12 := fig_lt _
      obtain ⟨z, tz, hz⟩ := hys.at (n := (Int.fmod (12 + (i : Int)) 12).toNat) (by omega)
      have hsg4 : h₆.IsList sc its.toArray := let ⟨o, e, r⟩ := hsg3; ⟨o, H'.keep _ _ (x' _ _ e), r⟩
      have fin : ∀ (v a b : Value), IntV v → ∃ (ys' : List Value) (rest : Fm), ([(D, IsLn (ys.set (Int.fmod (12 + (i : Int)) 12).toNat v))] : Lg) = [(D, IsLn ys')] ∧ IntsV ys' ∧ ys'.length = min 12 its.length ∧ ([(Str.ofString "script", Value.ref sc), (Str.ofString "drawn", Value.ref D), (Str.ofString "k", a), (Str.ofString "x", b)] : Fm) = [(Str.ofString "script", Value.ref sc), (Str.ofString "drawn", Value.ref D)] ++ rest ∧ (rest = [] ∨ ∃ a b, rest = [(Str.ofString "k", a), (Str.ofString "x", b)]) := fun v a b hv =>
        ⟨_, _, rfl, hys.set hv, by simp [hyl], rfl, .inr ⟨a, b, rfl⟩⟩
      clear H₅
      rcases hrest with rfl | ⟨v1, v2, rfl⟩
      all_goals (simp only [List.cons_append, List.nil_append, List.append_nil] at H')
      all_goals (repeat' ktr_rel)
      all_goals (
        clear H'; rename St _ _ _ _ _ => H'
        refine ixL (its := its) (let ⟨o, e, r⟩ := hsg3; ⟨o, H'.keep _ _ (x' _ _ e), r⟩) (by omega) (by omega) hy rfl ?_)
      all_goals (repeat' ktr_rel)
      all_goals (
        clear H'; rename St _ _ _ _ _ => H'
        refine wpAny_AugAssign_Subscript_any ?_)
      all_goals (repeat' ktr_rel)
      all_goals (refine gtL (its := ys) (IsLw.isList (let ⟨o, e, q⟩ := H'.get 0 rfl; ⟨o, e, q.1⟩)) hk0.1 (by omega) hz ?_)
      all_goals (repeat' ktr_rel)
      all_goals (
        refine ixSn 0 H' rfl hk0.1 (by omega) (by omega) h12 ?_
        intro h₇ H₇
        dsimp only [List.set] at H₇
        clear H'
        repeat' ktr_rel
        exact lp_next H₇ (fin _ _ _ ⟨_, _, rfl⟩))
    · rintro h₆ tk₆ fr₁ led₁ ⟨ys, rest, rfl, hys, hyl, rfl, hrest⟩ H'
      have xx : Ext g g3 := x2.trans x3
      have finish : ∀ (hh : Heap) (a : Addr) (zs : List Value) (fr' : Fm) (gg : Heap) (tk : Nat) (P : Obj → Prop), Ext g3 gg → St gg L hh fr' [(a, P)] → (∀ o, P o → IsLw zs o) → IntsV zs → zs.length ≤ 12 → h.get? a = none → Q (.ref a) ⟨hh, gn, dr, tk, os⟩ := by
        intro hh a zs fr' gg tk P xg HH hP hz hzl na
        obtain ⟨gF, y1, y2, y3, y4, _⟩ := ((HH.sub (List.nil_sublist _)).base (X'.trans (xx.trans xg))).grow h
        obtain ⟨o, e, q⟩ := HH.get 0 rfl
        exact hq a gF hh tk zs y1 y2.keep y3 (K'.ext.trans (xx.trans (xg.trans HH.keep))) (IsLw.isList ⟨o, y4 _ _ e na (HH.ne _ (.head _)) (List.not_mem_nil), hP o q⟩) hz hzl
      have hdl : ∀ {gg hh fr'}, St gg L hh fr' [(D, IsLn ys)] → hh.IsList D ys.toArray := fun HH => IsLw.isList (let ⟨o, e, q⟩ := HH.get 0 rfl; ⟨o, e, q.1⟩)
      clear H₅
      rcases hrest with rfl | ⟨v1, v2, rfl⟩
      all_goals (simp only [List.cons_append, List.nil_append, List.append_nil] at H')
      all_goals (repeat' ktr_rel)
      all_goals (
        refine oLenL (its := ys) (hdl H') (by omega) ?_
        intro _ _)
      all_goals (repeat' ktr_rel)
      all_goals first
        | (rename decide (_ < _) = false => b1
           exact finish _ _ ys _ _ _ _ (Ext.refl _) H' (fun o q => q.1) hys (by omega) nD')
        | skip
      all_goals (
        rename decide (_ < _) = true => b1
        have b1' : (ys.length : Int) < 8 := of_decide_eq_true b1
        have H₇ := H'.as (P' := IsLs ys) 0 rfl (fun o q => q.2 (by omega))
        dsimp only [List.set] at H₇
        refine newL (L := L) ?_
        repeat' ktr_rel
        refine ⟨Nat.le_of_ble_eq_true rfl, _, _, _, _, _, rfl, H₇, ?_⟩
        intro l5 h₈ H₈
        dsimp only [List.cons_append, List.nil_append] at H₈
        clear H' H₇
        repeat' ktr_rel
        refine oLenL (its := ys) (IsLs.isList (H₈.get 0 rfl)) (by omega) ?_
        intro _ _
        repeat' ktr_rel
        refine oSliceL H₈ (IsLs.isList (H₈.get 1 rfl)) (by simp) (.int _ _) .none .none (by simp) (fun i => ⟨_, rfl⟩) ?_
        intro h₉ l6 H₉ k9 n9
        rw [slicePick_sl] at H₉
        dsimp only [List.cons_append, List.nil_append] at H₉
        refine oAddL H₉ (H₉.get 0 rfl) (H₉.get 2 rfl) ?_ ?_
        · have := sl_le (α := Value) [.int 28 0, .int 28 0, .int 28 0, .int 28 0, .int 28 0, .int 28 0, .int 28 0, .int 28 0] (some (ys.length : Int)) none
          unfold sl clipZ
          simp; omega
        intro h₁₀ l7 H₁₀ k10 n10
        have H₁₁ := H₁₀.sub (.cons _ (.cons _ (.cons _ (.cons_cons _ .slnil))))
        have nl7 : h.get? l7 = none := fresh_of (K'.ext.trans (xx.trans H₉.keep)) n10
        clear H₈ H₉ H₁₀
        repeat' ktr_rel
        clear H₁₁; rename St _ _ _ _ _ => H₁₁
        refine finish _ _ _ _ _ _ _ (Ext.refl _) H₁₁ (fun o q => IsLs.lw q) ?_ ?_ nl7
        · intro v hv
          rcases List.mem_append.mp hv with q | q
          · exact hys v q
          · have q2 := List.mem_of_mem_take (List.mem_of_mem_drop q)
            simp only [List.mem_cons, List.not_mem_nil, or_false] at q2
            rcases q2 with rfl | rfl | rfl | rfl | rfl | rfl | rfl | rfl <;> exact ⟨_, _, rfl⟩
        · unfold sl clipZ
          simp; omega)
end

end
section
section
variable {w : World} {mg mb : Str → Option Value} {g0 g h h' : Heap} {L : Addr} {gn : Array GenState} {dr : Drawn} {tk : Nat} {os : OsState} {fr : Fm} {led : Lg} {a : RA} {ln n : Nat}
/-- get_token by the pure words -/
theorem get_spec {txt tok rest' : List Nat} {pb : TL} {pb' : List (List Nat)} {Q : Value → Shared → Prop} (G : Gd w mg mb g0) (X : Ext g0 h) (B : RdB a txt h) (M : RdM a ln n (vsOf pb) g0 h) (hsz : pb.length < 1000000) (hn : n ≤ txt.length) (hl : txt.length ≤ 10000)
    (hs : getT (pb.map (·.1)) (txt.drop n) = some (tok, pb', rest'))
    (hq : ∀ h' tk' t' (pb2 : TL) n' ln', Kp [a.d, a.la, a.pb] h h' → RdM a ln' n' (vsOf pb2) g0 h' → pb2.map (·.1) = pb' → n' ≤ txt.length → txt.drop n' = rest' → ln' + rest'.count 10 = ln + (txt.drop n).count 10 → Q (.str (S tok) t') ⟨h', gn, dr, tk', os⟩) :
    wpAny (model PR w) (AW 880 8800) (call (.ref 164) [.ref a.r]) Q NE ⟨h, gn, dr, tk, os⟩ := by
  cases pb with
  | nil =>
    simp only [List.map_nil, getT] at hs
    cases hsc : scan (txt.drop n) with
    | none => rw [hsc] at hs; cases hs
    | some p =>
      obtain ⟨t, r⟩ := p
      rw [hsc] at hs
      cases hs
      exact token_scan G X B M hn hl hsc fun h' tk' t' n' ln' k M' h1 h2 h3 => hq h' tk' t' [] n' ln' k M' rfl h1 h2 h3
  | cons p pb =>
    simp only [List.map_cons, getT] at hs
    cases hs
    exact token_pop (y := .str (S p.1) p.2) (its := vsOf pb) G X B M (by simp [vsOf]; simp at hsz; omega) fun h' tk' k M' => hq h' tk' p.2 pb n ln k M' rfl hn rfl rfl

theorem set_map_self {α β : Type} (f : α → β) {l : List α} {i : Nat} {x y : α} (e : l[i]? = some x) (ef : f y = f x) : (l.set i y).map f = l.map f := by
  rw [List.map_set, ef]
  apply List.ext_getElem?
  intro j
  rw [List.getElem?_set]
  split
  · rename_i q; subst q
    split
    · rw [List.getElem?_map, e]; rfl
    · rename_i q; rw [List.getElem?_eq_none (by omega)]
  · rfl
theorem St.turn3 (H : St g L h fr led) {i0 i1 i2 : Nat} {a0 a1 a2 : Addr} {P0 P1 P2 P0' P1' P2' : Obj → Prop} (e0 : led[i0]? = some (a0, P0)) (e1 : led[i1]? = some (a1, P1)) (e2 : led[i2]? = some (a2, P2)) (d01 : i0 ≠ i1) (d02 : i0 ≠ i2) (d12 : i1 ≠ i2)
    (k : ∀ b o, b ∉ [a0, a1, a2] → h.get? b = some o → h'.get? b = some o) (q0 : ∃ o, h'.get? a0 = some o ∧ P0' o) (q1 : ∃ o, h'.get? a1 = some o ∧ P1' o) (q2 : ∃ o, h'.get? a2 = some o ∧ P2' o) :
    St g L h' fr (((led.set i0 (a0, P0')).set i1 (a1, P1')).set i2 (a2, P2')) := by
  have f1 : (led.set i0 (a0, P0'))[i1]? = some (a1, P1) := by rw [List.getElem?_set_ne d01]; exact e1
  have f2 : ((led.set i0 (a0, P0')).set i1 (a1, P1'))[i2]? = some (a2, P2) := by rw [List.getElem?_set_ne d12, List.getElem?_set_ne d02]; exact e2
  have nd := H.nd
  have uniq : ∀ (i j : Nat) (p q : Addr × (Obj → Prop)), led[i]? = some p → led[j]? = some q → p.1 = q.1 → i = j := by
    intro i j p q ep eq hpq
    have hi := (List.getElem?_eq_some_iff.mp ep).1
    have hj := (List.getElem?_eq_some_iff.mp eq).1
    have x1 : (led.map (·.1))[i]? = some p.1 := by rw [List.getElem?_map, ep]; rfl
    have x2 : (led.map (·.1))[j]? = some p.1 := by rw [List.getElem?_map, eq, hpq]; rfl
    exact (List.getElem?_inj (by simpa using hi) nd).mp (x1.trans x2.symm)
  refine H.swap (fun b o nb e => k b o (fun q => nb ?_) e) ?_ ?_
  · simp only [List.mem_cons, List.not_mem_nil, or_false] at q
    rcases q with rfl | rfl | rfl
    · exact List.mem_map_of_mem (f := (·.1)) (List.mem_of_getElem? e0)
    · exact List.mem_map_of_mem (f := (·.1)) (List.mem_of_getElem? e1)
    · exact List.mem_map_of_mem (f := (·.1)) (List.mem_of_getElem? e2)
  · exact (set_map_self (·.1) (y := (a2, P2')) f2 rfl).trans ((set_map_self (·.1) (y := (a1, P1')) f1 rfl).trans (set_map_self (·.1) (y := (a0, P0')) e0 rfl))
  · intro p hp
    obtain ⟨j, ej⟩ := List.getElem?_of_mem hp
    rw [List.getElem?_set] at ej
    split at ej
    · split at ej
      · cases ej; exact q2
      · cases ej
    · rename_i j2
      rw [List.getElem?_set] at ej
      split at ej
      · split at ej
        · cases ej; exact q1
        · cases ej
      · rename_i j1
        rw [List.getElem?_set] at ej
        split at ej
        · split at ej
          · cases ej; exact q0
          · cases ej
        · rename_i j0
          obtain ⟨o, e, q⟩ := H.at_ p (List.mem_of_getElem? ej)
          refine ⟨o, k _ _ (fun z => ?_) e, q⟩
          simp only [List.mem_cons, List.not_mem_nil, or_false] at z
          rcases z with z | z | z
          · exact j0 (uniq _ _ _ _ e0 ej z.symm)
          · exact j1 (uniq _ _ _ _ e1 ej z.symm)
          · exact j2 (uniq _ _ _ _ e2 ej z.symm)
/-- the reader's parts, off the ledger -/
theorem St.rdm (H : St g L h fr led) {i0 i1 i2 : Nat} {its : List Value} (e0 : led[i0]? = some (a.d, RdD a ln)) (e1 : led[i1]? = some (a.la, RdAt n)) (e2 : led[i2]? = some (a.pb, IsLs its)) (d12 : i1 ≠ i2) : RdM a ln n its g h := by
  refine ⟨H.get i0 e0, H.get i1 e1, H.get i2 e2, H.offI i0 e0, H.offI i1 e1, H.offI i2 e2, fun q => d12 ?_⟩
  have hi := (List.getElem?_eq_some_iff.mp e1).1
  have x1 : (led.map (·.1))[i1]? = some a.la := by rw [List.getElem?_map, e1]; rfl
  have x2 : (led.map (·.1))[i2]? = some a.la := by rw [List.getElem?_map, e2, q]; rfl
  exact (List.getElem?_inj (by simpa using hi) H.nd).mp (x1.trans x2.symm)
/-- a word is got, in a frame -/
theorem getS {txt tok rest' : List Nat} {pb : TL} {pb' : List (List Nat)} {Q : Value → Shared → Prop} (i : Nat) (G : Gd w mg mb g) (H : St g L h fr led) (B : RdB a txt g) (e0 : led[i]? = some (a.d, RdD a ln)) (e1 : led[i + 1]? = some (a.la, RdAt n)) (e2 : led[i + 2]? = some (a.pb, IsLs (vsOf pb)))
    (hsz : pb.length < 1000000) (hn : n ≤ txt.length) (hl : txt.length ≤ 10000) (hs : getT (pb.map (·.1)) (txt.drop n) = some (tok, pb', rest'))
    (hq : ∀ h' tk' t' (pb2 : TL) n' ln', St g L h' fr (((led.set i (a.d, RdD a ln')).set (i + 1) (a.la, RdAt n')).set (i + 2) (a.pb, IsLs (vsOf pb2))) → pb2.map (·.1) = pb' → n' ≤ txt.length → txt.drop n' = rest' → ln' + rest'.count 10 = ln + (txt.drop n).count 10 → Q (.str (S tok) t') ⟨h', gn, dr, tk', os⟩) :
    wpAny (model PR w) (AW 880 8800) (call (.ref 164) [.ref a.r]) Q NE ⟨h, gn, dr, tk, os⟩ := by
  refine get_spec G H.keep (B.ext H.keep) (H.rdm e0 e1 e2 (by omega)) hsz hn hl hs fun h' tk' t' pb2 n' ln' k M h1 h2 h3 h4 => hq h' tk' t' pb2 n' ln' ?_ h1 h2 h3 h4
  exact H.turn3 e0 e1 e2 (by omega) (by omega) (by omega) (fun b o nb e => k b o e nb) M.d M.la M.pb
/-- a word is pushed, in a frame -/
theorem pushS {txt : List Nat} {y : Value} {its : List Value} {Q : Value → Shared → Prop} (i : Nat) (G : Gd w mg mb g) (H : St g L h fr led) (B : RdB a txt g) (e0 : led[i]? = some (a.d, RdD a ln)) (e1 : led[i + 1]? = some (a.la, RdAt n)) (e2 : led[i + 2]? = some (a.pb, IsLs its))
    (hsz : its.length < 1000000)
    (hq : ∀ h' tk', St g L h' fr (((led.set i (a.d, RdD a ln)).set (i + 1) (a.la, RdAt n)).set (i + 2) (a.pb, IsLs (its ++ [y]))) → Q .none ⟨h', gn, dr, tk', os⟩) :
    wpAny (model PR w) (AW 880 8800) (call (.ref 171) [.ref a.r, y]) Q NE ⟨h, gn, dr, tk, os⟩ := by
  refine push_spec G H.keep (B.ext H.keep) (H.rdm e0 e1 e2 (by omega)) hsz fun h' tk' k M => hq h' tk' ?_
  exact H.turn3 e0 e1 e2 (by omega) (by omega) (by omega) (fun b o nb e => k b o e nb) M.d M.la M.pb
theorem St.perm (H : St g L h fr led) {led' : Lg} (p : led.Perm led') : St g L h fr led' :=
  ⟨H.ns, H.keep, fun q hq => H.at_ q (p.mem_iff.mpr hq), fun q hq => H.off q (p.mem_iff.mpr hq), fun q hq => H.ne q (p.mem_iff.mpr hq), H.nL, (p.map _).nodup_iff.mp H.nd⟩
end

end
section
section
variable {w : World} {mg mb : Str → Option Value} {g g2 g0 h h' : Heap} {L : Addr} {gn : Array GenState} {dr : Drawn} {tk : Nat} {os : OsState} {fr : Fm} {led rest : Lg} {a o : RA} {ln n : Nat} {A : Around} {E : Value → Shared → Prop}
theorem St.machine (H : St g L h fr ((206, P) :: rest)) (k : Kp [206] h h') (x2 : Ext g2 h') (nw : Nw g h g2) {oT : Obj} (hT : h'.get? 206 = some oT) (M : RdM o 1 0 [] h h') (m1 : g2.get? o.d = none) (m2 : g2.get? o.la = none) (m3 : g2.get? o.pb = none) :
    St g2 L h' fr ((o.d, RdD o 1) :: (o.la, RdAt 0) :: (o.pb, IsLs []) :: (206, fun o => o = oT) :: rest) := by
  have nd := H.nd
  rw [List.map_cons, List.nodup_cons] at nd
  have hL6 : (206 : Addr) ≠ L := H.ne (206, P) (.head _)
  have kk : ∀ p ∈ rest, p.1 ≠ 206 := fun p hp q => nd.1 (by have := List.mem_map_of_mem (f := fun x : Addr × (Obj → Prop) => x.1) hp; rw [q] at this; exact this)
  have n1 := H.no M.nd
  have n2 := H.no M.nla
  have n3 := H.no M.npb
  have nn := M.ndup
  simp only [List.nodup_cons, List.mem_cons, List.not_mem_nil, or_false, not_or, not_false_eq_true, List.nodup_nil, and_true] at nn
  refine ⟨ns_but (L := L) H.ns fun ob e => k _ _ e (by simpa using Ne.symm hL6), x2, ?_, ?_, ?_, ?_, ?_⟩
  · intro p hp
    simp only [List.mem_cons] at hp
    rcases hp with rfl | rfl | rfl | rfl | hp
    · exact M.d
    · exact M.la
    · exact M.pb
    · exact ⟨oT, hT, rfl⟩
    · obtain ⟨ob, e, q⟩ := H.at_ p (.tail _ hp); exact ⟨ob, k _ _ e (by simpa using kk p hp), q⟩
  · intro p hp
    simp only [List.mem_cons] at hp
    rcases hp with rfl | rfl | rfl | rfl | hp
    · exact m1
    · exact m2
    · exact m3
    · obtain ⟨ob, e, _⟩ := H.at_ (206, P) (.head _); exact nw.none (H.off (206, P) (.head _)) e
    · obtain ⟨ob, e, _⟩ := H.at_ p (.tail _ hp); exact nw.none (H.off p (.tail _ hp)) e
  · intro p hp
    simp only [List.mem_cons] at hp
    rcases hp with rfl | rfl | rfl | rfl | hp
    · exact n1.1
    · exact n2.1
    · exact n3.1
    · exact hL6
    · exact H.ne p (.tail _ hp)
  · obtain ⟨ob, _, _, e, _⟩ := H.ns
    exact nw.none H.nL e
  · simp only [List.map_cons, List.nodup_cons, List.mem_cons, not_or] at n1 n2 n3 nd ⊢
    exact ⟨⟨nn.1.1, nn.1.2, n1.2.1, n1.2.2⟩, ⟨nn.2, n2.2.1, n2.2.2⟩, ⟨n3.2.1, n3.2.2⟩, nd.1, nd.2⟩
/-- reader.lineno and the reader's methods -/
theorem rdLn {expr : Bool} {Q : Value → Shared → Prop} (i : Nat) (G : Gd w mg mb g) (H : St g L h fr led) (hr : g.get? a.r = some (instObj 174 a.d)) (hi : led[i]? = some (a.d, RdD a ln)) (hq : ∀ t tk', Q (.int ln t) ⟨h, gn, dr, tk', os⟩) :
    wpAny (model PR w) A (getAttr (.ref a.r) (Str.ofString "lineno") expr) Q E ⟨h, gn, dr, tk, os⟩ := by
  obtain ⟨ob, e, t1, t2, ii⟩ := H.get i hi
  exact atG G H (H.keep _ _ hr) ⟨ob, e, ii⟩ rfl (by k_is) (by k_is) (by k_is) (by k_is) rfl (hq _)
theorem rdPb {expr : Bool} {Q : Value → Shared → Prop} (i : Nat) (G : Gd w mg mb g) (H : St g L h fr led) (hr : g.get? a.r = some (instObj 174 a.d)) (hi : led[i]? = some (a.d, RdD a ln)) (hq : ∀ tk', Q (.ref a.pb) ⟨h, gn, dr, tk', os⟩) :
    wpAny (model PR w) A (getAttr (.ref a.r) (Str.ofString "pushback") expr) Q E ⟨h, gn, dr, tk, os⟩ := by
  obtain ⟨ob, e, t1, t2, ii⟩ := H.get i hi
  exact atG G H (H.keep _ _ hr) ⟨ob, e, ii⟩ rfl (by k_is) (by k_is) (by k_is) (by k_is) rfl hq
theorem rdGet {pl : Sem Bool} {Q : Value × List Value → Shared → Prop} (i : Nat) (G : Gd w mg mb g) (H : St g L h fr led) (hr : g.get? a.r = some (instObj 174 a.d)) (hi : led[i]? = some (a.d, RdD a ln)) (hq : Q (.ref 164, [.ref a.r]) ⟨h, gn, dr, tk, os⟩) :
    wpAny (model PR w) A (getMethod (.ref a.r) (Str.ofString "get_token") pl) Q E ⟨h, gn, dr, tk, os⟩ := by
  obtain ⟨ob, e, t1, t2, ii⟩ := H.get i hi
  exact gmF G H (H.keep _ _ hr) ⟨ob, e, ii⟩ rfl (by k_is) (by k_is) (by k_is) hq
theorem rdPush {pl : Sem Bool} {Q : Value × List Value → Shared → Prop} (i : Nat) (G : Gd w mg mb g) (H : St g L h fr led) (hr : g.get? a.r = some (instObj 174 a.d)) (hi : led[i]? = some (a.d, RdD a ln)) (hq : Q (.ref 171, [.ref a.r]) ⟨h, gn, dr, tk, os⟩) :
    wpAny (model PR w) A (getMethod (.ref a.r) (Str.ofString "push_token") pl) Q E ⟨h, gn, dr, tk, os⟩ := by
  obtain ⟨ob, e, t1, t2, ii⟩ := H.get i hi
  exact gmF G H (H.keep _ _ hr) ⟨ob, e, ii⟩ rfl (by k_is) (by k_is) (by k_is) hq
theorem call0K {f : Addr} {first : List Value} {pos : Pos} {env : Env} {s : Shared} {Q : Value → Shared → Prop} (G : Gd w mg mb g) (X : Ext g s.heap) (hk : keepIn (Mine.hd.heap_39 w.params) (.ref f) = true) (hq : wpAny (model PR w) A (call (.ref f) (first ++ [])) Q E s) : wpAny (model PR w) A (callWith pos (.ref f) first (backTo pos (starEach [] env)) []) Q E s :=
  callWith_K0 (G.K.keeps X) hk hq
/-- a text under a written key -/
theorem dgT {value slice : Expr} {td : Addr} {kvs : List (Str × Value)} {k : Str} {t : Tok} {v : Value} {Q : Value → Shared → Prop} (hd : h.DictOf (strKind PR w) td kvs) (hv : valueAt kvs k = some v)
    (hs : subscripted slice false (.ref td) (.str k t) = operate [.ref td, .str k t] (getItem (.ref td) (.str k t))) (hq : ∀ tk', Q v ⟨h, gn, dr, tk', os⟩) : wpAny (model PR w) A (subscriptTail value slice (.ref td) (.str k t)) Q E ⟨h, gn, dr, tk, os⟩ :=
  tail_any (T := "dict") hd.typeIs slot_dict_getitem.lookup (wpAny_getItem_of (strKind_is PR w k t) hd.mapOf hv (hq _)) hs
theorem oNinD {td : Addr} {kvs : List (Str × Value)} {k : Str} {t : Tok} {Q : Value → Shared → Prop} (hd : h.DictOf (strKind PR w) td kvs) (h1 : td ≠ 1) (hq : ∀ tk', Q (.bool (!(valueAt kvs k).isSome)) ⟨h, gn, dr, tk', os⟩) : wpAny (model PR w) A (compareOp .NotIn (.str k t) (.ref td)) Q E ⟨h, gn, dr, tk, os⟩ :=
  wpAny_notIn_of (strKind_is PR w k t) (beq_eq_false_iff_ne.mpr (show td ≠ sysModules from h1)) hd.mapOf (hq _)
theorem strsAre_vs : ∀ l : TL, StrsAre (vsOf l) (l.map fun p => S p.1)
  | [] => .nil
  | p :: r => .cons _ _ (strsAre_vs r)
theorem oInL {l : Addr} {ts : TL} {c : List Nat} {t : Tok} {Q : Value → Shared → Prop} (hl : h.IsList l (vsOf ts).toArray) (hq : Q (.bool (decide (c ∈ ts.map (·.1)))) ⟨h, gn, dr, tk, os⟩) : wpAny (model PR w) A (compareOp .In (.str (S c) t) (.ref l)) Q E ⟨h, gn, dr, tk, os⟩ := by
  refine in_list_strs hl (strsAre_vs ts) ?_
  have : ((ts.map fun p => S p.1).any (· == S c)) = decide (c ∈ ts.map (·.1)) := by
    rw [Bool.eq_iff_iff]
    simp only [List.any_map, List.any_eq_true, Function.comp_apply, S_inj, beq_iff_eq, decide_eq_true_eq, List.mem_map]
  rw [this]; exact hq
def TextsAt (w : World) (g : Heap) (td : Addr) (files : Files) : Prop := td ≠ 1 ∧ ∃ kvs, g.DictOf (strKind PR w) td kvs ∧ ∀ k : List Nat, match files.lookup k with
  | some ns => ∃ t, valueAt kvs (S k) = some (.str (S (fileT ns)) t)
  | none => valueAt kvs (S k) = none
theorem TextsAt.keeps {td : Addr} {files : Files} (x : TextsAt w g td files) (k : Ext g h) : TextsAt w h td files := let ⟨n, kvs, d, r⟩ := x; ⟨n, kvs, d.keep k, r⟩
end

end
section
/-- the end of a turn, the base growing -/
def LpG (g : Heap) (L : Addr) (gn : Array GenState) (dr : Drawn) (os : OsState) (pre : Lg) (J : Heap → Fm → Lg → Prop) (Q : Flow → Shared → Prop) : Flow → Shared → Prop := fun f s => match f with
  | .next => ∃ g' fr led h tk, s = ⟨h, gn, dr, tk, os⟩ ∧ Ext g g' ∧ St g' L h fr (pre ++ led) ∧ J g' fr led
  | .cont => ∃ g' fr led h tk, s = ⟨h, gn, dr, tk, os⟩ ∧ Ext g g' ∧ St g' L h fr (pre ++ led) ∧ J g' fr led
  | .brk => Q .next s
  | .ret v => Q (.ret v) s
section
variable {w : World} {g g' h : Heap} {L : Addr} {gn : Array GenState} {dr : Drawn} {os : OsState} {tk : Nat} {fr : Fm} {led pre : Lg} {Q : Flow → Shared → Prop} {env : Env} {d u : Nat} {J0 : Heap → Fm → Lg → Prop}
theorem lpG_next (x : Ext g g') (H : St g' L h fr (pre ++ led)) (j : J0 g' fr led) : LpG g L gn dr os pre J0 Q .next ⟨h, gn, dr, tk, os⟩ := ⟨_, _, _, _, _, rfl, x, H, j⟩
theorem St.hideB (H : St g L h fr led) (I : Addr) : ∃ g', (∀ b o, b ≠ I → g.get? b = some o → g'.get? b = some o) ∧ Ext g' g ∧ g'.get? I = none ∧ St g' L h fr led := by
  refine ⟨hideAll g [I], fun b o n e => hideAll_get _ e (by simpa using n), fun b o e => of_hideAll _ e, hideAll_none _ (.head _), ?_⟩
  exact H.base fun b o e => of_hideAll _ e
/-- a for over a list, the base growing; the iterator heads the ledger -/
theorem for_listG {target iter : Expr} {body orelse : List Stmt} {pos : Pos} {l : Addr} {items : Array Value} {J : Heap → Nat → Fm → Lg → Prop}
    (H : St g L h fr led) (hl : g.IsList l items)
    (hiter : ∀ Q' : Value → Shared → Prop, (∀ tk', Q' (.ref l) ⟨h, gn, dr, tk', os⟩) → wpAny (model PR w) (AW d u) (eval iter env) Q' NE ⟨h, gn, dr, tk, os⟩)
    (hJ : J g 0 fr led)
    (turn : ∀ i v g' h₁ tk₁ fr₁ led₁ I WI, items[i]? = some v → Ext g g' → J g' i fr₁ led₁ → St g' L h₁ fr₁ ((I, WI) :: led₁) →
      wpAny (model PR w) (AW d u) (assign target env v) (fun _ s₂ => wpAny (model PR w) (AW d u) (execs body env) (LpG g' L gn dr os [(I, WI)] (fun g'' => J g'' (i + 1)) Q) NE s₂) NE ⟨h₁, gn, dr, tk₁, os⟩)
    (fin : ∀ g' h₁ tk₁ fr₁ led₁, Ext g g' → J g' items.size fr₁ led₁ → St g' L h₁ fr₁ led₁ → wpAny (model PR w) (AW d u) (execs orelse env) Q NE ⟨h₁, gn, dr, tk₁, os⟩)
    (hr : ∀ (i : Nat) (v : Value), items[i]? = some v → (∃ a, v = Value.ref a) ∨ ∃ x p, target = Expr.Name x p)
    (ht : (∃ x p, target = Expr.Name x p) ∨ ∃ es k p, target = Expr.Tuple es k p)
    (hs : ∀ x, foldedSetIterable iter env x = pure x := by intro _; rfl) :
    wpAny (model PR w) (AW d u) (exec (.For target iter body orelse pos) env) Q NE ⟨h, gn, dr, tk, os⟩ := by
  refine wpAny_For (hiter _ fun tk₀ => wpAny_pyIter_list (items := items) (let ⟨o, e, r⟩ := hl; ⟨o, H.keep _ _ e, r⟩) ?_) hs
  have HP := H.alloc { cls := .type "list_iterator", data := .fields #[.ref l, .int 0 0] } (fun o => o.cls = .type "list_iterator" ∧ o.data = .fields #[.ref l, .int (0 : Nat) 0]) ⟨rfl, rfl⟩
  have HQ := HP.perm (List.perm_append_comm (l₁ := led))
  dsimp only [List.cons_append, List.nil_append] at HQ
  refine codeAny_forLoop_any (fun m s' => ∃ i g' h₁ tk₁ fr₁ led₁, s' = ⟨h₁, gn, dr, tk₁, os⟩ ∧ m = items.size - i ∧ i ≤ items.size ∧ Ext g g' ∧ J g' i fr₁ led₁ ∧ St g' L h₁ fr₁ ((h.objs.size, fun o => o.cls = .type "list_iterator" ∧ o.data = .fields #[.ref l, .int (i : Nat) 0]) :: led₁)) ?_ (items.size - 0) ⟨0, g, _, _, fr, led, rfl, rfl, Nat.zero_le _, Ext.refl _, hJ, HQ⟩
  rintro m s' ⟨i, g', h₁, tk₁, fr₁, led₁, rfl, rfl, hin, x₁, J₁, H₁⟩
  obtain ⟨oI, eI, w1, w2⟩ := H₁.get 0 rfl
  have hl₁ : h₁.IsList l items := let ⟨o, e, r⟩ := hl; ⟨o, H₁.keep _ _ (x₁ _ _ e), r⟩
  rcases Nat.lt_or_ge i items.size with hlt | hge
  · refine ne_noted (wpAny_pyNext_list_item ⟨oI, eI, w1, w2⟩ hl₁ (Array.getElem?_eq_getElem hlt) fun h₂ hit hsb => ?_)
    obtain ⟨o', eo', r1, r2⟩ := hit
    have H₂ := H₁.turn 0 rfl (P' := fun o => o.cls = .type "list_iterator" ∧ o.data = .fields #[.ref l, .int (i + 1 : Nat) 0]) (fun b o hb e => (hsb.2 b hb).trans e) ⟨o', eo', r1, r2⟩
    dsimp only [List.set] at H₂
    have body_ : wpAny (model PR w) (AW d u) (letOwnedTupleGo target (.ref h.objs.size) items[i]) (fun _ s₁ => s₁ = ⟨h₂, gn, dr, tk₁, os⟩) NE ⟨h₂, gn, dr, tk₁, os⟩ := by
      rcases ht with ⟨x, p, rfl⟩ | ⟨es, k, p, rfl⟩
      · exact wpAny_pure rfl
      · rcases hr i items[i] (Array.getElem?_eq_getElem hlt) with ⟨a, ea⟩ | ⟨x, p', e⟩
        · rw [ea]; exact wpAny_letOwnedTupleGo_listiter ⟨o', eo', r1, r2⟩ rfl
        · cases e
    refine ne_noted (wpAny_mono body_ (fun _ s₁ z => ?_) fun _ _ z => z)
    subst z
    refine ne_noted (wpAny_mono (turn i items[i] g' h₂ tk₁ fr₁ led₁ _ _ (Array.getElem?_eq_getElem hlt) x₁ J₁ H₂) (fun _ s₂ q => ne_noted (wpAny_mono q (fun f s₃ q => ?_) fun _ _ x => x)) fun _ _ x => x)
    have step : (∃ g'' fr led hh tk, s₃ = (⟨hh, gn, dr, tk, os⟩ : Shared) ∧ Ext g' g'' ∧ St g'' L hh fr ([(h.objs.size, fun o : Obj => o.cls = .type "list_iterator" ∧ o.data = .fields #[.ref l, .int (i + 1 : Nat) 0])] ++ led) ∧ J g'' (i + 1) fr led) → ∃ m, m < items.size - i ∧ ∃ i g' h₁ tk₁ fr₁ led₁, s₃ = (⟨h₁, gn, dr, tk₁, os⟩ : Shared) ∧ m = items.size - i ∧ i ≤ items.size ∧ Ext g g' ∧ J g' i fr₁ led₁ ∧ St g' L h₁ fr₁ ((h.objs.size, fun o => o.cls = .type "list_iterator" ∧ o.data = .fields #[.ref l, .int (i : Nat) 0]) :: led₁) := by
      rintro ⟨g'', fr', led', h', tk', rfl, x₃, H₃, J₃⟩
      exact ⟨items.size - (i + 1), by omega, i + 1, g'', h', tk', fr', led', rfl, rfl, hlt, x₁.trans x₃, J₃, H₃⟩
    cases f with
    | next => exact step q
    | cont => exact step q
    | brk => exact q
    | ret v => exact q
  · obtain rfl : i = items.size := Nat.le_antisymm hin hge
    have nd := H₁.nd
    rw [List.map_cons, List.nodup_cons] at nd
    refine ne_noted (wpAny_pyNext_list_end rfl ⟨oI, eI, w1, w2⟩ hl₁ (by simp) fun h₂ he => ?_)
    have HE := (H₁.sub (.cons _ (List.Sublist.refl _))).but (I := h.objs.size) (h' := h₂) (fun b o nb e => he b o nb e) (H₁.ne _ (.head _)) nd.1 (H₁.offI 0 rfl)
    exact ne_noted (wpAny_mono (fin g' h₂ tk₁ fr₁ led₁ x₁ J₁ HE) (fun f s₃ q => q) fun _ _ x => x)
/-- a while, the base growing -/
theorem while_coreG {test : Expr} {body orelse : List Stmt} {pos : Pos} {J : Heap → Nat → Fm → Lg → Prop} {n : Nat}
    (H : St g L h fr led) (hJ : J g n fr led)
    (turn : ∀ n g' h₁ tk₁ fr₁ led₁, Ext g g' → J g' n fr₁ led₁ → St g' L h₁ fr₁ led₁ →
      wpAny (model PR w) (AW d u) (isTrue test env (eval test env)) (fun b s₂ =>
        (b = true → wpAny (model PR w) (AW d u) (execs body env) (LpG g' L gn dr os [] (fun g'' fr led => ∃ m, m < n ∧ J g'' m fr led) Q) NE s₂) ∧ (b = false → wpAny (model PR w) (AW d u) (execs orelse env) Q NE s₂)) NE ⟨h₁, gn, dr, tk₁, os⟩) :
    wpAny (model PR w) (AW d u) (exec (.While test body orelse pos) env) Q NE ⟨h, gn, dr, tk, os⟩ := by
  refine wpAny_While (codeAny_whileLoop (fun m s' => ∃ g' h₁ tk₁ fr₁ led₁, s' = ⟨h₁, gn, dr, tk₁, os⟩ ∧ Ext g g' ∧ St g' L h₁ fr₁ led₁ ∧ J g' m fr₁ led₁) ?_ n ⟨g, h, tk, fr, led, rfl, Ext.refl _, H, hJ⟩)
  rintro m s' ⟨g', h₁, tk₁, fr₁, led₁, rfl, x₁, H₁, J₁⟩
  refine ne_noted (wpAny_mono (turn m g' h₁ tk₁ fr₁ led₁ x₁ J₁ H₁) (fun b s₂ q => ?_) fun _ _ x => x)
  cases b with
  | false => exact ne_noted (q.2 rfl)
  | true =>
    refine ne_noted (wpAny_mono (q.1 rfl) (fun f s₃ q => ?_) fun _ _ x => x)
    cases f with
    | next => obtain ⟨g'', fr', led', h', tk', rfl, x', H', m', hm, j⟩ := q; exact ⟨m', hm, g'', h', tk', fr', led', rfl, x₁.trans x', H', j⟩
    | cont => obtain ⟨g'', fr', led', h', tk', rfl, x', H', m', hm, j⟩ := q; exact ⟨m', hm, g'', h', tk', fr', led', rfl, x₁.trans x', H', j⟩
    | brk => exact q
    | ret v => exact q
end

end
section
theorem map_eraseIdx {α β : Type} (f : α → β) : ∀ (l : List α) (i : Nat), (l.eraseIdx i).map f = (l.map f).eraseIdx i
  | [], _ => rfl
  | _ :: _, 0 => rfl
  | a :: r, i + 1 => by simp [map_eraseIdx f r i]
section
variable {w : World} {g g' h h' : Heap} {L : Addr} {gn : Array GenState} {dr : Drawn} {os : OsState} {tk : Nat} {fr fr' : Fm} {led : Lg} {env : Env} {d u : Nat} {ks : List (Str × NameKind)} {clo : List (Str × Addr)} {A : Around} {E : Value → Shared → Prop} {M : Model}
/-- an entry of the ledger joins the base -/
theorem St.toBase (H : St g L h fr led) (i : Nat) {b : Addr} {P : Obj → Prop} (hi : led[i]? = some (b, P)) : ∃ g', Ext g g' ∧ St g' L h fr (led.eraseIdx i) ∧ (∃ o, g'.get? b = some o ∧ P o) ∧ ∀ c o, h.get? c = some o → c ≠ L → c ∉ led.map (·.1) → g'.get? c = some o := by
  obtain ⟨g', x, H', inn⟩ := (H.sub (List.eraseIdx_sublist led i)).rebase
  obtain ⟨o, e, q⟩ := H.get i hi
  have nb : b ∉ (led.eraseIdx i).map (·.1) := by
    intro z
    have nd := H.nd
    obtain ⟨hlt, hx⟩ := List.getElem?_eq_some_iff.mp hi
    have e1 : (led.eraseIdx i).map (·.1) = (led.map (·.1)).eraseIdx i := by
      exact map_eraseIdx _ _ _
    rw [e1] at z
    obtain ⟨j, hj⟩ := List.getElem?_of_mem z
    rw [List.getElem?_eraseIdx] at hj
    have hb : (led.map (·.1))[i]? = some b := by rw [List.getElem?_map, hi]; rfl
    have hlt' : i < (led.map (·.1)).length := by simpa using hlt
    split at hj
    · have := (List.getElem?_inj hlt' nd).mp (hb.trans hj.symm); omega
    · have := (List.getElem?_inj hlt' nd).mp (hb.trans hj.symm); omega
  refine ⟨g', x, H', ⟨o, inn _ _ e (H.ne _ (List.mem_of_getElem? hi)) nb, q⟩, fun c oc ec n1 n2 => inn c oc ec n1 fun z => n2 ?_⟩
  obtain ⟨p, hp, rfl⟩ := List.mem_map.mp z
  exact List.mem_map_of_mem ((List.eraseIdx_sublist led i).subset hp)
inductive PoLB (gn : Array GenState) (dr : Drawn) (os : OsState) (L : Addr) (Q : Value → Shared → Prop) (vs : List Value) (s₁ : Shared) : Prop
  | mk (h1 : vs.length ≤ sizeLine) (h' : Heap) (tk' : Nat) (fr' : Fm) (g' : Heap) (led' : Lg) (h2 : s₁ = ⟨h', gn, dr, tk', os⟩) (h3 : St g' L h' fr' led')
    (h4 : ∀ g'' l h₂, Ext g' g'' → St g'' L h₂ fr' led' → g''.IsList l vs.toArray → (∃ o, g''.get? l = some o ∧ IsLs vs o) → Q (.ref l) ⟨h₂, gn, dr, tk', os⟩)
/-- a new list that does not change -/
theorem newLB {elts : List Expr} {pos : Pos} {Q : Value → Shared → Prop}
    (hw : wpAny (model PR w) A (spliced (backTo pos (starEach elts env))) (PoLB gn dr os L Q) E ⟨h, gn, dr, tk, os⟩) :
    wpAny (model PR w) A (eval (.List elts pos) env) Q E ⟨h, gn, dr, tk, os⟩ := by
  refine wpAny_List (wpAny_mono hw (fun vs s₁ q => ?_) fun _ _ z => z)
  obtain ⟨q1, h', tk', fr', g', led', rfl, H, q9⟩ := q
  obtain ⟨g'', x'', H'', e, n⟩ := H.pushG { cls := .type "list", data := .seq vs.toArray }
  exact ⟨q1, q9 _ _ _ x'' H'' ⟨_, e, rfl, _, rfl⟩ ⟨_, e, 0, rfl⟩⟩
theorem oAddLB {l b : Addr} {xs ys : List Value} {Q : Value → Shared → Prop} (H : St g L h fr led) (hl : ∃ o, g.get? l = some o ∧ IsLs xs o) (hb : ∃ o, g.get? b = some o ∧ IsLs ys o) (hsz : xs.length + ys.length ≤ 100000)
    (hq : ∀ g' h' a, Ext g g' → St g' L h' fr led → g'.IsList a (xs ++ ys).toArray → (∃ o, g'.get? a = some o ∧ IsLs (xs ++ ys) o) → Q (.ref a) ⟨h', gn, dr, tk, os⟩) : wpAny (model PR w) A (binaryOp .Add (.ref l) (.ref b)) Q E ⟨h, gn, dr, tk, os⟩ := by
  refine oAddL H (let ⟨o, e, q⟩ := hl; ⟨o, H.keep _ _ e, q⟩) (let ⟨o, e, q⟩ := hb; ⟨o, H.keep _ _ e, q⟩) hsz fun h' a H' k n => ?_
  obtain ⟨g', x, H2, e, _⟩ := H'.toBase led.length (b := a) (P := IsLs (xs ++ ys)) (by simp)
  have e2 : (led ++ [(a, IsLs (xs ++ ys))]).eraseIdx led.length = led := by
    rw [List.eraseIdx_append_of_length_le (Nat.le_refl _)]; simp
  rw [e2] at H2
  exact hq g' h' a x H2 (IsLs.isList e) e
/-- a list comprehension over a list, its value -/
theorem evLC {elt iter : Expr} {x : Str} {px : Pos} {scope : Scope} {cl : List (Str × Addr)} {pos : Pos} {Q : Value → Shared → Prop}
    (he : EnvOk env L ks clo) (hclos : closureFor scope env = pure cl) (hcell : ∀ y ∈ scope.names, y.2 ≠ .cell) (hkind : scope.kind = .function) (hnames : ∀ z ∈ scope.names, z.2 = .local → scope.names.lookup z.1 = some .local) (hx : scope.names.lookup x = some .local)
    (hw : wpAny (model PR w) (AW d u) (eval iter env) (fun v s₁ => ∃ l h tk g items fr led, ∃ J : Heap → Nat → List Value → Prop, v = .ref l ∧ s₁ = ⟨h, gn, dr, tk, os⟩ ∧ St g L h fr led ∧ h.IsList l items ∧ items.size ≤ 100000 ∧
      (J h 0 [] ∧ ∀ i v GB h₁ tk₁ ys C D I WI cenv, items[i]? = some v → Ext h GB → J GB i ys → EnvOk cenv C (relabel scope env).names cl → St GB C h₁ [(x, v)] [(D, IsLs ys), (I, WI)] → ys.length = i →
        wpAny (model PR w) (AW d u) (eval elt cenv) (fun y s₃ => ∃ GB' h' tk' fr', s₃ = ⟨h', gn, dr, tk', os⟩ ∧ Opt1 x fr' ∧ Ext GB GB' ∧ St GB' C h' fr' [(D, IsLs ys), (I, WI)] ∧ J GB' (i + 1) (ys ++ [y])) NE ⟨h₁, gn, dr, tk₁, os⟩) ∧
      (∀ g' h2 tk' D GB ys, Ext g g' → (∀ b o, GB.get? b = some o → h.get? b = none → g'.get? b = some o) → J GB items.size ys → (∃ o, g'.get? D = some o ∧ IsLs ys o) → St g' L h2 fr led → Q (.ref D) ⟨h2, gn, dr, tk', os⟩)) NE ⟨h, gn, dr, tk, os⟩)
    (hs : ∀ x, foldedSetIterable iter env x = pure x := by intro _; rfl) :
    wpAny (model PR w) (AW d u) (eval (.ListComp elt [⟨.Name x px, iter, [], 0⟩] scope pos) env) Q NE ⟨h, gn, dr, tk, os⟩ := by
  rw [eval_ListComp]
  refine wpAny_comprehension_free (use := none) rfl hs hclos hkind hnames (wpAny_mono hw (fun xv s₁ q => ?_) fun _ _ e => e)
  obtain ⟨l, h, tk, g, items, fr, led, J, rfl, rfl, H, hl1, hsz, ⟨j0, turn⟩, hq⟩ := q
  refine wpAny_pyIter_list (items := items) hl1 ?_
  have nI : h.get? h.objs.size = none := none_ge (Nat.le_refl _)
  have xP : Ext h (h.push { cls := .type "list_iterator", data := .fields #[.ref l, .int 0 0] }) := fun b o e => Heap.get?_push_of_some _ e
  refine comp_core (hB := h) (n := items.size) (P := fun i v => items[i]? = some v) (WI := fun i o => o.cls = .type "list_iterator" ∧ o.data = .fields #[.ref l, .int i 0]) (J := J) (RR := fun acc C => compPost (model PR w) (AW d u) NE none Q acc C) he hcell hkind hx ⟨_, Heap.get?_push_size _ rfl, rfl, rfl⟩ xP nI hsz ?_ ?_ ?_ j0 ?_ ?_
  · rintro s Q' E' ⟨o, eo, w1, w2⟩ hQ
    exact wpAny_pyIter_listiter (l := l) (i := 0) ⟨o, eo, w1, w2⟩ hQ
  · rintro i h₁ tk₁ Q' hi x₁ ⟨o, eo, w1, w2⟩ hQ
    have hl₁ : h₁.IsList l items := let ⟨o, e, r⟩ := hl1; ⟨o, x₁ _ _ e, r⟩
    refine wpAny_pyNext_list_item ⟨o, eo, w1, w2⟩ hl₁ (Array.getElem?_eq_getElem hi) fun h' hit hsb => ?_
    obtain ⟨o', eo', r1, r2⟩ := hit
    exact hQ _ h' tk₁ (Array.getElem?_eq_getElem hi) ⟨o', eo', r1, r2⟩ fun b o hb e => (hsb.2 b hb).trans e
  · rintro h₁ tk₁ Q' x₁ ⟨o, eo, w1, w2⟩ hQ
    have hl₁ : h₁.IsList l items := let ⟨o, e, r⟩ := hl1; ⟨o, x₁ _ _ e, r⟩
    exact wpAny_pyNext_list_end rfl ⟨o, eo, w1, w2⟩ hl₁ (by simp) fun h' he => hQ h' tk₁ fun b o hb e => he b o hb e
  · intro i v GB h₁ tk₁ ys C D cenv _ hv xG jj ce HS hy
    exact turn i v GB h₁ tk₁ ys C D _ _ cenv hv xG jj ce HS hy
  · intro C D GB ys h' tk' fr' xG jj nC nD HS
    have nC' : h.get? C = none := Ext.none xP nC
    have nD' : h.get? D = none := Ext.none xP nD
    refine ⟨_, HS.ns, fun h2 hs2 => ?_⟩
    obtain ⟨g', x1, _, lift, H5⟩ := comp_out H (Ext.refl h) xG nC' nD' HS hs2
    obtain ⟨g'', x2, H6, e6, _⟩ := H5.toBase led.length (b := D) (P := IsLs ys) (by simp)
    have e2 : (led ++ [(D, IsLs ys)]).eraseIdx led.length = led := by
      rw [List.eraseIdx_append_of_length_le (Nat.le_refl _)]; simp
    rw [e2] at H6
    exact hq g'' h2 tk' D GB ys (x1.trans x2) (fun b o e n => x2 _ _ (lift b o e n)) jj e6 H6
/-- level != [] -/
theorem oNeL {l b : Addr} {vs : List Value} {Q : Value → Shared → Prop} (hl : h.IsList l vs.toArray) (hb : h.IsList b #[]) (hu : u < 9900) (hq : Q (.bool (!vs.isEmpty)) ⟨h, gn, dr, tk, os⟩) : wpAny (model PR w) (AW d u) (compareOp .NotEq (.ref l) (.ref b)) Q E ⟨h, gn, dr, tk, os⟩ := by
  cases vs with
  | nil => exact PySem.SeqAt.RcNeAt.lists (items := #[]) (items2 := #[]) (e := fun _ => true) hl hb rfl hu (fun j h1 _ => by simp at h1) PR w E Q hq
  | cons v vs => exact PySem.SeqAt.RcNeAt.lists_lengths hl hb (by simp) hu PR w E Q hq
end

end
section
theorem Gd.K2 {w : World} {mg mb : Str → Option Value} {h : Heap} (G : Gd w mg mb h) : Gd w mg mb h := G
def folBody : List Stmt := defBody (PR.main.body.getD 26 (.Pass default))
def whBody : Stmt → List Stmt
  | .While _ b _ _ => b
  | _ => []
def ifElse : Stmt → List Stmt
  | .If _ _ e _ => e
  | _ => []
/-- the while over another file's words -/
def innW : Stmt := (ifElse ((ifElse ((whBody (folBody.getD 4 (.Pass default))).getD 0 (.Pass default))).getD 1 (.Pass default))).getD 3 (.Pass default)
end
local macro_rules | `(tactic| ktr_rel) => `(tactic| first
  | ((with_reducible show wpAny _ _ (callWith _ (Value.ref _) _ (backTo _ (starEach [] _)) _) _ _ _); (refine' call0K (Gd.K2 ?G) (St.keep ?H) ?hk ?_); (case H => assumption); (case G => assumption); (case hk => k_is))
  | ((with_reducible show wpAny _ _ (getMethod (Value.ref (RA.r _)) _ _) _ _ _); first
    | ((with_reducible refine' rdGet 1 ?G ?H ?hr ?hi ?_); (case H => assumption); (case G => assumption); (case hr => assumption); (case hi => rfl))
    | ((with_reducible refine' rdGet 0 ?G ?H ?hr ?hi ?_); (case H => assumption); (case G => assumption); (case hr => assumption); (case hi => rfl))
    | ((with_reducible refine' rdGet 4 ?G ?H ?hr ?hi ?_); (case H => assumption); (case G => assumption); (case hr => assumption); (case hi => rfl))
    | ((with_reducible refine' rdPush 1 ?G ?H ?hr ?hi ?_); (case H => assumption); (case G => assumption); (case hr => assumption); (case hi => rfl))
    | ((with_reducible refine' rdPush 4 ?G ?H ?hr ?hi ?_); (case H => assumption); (case G => assumption); (case hr => assumption); (case hi => rfl)))
  | ((with_reducible show wpAny _ _ (getAttr (Value.ref (RA.r _)) _ _) _ _ _); first
    | ((with_reducible refine' rdLn 1 ?G ?H ?hr ?hi ?_); (case H => assumption); (case G => assumption); (case hr => assumption); (case hi => rfl); intro _ _)
    | ((with_reducible refine' rdPb 1 ?G ?H ?hr ?hi ?_); (case H => assumption); (case G => assumption); (case hr => assumption); (case hi => rfl); intro _))
  | ((with_reducible show wpAny _ _ (call (Value.ref 129) _) _ _ _); (refine' wpW (dirname_spec ?G (St.keep ?H) ?hl ?_)); (case H => assumption); (case G => assumption); (case hl => first | assumption | omega); intro _ _ _ x; (have H := St.ext (by assumption) x); clear x)
  | ((with_reducible show wpAny _ _ (call (Value.ref 115) _) _ _ _); (refine' wpW (join_spec ?G (St.keep ?H) ?ha ?hb ?_)); (case H => assumption); (case G => assumption); (case ha => first | assumption | omega); (case hb => first | assumption | omega); intro _ _ _ x; (have H := St.ext (by assumption) x); clear x)
  | ((with_reducible show wpAny _ _ (call (Value.ref 136) _) _ _ _); (refine' wpW (normpath_spec ?G (St.keep ?H) ?hok ?_)); (case H => assumption); (case G => assumption); (case hok => assumption); intro _ _ _ x; (have H := St.ext (by assumption) x); clear x))
local macro_rules | `(tactic| ktr_rel) => `(tactic| first
  | ((with_reducible show wpAny _ _ (compareOp CmpOp.In (Value.str (S _) _) (Value.ref _)) _ _ _); (refine' oInL ?hl ?_); (case hl => kp_flats))
  | ((with_reducible show wpAny _ _ (compareOp CmpOp.NotIn (Value.str (S _) _) (Value.ref _)) _ _ _); (refine' oNinD ?hd ?h1 ?_); (case hd => exact Heap.DictOf.keep (by assumption) (St.keep (by assumption))); (case h1 => assumption); intro _))
section
end
local macro_rules | `(tactic| k_offL) => `(tactic| first
  | ((with_reducible refine' ld ?H ?e ?hx ?hd ?hv ?_); (case H => assumption); (case e => assumption); (case hx => rfl); (case hd => rfl); (case hv => first | rfl | assumption))
  | ((with_reducible refine' ldc ?H ?e ?hx ?hd ?hc ?hv ?_); (case H => assumption); (case e => assumption); (case hx => rfl); (case hd => rfl); (case hc => rfl); (case hv => keq_hits)))
local macro_rules | `(tactic| ktr_rel) => `(tactic| first
  | ((with_reducible refine' stoF ?H ?e ?hx ?_); (case H => assumption); (case e => assumption); (case hx => rfl); intro _ _ H)
  | ((with_reducible refine' ldn ?H ?e ?hx ?hv ?_); (case H => assumption); (case e => assumption); (case hx => rfl); (case hv => first | rfl | assumption)))
section
abbrev folKs : List (Str × NameKind) := [(Str.ofString "texts", .local), (Str.ofString "start", .local), (Str.ofString "reader", .local), (Str.ofString "seen", .local), (Str.ofString "told", .local), (Str.ofString "word", .local), (Str.ofString "goal", .local), (Str.ofString "other", .local), (Str.ofString "_law_machine", .globalImplicit), (Str.ofString "normpath", .globalImplicit), (Str.ofString "join", .globalImplicit), (Str.ofString "dirname", .globalImplicit)]
inductive InJ (a o : RA) (goal otxt : List Nat) (pbF : List (List Nat)) (fr : Fm) (lnA nA : Nat) (P6 : Obj → Prop) (rest : Lg) (m : Nat) (fr' : Fm) (led : Lg) : Prop
  | mk (w1 : List Nat) (t2 : Tok) (pb : TL) (n ln : Nat)
    (h1 : innP goal m w1 (otxt.drop n) (pb.map (·.1)) = some pbF)
    (h2 : n ≤ otxt.length)
    (h3 : fr'.lookup (Str.ofString "word") = some (.str (S w1) t2))
    (h4 : (∀ x, x ≠ Str.ofString "word" → fr'.lookup x = fr.lookup x))
    (h5 : led = (o.d, RdD o ln) :: (o.la, RdAt n) :: (o.pb, IsLs []) :: (206, P6) :: (a.d, RdD a lnA) :: (a.la, RdAt nA) :: (a.pb, IsLs (vsOf pb)) :: rest)
section
variable {w : World} {mg mb : Str → Option Value} {g0 g h : Heap} {L : Addr} {tk : Nat} {gn : Array GenState} {dr : Drawn} {os : OsState} {env : Env}
set_option maxHeartbeats 8000000 in
theorem inner_while {a o : RA} {goal txt otxt w1 : List Nat} {t2 t3 : Tok} {fr : Fm} {pb : TL} {pbF : List (List Nat)} {n ln nA lnA k : Nat} {P6 : Obj → Prop} {rest : Lg} {Q : Flow → Shared → Prop}
    (G : Gd w mg mb g) (he : EnvOk env L folKs []) (Ba : RdB a txt g) (Bo : RdB o otxt g) (hol : otxt.length ≤ 10000) (hgl : goal.length ≤ 1000) (hdl : (dirL goal).length ≤ 1000)
    (f1 : fr.lookup (Str.ofString "word") = some (.str (S w1) t2)) (f2 : fr.lookup (Str.ofString "reader") = some (.ref a.r)) (f3 : fr.lookup (Str.ofString "goal") = some (.str (S goal) t3)) (f4 : fr.lookup (Str.ofString "other") = some (.ref o.r))
    (H : St g L h fr
      ((o.d, RdD o ln) :: (o.la, RdAt n) :: (o.pb, IsLs []) :: (206, P6) :: (a.d, RdD a lnA) :: (a.la, RdAt nA) :: (a.pb, IsLs (vsOf pb)) :: rest))
    (hn : n ≤ otxt.length) (hi : innP goal k w1 (otxt.drop n) (pb.map (·.1)) = some pbF)
    (hq : ∀ h' tk' ln n (pb2 : TL) fr', pb2.map (·.1) = pbF → (∀ x, x ≠ Str.ofString "word" → fr'.lookup x = fr.lookup x) → St g L h' fr'
      ((o.d, RdD o ln) :: (o.la, RdAt n) :: (o.pb, IsLs []) :: (206, P6) :: (a.d, RdD a lnA) :: (a.la, RdAt nA) :: (a.pb, IsLs (vsOf pb2)) :: rest) → Q .next ⟨h', gn, dr, tk', os⟩) :
    wpAny (model PR w) (AW 801 8003) (exec innW env) Q NE ⟨h, gn, dr, tk, os⟩ := by
  refine while_core (J := InJ a o goal otxt pbF fr lnA nA P6 rest) H ⟨w1, t2, pb, n, ln, hi, hn, f1, fun _ _ => rfl, rfl⟩ ?_
  clear H hi hn
  rintro m h tk fr' led ⟨w1, t2, pb, n, ln, hi, hn, e1, eq, rfl⟩ H
  have e2 := (eq (Str.ofString "reader") (by decide)).trans f2
  have e3 := (eq (Str.ofString "goal") (by decide)).trans f3
  have e4 := (eq (Str.ofString "other") (by decide)).trans f4
  clear f1 f2 f3 f4
  have ria := Ba.ri
  have rio := Bo.ri
  have hdl' : (dirL goal).length ≤ 10000 := by omega
  have hgl' : goal.length ≤ 10000 := by omega
  cases m with
  | zero => simp [innP] at hi
  | succ m =>
  rw [innP] at hi
  repeat' ktr_rel
  · rename (w1 != []) = true => b1
    rw [if_neg (by simpa using b1)] at hi
    have hpl : pb.length ≤ 1000 := by
      by_cases q : (List.map (fun x => x.fst) pb).length > 1000
      · rw [if_pos q] at hi; cases hi
      · simpa using q
    rw [if_neg (by simpa using hpl)] at hi
    have ev : ∀ (l : TL) (x : List Nat) (t : Tok), vsOf l ++ [Value.str (S x) t] = vsOf (l ++ [(x, t)]) := by intro l x t; simp [vsOf]
    refine wpW (pushS 4 G H Ba rfl rfl rfl (by simp [vsOf]; omega) ?_)
    intro h2 tk2 H2
    dsimp only [List.set] at H2
    rw [ev] at H2
    clear H
    repeat' ktr_rel
    · rename (w1 == [60]) = true => b2
      rw [if_pos (by simpa using b2)] at hi
      cases hsc : scan (List.drop n otxt) with
      | none => rw [hsc] at hi; cases hi
      | some p =>
      obtain ⟨way, r1⟩ := p
      rw [hsc] at hi
      dsimp only at hi
      have hwl : way.length ≤ 1000 := by
        by_cases q : way.length > 1000
        · rw [if_pos q] at hi; cases hi
        · omega
      rw [if_neg (by omega)] at hi
      have hwl' : way.length ≤ 10000 := by omega
      cases hsc2 : scan r1 with
      | none => rw [hsc2] at hi; cases hi
      | some p2 =>
      obtain ⟨w2, r2⟩ := p2
      rw [hsc2] at hi
      dsimp only at hi
      clear H2; rename St g _ _ _ _ => H2
      refine wpW (getS (pb := []) 0 G H2 Bo rfl rfl rfl (by decide) hn hol (by simp [getT, hsc]; exact ⟨rfl, rfl, rfl⟩) ?_)
      intro h3 tk3 t4 pb2 n3 ln3 H3 p1 p2 p3 p4
      have pe : pb2 = [] := by simpa using p1
      subst pe
      dsimp only [List.set] at H3
      clear H2
      repeat' ktr_rel
      clear H3; rename St g _ _ _ _ => H3
      refine wpW (pushS 4 G H3 Ba rfl rfl rfl (by simp [vsOf]; omega) ?_)
      intro h4 tk4 H4
      dsimp only [List.set] at H4
      rw [ev] at H4
      clear H3
      repeat' ktr_rel
      refine wpW (getS (pb := []) 0 G H4 Bo rfl rfl rfl (by decide) p2 hol (by rw [p3]; simp [getT, hsc2]; exact ⟨rfl, rfl, rfl⟩) ?_)
      intro h5 tk5 t5 pb3 n5 ln5 H5 q1 q2 q3 q4
      have pe : pb3 = [] := by simpa using q1
      subst pe
      dsimp only [List.set] at H5
      clear H4
      repeat' ktr_rel
      refine lp_next (by assumption) ⟨m, Nat.lt_succ_self m, w2, t5, pb ++ [(w1, t2)] ++ [(joinL (dirL goal) way, _)], n5, ln5, ?_, q2, rfl, (fun x hx => (look_ne hx).trans (eq x hx)), rfl⟩
      rw [q3]; simpa using hi
    · rename (w1 == [60]) = false => b2
      rw [if_neg (by simpa using b2)] at hi
      cases hsc : scan (List.drop n otxt) with
      | none => rw [hsc] at hi; cases hi
      | some p =>
      obtain ⟨w2, r2⟩ := p
      rw [hsc] at hi
      dsimp only at hi
      refine wpW (getS (pb := []) 0 G H2 Bo rfl rfl rfl (by decide) hn hol (by simp [getT, hsc]; exact ⟨rfl, rfl, rfl⟩) ?_)
      intro h5 tk5 t5 pb3 n5 ln5 H5 q1 q2 q3 q4
      have pe : pb3 = [] := by simpa using q1
      subst pe
      dsimp only [List.set] at H5
      clear H2
      repeat' ktr_rel
      refine lp_next (by assumption) ⟨m, Nat.lt_succ_self m, w2, t5, pb ++ [(w1, t2)], n5, ln5, ?_, q2, rfl, (fun x hx => (look_ne hx).trans (eq x hx)), rfl⟩
      rw [q3]; simpa using hi
  · rename (w1 != []) = false => b1
    rw [if_pos (by simpa using b1)] at hi
    cases hi
    exact hq _ _ _ _ pb _ rfl eq H
end

end
section
theorem lookup_mem {α β : Type} [BEq α] [LawfulBEq α] {k : α} {v : β} : ∀ {l : List (α × β)}, l.lookup k = some v → (k, v) ∈ l
  | (a, b) :: r, h => by
    rw [List.lookup_cons] at h
    cases q : (k == a) with
    | true => rw [q] at h; cases h; rw [eq_of_beq q]; exact .head _
    | false => rw [q] at h; exact .tail _ (lookup_mem h)
def ToldV (p : Addr × List Value) (d : List Nat × Int) : Prop := ∃ t1 t2, p.2 = [.str (S d.1) t1, .int d.2 t2]
inductive OuJ (sl tl : Addr) (a : RA) (files : Files) (start txt : List Nat) (fin : FolR) (N : Nat) (oT : Obj) (fr : Fm) (m : Nat) (fr' : Fm) (led : Lg) : Prop
  | mk (w1 : List Nat) (t2 : Tok) (pb seen : TL) (told : Told) (tp : List (Addr × List Value)) (n ln : Nat)
    (h1 : folP files start N m w1 (pb.map (·.1)) (txt.drop n) told (seen.map (·.1)) = some fin)
    (h2 : n ≤ txt.length)
    (h3 : ln + (txt.drop n).count 10 = N)
    (h4 : Rel2 ToldV tp told)
    (h5 : fr'.lookup (Str.ofString "word") = some (.str (S w1) t2))
    (h6 : (∀ x, x ≠ Str.ofString "word" → x ≠ Str.ofString "goal" → x ≠ Str.ofString "other" → fr'.lookup x = fr.lookup x))
    (h7 : led = (206, fun o => o = oT) :: (a.d, RdD a ln) :: (a.la, RdAt n) :: (a.pb, IsLs (vsOf pb)) :: (sl, IsLs (vsOf seen)) :: (tl, IsLs (tp.map fun p => Value.ref p.1)) :: tp.map fun p => (p.1, IsTp p.2))
section
variable {w : World} {mg mb : Str → Option Value} {g0 g h : Heap} {L : Addr} {tk : Nat} {gn : Array GenState} {dr : Drawn} {os : OsState} {env : Env}
set_option maxHeartbeats 16000000 in
theorem outer_while {td sl tl : Addr} {a : RA} {files : Files} {start txt w1 : List Nat} {t0 t2 : Tok} {pb seen : TL} {told : Told} {tp : List (Addr × List Value)} {fin : FolR} {n ln k N : Nat} {oT : Obj} {fr : Fm} {Q : Flow → Shared → Prop}
    (G : Gd w mg mb g) (Bm : Bx mg g) (he : EnvOk env L folKs []) (Ba : RdB a txt g) (htx : txt.length ≤ 10000) (hT : IsTab g oT) (hT2 : oT ≠ tabObj #[]) (htd : TextsAt w g td files) (hfl : ∀ f ∈ files, (fileT f.2).length ≤ 10000) (hsl : start.length ≤ 1000) (hdsl : (dirL start).length ≤ 1000)
    (f1 : fr.lookup (Str.ofString "word") = some (.str (S w1) t2)) (f2 : fr.lookup (Str.ofString "start") = some (.str (S start) t0)) (f3 : fr.lookup (Str.ofString "texts") = some (.ref td)) (f4 : fr.lookup (Str.ofString "reader") = some (.ref a.r)) (f5 : fr.lookup (Str.ofString "seen") = some (.ref sl)) (f6 : fr.lookup (Str.ofString "told") = some (.ref tl))
    (H : St g L h fr
      ((206, fun o => o = oT) :: (a.d, RdD a ln) :: (a.la, RdAt n) :: (a.pb, IsLs (vsOf pb)) :: (sl, IsLs (vsOf seen)) :: (tl, IsLs (tp.map fun p => .ref p.1)) :: tp.map fun p => (p.1, IsTp p.2)))
    (hn : n ≤ txt.length) (hN : ln + (txt.drop n).count 10 = N) (htp : Rel2 ToldV tp told) (hi : folP files start N k w1 (pb.map (·.1)) (txt.drop n) told (seen.map (·.1)) = some fin)
    (hq : ∀ h' tk' ln n (pb seen : TL) (tp : List (Addr × List Value)) fr', (∀ x, x ≠ Str.ofString "word" → x ≠ Str.ofString "goal" → x ≠ Str.ofString "other" → fr'.lookup x = fr.lookup x) → n ≤ txt.length → ln + (txt.drop n).count 10 = N → Rel2 ToldV tp fin.1 → seen.map (·.1) = fin.2.1 → pb.map (·.1) = fin.2.2.1 → txt.drop n = fin.2.2.2 →
      St g L h' fr'
        ((206, fun o => o = oT) :: (a.d, RdD a ln) :: (a.la, RdAt n) :: (a.pb, IsLs (vsOf pb)) :: (sl, IsLs (vsOf seen)) :: (tl, IsLs (tp.map fun p => .ref p.1)) :: tp.map fun p => (p.1, IsTp p.2)) → Q .next ⟨h', gn, dr, tk', os⟩) :
    wpAny (model PR w) (AW 801 8003) (exec (folBody.getD 4 (.Pass default)) env) Q NE ⟨h, gn, dr, tk, os⟩ := by
  refine while_core (J := OuJ sl tl a files start txt fin N oT fr) H ⟨w1, t2, pb, seen, told, tp, n, ln, hi, hn, hN, htp, f1, fun _ _ _ _ => rfl, rfl⟩ ?_
  clear H hi hn hN htp
  rintro m h tk fr' led ⟨w1, t2, pb, seen, told, tp, n, ln, hi, hn, hN, htp, e1, eq, rfl⟩ H
  have e2 := (eq (Str.ofString "start") (by decide) (by decide) (by decide)).trans f2
  have e3 := (eq (Str.ofString "texts") (by decide) (by decide) (by decide)).trans f3
  have e4 := (eq (Str.ofString "reader") (by decide) (by decide) (by decide)).trans f4
  have e5 := (eq (Str.ofString "seen") (by decide) (by decide) (by decide)).trans f5
  have e6 := (eq (Str.ofString "told") (by decide) (by decide) (by decide)).trans f6
  clear f1 f2 f3 f4 f5 f6
  have ria := Ba.ri
  have hsl' : start.length ≤ 10000 := by omega
  have hdsl' : (dirL start).length ≤ 10000 := by omega
  obtain ⟨htd1, kvs, hkv, htd2⟩ := htd
  cases m with
  | zero => simp [folP] at hi
  | succ m =>
  rw [folP] at hi
  repeat' ktr_rel
  · rename (w1 != []) = true => b1
    rename (w1 != [60]) = true => b2
    rw [if_neg (by simpa using b1)] at hi
    have hgd : ¬ ((pb.map (·.1)).length > 1000 ∨ told.length > 1000 ∨ (seen.map (·.1)).length > 1000) := by
      intro q; rw [if_pos q] at hi; cases hi
    rw [if_neg hgd, if_pos (by simpa using b2)] at hi
    simp only [not_or, List.length_map] at hgd
    have htl : tp.length ≤ 1000 := by rw [htp.length]; omega
    have htl' : (List.map (fun p : Addr × List Value => Value.ref p.1) tp).length ≤ 1000 := by rw [List.length_map]; exact htl
    have hpl : pb.length < 1000000 := by omega
    cases hgt : getT (List.map (fun x => x.fst) pb) (List.drop n txt) with
    | none => rw [hgt] at hi; cases hi
    | some p =>
    obtain ⟨w2, pb2, r2⟩ := p
    rw [hgt] at hi
    dsimp only at hi
    refine newTL (L := L) ?_
    repeat' ktr_rel
    refine ⟨Nat.le_of_ble_eq_true rfl, _, _, _, _, _, rfl, H, ?_⟩
    intro tt h2 H2 n2 k2
    dsimp only [List.cons_append] at H2
    clear H
    repeat' ktr_rel
    refine apL 5 H2 rfl (by rw [sizeLine_eq]; omega) ?_
    intro h3 H3
    dsimp only [List.set] at H3
    clear H2
    repeat' ktr_rel
    refine wpW (getS 1 G H3 Ba rfl rfl rfl hpl hn htx hgt ?_)
    intro h4 tk4 t4 pbv n4 ln4 H4 p1 p2 p3 p4
    dsimp only [List.set] at H4
    clear H3
    repeat' ktr_rel
    have eln : (ln : Int) = (N : Int) - ((txt.drop n).count 10 : Nat) := by omega
    refine lp_next (by assumption) ⟨m, Nat.lt_succ_self m, w2, t4, pbv, seen, told ++ [(w1, (N : Int) - ((txt.drop n).count 10 : Nat))], tp ++ [(tt, [.str (S w1) t2, .int ln _])], n4, ln4, ?_, p2, by rw [p3]; omega, htp.append ⟨⟨t2, _, by rw [eln]⟩, trivial⟩, rfl, (fun x h1 h2 h3 => (look_ne h1).trans (eq x h1 h2 h3)), by rw [List.map_append, List.map_append]; rfl⟩
    rw [p1, p3]; exact hi
  · rename (w1 != []) = true => b1
    rename (w1 != [60]) = false => b2
    rw [if_neg (by simpa using b1)] at hi
    have hgd : ¬ ((pb.map (·.1)).length > 1000 ∨ told.length > 1000 ∨ (seen.map (·.1)).length > 1000) := by
      intro q; rw [if_pos q] at hi; cases hi
    rw [if_neg hgd, if_neg (by simpa using b2)] at hi
    simp only [not_or, List.length_map] at hgd
    have htl : tp.length ≤ 1000 := by rw [htp.length]; omega
    have htl' : (List.map (fun p : Addr × List Value => Value.ref p.1) tp).length ≤ 1000 := by rw [List.length_map]; exact htl
    have hpl : pb.length < 1000000 := by omega
    have hsl2 : (vsOf seen).length ≤ 1000 := by simp [vsOf]; omega
    cases hgt : getT (List.map (fun x => x.fst) pb) (List.drop n txt) with
    | none => rw [hgt] at hi; cases hi
    | some p =>
    obtain ⟨way, pb1, r1⟩ := p
    rw [hgt] at hi
    dsimp only at hi
    have hwb : wayBad start way = false := by
      cases q : wayBad start way with
      | false => rfl
      | true => rw [q] at hi; cases hi
    rw [hwb, if_neg (by simp)] at hi
    unfold wayBad at hwb
    simp only [Bool.or_eq_false_iff, decide_eq_false_iff_not, Bool.not_eq_false'] at hwb
    have hok : normOk (joinL (dirL start) way) = true := hwb.2
    have hwl : way.length ≤ 10000 := by omega
    clear H; rename St g _ _ _ _ => H
    refine wpW (getS 1 G H Ba rfl rfl rfl hpl hn htx hgt ?_)
    intro h2 tk2 t3 pbv1 n1 ln1 H2 p1 p2 p3 p4
    dsimp only [List.set] at H2
    clear H
    have hpl1 : pb1.length < 1000000 := by
      have : pb1.length ≤ pb.length := by
        cases pb with
        | nil => simp only [List.map_nil, getT] at hgt; cases hsc : scan (List.drop n txt) with
          | none => rw [hsc] at hgt; cases hgt
          | some p => rw [hsc] at hgt; cases hgt; simp
        | cons p q => simp only [List.map_cons, getT] at hgt; cases hgt; simp
      omega
    have hpl2 : pbv1.length < 1000000 := by rw [← p1, List.length_map] at hpl1; exact hpl1
    generalize hgo : normL (joinL (dirL start) way) = goal at hi
    have hlk := htd2 goal
    have eln : (ln1 : Int) = (N : Int) - (r1.count 10 : Nat) := by omega
    repeat' ktr_rel
    all_goals (rw [hgo] at *; clear H2; rename St g _ _ _ _ => HX)
    · rename decide (goal ∈ _) = true => c1
      rw [if_pos (of_decide_eq_true c1)] at hi
      dsimp only at hi
      cases hgt2 : getT pb1 r1 with
      | none => rw [hgt2] at hi; cases hi
      | some p =>
      obtain ⟨w2, pb2, r2⟩ := p
      rw [hgt2] at hi
      dsimp only at hi
      refine newTL (L := L) ?_
      repeat' ktr_rel
      refine ⟨Nat.le_of_ble_eq_true rfl, _, _, _, _, _, rfl, HX, ?_⟩
      intro tt h3 H3 n3 k3
      dsimp only [List.cons_append] at H3
      clear HX
      repeat' ktr_rel
      refine apL 5 H3 rfl (by rw [sizeLine_eq]; omega) ?_
      intro h4 H4
      dsimp only [List.set] at H4
      clear H3
      repeat' ktr_rel
      refine wpW (getS 1 G H4 Ba rfl rfl rfl hpl2 p2 htx (by rw [p1, p3]; exact hgt2) ?_)
      intro h5 tk5 t5 pbv n5 ln5 H5 q1 q2 q3 q4
      dsimp only [List.set] at H5
      clear H4
      repeat' ktr_rel
      refine lp_next (by assumption) ⟨m, Nat.lt_succ_self m, w2, t5, pbv, seen, told ++ [(goal, (N : Int) - (r1.count 10 : Nat))], tp ++ [(tt, [.str (S goal) _, .int ln1 _])], n5, ln5, ?_, q2, by rw [q3]; rw [p3] at q4; omega, htp.append ⟨⟨_, _, by rw [eln]⟩, trivial⟩, rfl, (fun x h1 h2 h3 => (look_ne h1).trans ((look_ne h2).trans (eq x h1 h2 h3))), by rw [List.map_append, List.map_append]; rfl⟩
      rw [q1, q3]; exact hi
    · rename decide (goal ∈ _) = false => c1
      rename (!(valueAt kvs (S goal)).isSome) = true => c2
      rw [if_neg (of_decide_eq_false c1)] at hi
      have hlf : files.lookup goal = none := by
        cases q : files.lookup goal with
        | none => rfl
        | some ns => rw [q] at hlk; obtain ⟨t9, e9⟩ := hlk; rw [e9] at c2; cases c2
      rw [hlf] at hi
      dsimp only at hi
      cases hgt2 : getT pb1 r1 with
      | none => rw [hgt2] at hi; cases hi
      | some p =>
      obtain ⟨w2, pb2, r2⟩ := p
      rw [hgt2] at hi
      dsimp only at hi
      refine newTL (L := L) ?_
      repeat' ktr_rel
      refine ⟨Nat.le_of_ble_eq_true rfl, _, _, _, _, _, rfl, HX, ?_⟩
      intro tt h3 H3 n3 k3
      dsimp only [List.cons_append] at H3
      clear HX
      repeat' ktr_rel
      refine apL 5 H3 rfl (by rw [sizeLine_eq]; omega) ?_
      intro h4 H4
      dsimp only [List.set] at H4
      clear H3
      repeat' ktr_rel
      refine wpW (getS 1 G H4 Ba rfl rfl rfl hpl2 p2 htx (by rw [p1, p3]; exact hgt2) ?_)
      intro h5 tk5 t5 pbv n5 ln5 H5 q1 q2 q3 q4
      dsimp only [List.set] at H5
      clear H4
      repeat' ktr_rel
      refine lp_next (by assumption) ⟨m, Nat.lt_succ_self m, w2, t5, pbv, seen, told ++ [(goal, (N : Int) - (r1.count 10 : Nat))], tp ++ [(tt, [.str (S goal) _, .int ln1 _])], n5, ln5, ?_, q2, by rw [q3]; rw [p3] at q4; omega, htp.append ⟨⟨_, _, by rw [eln]⟩, trivial⟩, rfl, (fun x h1 h2 h3 => (look_ne h1).trans ((look_ne h2).trans (eq x h1 h2 h3))), by rw [List.map_append, List.map_append]; rfl⟩
      rw [q1, q3]; exact hi
    · rename decide (goal ∈ _) = false => c1
      rename (!(valueAt kvs (S goal)).isSome) = false => c2
      rw [if_neg (of_decide_eq_false c1)] at hi
      cases hlf : files.lookup goal with
      | none => rw [hlf] at hlk; dsimp only at hlk; rw [hlk] at c2; cases c2
      | some ns =>
      rw [hlf] at hi hlk
      dsimp only at hi hlk
      obtain ⟨t9, ev⟩ := hlk
      have hgb : goalBad goal = false := by
        cases q : goalBad goal with
        | false => rfl
        | true => rw [q] at hi; cases hi
      rw [hgb, if_neg (by simp)] at hi
      unfold goalBad at hgb
      simp only [Bool.or_eq_false_iff, decide_eq_false_iff_not] at hgb
      have hfn : (fileT ns).length ≤ 10000 := hfl (goal, ns) (lookup_mem hlf)
      cases hs1 : scan (fileT ns) with
      | none => rw [hs1] at hi; cases hi
      | some p =>
      obtain ⟨w3, q1⟩ := p
      rw [hs1] at hi
      dsimp only at hi
      cases hin : innP goal 100 w3 q1 pb1 with
      | none => rw [hin] at hi; cases hi
      | some pb2 =>
      rw [hin] at hi
      dsimp only at hi
      have hpl3 : pb2.length ≤ 1000 := by
        by_cases q : pb2.length > 1000
        · rw [if_pos q] at hi; cases hi
        · omega
      rw [if_neg (by omega)] at hi
      cases hgt2 : getT pb2 r1 with
      | none => rw [hgt2] at hi; cases hi
      | some p =>
      obtain ⟨w4, pb4, r4⟩ := p
      rw [hgt2] at hi
      dsimp only at hi
      refine apL 4 HX rfl (by rw [sizeLine_eq]; omega) ?_
      intro h3 H3
      dsimp only [List.set] at H3
      have es : ∀ t, vsOf seen ++ [Value.str (S goal) t] = vsOf (seen ++ [(goal, t)]) := by intro t; simp [vsOf]
      rw [es] at H3
      clear HX
      repeat' ktr_rel
      refine dgT (hkv.keep H3.keep) ev rfl ?_
      intro _
      repeat' ktr_rel
      refine wpW (machine_spec G H3.keep Bm (H3.offI 0 rfl) (let ⟨ob, e, q⟩ := H3.get 0 rfl; ⟨ob, e, q ▸ hT⟩) ?_)
      intro o h4 tk4 g2 k4 x2 x2' nw4 hT4 Bo Mo m1 m2 m3
      obtain ⟨oT', e9, _, _, z4⟩ := hT4
      have eT : oT' = oT := by
        obtain ⟨ob, e, q⟩ := H3.get 0 rfl
        rcases z4 with z | z
        · rw [e] at z; cases z; exact absurd q.symm hT2
        · rw [e] at z; cases z; exact q
      rw [eT] at e9
      have H4 := H3.machine k4 x2' nw4 e9 Mo m1 m2 m3
      clear H3
      have G2 := G.keeps x2
      have Ba2 := Ba.ext x2
      have ria2 := Ba2.ri
      have rio := Bo.ri
      repeat' ktr_rel
      clear H4; rename St g2 _ _ _ _ => H4
      refine wpW (getS (pb := []) 0 G2 H4 Bo rfl rfl rfl (by decide) (Nat.zero_le _) hfn (by simp only [List.map_nil, getT, List.drop_zero, hs1]; rfl) ?_)
      intro h5 tk5 t5 pbo n5 ln5 H5 q1' q2 q3 q4
      have pe : pbo = [] := by simpa using q1'
      subst pe
      dsimp only [List.set] at H5
      clear H4
      repeat' ktr_rel
      clear H5; rename St g2 _ _ _ _ => H5
      refine inner_while (fr := (Str.ofString "word", .str (S w3) t5) :: (Str.ofString "other", .ref o.r) :: (Str.ofString "goal", .str (S goal) _) :: fr') G2 he Ba2 Bo hfn (by omega) (by omega) rfl e4 rfl rfl H5 q2 (by rw [q3, p1]; exact hin) ?_
      intro h6 tk6 ln6 n6 pb6 fr6 e7 eq6 H6
      clear H5
      have e8 : fr6.lookup (Str.ofString "reader") = some (.ref a.r) := (eq6 _ (by decide)).trans e4
      repeat' ktr_rel
      refine wpW (getS 4 G2 H6 Ba2 rfl rfl rfl (by rw [← e7, List.length_map] at hpl3; omega) p2 htx (by rw [e7, p3]; exact hgt2) ?_)
      intro h7 tk7 t7 pb7 n7 ln7 H7 s1 s2 s3 s4
      dsimp only [List.set] at H7
      clear H6
      repeat' ktr_rel
      clear H7; rename St g2 _ _ _ _ => H7
      refine lp_next ((H7.sub (.cons _ (.cons _ (.cons _ (List.Sublist.refl _))))).base x2) ⟨m, Nat.lt_succ_self m, w4, t7, pb7, seen ++ [(goal, _)], told, tp, n7, ln7, ?_, s2, by rw [s3]; rw [p3] at s4; omega, htp, rfl, (fun x h1 h2 h3 => (look_ne h1).trans ((eq6 x h1).trans ((look_ne h1).trans ((look_ne h3).trans ((look_ne h2).trans (eq x h1 h2 h3)))))), rfl⟩
      rw [s1, s3]; simpa using hi
  · rename (w1 != []) = false => b1
    rw [if_pos (by simpa using b1)] at hi
    cases hi
    exact hq _ _ _ _ pb seen tp _ eq hn hN htp rfl rfl rfl H
end

end
section
def ToldAt (g : Heap) (tl : Addr) (told : Told) : Prop := ∃ vs, g.IsList tl vs.toArray ∧ Rel2 (fun v d => ∃ a t1 t2, v = .ref a ∧ g.IsTuple a #[.str (S d.1) t1, .int d.2 t2]) vs told
def SeenAt (g : Heap) (sl : Addr) (seen : List (List Nat)) : Prop := ∃ ts : TL, g.IsList sl (vsOf ts).toArray ∧ ts.map (·.1) = seen
section
variable {w : World} {mg mb : Str → Option Value} {g0 g h h' : Heap} {L : Addr} {tk : Nat} {gn : Array GenState} {dr : Drawn} {os : OsState} {env : Env} {fr : Fm} {rest : Lg}
/-- a reader is made: the big base grows by the small one -/
theorem St.machine2 {gs : Heap} {o : RA} {P : Obj → Prop} {oT : Obj} (H : St g L h fr ((206, P) :: rest)) (k : Kp [206] h h') (sg : Ext g0 g) (x2 : Ext gs h') (nw : Nw g0 h gs) (hT : h'.get? 206 = some oT) (M : RdM o 1 0 [] h h') (m1 : gs.get? o.d = none) (m2 : gs.get? o.la = none) (m3 : gs.get? o.pb = none) :
    ∃ g', Ext g g' ∧ Ext gs g' ∧ St g' L h' fr ((o.d, RdD o 1) :: (o.la, RdAt 0) :: (o.pb, IsLs []) :: (206, fun o => o = oT) :: rest) := by
  have n6 : g.get? 206 = none := H.off (206, P) (.head _)
  have kx : Ext g h' := fun b ob e => k b ob (H.keep _ _ e) (by intro q; obtain rfl := List.mem_singleton.mp q; rw [n6] at e; cases e)
  have H1 := H.machine k kx (Nw.refl g h) hT M (Ext.none H.keep M.nd) (Ext.none H.keep M.nla) (Ext.none H.keep M.npb)
  obtain ⟨g', x1, H2, _, inn, _⟩ := H1.grow h
  refine ⟨g', x1, fun b ob e => ?_, H2⟩
  rcases nw b ob e with z | z
  · exact x1 _ _ (sg _ _ z)
  · have zz := H.no z
    refine inn b ob (x2 _ _ e) z zz.1 ?_
    simp only [List.map_cons, List.mem_cons, not_or] at zz ⊢
    refine ⟨fun q => ?_, fun q => ?_, fun q => ?_, zz.2.1, zz.2.2⟩
    · rw [q, m1] at e; cases e
    · rw [q, m2] at e; cases e
    · rw [q, m3] at e; cases e
set_option maxHeartbeats 8000000 in
theorem follow_spec {td : Addr} {files : Files} {start w1 r1 : List Nat} {ns : List Int} {fin : FolR} {k : Nat} {t0 : Tok} {Q : Value → Shared → Prop}
    (G : Gd w mg mb g0) (X : Ext g0 h) (Bm : Bx mg g0) (n206 : g0.get? 206 = none) (T : ∃ o, h.get? 206 = some o ∧ IsTab g0 o) (htd : TextsAt w g0 td files) (hlk : files.lookup start = some ns) (hfl : ∀ f ∈ files, (fileT f.2).length ≤ 10000) (hsl : start.length ≤ 1000) (hdsl : (dirL start).length ≤ 1000)
    (hsc : scan (fileT ns) = some (w1, r1)) (hi : folP files start (1 + (fileT ns).count 10) k w1 [] r1 [] [start] = some fin)
    (hq : ∀ t g2 h' tk' tl sl pl ln tt, Kp [206] h h' → Ext g0 g2 → Ext g2 h' → Nw g0 h g2 → (∃ ps, h'.get? 206 = some (tabObj ps)) → g2.IsTuple t #[.ref tl, .ref sl, .ref pl, .int (ln : Nat) tt] → ToldAt g2 tl fin.1 → SeenAt g2 sl fin.2.1 → SeenAt g2 pl fin.2.2.1 → ln + fin.2.2.2.count 10 = 1 + (fileT ns).count 10 → Q (.ref t) ⟨h', gn, dr, tk', os⟩) :
    wpAny (model PR w) (AW 800 8000) (call (.ref 218) [.ref td, .str (S start) t0]) Q NE ⟨h, gn, dr, tk, os⟩ := by
  obtain ⟨o₀, eT, hT⟩ := T
  refine' call_def (fr := [(Str.ofString "start", .str (S start) t0), (Str.ofString "texts", .ref td)]) G X [(206, fun o => o = o₀)] ?ho ?hcd ?hb ?hbind ?hfr ?hks ?hcl ?hl ?nd ?main ?hd ?hcell ?hloc ?hco ?hgen ?hk ?hgl ?hbn
  case hl => intro p hp; obtain rfl := List.mem_singleton.mp hp; exact ⟨⟨o₀, eT, rfl⟩, n206⟩
  case nd => simp
  keq_rows
  intro g L h₁ tk₁ env he G' X' H K'
  dsimp only at he
  have htx : (fileT ns).length ≤ 10000 := hfl (start, ns) (lookup_mem hlk)
  have htd' := htd
  obtain ⟨htd1, kvs, hkv, htd2⟩ := htd'
  have hv := htd2 start
  rw [hlk] at hv
  obtain ⟨tv, hv⟩ := hv
  repeat' ktr_rel
  refine dgT (hkv.keep (X'.trans H.keep)) hv rfl ?_
  intro _
  repeat' ktr_rel
  refine wpW (machine_spec G (X'.trans H.keep) Bm n206 (let ⟨ob, e, q⟩ := H.get 0 rfl; ⟨ob, e, q ▸ hT⟩) ?_)
  intro a h₂ tk₂ gs k2 y1 y2 y3 hT2 Bs Ms m1 m2 m3
  obtain ⟨oT, e4, tT, neT, _⟩ := hT2
  obtain ⟨g2, x2, xs, H₂⟩ := H.machine2 k2 X' y2 y3 e4 Ms m1 m2 m3
  have H₃ := H₂.perm (led' := [(206, fun o => o = oT), (a.d, RdD a 1), (a.la, RdAt 0), (a.pb, IsLs [])]) (by
    refine (List.perm_append_comm (l₁ := [(a.d, RdD a 1), (a.la, RdAt 0), (a.pb, IsLs [])]) (l₂ := [(206, fun o => o = oT)])))
  have hsh : ∀ b, h₁.get? b = none → h.get? b = none := by
    intro b n
    cases e : h.get? b with
    | none => rfl
    | some ob =>
      by_cases q : b = 206
      · obtain ⟨o', e', _⟩ := H.get 0 rfl
        rw [q, e'] at n; cases n
      · rw [H.keep _ _ (K' _ _ e (by simpa using q))] at n; cases n
  have G2 := G'.keeps x2
  have Ba := Bs.ext xs
  have ria := Ba.ri
  clear H H₂
  repeat' ktr_rel
  clear H₃; rename St g2 _ _ _ _ => H₃
  refine newL (L := L) ?_
  repeat' ktr_rel
  refine ⟨Nat.le_of_ble_eq_true rfl, _, _, _, _, _, rfl, H₃, ?_⟩
  intro sl h₄ H₄
  dsimp only [List.cons_append, List.nil_append] at H₄
  clear H₃
  repeat' ktr_rel
  clear H₄; rename St g2 _ _ _ _ => H₄
  refine newL (L := L) ?_
  repeat' ktr_rel
  refine ⟨Nat.le_of_ble_eq_true rfl, _, _, _, _, _, rfl, H₄, ?_⟩
  intro tl h₅ H₅
  dsimp only [List.cons_append, List.nil_append] at H₅
  clear H₄
  repeat' ktr_rel
  clear H₅; rename St g2 _ _ _ _ => H₅
  have hsc' : getT (([] : TL).map (·.1)) ((fileT ns).drop 0) = some (w1, [], r1) := by simp only [List.map_nil, getT, List.drop_zero, hsc]
  refine wpW (getS (pb := []) 1 G2 H₅ Ba rfl rfl rfl (by decide) (Nat.zero_le _) htx hsc' ?_)
  intro h₆ tk₆ t6 pb6 n6 ln6 H₆ p1 p2 p3 p4
  have pe : pb6 = [] := by simpa using p1
  subst pe
  dsimp only [List.set] at H₆
  rw [List.drop_zero] at p4
  clear H₅
  repeat' ktr_rel
  clear H₆; rename St g2 _ _ _ _ => H₆
  have hTg : IsTab g2 oT := tT.keeps xs
  have Bm2 : Bx mg g2 := Bm.keeps (X'.trans x2)
  refine outer_while (files := files) (N := 1 + (fileT ns).count 10) (k := k) (pb := []) (seen := [(start, t0)]) (told := []) (tp := []) (fin := fin) G2 Bm2 he Ba htx hTg neT (htd.keeps (X'.trans x2)) hfl hsl hdsl rfl rfl rfl rfl rfl rfl H₆ p2 (by rw [p3]; omega) trivial (by rw [p3]; exact hi) ?_
  intro h₇ tk₇ ln7 n7 pb7 seen7 tp7 fr7 eq7 q1 q2 q3 q4 q5 q6 H₇
  clear H₆
  have a1 : fr7.lookup (Str.ofString "told") = some (.ref tl) := eq7 _ (by decide) (by decide) (by decide)
  have a2 : fr7.lookup (Str.ofString "seen") = some (.ref sl) := eq7 _ (by decide) (by decide) (by decide)
  have a3 : fr7.lookup (Str.ofString "reader") = some (.ref a.r) := eq7 _ (by decide) (by decide) (by decide)
  repeat' ktr_rel
  refine newT (L := L) ?_
  repeat' ktr_rel
  refine ⟨Nat.le_of_ble_eq_true rfl, _, _, _, _, _, rfl, H₇, ?_⟩
  intro g3 tt h₈ x8 H₈ htt n8 k8
  repeat' ktr_rel
  have xE : Ext g g3 := x2.trans x8
  have nd := H₈.nd
  rw [List.map_cons, List.nodup_cons] at nd
  obtain ⟨gF, z1, z2, z3, z4, _⟩ := ((H₈.sub (List.nil_sublist _)).base (X'.trans xE)).grow h
  have freshB : ∀ b, g3.get? b = none → b ≠ 206 → h.get? b = none := by
    intro b n nb
    cases e : h.get? b with
    | none => rfl
    | some ob => rw [xE _ _ (K' _ _ e (by simpa using nb))] at n; cases n
  have lift : ∀ p ∈ ((a.d, RdD a ln7) :: (a.la, RdAt n7) :: (a.pb, IsLs (vsOf pb7)) :: (sl, IsLs (vsOf seen7)) :: (tl, IsLs (tp7.map fun p => Value.ref p.1)) :: tp7.map (fun p => (p.1, IsTp p.2)) : Lg), ∃ o, gF.get? p.1 = some o ∧ p.2 o := by
    intro p hp
    obtain ⟨o, e, q⟩ := H₈.at_ p (.tail _ hp)
    have n206' : p.1 ≠ 206 := fun z => nd.1 (by have := List.mem_map_of_mem (f := fun x : Addr × (Obj → Prop) => x.1) hp; rw [z] at this; exact this)
    exact ⟨o, z4 _ _ e (freshB _ (H₈.off p (.tail _ hp)) n206') (H₈.ne p (.tail _ hp)) (List.not_mem_nil), q⟩
  obtain ⟨ot, et, ct⟩ := htt
  have ntt : h.get? tt = none := by
    cases e : h.get? tt with
    | none => rfl
    | some ob =>
      by_cases q : tt = 206
      · obtain ⟨o', e', _⟩ := H₇.get 0 rfl
        rw [q, e'] at n8; cases n8
      · rw [H₇.keep _ _ (x2 _ _ (K' _ _ e (by simpa using q)))] at n8; cases n8
  refine hq tt gF h₈ _ tl sl a.pb ln7 _ (fun b o e n => H₈.keep _ _ (xE _ _ (K' b o e n))) z1 z2.keep z3 ?_ ⟨ot, z4 _ _ (H₈.keep _ _ et) ntt (H₇.no n8).1 (List.not_mem_nil), ct⟩ ⟨tp7.map fun p => Value.ref p.1, ?_, ?_⟩ ⟨seen7, ?_, q4⟩ ⟨pb7, ?_, q5⟩ (by rw [← q6]; exact q2)
  · obtain ⟨o', e', q⟩ := H₈.get 0 rfl
    rcases tT with z | ⟨c, z, _⟩
    · exact ⟨_, by rw [e', q, z]⟩
    · exact ⟨_, by rw [e', q, z]⟩
  · exact IsLs.isList (lift (tl, _) (List.mem_of_getElem? (i := 4) rfl))
  · refine Rel2.map _ (Rel2.of_mem q3 fun p hp r hr => ?_)
    obtain ⟨t1, t2, e⟩ := hr
    have := lift (p.1, IsTp p.2) (.tail _ (.tail _ (.tail _ (.tail _ (.tail _ (List.mem_map_of_mem (f := fun p : Addr × List Value => (p.1, IsTp p.2)) hp))))))
    rw [e] at this
    exact ⟨p.1, t1, t2, rfl, IsTp.isTuple this⟩
  · exact IsLs.isList (lift (sl, _) (List.mem_of_getElem? (i := 3) rfl))
  · exact IsLs.isList (lift (a.pb, _) (List.mem_of_getElem? (i := 2) rfl))
end

end
section
abbrev It := List Nat × List Nat × List Nat
def itemsIt (home : List Nat) (ns : List Int) : List It := ns.map fun y => (home, itemW (figOf y), itemY (figOf y))
/-- what hangs on an item, level by level, as a queue -/
def bfs (files : Files) (line : Int) : Nat → List It → Told → List (List Nat) → Option (Told × List (List Nat))
  | _, [], told, seen => some (told, seen)
  | 0, _ :: _, _, _ => none
  | n + 1, (home, wd, way) :: q, told, seen =>
    if told.length > 1000 ∨ seen.length > 1000 ∨ q.length > 1000 then none
    else if way = [] then bfs files line n q (told ++ [(wd, line)]) seen
    else if goalOk home way = false then none
    else match (if goalL home way ∈ seen then none else files.lookup (goalL home way)) with
      | none => bfs files line n q (told ++ [(goalL home way, line)]) seen
      | some ns => if ns.length > 1000 then none else bfs files line n (q ++ itemsIt (goalL home way) ns) told (seen ++ [goalL home way])
theorem rowsF_items (hm : List Nat) : ∀ (ns : List Int) (tx : List Nat), (rowsF ns tx).map (fun r => (hm, r.1, r.2.1)) = itemsIt hm ns
  | [], _ => rfl
  | y :: r, tx => by rw [rowsF, List.map_cons, rowsF_items hm r]; rfl
def runRows (files : Files) (start : List Nat) : List Row → Told → List (List Nat) → Option (Told × List (List Nat))
  | [], told, seen => some (told, seen)
  | (wd, way, line) :: r, told, seen => match bfs files line 60 [(start, wd, way)] told seen with
    | none => none
    | some (told', seen') => runRows files start r told' seen'
/-- an item's tuple -/
def ItAt (g : Heap) (v : Value) (x : It) : Prop := ∃ a t1 t2 t3, v = .ref a ∧ g.IsTuple a #[.str (S x.1) t1, .str (S x.2.1) t2, .str (S x.2.2) t3]
theorem ItAt.keeps {g g' : Heap} (k : Ext g g') {v : Value} {x : It} (q : ItAt g v x) : ItAt g' v x := let ⟨a, t1, t2, t3, e, o, r, s⟩ := q; ⟨a, t1, t2, t3, e, o, k _ _ r, s⟩
def RowsTab (w : World) (g : Heap) (rd : Addr) (files : Files) : Prop := rd ≠ 1 ∧ ∃ kvs, g.DictOf (strKind PR w) rd kvs ∧ ∀ k : List Nat, match files.lookup k with
  | some ns => ∃ rl, valueAt kvs (S k) = some (.ref rl) ∧ RowsAt g rl (rowsF ns [])
  | none => valueAt kvs (S k) = none
theorem RowsTab.keeps {w : World} {g g' : Heap} {rd : Addr} {files : Files} (x : RowsTab w g rd files) (k : Ext g g') : RowsTab w g' rd files := by
  obtain ⟨n, kvs, d, r⟩ := x
  refine ⟨n, kvs, d.keep k, fun key => ?_⟩
  have := r key
  cases e : files.lookup key with
  | none => rw [e] at this; exact this
  | some ns => rw [e] at this; obtain ⟨rl, e1, e2⟩ := this; exact ⟨rl, e1, e2.keeps k⟩
def levBody : List Stmt := defBody (PR.main.body.getD 28 (.Pass default))
def forBody : Stmt → List Stmt
  | .For _ _ b _ _ => b
  | _ => []
/-- the for over a level -/
def levFor : Stmt := (whBody ((forBody (levBody.getD 2 (.Pass default))).getD 1 (.Pass default))).getD 1 (.Pass default)
abbrev levKs : List (Str × NameKind) := [(Str.ofString "rows", .local), (Str.ofString "start", .local), (Str.ofString "seen", .local), (Str.ofString "told", .local), (Str.ofString "word", .local), (Str.ofString "way", .local), (Str.ofString "line", .local), (Str.ofString "level", .local), (Str.ofString "below", .local), (Str.ofString "home", .local), (Str.ofString "said", .local), (Str.ofString "path", .local), (Str.ofString "goal", .cell), (Str.ofString "_law_goal", .globalImplicit)]
inductive LfJ (rd sl tl cg I1 : Addr) (WI1 : Obj → Prop) (files : Files) (lv : List It) (fr : Fm) (fin : Told × List (List Nat)) (k : Nat) (line : Int) (tln : Tok) (g' : Heap) (i : Nat) (fr' : Fm) (led : Lg) : Prop
  | mk (seen : TL) (told : Told) (tp : List (Addr × List Value)) (gv : Option Value) (blA : Addr) (bs : List Value) (bl : List It) (m : Nat)
    (h1 : led = (I1, WI1) :: (cg, IsCl gv) :: (sl, IsLs (vsOf seen)) :: (tl, IsLs (tp.map fun p => Value.ref p.1)) :: tp.map (fun p => (p.1, IsTp p.2)))
    (h2 : m + i = k)
    (h3 : bfs files line m (lv.drop i ++ bl) told (seen.map (·.1)) = some fin)
    (h4 : Rel2 ToldV tp told)
    (h5 : fr'.lookup (Str.ofString "rows") = some (.ref rd))
    (h6 : fr'.lookup (Str.ofString "start") = fr.lookup (Str.ofString "start"))
    (h7 : fr'.lookup (Str.ofString "seen") = some (.ref sl))
    (h8 : fr'.lookup (Str.ofString "told") = some (.ref tl))
    (h9 : fr'.lookup (Str.ofString "line") = some (.int line tln))
    (h10 : fr'.lookup (Str.ofString "below") = some (.ref blA))
    (h11 : (∃ o, g'.get? blA = some o ∧ IsLs bs o))
    (h12 : Rel2 (ItAt g') bs bl)
section
variable {w : World} {mg mb : Str → Option Value} {g0 g h : Heap} {L : Addr} {tk : Nat} {gn : Array GenState} {dr : Drawn} {os : OsState} {env : Env}
theorem ixT {value slice : Expr} {a : Addr} {its : Array Value} {k : Int} {u : Tok} {v : Value} {A : Around} {E : Value → Shared → Prop} {Q : Value → Shared → Prop} (j : Nat) (ht : h.IsTuple a its) (hlo : -(2 ^ 63) ≤ k) (hhi : k < 2 ^ 63) (hj : seqIndex? k its.size = some j) (hx : its[j]? = some v)
    (hs : subscripted slice false (.ref a) (.int k u) = operate [.ref a, .int k u] (getItem (.ref a) (.int k u))) (hq : Q v ⟨h, gn, dr, tk, os⟩) : wpAny (model PR w) A (subscriptTail value slice (.ref a) (.int k u)) Q E ⟨h, gn, dr, tk, os⟩ := by
  have ht' : IsTup h a its := let ⟨o, e, r, s⟩ := ht; ⟨o, e, r, s⟩
  exact tail_any (T := "tuple") ht'.typeIs slot_tuple_getitem.lookup (PyProof.Rows.getItem_tuple ht' hlo hhi hj hx hq) hs
theorem lev_clos {cl : List (Str × Addr)} {cg : Addr} {scope : Scope} (he : EnvOk env L levKs cl) (hc : cl.lookup (Str.ofString "goal") = some cg) (hs : scope.names = [(Str.ofString ".0", .local), (Str.ofString "item", .local), (Str.ofString "goal", .free)]) : closureFor scope env = pure [(Str.ofString "goal", cg)] := by
  unfold closureFor cellOf
  rw [hs, he.cells]
  simp only [List.forIn_cons, List.forIn_nil]
  rw [hc]
  rfl
theorem lev_rel {cl : List (Str × Addr)} {scope : Scope} (he : EnvOk env L levKs cl) (hs : scope.names = [(Str.ofString ".0", .local), (Str.ofString "item", .local), (Str.ofString "goal", .free)]) : (relabel scope env).names = [(Str.ofString ".0", .local), (Str.ofString "item", .local), (Str.ofString "goal", .cell)] := by
  unfold relabel
  rw [hs, he.kind]
  simp only [List.map_cons, List.map_nil, he.kindOf]
  rfl
set_option maxHeartbeats 16000000 in
theorem level_for {rd sl tl cg I1 : Addr} {files : Files} {lv : List It} {vs : List Value} {fr : Fm} {seen : TL} {told : Told} {tp : List (Addr × List Value)} {fin : Told × List (List Nat)} {k : Nat} {line : Int} {tln : Tok} {lvA blA : Addr} {WI1 : Obj → Prop} {gv : Option Value} {Q : Flow → Shared → Prop}
    (G : Gd w mg mb g) (he : EnvOk env L levKs [(Str.ofString "goal", cg)]) (hrd : RowsTab w g rd files)
    (H : St g L h fr ((I1, WI1) :: (cg, IsCl gv) :: (sl, IsLs (vsOf seen)) :: (tl, IsLs (tp.map fun p => .ref p.1)) :: tp.map fun p => (p.1, IsTp p.2)))
    (f1 : fr.lookup (Str.ofString "rows") = some (.ref rd)) (f2 : fr.lookup (Str.ofString "seen") = some (.ref sl)) (f3 : fr.lookup (Str.ofString "told") = some (.ref tl)) (f4 : fr.lookup (Str.ofString "line") = some (.int line tln)) (f5 : fr.lookup (Str.ofString "level") = some (.ref lvA)) (f6 : fr.lookup (Str.ofString "below") = some (.ref blA))
    (hlv : g.IsList lvA vs.toArray) (hlv2 : Rel2 (ItAt g) vs lv) (hbl : ∃ o, g.get? blA = some o ∧ IsLs [] o) (htp : Rel2 ToldV tp told)
    (hb : bfs files line k lv told (seen.map (·.1)) = some fin)
    (hq : ∀ g' h' tk' fr' (seen : TL) (told : Told) (tp : List (Addr × List Value)) gv blA bs bl m, Ext g g' → m + lv.length = k → bfs files line m bl told (seen.map (·.1)) = some fin → Rel2 ToldV tp told →
      fr'.lookup (Str.ofString "rows") = some (.ref rd) → fr'.lookup (Str.ofString "start") = fr.lookup (Str.ofString "start") → fr'.lookup (Str.ofString "seen") = some (.ref sl) → fr'.lookup (Str.ofString "told") = some (.ref tl) → fr'.lookup (Str.ofString "line") = some (.int line tln) → fr'.lookup (Str.ofString "below") = some (.ref blA) →
      g'.IsList blA bs.toArray → Rel2 (ItAt g') bs bl →
      St g' L h' fr' ((I1, WI1) :: (cg, IsCl gv) :: (sl, IsLs (vsOf seen)) :: (tl, IsLs (tp.map fun p => .ref p.1)) :: tp.map fun p => (p.1, IsTp p.2)) → Q .next ⟨h', gn, dr, tk', os⟩) :
    wpAny (model PR w) (AW 801 8003) (exec levFor env) Q NE ⟨h, gn, dr, tk, os⟩ := by
  refine for_listG (items := vs.toArray) (J := LfJ rd sl tl cg I1 WI1 files lv fr fin k line tln) H hlv ?hiter ⟨seen, told, tp, gv, blA, [], [], k, rfl, rfl, by simpa using hb, htp, f1, rfl, f2, f3, f4, f6, hbl, trivial⟩ ?turn ?fin ?hr (.inr ⟨_, _, _, rfl⟩)
  case hiter => intro Q' hQ'; ktr_rel; exact hQ' _
  case hr =>
    intro i v hv
    obtain ⟨y, _, a, _, _, _, e, _⟩ := hlv2.get (by simpa using hv)
    exact .inl ⟨a, e⟩
  case fin =>
    rintro g' h₁ tk₁ fr₁ led₁ x' ⟨seen, told, tp, gv, blA, bs, bl, m, rfl, hm, hb, htp, e1, e2, e3, e4, e5, e6, e7, e8⟩ H'
    have hl : vs.toArray.size = lv.length := by rw [List.size_toArray]; exact hlv2.length
    rw [hl] at hm hb
    repeat' ktr_rel
    exact hq g' _ _ _ seen told tp gv blA bs bl m x' hm (by simpa using hb) htp e1 e2 e3 e4 e5 e6 (IsLs.isList e7) e8 H'
  case turn =>
    rintro i v g' h₁ tk₁ fr₁ led₁ I WI hv x' ⟨seen, told, tp, gv, blA, bs, bl, m, rfl, hm, hb, htp, e1, e2, e3, e4, e5, e6, e7, e8⟩ H'
    obtain ⟨⟨hm1, wd, way⟩, hlvi, a, t1, t2, t3, rfl, hta⟩ := hlv2.get (by simpa using hv)
    have hta' : g'.IsTuple a #[.str (S hm1) t1, .str (S wd) t2, .str (S way) t3] := let ⟨o, e, r⟩ := hta; ⟨o, x' _ _ e, r⟩
    have G2 := G.keeps x'
    obtain ⟨hr1, kvs, hkv, hr2⟩ := hrd.keeps x'
    clear H
    obtain ⟨hi1, hi2⟩ := List.getElem?_eq_some_iff.mp hlvi
    rw [List.drop_eq_getElem_cons hi1, hi2, List.cons_append] at hb
    cases m with
    | zero => simp [bfs] at hb
    | succ m =>
    rw [bfs] at hb
    have hgd : ¬ (told.length > 1000 ∨ (seen.map (·.1)).length > 1000 ∨ (lv.drop (i+1) ++ bl).length > 1000) := by
      intro q; rw [if_pos q] at hb; cases hb
    rw [if_neg hgd] at hb
    simp only [not_or, List.length_map, List.length_append] at hgd
    obtain ⟨d1, d2, d3⟩ := hgd
    have htl : tp.length ≤ 1000 := by rw [htp.length]; omega
    have hbl' : bs.length ≤ 1000 := by rw [e8.length]; omega
    have htl' : (tp.map fun p => Value.ref p.1).length ≤ 1000 := by rw [List.length_map]; exact htl
    have hsl' : (vsOf seen).length ≤ 1000 := by unfold vsOf; rw [List.length_map]; omega
    repeat' ktr_rel
    · rename (way == []) = true => b1
      rw [if_pos (by simpa using b1)] at hb
      rename St g' _ _ _ _ => H₁
      refine newTL (L := L) ?_
      repeat' ktr_rel
      refine ⟨Nat.le_of_ble_eq_true rfl, _, _, _, _, _, rfl, H₁, ?_⟩
      intro tt h2 H2 n2 k2
      dsimp only [List.cons_append] at H2
      clear H₁
      repeat' ktr_rel
      refine apL 4 H2 rfl (by rw [sizeLine_eq]; omega) ?_
      intro h3 H3
      dsimp only [List.set] at H3
      clear H2
      repeat' ktr_rel
      refine lpG_next (Ext.refl _) H3 ⟨seen, told ++ [(wd, line)], tp ++ [(tt, [.str (S wd) t2, .int line tln])], gv, blA, bs, bl, m, ?_, by omega, hb, htp.append ⟨⟨t2, tln, rfl⟩, trivial⟩, e1, e2, e3, e4, e5, e6, e7, e8⟩
      rw [List.map_append, List.map_append]; rfl
    · rename (way == []) = false => b1
      rw [if_neg (by simpa using b1)] at hb
      have hok : goalOk hm1 way = true := by
        cases q : goalOk hm1 way with
        | true => rfl
        | false => rw [q] at hb; cases hb
      rw [if_neg (by rw [hok]; decide)] at hb
      rename St g' _ _ _ _ => H₁
      refine wpW (goal_spec G2 H₁.keep hok ?_)
      intro h2 tk2 tg x2
      have H2 := H₁.ext x2
      clear H₁
      refine stc 2 H2 he rfl rfl rfl ?_
      intro h3 H3
      dsimp only [List.set] at H3
      clear H2
      have hrg := hr2 (goalL hm1 way)
      repeat' ktr_rel
      · rename decide _ = true => b2
        rw [if_pos (by simpa using b2)] at hb
        dsimp only at hb
        refine newTL (L := L) ?_
        repeat' ktr_rel
        refine ⟨Nat.le_of_ble_eq_true rfl, _, _, _, _, _, rfl, H3, ?_⟩
        intro tt h4 H4 n4 k4
        dsimp only [List.cons_append] at H4
        clear H3
        repeat' ktr_rel
        refine apL 4 H4 rfl (by rw [sizeLine_eq]; omega) ?_
        intro h5 H5
        dsimp only [List.set] at H5
        clear H4
        repeat' ktr_rel
        refine lpG_next (Ext.refl _) H5 ⟨seen, told ++ [(goalL hm1 way, line)], tp ++ [(tt, [.str (S (goalL hm1 way)) tg, .int line tln])], some (.str (S (goalL hm1 way)) tg), blA, bs, bl, m, ?_, by omega, hb, htp.append ⟨⟨tg, tln, rfl⟩, trivial⟩, e1, e2, e3, e4, e5, e6, e7, e8⟩
        rw [List.map_append, List.map_append]; rfl
      · rename decide _ = false => b2
        rename (!(valueAt kvs _).isSome) = true => b3
        rw [if_neg (by simpa using b2)] at hb
        have hno : files.lookup (goalL hm1 way) = none := by
          cases q : files.lookup (goalL hm1 way) with
          | none => rfl
          | some ns => rw [q] at hrg; obtain ⟨rl, e, _⟩ := hrg; rw [e] at b3; simp at b3
        rw [hno] at hb
        dsimp only at hb
        refine newTL (L := L) ?_
        repeat' ktr_rel
        refine ⟨Nat.le_of_ble_eq_true rfl, _, _, _, _, _, rfl, H3, ?_⟩
        intro tt h4 H4 n4 k4
        dsimp only [List.cons_append] at H4
        clear H3
        repeat' ktr_rel
        refine apL 4 H4 rfl (by rw [sizeLine_eq]; omega) ?_
        intro h5 H5
        dsimp only [List.set] at H5
        clear H4
        repeat' ktr_rel
        refine lpG_next (Ext.refl _) H5 ⟨seen, told ++ [(goalL hm1 way, line)], tp ++ [(tt, [.str (S (goalL hm1 way)) tg, .int line tln])], some (.str (S (goalL hm1 way)) tg), blA, bs, bl, m, ?_, by omega, hb, htp.append ⟨⟨tg, tln, rfl⟩, trivial⟩, e1, e2, e3, e4, e5, e6, e7, e8⟩
        rw [List.map_append, List.map_append]; rfl
      · rename decide _ = false => b2
        rename (!(valueAt kvs _).isSome) = false => b3
        rw [if_neg (by simpa using b2)] at hb
        cases hns : files.lookup (goalL hm1 way) with
        | none => rw [hns] at hrg; dsimp only at hrg; rw [hrg] at b3; simp at b3
        | some ns =>
        rw [hns] at hb hrg
        dsimp only at hb hrg
        have hnl : ¬ ns.length > 1000 := by intro q; rw [if_pos q] at hb; cases hb
        rw [if_neg hnl] at hb
        obtain ⟨rl, hv2, vsr, hrl, hrr⟩ := hrg
        have hrl1 : vsr.length = ns.length := by rw [hrr.length, ← List.length_map (f := fun r : Row => (goalL hm1 way, r.1, r.2.1)), rowsF_items, itemsIt, List.length_map]
        refine apL 3 H3 rfl (by rw [sizeLine_eq]; omega) ?_
        intro h4 H4
        dsimp only [List.set] at H4
        clear H3
        repeat' ktr_rel
        refine evLC he (lev_clos he rfl rfl) (by decide) rfl (by decide) rfl ?_
        repeat' ktr_rel
        refine dgT (hkv.keep H4.keep) hv2 rfl ?_
        intro _
        have hcg := H4.get 2 rfl
        refine ⟨rl, _, _, g', vsr.toArray, _, _, (fun GB i ys => Rel2 (fun v x => ∃ a t1 t2 t3, v = .ref a ∧ h4.get? a = none ∧ GB.IsTuple a #[.str (S x.1) t1, .str (S x.2.1) t2, .str (S x.2.2) t3]) ys ((itemsIt (goalL hm1 way) ns).take i)), rfl, rfl, H4, (let ⟨o, e, r⟩ := hrl; ⟨o, H4.keep _ _ e, r⟩), by simp; omega, ⟨by (dsimp only; rw [List.take_zero]; trivial), ?_⟩, ?_⟩
        · intro j v GB h5 tk5 ys C D I2 WI2 cenv hvj xG jj hce HS hy
          rw [lev_rel he rfl] at hce
          obtain ⟨y, hyj, ya, u1, u2, u3, rfl, hyt⟩ := hrr.get (by simpa using hvj)
          have hitem : (itemsIt (goalL hm1 way) ns)[j]? = some (goalL hm1 way, y.1, y.2.1) := by
            rw [← rowsF_items, List.getElem?_map, hyj]; rfl
          have hcg2 : ∃ o, h5.get? cg = some o ∧ IsCl (some (Value.str (S (goalL hm1 way)) tg)) o := let ⟨o, e, q⟩ := hcg; ⟨o, HS.keep _ _ (xG _ _ e), q⟩
          have hyt5 : h5.IsTuple ya #[.str (S y.1) u1, .str (S y.2.1) u2, .int y.2.2 u3] := let ⟨o, e, q⟩ := hyt; ⟨o, HS.keep _ _ (xG _ _ (H4.keep _ _ e)), q⟩
          refine newT (L := C) ?_
          repeat' ktr_rel
          refine ldc (cl := [(Str.ofString "goal", cg)]) (c := cg) HS hce ?_ ?_ ?_ hcg2 ?_
          · rfl
          · rfl
          · rfl
          repeat' ktr_rel
          refine ixT 0 hyt5 (by decide) (by decide) rfl rfl rfl ?_
          repeat' ktr_rel
          refine ixT 1 hyt5 (by decide) (by decide) rfl rfl rfl ?_
          repeat' ktr_rel
          refine ⟨Nat.le_of_ble_eq_true rfl, _, _, _, _, _, rfl, HS, ?_⟩
          intro g6 tt h6 x6 H6 htt n6 k6
          have nt : h4.get? tt = none := Ext.none (xG.trans HS.keep) n6
          refine ⟨g6, h6, _, _, rfl, .inr ⟨_, rfl⟩, x6, H6, ?_⟩
          dsimp only
          rw [List.take_succ, hitem]
          refine Rel2.append (jj.mono ?_) ⟨⟨tt, tg, u1, u2, rfl, nt, htt⟩, trivial⟩
          rintro v x ⟨a, p1, p2, p3, e, n, o, q1, q2⟩
          exact ⟨a, p1, p2, p3, e, n, o, x6 _ _ q1, q2⟩
        · intro gB h5 tk5 D GB ys xB lift jj hD H5
          have hlen : ys.length = ns.length := by
            have := jj.length
            rw [this]
            simp [itemsIt, hrl1]
          refine oAddLB H5 (let ⟨o, e, q⟩ := e7; ⟨o, xB _ _ e, q⟩) hD (by omega) ?_
          intro gC h6 ba xC H6 _ hba
          repeat' ktr_rel
          rename St gC _ _ _ _ => H7
          refine lpG_next (xB.trans xC) H7 ⟨seen ++ [(goalL hm1 way, tg)], told, tp, some (.str (S (goalL hm1 way)) tg), ba, bs ++ ys, bl ++ itemsIt (goalL hm1 way) ns, m, ?_, by omega, ?_, htp, e1, e2, e3, e4, e5, rfl, hba, ?_⟩
          · unfold vsOf; rw [List.map_append]; rfl
          · rw [List.map_append, ← List.append_assoc]; exact hb
          · refine Rel2.append (e8.mono fun _ _ z => z.keeps (xB.trans xC)) ?_
            rw [List.take_of_length_le (by simp [itemsIt, hrl1])] at jj
            refine jj.mono ?_
            rintro v x ⟨a, p1, p2, p3, e, n, o, q1, q2⟩
            exact ⟨a, p1, p2, p3, e, o, xC _ _ (lift _ _ q1 n), q2⟩
end

end
section
def levWhile : Stmt := (forBody (levBody.getD 2 (.Pass default))).getD 1 (.Pass default)
inductive LwJ (rd sl tl cg I1 : Addr) (WI1 : Obj → Prop) (files : Files) (fr : Fm) (fin : Told × List (List Nat)) (line : Int) (tln : Tok) (g' : Heap) (m : Nat) (fr' : Fm) (led : Lg) : Prop
  | mk (seen : TL) (told : Told) (tp : List (Addr × List Value)) (gv : Option Value) (lvA : Addr) (vs : List Value) (lv : List It)
    (h1 : led = (I1, WI1) :: (cg, IsCl gv) :: (sl, IsLs (vsOf seen)) :: (tl, IsLs (tp.map fun p => Value.ref p.1)) :: tp.map (fun p => (p.1, IsTp p.2)))
    (h2 : bfs files line m lv told (seen.map (·.1)) = some fin)
    (h3 : Rel2 ToldV tp told)
    (h4 : fr'.lookup (Str.ofString "rows") = some (.ref rd))
    (h5 : fr'.lookup (Str.ofString "start") = fr.lookup (Str.ofString "start"))
    (h6 : fr'.lookup (Str.ofString "seen") = some (.ref sl))
    (h7 : fr'.lookup (Str.ofString "told") = some (.ref tl))
    (h8 : fr'.lookup (Str.ofString "line") = some (.int line tln))
    (h9 : fr'.lookup (Str.ofString "level") = some (.ref lvA))
    (h10 : g'.IsList lvA vs.toArray)
    (h11 : Rel2 (ItAt g') vs lv)
inductive LsJ (rd sl tl L : Addr) (files : Files) (start : List Nat) (ns : List Int) (fin : Told × List (List Nat)) (t0 : Tok) (g' : Heap) (i : Nat) (fr' : Fm) (led : Lg) : Prop
  | mk (seen : TL) (told : Told) (tp : List (Addr × List Value)) (gv : Option Value)
    (h1 : led = (L + 1, IsCl gv) :: (sl, IsLs (vsOf seen)) :: (tl, IsLs (tp.map fun p => Value.ref p.1)) :: tp.map (fun p => (p.1, IsTp p.2)))
    (h2 : runRows files start ((rowsF ns []).drop i) told (seen.map (·.1)) = some fin)
    (h3 : Rel2 ToldV tp told)
    (h4 : fr'.lookup (Str.ofString "rows") = some (.ref rd))
    (h5 : fr'.lookup (Str.ofString "start") = some (.str (S start) t0))
    (h6 : fr'.lookup (Str.ofString "seen") = some (.ref sl))
    (h7 : fr'.lookup (Str.ofString "told") = some (.ref tl))
section
variable {w : World} {mg mb : Str → Option Value} {g0 g h : Heap} {L : Addr} {tk : Nat} {gn : Array GenState} {dr : Drawn} {os : OsState} {env : Env}
set_option maxHeartbeats 16000000 in
theorem level_while {rd sl tl cg I1 lvA : Addr} {files : Files} {lv : List It} {vs : List Value} {fr : Fm} {seen : TL} {told : Told} {tp : List (Addr × List Value)} {fin : Told × List (List Nat)} {k : Nat} {line : Int} {tln : Tok} {WI1 : Obj → Prop} {gv : Option Value} {Q : Flow → Shared → Prop}
    (G : Gd w mg mb g) (he : EnvOk env L levKs [(Str.ofString "goal", cg)]) (hrd : RowsTab w g rd files)
    (H : St g L h fr ((I1, WI1) :: (cg, IsCl gv) :: (sl, IsLs (vsOf seen)) :: (tl, IsLs (tp.map fun p => .ref p.1)) :: tp.map fun p => (p.1, IsTp p.2)))
    (f1 : fr.lookup (Str.ofString "rows") = some (.ref rd)) (f2 : fr.lookup (Str.ofString "seen") = some (.ref sl)) (f3 : fr.lookup (Str.ofString "told") = some (.ref tl)) (f4 : fr.lookup (Str.ofString "line") = some (.int line tln)) (f5 : fr.lookup (Str.ofString "level") = some (.ref lvA))
    (hlv : g.IsList lvA vs.toArray) (hlv2 : Rel2 (ItAt g) vs lv) (htp : Rel2 ToldV tp told)
    (hb : bfs files line k lv told (seen.map (·.1)) = some fin)
    (hq : ∀ g' h' tk' fr' (seen : TL) (tp : List (Addr × List Value)) gv, Ext g g' → seen.map (·.1) = fin.2 → Rel2 ToldV tp fin.1 →
      fr'.lookup (Str.ofString "rows") = some (.ref rd) → fr'.lookup (Str.ofString "start") = fr.lookup (Str.ofString "start") → fr'.lookup (Str.ofString "seen") = some (.ref sl) → fr'.lookup (Str.ofString "told") = some (.ref tl) →
      St g' L h' fr' ((I1, WI1) :: (cg, IsCl gv) :: (sl, IsLs (vsOf seen)) :: (tl, IsLs (tp.map fun p => .ref p.1)) :: tp.map fun p => (p.1, IsTp p.2)) → Q .next ⟨h', gn, dr, tk', os⟩) :
    wpAny (model PR w) (AW 801 8003) (exec levWhile env) Q NE ⟨h, gn, dr, tk, os⟩ := by
  refine while_coreG (n := k) (J := LwJ rd sl tl cg I1 WI1 files fr fin line tln) H ⟨seen, told, tp, gv, lvA, vs, lv, rfl, hb, htp, f1, rfl, f2, f3, f4, f5, hlv, hlv2⟩ ?_
  rintro m g1 h₁ tk₁ fr₁ led₁ x1 ⟨seen, told, tp, gv, lvA, vs, lv, rfl, hb, htp, e1, e2, e3, e4, e5, e6, e7, e8⟩ H₁
  have G1 := G.keeps x1
  have hr1 := hrd.keeps x1
  clear H
  repeat' ktr_rel
  refine newLB (L := L) ?_
  repeat' ktr_rel
  refine ⟨Nat.le_of_ble_eq_true rfl, _, _, _, _, _, rfl, H₁, ?_⟩
  intro g2 la h₂ x2 H₂ hla _
  clear H₁
  repeat' ktr_rel
  refine oNeL (vs := vs) (let ⟨o, e, q⟩ := e7; ⟨o, H₂.keep _ _ (x2 _ _ e), q⟩) (let ⟨o, e, q⟩ := hla; ⟨o, H₂.keep _ _ e, q⟩) (by decide) ?_
  repeat' ktr_rel
  · rename (!vs.isEmpty) = true => b
    refine newLB (L := L) ?_
    repeat' ktr_rel
    refine ⟨Nat.le_of_ble_eq_true rfl, _, _, _, _, _, rfl, H₂, ?_⟩
    intro g3 lb h₃ x3 H₃ _ hlb
    clear H₂
    repeat' ktr_rel
    rename St g3 _ _ _ _ => H₄
    have x13 := x2.trans x3
    refine level_for (vs := vs) (lv := lv) (seen := seen) (told := told) (tp := tp) (fin := fin) (k := m) (line := line) (files := files) (G1.keeps x13) he (hr1.keeps x13) H₄ e1 e3 e4 e5 e6 rfl (let ⟨o, e, q⟩ := e7; ⟨o, x13 _ _ e, q⟩) (e8.mono fun _ _ z => z.keeps x13) hlb htp hb ?_
    intro g4 h4 tk4 fr4 seen4 told4 tp4 gv4 blA bs bl m4 x4 hm4 hb4 htp4 q1 q2 q3 q4 q5 q6 q7 q8 H₅
    clear H₃ H₄
    repeat' ktr_rel
    rename St g4 _ _ _ _ => H₆
    have hpos : 0 < lv.length := by
      rw [← e8.length]
      cases vs with
      | nil => cases b
      | cons a r => simp
    refine lpG_next (x13.trans x4) H₆ ⟨m4, by omega, seen4, told4, tp4, gv4, blA, bs, bl, rfl, hb4, htp4, q1, q2.trans e2, q3, q4, q5, rfl, q7, q8⟩
  · rename (!vs.isEmpty) = false => b
    have hvs : vs = [] := by
      cases vs with
      | nil => rfl
      | cons a r => cases b
    have hlv0 : lv = [] := by
      have := e8.length
      rw [hvs] at this
      exact List.length_eq_zero_iff.mp this.symm
    rw [hlv0] at hb
    have hb' : fin = (told, seen.map (·.1)) := by
      cases m <;> (rw [bfs] at hb; exact (Option.some.inj hb).symm)
    rw [hb'] at hq
    exact hq g2 _ _ fr₁ seen tp gv (x1.trans x2) rfl htp e1 e2 e3 e4 H₂
theorem lk2 {x a b : Str} {u v : Value} : (if x = a then some u else if x = b then some v else none) = List.lookup x [(a, u), (b, v)] := by
  simp only [List.lookup_cons, List.lookup_nil]
  by_cases p : x = a
  · simp [p]
  · have pa : (x == a) = false := by simpa using p
    rw [if_neg p, pa]
    by_cases q : x = b
    · subst q; simp
    · have pb : (x == b) = false := by simpa using q
      rw [if_neg q, pb]
theorem numIt (ns : List Int) (hm : List Nat) : (itemsIt hm ns).length = ns.length := by simp [itemsIt]
set_option maxHeartbeats 16000000 in
theorem levels_spec {rd : Addr} {files : Files} {start : List Nat} {ns : List Int} {fin : Told × List (List Nat)} {t0 : Tok} {Q : Value → Shared → Prop}
    (G : Gd w mg mb g0) (X : Ext g0 h) (hrd : RowsTab w g0 rd files) (hlk : files.lookup start = some ns) (hnl : ns.length ≤ 1000) (hi : runRows files start (rowsF ns []) [] [start] = some fin)
    (hq : ∀ t g2 h' tk' tl sl, Ext h h' → Ext g0 g2 → Ext g2 h' → Nw g0 h g2 → g2.IsTuple t #[.ref tl, .ref sl] → ToldAt g2 tl fin.1 → SeenAt g2 sl fin.2 → Q (.ref t) ⟨h', gn, dr, tk', os⟩) :
    wpAny (model PR w) (AW 800 8000) (call (.ref 230) [.ref rd, .str (S start) t0]) Q NE ⟨h, gn, dr, tk, os⟩ := by
  refine' call_cells (fr := [(Str.ofString "start", .str (S start) t0), (Str.ofString "rows", .ref rd)]) (ks := levKs) (binds := [(Str.ofString "rows", .ref rd), (Str.ofString "start", .str (S start) t0)]) G X [] ?ho ?hcd ?hb ?hbind ?hks ?hcl ?hfr ?hl ?nd ?hlook ?hkind ?main ?hd ?hco ?hgen ?hk ?hgl ?hbn
  case ho => refine (Frag.In.keeps G.K X) _ _ ?_; k_is
  case hcd => refine codeRec_of (Frag.In.keeps G.K X) ?_; k_is
  case hb => rfl
  case hbind => rfl
  case hks => rfl
  case hcl => rfl
  case hfr => funext x; exact lk2
  case hl => exact fun _ q => nomatch q
  case nd => exact List.nodup_nil
  case hlook =>
    intro n p hp
    change p ∈ [(Str.ofString "goal", n)] at hp
    obtain rfl := List.mem_singleton.mp hp; rfl
  case hkind => intro n x hx; rcases List.mem_cons.mp hx with rfl | hx; exact .inl rfl; obtain rfl := List.mem_singleton.mp hx; exact .inl rfl
  case hd => decide
  case hco => rfl
  case hgen => rfl
  case hk => rfl
  case hgl => rfl
  case hbn => rfl
  intro g L h₁ tk₁ env he hc1 hc2 G' X' H K' hL
  clear hc1 hc2
  change St g L h₁ _ [(L + 1, IsCl none)] at H
  change EnvOk env L _ [(Str.ofString "goal", L + 1)] at he
  repeat' ktr_rel
  refine newL (L := L) ?_
  repeat' ktr_rel
  refine ⟨Nat.le_of_ble_eq_true rfl, _, _, _, _, _, rfl, H, ?_⟩
  intro sl h₂ H₂
  dsimp only [List.cons_append, List.nil_append] at H₂
  clear H
  repeat' ktr_rel
  clear H₂; rename St g _ _ _ _ => H₂
  refine newL (L := L) ?_
  repeat' ktr_rel
  refine ⟨Nat.le_of_ble_eq_true rfl, _, _, _, _, _, rfl, H₂, ?_⟩
  intro tl h₃ H₃
  dsimp only [List.cons_append, List.nil_append] at H₃
  clear H₂
  repeat' ktr_rel
  clear H₃; rename St g _ _ _ _ => H₃
  have hrd' := hrd.keeps X'
  obtain ⟨hr1, kvs, hkv, hr2⟩ := hrd'
  have hrs := hr2 start
  rw [hlk] at hrs
  obtain ⟨rl, hvr, vsr, hrl, hrr⟩ := hrs
  refine for_listG (l := rl) (items := vsr.toArray) (J := LsJ rd sl tl L files start ns fin t0) H₃ hrl ?hiter ⟨[(start, t0)], [], [], none, rfl, hi, trivial, rfl, rfl, rfl, rfl⟩ ?turn ?fin ?hr (.inr ⟨_, _, _, rfl⟩)
  case hiter =>
    intro Q' hQ'
    repeat' ktr_rel
    exact dgT (hkv.keep H₃.keep) hvr rfl hQ'
  case hr =>
    intro i v hv
    obtain ⟨y, _, a, _, _, _, e, _⟩ := hrr.get (by simpa using hv)
    exact .inl ⟨a, e⟩
  case turn =>
    rintro i v g' h₄ tk₄ fr₁ led₁ I WI hv x' ⟨seen, told, tp, gv, rfl, hb, htp, e1, e2, e3, e4⟩ H'
    obtain ⟨⟨wd, way, line⟩, hri, a, t1, t2, t3, rfl, hta⟩ := hrr.get (by simpa using hv)
    have hta' : g'.IsTuple a #[.str (S wd) t1, .str (S way) t2, .int line t3] := let ⟨o, e, r⟩ := hta; ⟨o, x' _ _ e, r⟩
    have G2 := G'.keeps x'
    clear H₃
    obtain ⟨hi1, hi2⟩ := List.getElem?_eq_some_iff.mp hri
    rw [List.drop_eq_getElem_cons hi1, hi2, runRows] at hb
    cases hbf : bfs files line 60 [(start, wd, way)] told (seen.map (·.1)) with
    | none => rw [hbf] at hb; cases hb
    | some r =>
    obtain ⟨told', seen'⟩ := r
    rw [hbf] at hb
    dsimp only at hb
    repeat' ktr_rel
    clear H'; rename St g' _ _ _ _ => H'
    refine newLB (L := L) ?_
    repeat' ktr_rel
    refine newT (L := L) ?_
    repeat' ktr_rel
    refine ⟨Nat.le_of_ble_eq_true rfl, _, _, _, _, _, rfl, H', ?_⟩
    intro g2 ta h5 x2 H5 hta2 _ _
    clear H'
    repeat' ktr_rel
    refine ⟨Nat.le_of_ble_eq_true rfl, _, _, _, _, _, rfl, H5, ?_⟩
    intro g3 la h6 x3 H6 hla _
    clear H5
    repeat' ktr_rel
    clear H6; rename St g3 _ _ _ _ => H6
    have x13 := x2.trans x3
    refine level_while (rd := rd) (sl := sl) (tl := tl) (seen := seen) (told := told) (tp := tp) (lv := [(start, wd, way)]) (vs := [.ref ta]) (files := files) (k := 60) (line := line) (tln := t3) (G2.keeps x13) he ((hrd.keeps X').keeps (x'.trans x13)) H6 e1 e3 e4 rfl rfl hla ⟨⟨ta, t0, t1, t2, rfl, let ⟨o, e, r⟩ := hta2; ⟨o, x3 _ _ e, r⟩⟩, trivial⟩ htp hbf ?_
    intro g4 h7 tk7 fr7 seen7 tp7 gv7 x4 s1 s2 q1 q2 q3 q4 H7
    repeat' ktr_rel
    refine lpG_next (x13.trans x4) H7 ⟨seen7, told', tp7, gv7, rfl, by rw [s1]; exact hb, s2, q1, q2.trans e2, q3, q4⟩
  case fin =>
    rintro g' h₄ tk₄ fr₁ led₁ x' ⟨seen, told, tp, gv, rfl, hb, htp, e1, e2, e3, e4⟩ H'
    have hln : vsr.toArray.size = (rowsF ns []).length := by rw [List.size_toArray]; exact hrr.length
    rw [hln, List.drop_length, runRows] at hb
    obtain rfl := Option.some.inj hb
    clear H₃
    repeat' ktr_rel
    refine newT (L := L) ?_
    repeat' ktr_rel
    refine ⟨Nat.le_of_ble_eq_true rfl, _, _, _, _, _, rfl, H', ?_⟩
    intro g3 tt h₅ x3 H₅ htt n5 k5
    repeat' ktr_rel
    have xE : Ext g g3 := x'.trans x3
    obtain ⟨gF, z1, z2, z3, z4, _⟩ := ((H₅.sub (List.nil_sublist _)).base (X'.trans xE)).grow h
    have xh : Ext h g := fun b o e => K' b o e (List.not_mem_nil)
    have lift : ∀ p ∈ ((L + 1, IsCl gv) :: (sl, IsLs (vsOf seen)) :: (tl, IsLs (tp.map fun p => Value.ref p.1)) :: tp.map (fun p => (p.1, IsTp p.2)) : Lg), ∃ o, gF.get? p.1 = some o ∧ p.2 o := by
      intro p hp
      obtain ⟨o, e, q⟩ := H₅.at_ p hp
      exact ⟨o, z4 _ _ e (Ext.none (xh.trans xE) (H₅.off p hp)) (H₅.ne p hp) (List.not_mem_nil), q⟩
    obtain ⟨ot, et, ct⟩ := htt
    have ntt : h.get? tt = none := Ext.none (xh.trans (x'.trans H'.keep)) n5
    refine hq tt gF h₅ _ tl sl (xh.trans (xE.trans H₅.keep)) z1 z2.keep z3 ⟨ot, z4 _ _ (H₅.keep _ _ et) ntt (H'.no n5).1 (List.not_mem_nil), ct⟩ ⟨tp.map fun p => Value.ref p.1, ?_, ?_⟩ ⟨seen, ?_, rfl⟩
    · exact IsLs.isList (lift (tl, _) (List.mem_of_getElem? (i := 2) rfl))
    · refine Rel2.map _ (Rel2.of_mem htp fun p hp r hr => ?_)
      obtain ⟨t1, t2, e⟩ := hr
      have := lift (p.1, IsTp p.2) (.tail _ (.tail _ (.tail _ (List.mem_map_of_mem (f := fun p : Addr × List Value => (p.1, IsTp p.2)) hp))))
      rw [e] at this
      exact ⟨p.1, t1, t2, rfl, IsTp.isTuple this⟩
    · exact IsLs.isList (lift (sl, _) (List.mem_of_getElem? (i := 1) rfl))
end

end
section
section
variable {w : World} {g h h' hB : Heap} {L : Addr} {gn : Array GenState} {dr : Drawn} {os : OsState} {tk : Nat} {fr : Fm} {led led' : Lg} {env : Env} {d u : Nat} {ks : List (Str × NameKind)} {clo : List (Str × Addr)}
theorem St.turnAll (H : St g L h fr led) (e : led'.map (·.1) = led.map (·.1)) (k : ∀ b o, b ∉ led.map (·.1) → h.get? b = some o → h'.get? b = some o) (q : ∀ p ∈ led', ∃ o, h'.get? p.1 = some o ∧ p.2 o) : St g L h' fr led' := by
  have back : ∀ p ∈ led', ∃ p' ∈ led, p'.1 = p.1 := fun p hp => by
    have := List.mem_map_of_mem (f := fun x : Addr × (Obj → Prop) => x.1) hp
    rw [e] at this
    exact List.mem_map.mp this
  obtain ⟨oL, esL, epL, hL, rL⟩ := H.ns
  refine ⟨⟨oL, esL, epL, k _ _ (fun z => ?_) hL, rL⟩, fun b o eb => k b o (H.inb eb).2 (H.keep b o eb), q, fun p hp => ?_, fun p hp => ?_, H.nL, by rw [e]; exact H.nd⟩
  · obtain ⟨p, hp, z⟩ := List.mem_map.mp z
    exact H.ne p hp z
  · obtain ⟨p', hp', z⟩ := back p hp
    rw [← z]; exact H.off p' hp'
  · obtain ⟨p', hp', z⟩ := back p hp
    rw [← z]; exact H.ne p' hp'
theorem St.lose {led1 led2 : Lg} (H : St g L h fr (led1 ++ led2)) (k : ∀ b o, b ∉ led2.map (·.1) → h.get? b = some o → h'.get? b = some o) : St g L h' fr led1 := by
  have nd := H.nd
  rw [List.map_append, List.nodup_append] at nd
  obtain ⟨oL, esL, epL, hL, rL⟩ := H.ns
  refine ⟨⟨oL, esL, epL, k _ _ (fun z => ?_) hL, rL⟩, fun b o e => k b o (fun z => (H.inb e).2 (by rw [List.map_append]; exact List.mem_append_right _ z)) (H.keep b o e), fun p hp => ?_, fun p hp => H.off p (List.mem_append_left _ hp), fun p hp => H.ne p (List.mem_append_left _ hp), H.nL, nd.1⟩
  · obtain ⟨p, hp, q⟩ := List.mem_map.mp z
    exact H.ne p (List.mem_append_right _ hp) q
  · obtain ⟨o, e, q⟩ := H.at_ p (List.mem_append_left _ hp)
    exact ⟨o, k _ _ (fun z => nd.2.2 _ (List.mem_map_of_mem hp) _ z rfl) e, q⟩
def kvF (K : Nat → List Nat) (V : Nat → Value) : Nat → List (Str × Value)
  | 0 => []
  | i + 1 => stored (kvF K V i) (S (K i)) (V i)
theorem kvF_len (K : Nat → List Nat) (V : Nat → Value) : ∀ i, (kvF K V i).length ≤ i
  | 0 => Nat.le_refl _
  | i + 1 => by
    have := kvF_len K V i
    have e := stored_length_le (kvF K V i) (S (K i)) (V i)
    unfold kvF; omega
def IsDc (w : World) (kvs : List (Str × Value)) (o : Obj) : Prop := o.IsDictOf (strKind PR w) kvs
theorem IsDc.dict {a : Addr} {kvs : List (Str × Value)} (x : ∃ o, h.get? a = some o ∧ IsDc w kvs o) : h.DictOf (strKind PR w) a kvs := Heap.dictOf_iff.mpr x
theorem compLoop_dictT {prog : Program} {A : Around} {R : Result → Shared → Prop} {s : Shared} {kx vx target iter : Expr} {scope : Scope} {pos : Pos} {it : Value} {D : Addr} {env : Env} (I : Nat → Shared → Prop)
    (turn : ∀ n s, I n s → wpAny (model prog w) A (pyNext it) (fun r s₁ => match r with
      | none => R (.ok .next) s₁
      | some v => wpAny (model prog w) A (letOwnedTupleGo target it v) (fun _ s₀ => wpAny (model prog w) A (assign target env v) (fun _ s₃ =>
            wpAny (model prog w) A (eval kx env) (fun kv s₄ => wpAny (model prog w) A (eval vx env) (fun vv s₅ =>
              wpAny (model prog w) A (dictSet D kv vv) (fun _ s₆ => ∃ m, m < n ∧ I m s₆) NE s₅) NE s₄) NE s₃) NE s₀) NE s₁) NE s)
    (n : Nat) (h : I n s) :
    codeAny (model prog w) A (.compLoop (.DictComp kx vx [⟨target, iter, [], 0⟩] scope pos) 0 it (.ref D) env) R s := by
  refine codeAny_loop rfl I (fun n s hI => ?_) n h
  show wpAny _ A ((compTurn (.DictComp kx vx [⟨target, iter, [], 0⟩] scope pos) 0 it (.ref D) env).onRaise (fun x => do noteFrame x env; theTreesLotGoes x)) _ _ s
  refine wpAny_noted ?_
  rw [compTurn_dict]
  refine wpAny_bind (wpAny_standAt (wpAny_bind (wpAny_mono (turn n s hI) (fun r s₁ h₁ => ?_) fun _ _ z => z.elim)))
  cases r with
  | none => exact wpAny_pure h₁
  | some v =>
    refine wpAny_bind (wpAny_mono h₁ (fun _ s₀ h₀ => ?_) fun _ _ z => z.elim)
    refine wpAny_bind (wpAny_mono h₀ (fun _ s₃ h₃ => ?_) fun _ _ z => z.elim)
    refine wpAny_bind (show wpAny _ _ (pure true) _ _ _ from wpAny_pure ?_)
    exact wpAny_bind (wpAny_bind (wpAny_mono h₃ (fun kv s₄ h₄ => wpAny_bind (wpAny_holding (wpAny_mono h₄ (fun vv s₅ h₅ => wpAny_bind (wpAny_standAt (wpAny_holding (wpAny_mono h₅ (fun _ s₆ h₆ => wpAny_pure ⟨rfl, h₆⟩) fun _ _ z => z.elim)))) fun _ _ z => z.elim))) fun _ _ z => z.elim))
theorem frTwo {a b : Str} {x y : Value} {fr : Fm} (hf : fr = [] ∨ ∃ u v, fr = [(b, v), (a, u)]) : ∀ z, List.lookup z ((b, y) :: (a, x) :: fr) = List.lookup z [(b, y), (a, x)] := by
  intro z
  rcases hf with rfl | ⟨u, v, rfl⟩
  · rfl
  · simp only [List.lookup_cons, List.lookup_nil]
    cases z == b <;> cases z == a <;> rfl
/-- the turns of a dict comprehension over a zip of two lists -/
theorem dz_core {vx iter : Expr} {a b : Str} {pa pb pk ptt pos : Pos} {k0 : Nat} {scope : Scope} {z TI TO i1 i2 l1 l2 : Addr} {xs ys : Array Value} {n : Nat} {K : Nat → List Nat} {V : Nat → Value} {RR : Value → Addr → Result → Shared → Prop}
    (he : EnvOk env L ks clo) (hcell : ∀ y ∈ scope.names, y.2 ≠ .cell) (hkind : scope.kind = .function) (ha : scope.names.lookup a = some .local) (hb : scope.names.lookup b = some .local) (hab : a ≠ b) (hda : (a == ("__debug__" : Str)) = false)
    (xB : Ext hB h) (off : ∀ c ∈ [z, TO, i1, i2], hB.get? c = none) (nd : [z, TO, i1, i2].Nodup)
    (hz : IsZip h z TI TO .none) (hTI : IsPair hB TI (.ref i1) (.ref i2)) (hTO : IsPair h TO .none .none) (h1 : h.IsListIter i1 l1 0) (h2 : h.IsListIter i2 l2 0) (hl1 : hB.IsList l1 xs) (hl2 : hB.IsList l2 ys) (nx : xs.size = n) (ny : ys.size = n) (hn : n ≤ 100000)
    (hxs : ∀ i, i < n → ∃ t, xs[i]? = some (.str (S (K i)) t))
    (turn : ∀ i x y GB h₁ tk₁ cenv C led, i < n → xs[i]? = some x → ys[i]? = some y → Ext hB GB → EnvOk cenv C (relabel scope env).names [] → St GB C h₁ [(b, y), (a, x)] led → ∀ Q' : Value → Shared → Prop, (∀ tk', Q' (V i) ⟨h₁, gn, dr, tk', os⟩) → wpAny (model PR w) (AW d u) (eval vx cenv) Q' NE ⟨h₁, gn, dr, tk₁, os⟩)
    (fin : ∀ C D GB h' tk' fr', Ext hB GB → h.get? C = none → h.get? D = none → h.objs.size ≤ D → St GB C h' fr' [(D, IsDc w (kvF K V n))] → RR (.ref D) C (.ok .next) ⟨h', gn, dr, tk', os⟩) :
    wpAny (model PR w) (AW d u) newDict (fun acc s₃ => wpAny (model PR w) (AW d u) (newFunctionEnv scope env.globals [] [] env.qual none .none (some env)) (fun cenv s₄ =>
      codeAny (model PR w) (AW d u) (.compStart (.DictComp (.Name a pk) vx [⟨.Tuple [.Name a pa, .Name b pb] k0 ptt, iter, [], 0⟩] scope pos) 0 (.ref z) acc { cenv with scope := relabel scope env }) (RR acc cenv.locals) s₄) NE s₃) NE ⟨h, gn, dr, tk, os⟩ := by
  refine wpAny_newObj_type (wpAny_newFunctionEnv hcell (by intro y hy; simp at hy) (fun h₁ hns₁ hsb₁ => ?_) hkind)
  dsimp only at hns₁ hsb₁ ⊢
  have hD0 : (h.push { cls := .type "dict", dict := none, data := .dict #[] }).DictOf (strKind PR w) h.objs.size [] := Heap.DictOf.new h
  have k0' : Ext h (h.push { cls := .type "dict", dict := none, data := .dict #[] }) := fun b o e => Heap.get?_push_of_some _ e
  have hsz : (h.push { cls := .type "dict", dict := none, data := .dict #[] }).objs.size = h.objs.size + 1 := Heap.size_push ..
  generalize h.push { cls := .type "dict", dict := none, data := .dict #[] } = H2 at hns₁ hsb₁ hD0 k0' hsz
  have k1 : Ext H2 h₁ := fun b o e => (hsb₁.2 b (Nat.ne_of_lt (Heap.lt_size e))).trans (Heap.get?_push_of_some _ e)
  have hCn : h.get? H2.objs.size = none := none_ge (by rw [hsz]; exact Nat.le_succ _)
  have hDn : h.get? h.objs.size = none := none_ge (Nat.le_refl _)
  have kk : Ext h h₁ := k0'.trans k1
  obtain ⟨o1, e1, r1⟩ := h1
  obtain ⟨o2, e2, r2⟩ := h2
  have nD : ∀ c o, h.get? c = some o → c ≠ h.objs.size ∧ c ≠ H2.objs.size := fun c o e => ⟨fun q => (by rw [q, hDn] at e; cases e), fun q => (by rw [q, hCn] at e; cases e)⟩
  have S0 : St hB H2.objs.size h₁ [] [(h.objs.size, IsDc w (kvF K V 0)), (z, fun o => o = { cls := .type "zip", dict := none, data := .fields #[.none, .bool false, .bool false, .ref TI, .ref TO], slots := #[] }), (TO, fun o => ∃ x y, o = { cls := .type "tuple", data := .seq #[x, y] }), (i1, fun o => o.cls = .type "list_iterator" ∧ o.data = .fields #[.ref l1, .int (0 : Nat) 0]), (i2, fun o => o.cls = .type "list_iterator" ∧ o.data = .fields #[.ref l2, .int (0 : Nat) 0])] := by
    refine ⟨hns₁, xB.trans kk, ?_, ?_, ?_, Ext.none xB hCn, ?_⟩
    · simp only [List.forall_mem_cons]
      exact ⟨Heap.dictOf_iff.mp (hD0.keep k1), ⟨_, kk _ _ hz, rfl⟩, ⟨_, kk _ _ hTO, _, _, rfl⟩, ⟨_, kk _ _ e1, r1⟩, ⟨_, kk _ _ e2, r2⟩, fun _ q => nomatch q⟩
    · simp only [List.forall_mem_cons] at off ⊢
      exact ⟨Ext.none xB hDn, off.1, off.2.1, off.2.2.1, off.2.2.2.1, fun _ q => nomatch q⟩
    · simp only [List.forall_mem_cons]
      exact ⟨Nat.ne_of_lt (by rw [hsz]; exact Nat.lt_succ_self _), (nD _ _ hz).2, (nD _ _ hTO).2, (nD _ _ e1).2, (nD _ _ e2).2, fun _ q => nomatch q⟩
    · simp only [List.map_cons, List.map_nil]
      refine List.nodup_cons.mpr ⟨?_, nd⟩
      simp only [List.mem_cons, List.not_mem_nil, or_false, not_or]
      exact ⟨Ne.symm (nD _ _ hz).1, Ne.symm (nD _ _ hTO).1, Ne.symm (nD _ _ e1).1, Ne.symm (nD _ _ e2).1⟩
  have zap : ZipApart z TI TO i1 i2 l1 l2 := by
    obtain ⟨q1, q2, q3, q4, _⟩ := (by simpa only [List.forall_mem_cons] using off)
    simp only [List.nodup_cons, List.mem_cons, List.not_mem_nil, or_false, not_or, List.nodup_nil, and_true, not_false_eq_true] at nd
    obtain ⟨⟨n1, n2, n3⟩, ⟨n4, n5⟩, n6⟩ := nd
    have ap : ∀ {c e : Addr} {o : Obj}, hB.get? c = some o → hB.get? e = none → c ≠ e := fun x y q => by rw [q, y] at x; cases x
    obtain ⟨p1, pe1, _⟩ := hl1
    obtain ⟨p2, pe2, _⟩ := hl2
    exact ⟨ap hTI q1, Ne.symm n1, Ne.symm n2, Ne.symm n3, ap hTI q2, ap hTI q3, ap hTI q4, n4, n5, n6, ap pe1 q1, ap pe1 q2, ap pe1 q3, ap pe1 q4, ap pe2 q1, ap pe2 q2, ap pe2 q3, ap pe2 q4⟩
  have loop : ∀ tk₁, codeAny (model PR w) (AW d u) (.compLoop (.DictComp (.Name a pk) vx [⟨.Tuple [.Name a pa, .Name b pb] k0 ptt, iter, [], 0⟩] scope pos) 0 (.ref z) (.ref h.objs.size) (compEnvC scope [] H2.objs.size env)) (RR (.ref h.objs.size) H2.objs.size) ⟨h₁, gn, dr, tk₁, os⟩ := by
    intro tk₁
    refine compLoop_dictT (fun m s' => ∃ i GB hh tk fr, s' = (⟨hh, gn, dr, tk, os⟩ : Shared) ∧ m = n - i ∧ i ≤ n ∧ Ext hB GB ∧ (fr = [] ∨ ∃ u v, fr = [(b, v), (a, u)]) ∧ St GB H2.objs.size hh fr [(h.objs.size, IsDc w (kvF K V i)), (z, fun o => o = { cls := .type "zip", dict := none, data := .fields #[.none, .bool false, .bool false, .ref TI, .ref TO], slots := #[] }), (TO, fun o => ∃ x y, o = { cls := .type "tuple", data := .seq #[x, y] }), (i1, fun o => o.cls = .type "list_iterator" ∧ o.data = .fields #[.ref l1, .int (i : Nat) 0]), (i2, fun o => o.cls = .type "list_iterator" ∧ o.data = .fields #[.ref l2, .int (i : Nat) 0])]) ?_ (n - 0) ⟨0, hB, h₁, tk₁, [], rfl, rfl, Nat.zero_le _, Ext.refl _, .inl rfl, S0⟩
    rintro m s' ⟨i, GB, hh, tk₂, fr₂, rfl, rfl, hin, xG, hfr, HS⟩
    obtain ⟨oz, ez, rfl⟩ := HS.get 1 rfl
    obtain ⟨oT, eT, x0, y0, rfl⟩ := HS.get 2 rfl
    obtain ⟨p1, pe1, pr1⟩ := HS.get 3 rfl
    obtain ⟨p2, pe2, pr2⟩ := HS.get 4 rfl
    have hl1' : hh.IsList l1 xs := let ⟨o, e, r⟩ := hl1; ⟨o, HS.keep _ _ (xG _ _ e), r⟩
    have hl2' : hh.IsList l2 ys := let ⟨o, e, r⟩ := hl2; ⟨o, HS.keep _ _ (xG _ _ e), r⟩
    have ndS := HS.nd
    simp only [List.map_cons, List.map_nil, List.nodup_cons, List.mem_cons, List.not_mem_nil, or_false, not_or, List.nodup_nil, and_true, not_false_eq_true] at ndS
    obtain ⟨⟨c1, c2, c3, c4⟩, _⟩ := ndS
    rcases Nat.lt_or_ge i n with hlt | hge
    · have ex : xs[i]? = some xs[i] := Array.getElem?_eq_getElem (by omega)
      have ey : ys[i]? = some ys[i] := Array.getElem?_eq_getElem (by omega)
      refine wpAny_pyNext_zip_item zap ez (HS.keep _ _ (xG _ _ hTI)) eT ⟨p1, pe1, pr1⟩ ⟨p2, pe2, pr2⟩ hl1' hl2' ex ey fun h₂ a1 a2 a3 a4 a5 a6 a7 => ?_
      refine wpAny_letOwnedTupleGo_zip a1 fun h₃ b1 b2 => ?_
      have hsz3 : hh.get? hh.objs.size = none := none_ge (Nat.le_refl _)
      have tz : hh.objs.size ≠ z := fun q => by rw [q] at hsz3; rw [hsz3] at ez; cases ez
      obtain ⟨oD, eD, qD⟩ := HS.get 0 rfl
      obtain ⟨o3, e3, r3⟩ := a3
      obtain ⟨o4, e4, r4⟩ := a4
      have HS3 := HS.turnAll (h' := h₃) (led' := [(h.objs.size, IsDc w (kvF K V i)), (z, fun o => o = { cls := .type "zip", dict := none, data := .fields #[.none, .bool false, .bool false, .ref TI, .ref TO], slots := #[] }), (TO, fun o => ∃ x y, o = { cls := .type "tuple", data := .seq #[x, y] }), (i1, fun o => o.cls = .type "list_iterator" ∧ o.data = .fields #[.ref l1, .int (i + 1 : Nat) 0]), (i2, fun o => o.cls = .type "list_iterator" ∧ o.data = .fields #[.ref l2, .int (i + 1 : Nat) 0])]) rfl (by
        intro c o hc e
        simp only [List.map_cons, List.map_nil, List.mem_cons, List.not_mem_nil, or_false, not_or] at hc
        exact b2.extBut _ _ hc.2.1 (a7 c o hc.2.1 hc.2.2.1 hc.2.2.2.1 hc.2.2.2.2 e)) (by
        simp only [List.forall_mem_cons]
        exact ⟨⟨oD, b2.extBut _ _ c1 (a7 _ _ c1 c2 c3 c4 eD), qD⟩, ⟨_, b1, rfl⟩, ⟨_, b2.extBut _ _ zap.TOz a2, _, _, rfl⟩, ⟨_, b2.extBut _ _ zap.i1z e3, r3⟩, ⟨_, b2.extBut _ _ zap.i2z e4, r4⟩, fun _ q => nomatch q⟩)
      obtain ⟨GB', xG', HS4, _, inn, _⟩ := HS3.grow hh
      have hT4 : GB'.IsTuple hh.objs.size #[xs[i], ys[i]] := ⟨_, inn _ _ (b2.extBut _ _ tz a5) hsz3 (HS.no hsz3).1 (HS.no hsz3).2, rfl, _, rfl⟩
      have hce := compEnv_ok (scope := scope) (cl := []) (C := H2.objs.size) he hkind
      have hla : (relabel scope env).names.lookup a = some .local := lookup_relabel_local ha
      have hlb : (relabel scope env).names.lookup b = some .local := lookup_relabel_local hb
      refine asgT HS4 hT4 rfl rfl ?_
      intro h₄ H₄
      refine assignInOrder_cons ?_
      refine wpAny_assign_Name ?_
      refine stoF H₄ hce hla ?_
      intro h₅ tk₅ H₅
      refine assignInOrder_cons ?_
      refine wpAny_assign_Name ?_
      refine stoF H₅ hce hlb ?_
      intro h₆ tk₆ H₆
      refine assignInOrder_nil ?_
      have H₇ := H₆.frEq (frTwo hfr)
      obtain ⟨t, et⟩ := hxs i hlt
      have ext : xs[i] = .str (S (K i)) t := Option.some.inj (ex.symm.trans et)
      have hva : List.lookup a [(b, ys[i]), (a, xs[i])] = some (.str (S (K i)) t) := by
        have : (a == b) = false := by simpa using hab
        rw [List.lookup_cons, this, List.lookup_cons, ext]; simp
      refine ld H₇ hce hla hda hva ?_
      refine turn i _ _ GB' h₆ tk₆ _ H2.objs.size _ hlt ex ey (xG.trans xG') hce H₇ _ fun tk₇ => ?_
      have hlen := kvF_len K V i
      refine wpAny_dictSet_pairs (hsz := by rw [sizeLine_eq]; omega) (strKind_is PR w (S (K i)) t) (IsDc.dict (H₇.get 0 rfl)) fun h₈ d8 s8 => ?_
      have H₈ := H₇.turn 0 rfl (P' := IsDc w (kvF K V (i + 1))) (fun b o nb e => (s8.2 b nb).trans e) (Heap.dictOf_iff.mp d8)
      dsimp only [List.set] at H₈
      exact ⟨n - (i + 1), by omega, i + 1, GB', h₈, _, _, rfl, rfl, hlt, xG.trans xG', .inr ⟨_, _, rfl⟩, H₈⟩
    · obtain rfl : i = n := Nat.le_antisymm hin hge
      refine wpAny_pyNext_zip_end rfl zap ez (HS.keep _ _ (xG _ _ hTI)) eT ⟨p1, pe1, pr1⟩ ⟨p2, pe2, pr2⟩ hl1' hl2' (.inl (Array.getElem?_eq_none (by omega))) fun h₂ hk => ?_
      refine fin _ _ GB h₂ _ fr₂ xG hCn hDn (Nat.le_refl _) (St.lose (led1 := [(h.objs.size, IsDc w (kvF K V i))]) HS ?_)
      intro c o hc e
      simp only [List.map_cons, List.map_nil, List.mem_cons, List.not_mem_nil, or_false, not_or] at hc
      exact hk c o hc.1 hc.2.1 hc.2.2.1 hc.2.2.2 e
  exact codeAny_compStart_dict (loop _) (wpAny_pyIter_zip (kk _ _ hz) (loop _))
end

end
section
section
variable {w : World} {g h h' hB GB : Heap} {L C D : Addr} {gn : Array GenState} {dr : Drawn} {os : OsState} {tk : Nat} {fr fr' : Fm} {led led' : Lg} {env : Env} {d u : Nat} {ks : List (Str × NameKind)} {clo : List (Str × Addr)} {A : Around}
/-- the outer frame behind a comprehension, when its outcome is stored -/
theorem comp_outP {P : Obj → Prop} {y : Str} {py : Pos} {Q : Shared → Prop} (he : EnvOk env L ks clo) (hy : ks.lookup y = some .local) (H : St g L h fr led) (xG : Ext h GB) (nC : h.get? C = none) (nD : h.get? D = none) (HS : St GB C h' fr' [(D, P)])
    (hq : ∀ g' h2 tk', Ext g g' → (∀ b o, GB.get? b = some o → h.get? b = none → g'.get? b = some o) → (∃ o, g'.get? D = some o ∧ P o) → St g' L h2 ((y, .ref D) :: fr) led → Q ⟨h2, gn, dr, tk', os⟩) :
    wpAny (model PR w) A (assign (.Name y py) env (.ref D)) (fun _ s'' => ∃ m, s''.heap.Ns C m ∧ ∀ h2, Heap.SameBut C s''.heap h2 → Q { s'' with heap := h2 }) NE ⟨h', gn, dr, tk, os⟩ := by
  have k : Ext h h' := xG.trans HS.keep
  have nCC := H.no nC
  have H0 := H.ext k
  refine wpAny_assign_Name (wpAny_storeName_local ((he.kindOf y).trans hy) (he.locals ▸ H0.ns) (fun h1 hn hs => ⟨_, ns_but (L := L) HS.ns (fun o e => ((he.locals ▸ hs : Heap.SameBut L h' h1).2 C nCC.1).trans e), fun h2 hs2 => ?_⟩) (by rw [he.kind]; rfl))
  have hsL : Heap.SameBut L h' h1 := he.locals ▸ hs
  have dC : D ≠ C := HS.ne (D, P) (.head _)
  have H2 := H.adds k (new := [(D, P)]) (by simp) (by intro p hp; obtain rfl := List.mem_singleton.mp hp; exact nD) (by intro p hp; obtain rfl := List.mem_singleton.mp hp; exact HS.get 0 rfl)
  have H3 : St g L h1 (upd y (.ref D) fr) (led ++ [(D, P)]) := H2.store (he.locals ▸ hn) hsL
  have H4 := H3.but (I := C) (fun b o nb e => (hs2.2 b nb).trans e) nCC.1 (by
    rw [List.map_append]; intro q
    rcases List.mem_append.mp q with q | q
    · exact nCC.2 q
    · simp at q; exact dC q.symm) (Ext.none H.keep nC)
  obtain ⟨g', x1, H5, nw, inn, _⟩ := H4.grow h
  obtain ⟨g'', x2, H6, e6, _⟩ := H5.toBase led.length (b := D) (P := P) (by simp)
  have e2 : (led ++ [(D, P)]).eraseIdx led.length = led := by
    rw [List.eraseIdx_append_of_length_le (Nat.le_refl _)]; simp
  rw [e2] at H6
  have H7 : St g'' L h2 ((y, .ref D) :: fr) led := H6.frEq fun z => by
    rw [upd_lookup, List.lookup_cons]
    by_cases q : z = y
    · subst q; simp
    · have : (z == y) = false := by simpa using q
      rw [this, if_neg q]
  refine hq g'' h2 _ (x1.trans x2) (fun b o e n => ?_) e6 H7
  have z := HS.inb e
  have zz := H.no n
  refine x2 _ _ (inn b o ((hs2.2 b z.1).trans ((hsL.2 b zz.1).trans (HS.keep _ _ e))) n zz.1 ?_)
  rw [List.map_append]; intro q
  rcases List.mem_append.mp q with q | q
  · exact zz.2 q
  · exact z.2 q
/-- a zip of two lists -/
theorem asgDZ {vx iter : Expr} {a b y : Str} {pa pb pk ptt pos py spos : Pos} {k0 : Nat} {scope : Scope} {Q : Flow → Shared → Prop}
    (hsw : swapsWith (.DictComp (.Name a pk) vx [⟨.Tuple [.Name a pa, .Name b pb] k0 ptt, iter, [], 0⟩] scope pos) (some (.Name y py)) spos.line env = pure true)
    (he : EnvOk env L ks clo) (hclos : closureFor scope env = pure []) (hcell : ∀ y ∈ scope.names, y.2 ≠ .cell) (hkind : scope.kind = .function) (hnames : ∀ z ∈ scope.names, z.2 = .local → scope.names.lookup z.1 = some .local) (ha : scope.names.lookup a = some .local) (hb : scope.names.lookup b = some .local) (hab : a ≠ b) (hda : (a == ("__debug__" : Str)) = false) (hy : ks.lookup y = some .local)
    (hw : wpAny (model PR w) (AW d u) (eval iter env) (fun v s₁ => ∃ z TI TO i1 i2 l1 l2 xs ys n h tk g fr led, ∃ (K : Nat → List Nat) (V : Nat → Value), v = .ref z ∧ s₁ = ⟨h, gn, dr, tk, os⟩ ∧ St g L h fr led ∧
      (∀ c ∈ [z, TO, i1, i2], g.get? c = none ∧ c ≠ L ∧ c ∉ led.map (·.1)) ∧ [z, TO, i1, i2].Nodup ∧ IsZip h z TI TO .none ∧ TI ∉ [z, TO, i1, i2] ∧ IsPair h TI (.ref i1) (.ref i2) ∧ IsPair h TO .none .none ∧ h.IsListIter i1 l1 0 ∧ h.IsListIter i2 l2 0 ∧ g.IsList l1 xs ∧ g.IsList l2 ys ∧ xs.size = n ∧ ys.size = n ∧ n ≤ 100000 ∧
      (∀ i, i < n → ∃ t, xs[i]? = some (.str (S (K i)) t)) ∧
      (∀ i x y GB h₁ tk₁ cenv C led, i < n → xs[i]? = some x → ys[i]? = some y → Ext g GB → EnvOk cenv C (relabel scope env).names [] → St GB C h₁ [(b, y), (a, x)] led → ∀ Q' : Value → Shared → Prop, (∀ tk', Q' (V i) ⟨h₁, gn, dr, tk', os⟩) → wpAny (model PR w) (AW d u) (eval vx cenv) Q' NE ⟨h₁, gn, dr, tk₁, os⟩) ∧
      (∀ g' h2 tk' D, Ext g g' → h.objs.size ≤ D → g'.DictOf (strKind PR w) D (kvF K V n) → St g' L h2 ((y, .ref D) :: fr) led → Q .next ⟨h2, gn, dr, tk', os⟩)) NE ⟨h, gn, dr, tk, os⟩)
    (hs : ∀ x, foldedSetIterable iter env x = pure x := by intro _; rfl) :
    wpAny (model PR w) (AW d u) (exec (.Assign [.Name y py] (.DictComp (.Name a pk) vx [⟨.Tuple [.Name a pa, .Name b pb] k0 ptt, iter, [], 0⟩] scope pos) spos) env) Q NE ⟨h, gn, dr, tk, os⟩ := by
  rw [exec_Assign_Name_used _ _ _ _ hsw]
  refine wpAny_bind (wpAny_standAt (wpAny_bind ?_))
  show wpAny _ _ (do let _ ← comprehension (.DictComp (.Name a pk) vx [⟨.Tuple [.Name a pa, .Name b pb] k0 ptt, iter, [], 0⟩] scope pos) scope env _ newDict false (eval iter env) (some (assign (.Name y py) env))) _ _ _
  refine wpAny_bind (wpAny_mono (wpAny_comprehension_free (use := some (assign (.Name y py) env)) (Q := fun _ s' => Q .next s') rfl hs hclos hkind hnames
    (wpAny_mono hw (fun xv s₁ q => ?_) fun _ _ e => e)) (fun _ s' hq => wpAny_pure (wpAny_pure hq)) fun _ _ e => e)
  obtain ⟨z, TI, TO, i1, i2, l1, l2, xs, ys, n, h, tk, g, fr, led, K, V, rfl, rfl, H, off, nd, hz, hTIn, hTI, hTO, h1, h2, hl1, hl2, nx, ny, hn, hxs, turn, hq⟩ := q
  refine wpAny_pyIter_zip hz ?_
  have xB : Ext (hideAll h [z, TO, i1, i2]) h := fun b o e => of_hideAll _ e
  have gB : Ext g (hideAll h [z, TO, i1, i2]) := fun b o e => hideAll_get _ (H.keep _ _ e) fun q => by
    have := (off b q).1
    rw [e] at this; cases this
  refine dz_core (hB := hideAll h [z, TO, i1, i2]) (K := K) (V := V) (n := n) (xs := xs) (ys := ys) (RR := fun acc C => compPost (model PR w) (AW d u) NE (some (assign (.Name y py) env)) (fun _ s' => Q .next s') acc C) he hcell hkind ha hb hab hda xB (fun c hc => hideAll_none _ hc) nd hz (hideAll_get _ hTI hTIn) hTO h1 h2 (let ⟨o, e, r⟩ := hl1; ⟨o, gB _ _ e, r⟩) (let ⟨o, e, r⟩ := hl2; ⟨o, gB _ _ e, r⟩) nx ny hn hxs
    (fun i x y GB h₁ tk₁ cenv C led hi ex ey xg ce HS Q' hQ => turn i x y GB h₁ tk₁ cenv C led hi ex ey (gB.trans xg) ce HS Q' hQ) ?_
  intro C D GB h' tk' fr' xG nC nD szD HS
  -- the outer frame is stepped to from the base of the comprehension
  have H' : St g L (hideAll h [z, TO, i1, i2]) fr led := by
    refine ⟨?_, gB, fun p hp => ?_, H.off, H.ne, H.nL, H.nd⟩
    · obtain ⟨oL, esL, epL, hL, rL⟩ := H.ns
      exact ⟨oL, esL, epL, hideAll_get _ hL fun q => (off L q).2.1 rfl, rL⟩
    · obtain ⟨o, e, q⟩ := H.at_ p hp
      exact ⟨o, hideAll_get _ e fun z => (off _ z).2.2 (List.mem_map_of_mem hp), q⟩
  exact comp_outP he hy H' xG (Ext.none xB nC) (Ext.none xB nD) HS fun g' h2 tk' x1 _ hD H5 => hq g' h2 tk' D x1 szD (IsDc.dict hD) H5
theorem oZip {l1 l2 : Addr} {xs ys : Array Value} {E : Value → Shared → Prop} {Q : Value → Shared → Prop} (H : St g L h fr led) (hl1 : g.IsList l1 xs) (hl2 : g.IsList l2 ys)
    (hq : ∀ z TI TO i1 i2 h', St g L h' fr led → Ext h h' → (∀ c ∈ [z, TO, i1, i2], g.get? c = none ∧ c ≠ L ∧ c ∉ led.map (·.1)) → [z, TO, i1, i2].Nodup → IsZip h' z TI TO .none → TI ∉ [z, TO, i1, i2] → IsPair h' TI (.ref i1) (.ref i2) → IsPair h' TO .none .none → h'.IsListIter i1 l1 0 → h'.IsListIter i2 l2 0 → Q (.ref z) ⟨h', gn, dr, tk, os⟩) :
    wpAny (model PR w) A (call (.type "zip") [.ref l1, .ref l2]) Q E ⟨h, gn, dr, tk, os⟩ := by
  refine call_zip_2 (s := ⟨h, gn, dr, tk, os⟩) (xs := xs) (ys := ys) (let ⟨o, e, r⟩ := hl1; ⟨o, H.keep _ _ e, r⟩) (let ⟨o, e, r⟩ := hl2; ⟨o, H.keep _ _ e, r⟩) fun h' a1 a2 a3 a4 a5 _ a7 => ?_
  have fr : ∀ n, g.get? (h.objs.size + n) = none ∧ (h.objs.size + n) ≠ L ∧ (h.objs.size + n) ∉ led.map (·.1) := fun n => by
    have q : h.get? (h.objs.size + n) = none := none_ge (Nat.le_add_right _ _)
    exact ⟨Ext.none H.keep q, H.no q⟩
  refine hq _ _ _ _ _ h' (H.ext a7) a7 ?_ ?_ a1 ?_ a2 a3 a4 a5
  · simp only [List.forall_mem_cons]
    exact ⟨fr 4, fr 3, fr 0, fr 1, fun _ q => nomatch q⟩
  · simp
  · simp
end

end
section
section
variable {w : World} {g h h' hB GB : Heap} {L C D : Addr} {gn : Array GenState} {dr : Drawn} {os : OsState} {tk : Nat} {fr fr' : Fm} {led led' : Lg} {env : Env} {d u : Nat} {ks : List (Str × NameKind)} {clo : List (Str × Addr)} {A : Around}
/-- a list comprehension over range(n), stored in a name -/
theorem asgLR {elt iter : Expr} {x y : Str} {px py : Pos} {scope : Scope} {cl : List (Str × Addr)} {pos spos : Pos} {Q : Flow → Shared → Prop}
    (hsw : swapsWith (.ListComp elt [⟨.Name x px, iter, [], 0⟩] scope pos) (some (.Name y py)) spos.line env = pure true)
    (he : EnvOk env L ks clo) (hclos : closureFor scope env = pure cl) (hcell : ∀ y ∈ scope.names, y.2 ≠ .cell) (hkind : scope.kind = .function) (hnames : ∀ z ∈ scope.names, z.2 = .local → scope.names.lookup z.1 = some .local) (hx : scope.names.lookup x = some .local) (hy : ks.lookup y = some .local)
    (hw : wpAny (model PR w) (AW d u) (eval iter env) (fun v s₁ => ∃ r h tk g fr led, ∃ (b : Int) (n : Nat) (J : Heap → Nat → List Value → Prop), v = .ref r ∧ s₁ = ⟨h, gn, dr, tk, os⟩ ∧ St g L h fr led ∧ (∃ o, h.get? r = some o ∧ IsRg 0 b o) ∧ b = n ∧ n ≤ 100000 ∧ J h 0 [] ∧
      (∀ i t GB h₁ tk₁ ys C D I WI cenv, i < n → Ext h GB → J GB i ys → EnvOk cenv C (relabel scope env).names cl → St GB C h₁ [(x, .int (i : Nat) t)] [(D, IsLs ys), (I, WI)] → ys.length = i →
        wpAny (model PR w) (AW d u) (eval elt cenv) (fun y s₃ => ∃ GB' h' tk' fr', s₃ = ⟨h', gn, dr, tk', os⟩ ∧ Opt1 x fr' ∧ Ext GB GB' ∧ St GB' C h' fr' [(D, IsLs ys), (I, WI)] ∧ J GB' (i + 1) (ys ++ [y])) NE ⟨h₁, gn, dr, tk₁, os⟩) ∧
      (∀ g' h2 tk' D GB ys, Ext g g' → (∀ b o, GB.get? b = some o → h.get? b = none → g'.get? b = some o) → J GB n ys → (∃ o, g'.get? D = some o ∧ IsLs ys o) → St g' L h2 ((y, .ref D) :: fr) led → Q .next ⟨h2, gn, dr, tk', os⟩)) NE ⟨h, gn, dr, tk, os⟩)
    (hs : ∀ x, foldedSetIterable iter env x = pure x := by intro _; rfl) :
    wpAny (model PR w) (AW d u) (exec (.Assign [.Name y py] (.ListComp elt [⟨.Name x px, iter, [], 0⟩] scope pos) spos) env) Q NE ⟨h, gn, dr, tk, os⟩ := by
  rw [exec_Assign_Name_used _ _ _ _ hsw]
  refine wpAny_bind (wpAny_standAt (wpAny_bind ?_))
  show wpAny _ _ (do let _ ← comprehension (.ListComp elt [⟨.Name x px, iter, [], 0⟩] scope pos) scope env _ (newList []) false (eval iter env) (some (assign (.Name y py) env))) _ _ _
  refine wpAny_bind (wpAny_mono (wpAny_comprehension_free (use := some (assign (.Name y py) env)) (Q := fun _ s' => Q .next s') rfl hs hclos hkind hnames
    (wpAny_mono hw (fun xv s₁ q => ?_) fun _ _ e => e)) (fun _ s' hq => wpAny_pure (wpAny_pure hq)) fun _ _ e => e)
  obtain ⟨r, h, tk, g, fr, led, b, n, J, rfl, rfl, H, ⟨o, eo, t1, t2, t3, rfl⟩, rfl, hn, hJ, turn, hq⟩ := q
  refine wpAny_pyIter_range (a := 0) (b := (n : Int)) (c := 1) (t := t1) (u := t2) (v := t3) eo (small_one (by omega) (by omega) (by omega) (by omega)) ?_
  have es : Builtin.Range.rangeSize 0 (n : Int) 1 = (n : Int) := by
    rw [rangeSize_one]; split <;> omega
  rw [es]
  have nI : h.get? h.objs.size = none := none_ge (Nat.le_refl _)
  have xP : Ext h (h.push { cls := .type "range_iterator", data := .fields #[rawInt 0, rawInt (n : Int), rawInt 1] }) := fun b o e => Heap.get?_push_of_some _ e
  refine comp_core (hB := h) (n := n) (P := fun i v => ∃ t, v = .int (i : Nat) t) (WI := fun i o => i ≤ n ∧ o = { cls := .type "range_iterator", dict := none, data := .fields #[rawInt (i : Int), rawInt ((n : Int) - (i : Int)), rawInt 1], slots := #[] }) (J := J) (RR := fun acc C => compPost (model PR w) (AW d u) NE (some (assign (.Name y py) env)) (fun _ s' => Q .next s') acc C) he hcell hkind hx ⟨_, Heap.get?_push_size _ rfl, Nat.zero_le _, by simp⟩ xP nI hn ?_ ?_ ?_ hJ ?_ ?_
  · rintro s Q' E' ⟨o, eo, _, rfl⟩ hQ
    exact wpAny_pyIter_rangeiter (x := 0) (left := (n : Int) - (0 : Nat)) (step := 1) eo hQ
  · rintro i h₁ tk₁ Q' hi x₁ ⟨o, eo, _, rfl⟩ hQ
    refine wpAny_pyNext_range_item (x := i) (left := (n : Int) - i) (step := 1) eo (by omega) fun h' hit hsb => ?_
    refine hQ _ h' _ ⟨_, rfl⟩ ⟨_, hit, hi, ?_⟩ fun b o hb e => (hsb.2 b hb).trans e
    have e1 : (i : Int) + 1 = ((i + 1 : Nat) : Int) := by omega
    have e2 : (n : Int) - (i : Int) - 1 = (n : Int) - ((i + 1 : Nat) : Int) := by omega
    rw [e1, e2]
  · rintro h₁ tk₁ Q' x₁ ⟨o, eo, _, rfl⟩ hQ
    exact wpAny_pyNext_range_end rfl (x := n) (left := (n : Int) - n) (step := 1) eo (by omega) fun h' he => hQ h' tk₁ fun b o hb e => he b o hb e
  · rintro i v GB h₁ tk₁ ys C D cenv hi ⟨t, rfl⟩ xG jj ce HS hy
    exact turn i t GB h₁ tk₁ ys C D _ _ cenv hi xG jj ce HS hy
  · intro C D GB ys h' tk' fr' xG jj nC nD HS
    exact comp_outP he hy H xG (Ext.none xP nC) (Ext.none xP nD) HS fun g' h2 tk' x1 lift hD H5 => hq g' h2 tk' D GB ys x1 lift jj hD H5
end

end
section
open PySem PySem.W PyProof.Rows PySem.Calls PySem.SeqAt
section
variable {w : World} {A : Around} {s : Shared}
theorem rc_pair {a a' : Addr} {v1 v2 u1 u2 : Value} (h1 : s.heap.IsTuple a #[v1, v2]) (h2 : s.heap.IsTuple a' #[u1, u2]) (hu : A.units < cLine) (q1 : EqAt A.in1 s v1 u1 true) (q2 : EqAt A.in1 s v2 u2 true) : RcAt A s (.ref a) (.ref a') true := by
  have := RcAt.tuples (e := fun _ => true) h1 h2 hu (by
    intro j j1 j2
    match j, j1, j2 with
    | 0, _, _ => exact q1
    | 1, _, _ => exact q2
    | j + 2, j1, _ => simp at j1; omega)
  exact this
theorem eq_str (c : List Nat) (t u : Tok) : EqAt A s (.str (S c) t) (.str (S c) u) true := by
  have := EqAt.str_str (A := A) (s := s) (S c) t (S c) u
  rwa [beq_self_eq_true] at this
theorem eq_int' (i : Int) (t u : Tok) : EqAt A s (.int i t) (.int i u) true := by
  have := EqAt.int_int (A := A) (s := s) i t i u
  rwa [beq_self_eq_true] at this
theorem eq_lists {l b : Addr} {vs us : List Value} (hl : s.heap.IsList l vs.toArray) (hb : s.heap.IsList b us.toArray) (hlen : vs.length = us.length) (hu : A.units < cLine) (he : ∀ (j : Nat) (v u : Value), vs[j]? = some v → us[j]? = some u → EqAt A.in1 s v u true) : EqAt A s (.ref l) (.ref b) true := by
  by_cases q : l = b
  · rw [q]; exact EqAt.same _
  · have := RcAt.lists (e := fun _ => true) hl hb (by simpa using hlen) hu (fun j h1 h2 => he j _ _ (by simp at h1 ⊢) (by simp at h2 ⊢))
    rw [show ((List.range vs.toArray.size).all fun _ => true) = true by simp] at this
    exact EqAt.of_refs q this
theorem eq_told {tl tl' : Addr} {told : Told} (x : ToldAt s.heap tl told) (y : ToldAt s.heap tl' told) (hu : A.units + 2 < cLine) : EqAt A s (.ref tl) (.ref tl') true := by
  obtain ⟨vs, l1, r1⟩ := x
  obtain ⟨us, l2, r2⟩ := y
  refine eq_lists l1 l2 (by rw [r1.length, r2.length]) (by omega) ?_
  intro j v u e1 e2
  obtain ⟨d, ed, a, t1, t2, rfl, ta⟩ := r1.get e1
  obtain ⟨d', ed', a', t1', t2', rfl, ta'⟩ := r2.get e2
  obtain rfl : d = d' := Option.some.inj (ed.symm.trans ed')
  by_cases q : a = a'
  · rw [q]; exact EqAt.same _
  · exact EqAt.of_refs q (rc_pair ta ta' (by show A.units + 1 < cLine; omega) (eq_str _ _ _) (eq_int' _ _ _))
theorem vsOf_get {ts : TL} {j : Nat} {v : Value} (e : (vsOf ts)[j]? = some v) : ∃ p, ts[j]? = some p ∧ v = .str (S p.1) p.2 := by
  unfold vsOf at e
  rw [List.getElem?_map] at e
  cases q : ts[j]? with
  | none => rw [q] at e; cases e
  | some p => rw [q] at e; exact ⟨p, rfl, (Option.some.inj e).symm⟩
theorem eq_seen {sl sl' : Addr} {seen : List (List Nat)} (x : SeenAt s.heap sl seen) (y : SeenAt s.heap sl' seen) (hu : A.units + 2 < cLine) : EqAt A s (.ref sl) (.ref sl') true := by
  obtain ⟨ts, l1, r1⟩ := x
  obtain ⟨us, l2, r2⟩ := y
  have hlen : ts.length = us.length := by
    have := congrArg List.length (r1.trans r2.symm)
    simpa using this
  refine eq_lists l1 l2 (by simp [vsOf, hlen]) (by omega) ?_
  intro j v u e1 e2
  obtain ⟨p, ep, rfl⟩ := vsOf_get e1
  obtain ⟨q, eq, rfl⟩ := vsOf_get e2
  have : p.1 = q.1 := by
    have h1 := congrArg (fun l : List (List Nat) => l[j]?) (r1.trans r2.symm)
    simp only [List.getElem?_map, ep, eq] at h1
    exact Option.some.inj h1
  rw [this]
  exact eq_str _ _ _
theorem oEqT {gn : Array GenState} {dr : Drawn} {os : OsState} {tk : Nat} {h : Heap} {E : Value → Shared → Prop} {a a' tl tl' sl sl' : Addr} {told : Told} {seen : List (List Nat)} {Q : Value → Shared → Prop} (h1 : h.IsTuple a #[.ref tl, .ref sl]) (h2 : h.IsTuple a' #[.ref tl', .ref sl']) (x : ToldAt h tl told) (y : ToldAt h tl' told) (x2 : SeenAt h sl seen) (y2 : SeenAt h sl' seen) (hu : A.units + 4 < cLine)
    (hq : Q (.bool true) ⟨h, gn, dr, tk, os⟩) : wpAny (model PR w) A (compareOp .Eq (.ref a) (.ref a')) Q E ⟨h, gn, dr, tk, os⟩ :=
  rc_pair (s := ⟨h, gn, dr, tk, os⟩) h1 h2 (by omega) (eq_told x y (by show A.units + 1 + 2 < cLine; omega)) (eq_seen x2 y2 (by show A.units + 1 + 2 < cLine; omega)) PR w E Q hq
theorem oEqE {gn : Array GenState} {dr : Drawn} {os : OsState} {tk : Nat} {h : Heap} {E : Value → Shared → Prop} {l b : Addr} {Q : Value → Shared → Prop} (hl : h.IsList l #[]) (hb : h.IsList b #[]) (hu : A.units < cLine) (hq : Q (.bool true) ⟨h, gn, dr, tk, os⟩) : wpAny (model PR w) A (compareOp .Eq (.ref l) (.ref b)) Q E ⟨h, gn, dr, tk, os⟩ :=
  RcAt.lists (s := ⟨h, gn, dr, tk, os⟩) (items := #[]) (items2 := #[]) (e := fun _ => true) hl hb rfl hu (fun j h1 _ => by simp at h1) PR w E Q hq
end

end
section
def pdf : List Nat := [47, 100, 47, 102]
def pf : List Nat := [47, 102]
def pdg : List Nat := [47, 100, 47, 103]
def pdeg : List Nat := [47, 100, 47, 101, 47, 103]
def placesL : List (List Nat) := [pdf, pf, pdg, pdeg]
def filesOf (n0 n1 n2 n3 : List Int) : Files := [(pdf, n0), (pf, n1), (pdg, n2), (pdeg, n3)]
/-- what the law needs of the plain simulations -/
def LawAt (files : Files) (start : List Nat) : Prop := ∃ ns w1 r1 k told seen, files.lookup start = some ns ∧ ns.length ≤ 1000 ∧ scan (fileT ns) = some (w1, r1) ∧ (∀ f ∈ files, (fileT f.2).length ≤ 10000) ∧ start.length ≤ 1000 ∧ (dirL start).length ≤ 1000 ∧
  folP files start (1 + (fileT ns).count 10) k w1 [] r1 [] [start] = some (told, seen, [], []) ∧ runRows files start (rowsF ns []) [] [start] = some (told, seen)
def LawAll : Prop := ∀ n0 n1 n2 n3 : List Int, n0.length ≤ 3 → n1.length ≤ 3 → n2.length ≤ 3 → n3.length ≤ 3 → ∀ start ∈ placesL, LawAt (filesOf n0 n1 n2 n3) start
theorem S_injE {a b : List Nat} (e : S a = S b) : a = b := by
  have := S_inj (a := a) (b := b)
  rw [e, beq_self_eq_true] at this
  exact eq_of_beq this.symm
def kvOf (l : List (List Nat × Value)) : List (Str × Value) := l.map fun p => (S p.1, p.2)
theorem valueAt_kvOf (k : List Nat) : ∀ l : List (List Nat × Value), valueAt (kvOf l) (S k) = l.lookup k
  | [] => rfl
  | (a, v) :: r => by
    have ih := valueAt_kvOf k r
    unfold valueAt kvOf at ih ⊢
    rw [List.map_cons, List.find?_cons, List.lookup_cons]
    by_cases q : a = k
    · subst q; simp
    · have q1 : (k == a) = false := by simpa using Ne.symm q
      have q2 : (decide (S a = S k)) = false := decide_eq_false fun z => q (S_injE z)
      rw [q1]
      simp only [q2]
      exact ih
def K4 (i : Nat) : List Nat := placesL.getD i []
theorem kvF4 (V : Nat → Value) : kvF K4 V 4 = kvOf [(pdf, V 0), (pf, V 1), (pdg, V 2), (pdeg, V 3)] := by
  have d1 : ¬ S pdf = S pf := fun e => absurd (S_injE e) (by decide)
  have d2 : ¬ S pdf = S pdg := fun e => absurd (S_injE e) (by decide)
  have d3 : ¬ S pdf = S pdeg := fun e => absurd (S_injE e) (by decide)
  have d4 : ¬ S pf = S pdg := fun e => absurd (S_injE e) (by decide)
  have d5 : ¬ S pf = S pdeg := fun e => absurd (S_injE e) (by decide)
  have d6 : ¬ S pdg = S pdeg := fun e => absurd (S_injE e) (by decide)
  show stored (stored (stored (stored [] (S pdf) (V 0)) (S pf) (V 1)) (S pdg) (V 2)) (S pdeg) (V 3) = _
  simp [stored, kvOf, d1, d2, d3, d4, d5, d6]
def pickL (its : List Value) (k : Nat) : List Value := (slicePick its.toArray (some (k : Int)) none (some 4)).toList
theorem pick_len (its : List Value) (k : Nat) (hk : k < 4) (h : its.length ≤ 12) : (pickL its k).length ≤ 3 := by
  unfold pickL slicePick
  refine Nat.le_trans (by rw [List.toList_toArray]; exact List.length_filterMap_le _ _) ?_
  rw [List.size_toArray]
  generalize its.length = n at h
  have : ∀ k : Nat, k < 4 → ∀ n : Nat, n ≤ 12 → (sliceRange (sliceBounds (some (k : Int)) none (some 4) n).1 (sliceBounds (some (k : Int)) none (some 4) n).2.1 (sliceBounds (some (k : Int)) none (some 4) n).2.2).length ≤ 3 := by decide +kernel
  exact this k hk n h
theorem pick_ints {its : List Value} (hi : IntsV its) (k : Nat) : IntsV (pickL its k) := by
  intro v hv
  unfold pickL slicePick at hv
  rw [List.toList_toArray] at hv
  obtain ⟨i, _, e⟩ := List.mem_filterMap.mp hv
  exact hi v (by simpa using Array.mem_of_getElem? e)
theorem ints_rel : ∀ {its : List Value}, IntsV its → ∃ ns : List Int, Rel2 (fun v y => ∃ t, v = Value.int y t) its ns
  | [], _ => ⟨[], trivial⟩
  | v :: r, hi => by
    obtain ⟨y, t, rfl⟩ := hi v (.head _)
    obtain ⟨ns, h⟩ := ints_rel (its := r) fun v hv => hi v (.tail _ hv)
    exact ⟨y :: ns, ⟨t, rfl⟩, h⟩
@[irreducible] noncomputable def nsOf (its : List Value) (hi : IntsV its) (k : Nat) : List Int := (ints_rel (pick_ints hi k)).choose
theorem nsOf_rel {its : List Value} (hi : IntsV its) (k : Nat) : Rel2 (fun v y => ∃ t, v = Value.int y t) (pickL its k) (nsOf its hi k) := by unfold nsOf; exact (ints_rel (pick_ints hi k)).choose_spec
theorem nsOf_len {its : List Value} (hi : IntsV its) (k : Nat) (hk : k < 4) (h : its.length ≤ 12) : (nsOf its hi k).length ≤ 3 := by
  rw [← (nsOf_rel hi k).length]; exact pick_len its k hk h
section
variable {w : World} {g g' h h' : Heap} {L : Addr} {tk : Nat} {gn : Array GenState} {dr : Drawn} {os : OsState} {fr : Fm} {led : Lg} {env : Env}
theorem St.takeBut (H : St g L h fr led) (i : Nat) {a : Addr} {P P' : Obj → Prop} (hi : led[i]? = some (a, P)) (k : Kp [a] h h') (x2 : Ext g' h') (nw : Nw g h g') (h6 : ∃ o, h'.get? a = some o ∧ P' o) : St g' L h' fr (led.set i (a, P')) := by
  have H' := H.turn i hi (fun b o n e => k b o e (by simpa using n)) h6
  refine ⟨H'.ns, x2, H'.at_, fun p hp => ?_, H'.ne, ?_, H'.nd⟩
  · obtain ⟨o, e, _⟩ : ∃ o, h.get? p.1 = some o ∧ True := by
      rcases List.mem_or_eq_of_mem_set hp with q | q
      · obtain ⟨o, e, _⟩ := H.at_ p q; exact ⟨o, e, trivial⟩
      · obtain ⟨o, e, _⟩ := H.get i hi; exact ⟨o, by rw [q]; exact e, trivial⟩
    exact nw.none (H'.off p hp) e
  · obtain ⟨o, _, _, e, _⟩ := H.ns
    exact nw.none H.nL e
def PairAt (g : Heap) (v : Value) (ns : List Int) : Prop := ∃ a t1 rl, v = .ref a ∧ g.IsTuple a #[.str (S (fileT ns)) t1, .ref rl] ∧ RowsAt g rl (rowsF ns [])
theorem PairAt.keeps (k : Ext g g') {v : Value} {ns : List Int} (x : PairAt g v ns) : PairAt g' v ns := let ⟨a, t, rl, e, ⟨o, q, r⟩, s⟩ := x; ⟨a, t, rl, e, ⟨o, k _ _ q, r⟩, s.keeps k⟩
end

end
section
theorem facts1 : ∀ home ∈ placesL, ∀ way ∈ menuY, goalOk home way = true ∧ normL (joinL (dirL home) way) = goalL home way ∧ wayBad home way = false ∧ (joinL (dirL home) way).length ≤ 1000 := by decide +kernel
theorem facts2 : ∀ start ∈ placesL, ∀ home ∈ placesL, ∀ way ∈ menuY, wayBad start (joinL (dirL home) way) = false ∧ normL (joinL (dirL start) (joinL (dirL home) way)) = goalL home way := by decide +kernel
theorem facts3 : ∀ p ∈ placesL, goalBad p = false ∧ p.length ≤ 1000 ∧ (dirL p).length ≤ 1000 := by decide +kernel
theorem menuW_ok : ∀ l ∈ menuW, l ≠ [] ∧ l ≠ [60] ∧ (∀ c ∈ l, c ≠ 10 ∧ c ≠ 9 ∧ c ≠ 13) ∧ l.length ≤ 10 := by decide +kernel
theorem menuY_ok : ∀ l ∈ menuY, l ≠ [] ∧ (∀ c ∈ l, c ≠ 10 ∧ c ≠ 9 ∧ c ≠ 13) ∧ l.length ≤ 20 := by decide +kernel
/-- an item: a word, or the mark and a way -/
theorem item_cases (y : Int) : (itemW (figOf y) ∈ menuW ∧ itemY (figOf y) = []) ∨ (itemW (figOf y) = [60] ∧ itemY (figOf y) ∈ menuY) := by
  have h : figOf y < 12 := by
    unfold figOf
    have h1 := Int.fmod_nonneg_of_pos y (b := 12) (by decide)
    have h2 := Int.fmod_lt_of_pos y (b := 12) (by decide)
    omega
  revert h
  generalize figOf y = f
  revert f
  decide +kernel

end
section
def toksI (x : It) : List (List Nat) := if x.2.2 = [] then [x.2.1] else [[60], joinL (dirL x.1) x.2.2]
def Pre (pre : List Nat) : Prop := pre = [] ∨ ∃ c, c ∈ wsp ∧ pre = [c]
theorem scan_pre {pre : List Nat} (h : Pre pre) (t : List Nat) : scan (pre ++ t) = scan t := by
  rcases h with rfl | ⟨c, hc, rfl⟩
  · rfl
  · exact scan_sep hc
def preOf (how : Int) : List Nat := if Int.fmod how 3 = 1 then [sepOf how] else []
theorem preOf_ok (how : Int) : Pre (preOf how) := by
  unfold preOf; split
  · exact .inr ⟨_, sepOf_ws how, rfl⟩
  · exact .inl rfl
theorem scan_write' {l : List Nat} (t : List Nat) (how : Int) (hl : l ≠ []) (ok : ∀ c ∈ l, c ≠ 10 ∧ c ≠ 9 ∧ c ≠ 13) : scan (writeL l how ++ t) = some (l, preOf how ++ t) := by
  rw [scan_write t how hl ok]; unfold preOf; split <;> rfl
theorem item_scan1 {y : Int} (hW : itemW (figOf y) ∈ menuW) (hY : itemY (figOf y) = []) (t : List Nat) : scan (itemT y ++ t) = some (itemW (figOf y), preOf (howOf y) ++ t) := by
  obtain ⟨h1, _, h3, _⟩ := menuW_ok _ hW
  unfold itemT
  rw [hY, if_neg (by decide), List.append_nil]
  exact scan_write' t _ h1 h3
theorem item_scan2 {y : Int} (hW : itemW (figOf y) = [60]) (hY : itemY (figOf y) ∈ menuY) (t : List Nat) : ∃ r, scan (itemT y ++ t) = some ([60], r) ∧ scan r = some (itemY (figOf y), preOf (howOf y) ++ t) := by
  obtain ⟨h1, h3, _⟩ := menuY_ok _ hY
  unfold itemT
  rw [hW, if_pos (by simpa using h1), List.append_assoc]
  refine ⟨_, scan_write' _ _ (by decide) (by decide), ?_⟩
  rw [scan_pre (preOf_ok _)]
  exact scan_write' t _ h1 h3
theorem writeL_end (l : List Nat) (how : Int) : ∃ X, writeL l how = X ++ [sepOf how] := ⟨_, rfl⟩
theorem itemT_end (y : Int) : ∃ X, itemT y = X ++ [sepOf (howOf y)] := by
  unfold itemT
  split
  · obtain ⟨X, e⟩ := writeL_end (itemY (figOf y)) (howOf y)
    rw [e, ← List.append_assoc]; exact ⟨_, rfl⟩
  · rw [List.append_nil]; exact writeL_end _ _
theorem sl_last (l : List Nat) (c : Nat) : sl (l ++ [c]) none (some (-1)) = l := by
  unfold sl clipZ
  simp
  have e : (max 0 (min (-1 + ((l.length : Int) + 1)) ((l.length : Int) + 1))).toNat = l.length := by omega
  rw [e]; simp
theorem item_line (tx : List Nat) (y : Int) : lineOf (tx ++ itemT y) (howOf y) = 1 + ((tx ++ itemT y).count 10 : Nat) - ((preOf (howOf y)).count 10 : Nat) := by
  obtain ⟨X, e⟩ := itemT_end y
  unfold lineOf preOf
  rw [e, ← List.append_assoc, sl_last]
  by_cases h : Int.fmod (howOf y) 3 = 1
  · rw [if_pos h, if_pos (by simpa using h), List.count_append (l₂ := [sepOf (howOf y)])]
    omega
  · rw [if_neg h, if_neg (by simpa using h)]
    simp
def innG (goal : List Nat) (k : Nat) (rest : List Nat) (pb : List (List Nat)) : Option (List (List Nat)) := match scan rest with
  | none => none
  | some (w, r) => innP goal k w r pb
theorem innG_some {goal : List Nat} {k : Nat} {rest : List Nat} {pb q : List (List Nat)} (h : innG goal k rest pb = some q) : ∃ w r, scan rest = some (w, r) ∧ innP goal k w r pb = some q := by
  unfold innG at h
  cases e : scan rest with
  | none => rw [e] at h; cases h
  | some p => obtain ⟨w, r⟩ := p; rw [e] at h; exact ⟨w, r, rfl, h⟩
theorem inn_all {goal : List Nat} (hg : goal ∈ placesL) : ∀ (ns : List Int) (k : Nat) (pre : List Nat) (pb : List (List Nat)), Pre pre → ns.length < k → pb.length + 2 * ns.length ≤ 900 → innG goal k (pre ++ fileT ns) pb = some (pb ++ (itemsIt goal ns).flatMap toksI)
  | [], k + 1, pre, pb, hp, _, _ => by
    unfold innG
    rw [scan_pre hp]
    simp [fileT, scan, innP, itemsIt]
  | y :: r, k + 1, pre, pb, hp, hk, hb => by
    have hk' : r.length < k := by simpa using hk
    simp only [List.length_cons] at hb
    have ef : fileT (y :: r) = itemT y ++ fileT r := by simp [fileT]
    have ei : itemsIt goal (y :: r) = (goal, itemW (figOf y), itemY (figOf y)) :: itemsIt goal r := rfl
    unfold innG
    rw [scan_pre hp, ef, ei, List.flatMap_cons]
    rcases item_cases y with ⟨hW, hY⟩ | ⟨hW, hY⟩
    · rw [item_scan1 hW hY]
      obtain ⟨w1, w2, _⟩ := menuW_ok _ hW
      obtain ⟨w, r2, e1, e2⟩ := innG_some (inn_all hg r k (preOf (howOf y)) (pb ++ [itemW (figOf y)]) (preOf_ok _) hk' (by simp; omega))
      dsimp only
      rw [innP, if_neg w1, if_neg (by omega), if_neg w2, e1]
      dsimp only
      rw [e2]
      simp [toksI, hY]
    · obtain ⟨r1, s1, s2⟩ := item_scan2 hW hY (fileT r)
      rw [s1]
      obtain ⟨y1, _, y3⟩ := menuY_ok _ hY
      obtain ⟨w, r2, e1, e2⟩ := innG_some (inn_all hg r k (preOf (howOf y)) (pb ++ [[60]] ++ [joinL (dirL goal) (itemY (figOf y))]) (preOf_ok _) hk' (by simp; omega))
      dsimp only
      rw [innP, if_neg (by decide), if_neg (by omega), if_pos rfl, s2]
      dsimp only
      rw [if_neg (by omega), e1]
      dsimp only
      rw [e2]
      simp [toksI, y1]

end
section
def folG (files : Files) (start : List Nat) (N : Nat) (k : Nat) (pb : List (List Nat)) (rest : List Nat) (told : Told) (seen : List (List Nat)) : Option FolR := match getT pb rest with
  | none => none
  | some (w, pb2, r2) => folP files start N k w pb2 r2 told seen
def OkIt (x : It) : Prop := x.1 ∈ placesL ∧ ((x.2.1 ∈ menuW ∧ x.2.2 = []) ∨ (x.2.1 = [60] ∧ x.2.2 ∈ menuY))
theorem okIt_items {home : List Nat} (h : home ∈ placesL) (ns : List Int) : ∀ x ∈ itemsIt home ns, OkIt x := by
  intro x hx
  obtain ⟨y, _, rfl⟩ := List.mem_map.mp hx
  exact ⟨h, item_cases y⟩
theorem toks_len : ∀ q : List It, (q.flatMap toksI).length ≤ 2 * q.length
  | [] => by simp
  | x :: q => by
    have := toks_len q
    have h2 : (toksI x).length ≤ 2 := by unfold toksI; split <;> simp
    rw [List.flatMap_cons, List.length_append, List.length_cons]
    omega
/-- a table of the four files -/
def Tab (files : Files) : Prop := ∀ k ns, files.lookup k = some ns → k ∈ placesL ∧ ns.length ≤ 3
/-- what is seen, and what is still to come -/
def Left (seen U : List (List Nat)) : Prop := (∀ p ∈ placesL, p ∈ seen ∨ p ∈ U) ∧ seen.length + U.length ≤ 10
theorem Left.turn {seen U : List (List Nat)} {p : List Nat} (l : Left seen U) (hp : p ∈ placesL) (hn : p ∉ seen) : Left (seen ++ [p]) (U.erase p) ∧ U.length = (U.erase p).length + 1 := by
  have hu : p ∈ U := (l.1 p hp).resolve_left hn
  have hl := List.length_erase_of_mem hu
  have h0 : 0 < U.length := List.length_pos_of_mem hu
  refine ⟨⟨fun x hx => ?_, ?_⟩, by omega⟩
  · rcases l.1 x hx with q | q
    · exact .inl (List.mem_append_left _ q)
    · by_cases e : x = p
      · exact .inl (by rw [e]; simp)
      · exact .inr ((List.mem_erase_of_ne e).mpr q)
  · have := l.2
    simp only [List.length_append, List.length_cons, List.length_nil]
    omega
/-- a word: told -/
theorem fol_word {files : Files} {start : List Nat} {N k : Nat} {w : List Nat} {pb : List (List Nat)} {rest : List Nat} {told : Told} {seen : List (List Nat)} (h1 : w ≠ []) (h2 : w ≠ [60]) (b1 : pb.length ≤ 1000) (b2 : told.length ≤ 1000) (b3 : seen.length ≤ 1000) :
    folP files start N (k + 1) w pb rest told seen = folG files start N k pb rest (told ++ [(w, (N : Int) - (rest.count 10 : Nat))]) seen := by
  rw [folP, if_neg h1, if_neg (by omega), if_pos h2]; rfl
/-- a mark -/
theorem fol_mark {files : Files} {start : List Nat} {N k : Nat} {way goal : List Nat} {pb pb1 : List (List Nat)} {rest r1 : List Nat} {told : Told} {seen : List (List Nat)} (b1 : pb.length ≤ 1000) (b2 : told.length ≤ 1000) (b3 : seen.length ≤ 1000)
    (hg : getT pb rest = some (way, pb1, r1)) (hw : wayBad start way = false) (hn : normL (joinL (dirL start) way) = goal) :
    folP files start N (k + 1) [60] pb rest told seen = match (if goal ∈ seen then none else files.lookup goal) with
          | none => folG files start N k pb1 r1 (told ++ [(goal, (N : Int) - (r1.count 10 : Nat))]) seen
          | some ns =>
            if goalBad goal = true then none
            else match innG goal 100 (fileT ns) pb1 with
                | none => none
                | some pb2 => if pb2.length > 1000 then none else folG files start N k pb2 r1 told (seen ++ [goal]) := by
  rw [folP, if_neg (by decide), if_neg (by omega), if_neg (by decide), hg]
  dsimp only
  rw [hw, if_neg (by decide), hn]
  cases (if goal ∈ seen then none else files.lookup goal) with
  | none => rfl
  | some ns =>
    dsimp only
    split
    · rfl
    · unfold innG folG
      cases scan (fileT ns) with
      | none => rfl
      | some p =>
        obtain ⟨w1, q1⟩ := p
        dsimp only
        try (cases innP goal 100 w1 q1 pb1 <;> rfl)
theorem queue {files : Files} (ht : Tab files) {start : List Nat} (hs : start ∈ placesL) {N : Nat} {rest : List Nat} : ∀ (n : Nat) (q : List It) (told : Told) (seen U : List (List Nat)), (∀ x ∈ q, OkIt x) → Left seen U → q.length + 3 * U.length ≤ n → told.length + q.length + 3 * U.length ≤ 100 →
    ∃ told' seen' U' c, bfs files ((N : Int) - (rest.count 10 : Nat)) n q told seen = some (told', seen') ∧ Left seen' U' ∧ told'.length + 3 * U'.length ≤ told.length + q.length + 3 * U.length ∧ U'.length ≤ U.length ∧
      ∀ m, folG files start N (c + m) (q.flatMap toksI) rest told seen = folG files start N m [] rest told' seen' := by
  intro n
  induction n with
  | zero =>
    intro q told seen U ok l hn hb
    have : q = [] := List.eq_nil_of_length_eq_zero (by omega)
    subst this
    exact ⟨told, seen, U, 0, by simp [bfs], l, by simp, Nat.le_refl _, fun m => by simp⟩
  | succ n ih =>
    intro q told seen U ok l hn hb
    match q with
    | [] => exact ⟨told, seen, U, 0, by simp [bfs], l, by simp, Nat.le_refl _, fun m => by simp⟩
    | (home, wd, way) :: q =>
      have ok1 := ok _ (.head _)
      have okq : ∀ x ∈ q, OkIt x := fun x hx => ok x (.tail _ hx)
      have hl2 := l.2
      have tl := toks_len q
      simp only [List.length_cons] at hn hb
      obtain ⟨hh, hc⟩ := ok1
      dsimp only at hh hc
      rw [bfs, if_neg (by omega), List.flatMap_cons]
      rcases hc with ⟨hw, rfl⟩ | ⟨rfl, hw⟩
      · obtain ⟨w1, w2, _⟩ := menuW_ok _ hw
        obtain ⟨told', seen', U', c, e1, e2, e3, e4, e5⟩ := ih q (told ++ [(wd, (N : Int) - (rest.count 10 : Nat))]) seen U okq l (by omega) (by simp; omega)
        refine ⟨told', seen', U', c + 1, by rw [if_pos rfl]; exact e1, e2, by simp at e3 ⊢; omega, e4, fun m => ?_⟩
        have : toksI (home, wd, []) = [wd] := rfl
        rw [this, ← e5 m, show c + 1 + m = (c + m) + 1 by omega]
        show folP files start N (c + m + 1) wd (q.flatMap toksI) rest told seen = _
        exact fol_word w1 w2 (by omega) (by omega) (by omega)
      · obtain ⟨w1, _, _⟩ := menuY_ok _ hw
        obtain ⟨a1, _, _, _⟩ := facts1 home hh way hw
        obtain ⟨a3, a4⟩ := facts2 start hs home hh way hw
        have : toksI (home, [60], way) = [[60], joinL (dirL home) way] := if_neg w1
        rw [if_neg w1, a1, if_neg (by decide), this]
        have step : ∀ k, folG files start N (k + 1) ([[60], joinL (dirL home) way] ++ q.flatMap toksI) rest told seen = _ := fun k => fol_mark (pb1 := q.flatMap toksI) (r1 := rest) (pb := [joinL (dirL home) way] ++ q.flatMap toksI) (k := k) (N := N) (files := files) (rest := rest) (told := told) (seen := seen) (by rw [List.length_append]; simp only [List.length_cons, List.length_nil]; omega) (by omega) (by omega) rfl a3 a4
        generalize goalL home way = goal at *
        cases hlk : (if goal ∈ seen then none else files.lookup goal) with
        | none =>
          obtain ⟨told', seen', U', c, e1, e2, e3, e4, e5⟩ := ih q (told ++ [(goal, (N : Int) - (rest.count 10 : Nat))]) seen U okq l (by omega) (by simp; omega)
          refine ⟨told', seen', U', c + 1, e1, e2, by simp at e3 ⊢; omega, e4, fun m => ?_⟩
          rw [← e5 m, show c + 1 + m = (c + m) + 1 by omega, step, hlk]
        | some ns =>
          have hns : goal ∉ seen ∧ files.lookup goal = some ns := by
            by_cases q : goal ∈ seen
            · rw [if_pos q] at hlk; cases hlk
            · rw [if_neg q] at hlk; exact ⟨q, hlk⟩
          obtain ⟨hp, h3⟩ := ht _ _ hns.2
          obtain ⟨l', lu⟩ := l.turn hp hns.1
          have hil : (itemsIt goal ns).length = ns.length := by simp [itemsIt]
          obtain ⟨told', seen', U', c, e1, e2, e3, e4, e5⟩ := ih (q ++ itemsIt goal ns) told (seen ++ [goal]) (U.erase goal) (fun x hx => (List.mem_append.mp hx).elim (okq x) (okIt_items hp ns x)) l' (by rw [List.length_append]; omega) (by rw [List.length_append]; omega)
          refine ⟨told', seen', U', c + 1, ?_, e2, by rw [List.length_append] at e3; simp only [List.length_cons]; omega, by omega, fun m => ?_⟩
          · dsimp only
            rw [if_neg (by omega)]; exact e1
          · have hin := inn_all hp ns 100 [] (q.flatMap toksI) (.inl rfl) (by omega) (by omega)
            rw [List.nil_append] at hin
            rw [← e5 m, show c + 1 + m = (c + m) + 1 by omega, step, hlk]
            dsimp only
            have tl2 := toks_len (q ++ itemsIt goal ns)
            rw [(facts3 goal hp).1, if_neg (by decide), hin]
            dsimp only
            rw [← List.flatMap_append, if_neg (by rw [List.length_append] at tl2; omega)]

end
section
/-- the first file's mark: its way is not joined yet -/
theorem first_mark {files : Files} {start way : List Nat} (hs : start ∈ placesL) (hw : way ∈ menuY) {N : Nat} {r1 rest : List Nat} {told : Told} {seen : List (List Nat)} (hsc : scan r1 = some (way, rest)) (b2 : told.length ≤ 1000) (b3 : seen.length ≤ 1000) (k : Nat) :
    folP files start N k [60] [] r1 told seen = folP files start N k [60] [joinL (dirL start) way] rest told seen := by
  cases k with
  | zero => rfl
  | succ k =>
    obtain ⟨_, a2, a3, _⟩ := facts1 start hs way hw
    obtain ⟨a4, a5⟩ := facts2 start hs start hs way hw
    rw [fol_mark (k := k) (by simp) b2 b3 (show getT [] r1 = some (way, [], rest) by unfold getT; rw [hsc]) a3 a2, fol_mark (k := k) (pb1 := []) (r1 := rest) (by simp) b2 b3 rfl a4 a5]
theorem rows {files : Files} (ht : Tab files) {start : List Nat} (hs : start ∈ placesL) {N : Nat} : ∀ (ns : List Int) (tx pre : List Nat) (told : Told) (seen U : List (List Nat)), Pre pre → N = 1 + (tx ++ fileT ns).count 10 → Left seen U → U.length ≤ 4 → told.length + ns.length + 3 * U.length ≤ 100 →
    ∃ told' seen' c, runRows files start (rowsF ns tx) told seen = some (told', seen') ∧ folG files start N c [] (pre ++ fileT ns) told seen = some (told', seen', [], [])
  | [], tx, pre, told, seen, U, hp, hN, l, hu, hb => by
    refine ⟨told, seen, 1, rfl, ?_⟩
    unfold folG getT
    rw [scan_pre hp]
    simp [fileT, scan, folP]
  | y :: ns, tx, pre, told, seen, U, hp, hN, l, hu, hb => by
    have hl2 := l.2
    simp only [List.length_cons] at hb
    have ef : fileT (y :: ns) = itemT y ++ fileT ns := by simp [fileT]
    rw [ef] at hN
    have hline : lineOf (tx ++ itemT y) (howOf y) = (N : Int) - ((preOf (howOf y) ++ fileT ns).count 10 : Nat) := by
      rw [item_line, hN, ← List.append_assoc, List.count_append (l₂ := fileT ns), List.count_append (l₁ := preOf (howOf y))]
      omega
    have oki : ∀ x ∈ [(start, itemW (figOf y), itemY (figOf y))], OkIt x := by
      intro x hx
      rw [List.mem_singleton] at hx
      subst hx
      exact ⟨hs, item_cases y⟩
    obtain ⟨t1, s1, U1, c1, e1, e2, e3, e4, e5⟩ := queue ht hs (N := N) (rest := preOf (howOf y) ++ fileT ns) 60 [(start, itemW (figOf y), itemY (figOf y))] told seen U oki l (by simp; omega) (by simp; omega)
    simp only [List.length_cons, List.length_nil] at e3
    obtain ⟨told', seen', c, f1, f2⟩ := rows ht hs (N := N) ns (tx ++ itemT y) (preOf (howOf y)) t1 s1 U1 (preOf_ok _) (by rw [hN, List.append_assoc]) e2 (by omega) (by omega)
    refine ⟨told', seen', c1 + c, ?_, ?_⟩
    · rw [rowsF]
      unfold rowOf runRows
      rw [hline, e1]
      exact f1
    · rw [← f2, ← e5 c, List.flatMap_cons, List.flatMap_nil, List.append_nil, ef]
      unfold folG
      rcases item_cases y with ⟨hW, hY⟩ | ⟨hW, hY⟩
      · have : getT [] (pre ++ (itemT y ++ fileT ns)) = some (itemW (figOf y), [], preOf (howOf y) ++ fileT ns) := by
          unfold getT
          rw [scan_pre hp, item_scan1 hW hY]
        have t2 : toksI (start, itemW (figOf y), itemY (figOf y)) = [itemW (figOf y)] := if_pos hY
        rw [this, t2]
        rfl
      · obtain ⟨r1, s1, s2⟩ := item_scan2 hW hY (fileT ns)
        have : getT [] (pre ++ (itemT y ++ fileT ns)) = some ([60], [], r1) := by
          unfold getT
          rw [scan_pre hp, s1]
        have t2 : toksI (start, itemW (figOf y), itemY (figOf y)) = [[60], joinL (dirL start) (itemY (figOf y))] := if_neg (menuY_ok _ hY).1
        rw [this, t2]
        exact first_mark hs hY s2 (by omega) (by omega) _
theorem tab4 {n0 n1 n2 n3 : List Int} (h0 : n0.length ≤ 3) (h1 : n1.length ≤ 3) (h2 : n2.length ≤ 3) (h3 : n3.length ≤ 3) : Tab (filesOf n0 n1 n2 n3) := by
  intro k ns h
  unfold filesOf at h
  simp only [List.lookup_cons, List.lookup_nil] at h
  by_cases q0 : k = pdf
  · subst q0; simp at h; subst h; exact ⟨by decide, h0⟩
  by_cases q1 : k = pf
  · subst q1; rw [show (pf == pdf) = false by decide] at h; simp at h; subst h; exact ⟨by decide, h1⟩
  by_cases q2 : k = pdg
  · subst q2; rw [show (pdg == pdf) = false by decide, show (pdg == pf) = false by decide] at h; simp at h; subst h; exact ⟨by decide, h2⟩
  by_cases q3 : k = pdeg
  · subst q3; rw [show (pdeg == pdf) = false by decide, show (pdeg == pf) = false by decide, show (pdeg == pdg) = false by decide] at h; simp at h; subst h; exact ⟨by decide, h3⟩
  have b0 : (k == pdf) = false := by simpa using q0
  have b1 : (k == pf) = false := by simpa using q1
  have b2 : (k == pdg) = false := by simpa using q2
  have b3 : (k == pdeg) = false := by simpa using q3
  rw [b0, b1, b2, b3] at h
  cases h
theorem look4 (n0 n1 n2 n3 : List Int) {start : List Nat} (hs : start ∈ placesL) : ∃ ns, (filesOf n0 n1 n2 n3).lookup start = some ns := by
  simp only [placesL, List.mem_cons, List.not_mem_nil, or_false] at hs
  rcases hs with rfl | rfl | rfl | rfl
  · exact ⟨n0, rfl⟩
  · exact ⟨n1, rfl⟩
  · exact ⟨n2, rfl⟩
  · exact ⟨n3, rfl⟩
theorem lawAll : LawAll := by
  intro n0 n1 n2 n3 h0 h1 h2 h3 start hs
  have ht := tab4 h0 h1 h2 h3
  obtain ⟨ns, hns⟩ := look4 n0 n1 n2 n3 hs
  have h3n := (ht _ _ hns).2
  obtain ⟨told, seen, k, r1, r2⟩ := rows ht hs (N := 1 + (fileT ns).count 10) ns [] [] [] [start] placesL (.inl rfl) rfl ⟨fun p hp => .inr hp, by simp [placesL]⟩ (by decide) (by simp [placesL]; omega)
  have hG := r2
  unfold folG getT at hG
  rw [List.nil_append] at hG
  cases hsc : scan (fileT ns) with
  | none => rw [hsc] at hG; cases hG
  | some p =>
    obtain ⟨w1, q1⟩ := p
    rw [hsc] at hG
    refine ⟨ns, w1, q1, k, told, seen, hns, by omega, hsc, fun f hf => ?_, (facts3 start hs).2.1, (facts3 start hs).2.2, hG, r1⟩
    have hl := fileT_len f.2
    have hl2 : f.2.length ≤ 3 := by
      simp only [filesOf, List.mem_cons, List.not_mem_nil, or_false] at hf
      rcases hf with rfl | rfl | rfl | rfl <;> assumption
    omega

end
section
def lawBody : List Stmt := defBody (PR.main.body.getD 29 (.Pass default))
abbrev lawKs : List (Str × NameKind) := [(Str.ofString "script", .local), (Str.ofString "places", .local), (Str.ofString "numbers", .cell), (Str.ofString "written", .local), (Str.ofString "texts", .local), (Str.ofString "rows", .local), (Str.ofString "start", .local), (Str.ofString "told", .local), (Str.ofString "seen", .local), (Str.ofString "waiting", .local), (Str.ofString "lines", .local), (Str.ofString "_law_numbers", .globalImplicit), (Str.ofString "range", .globalImplicit), (Str.ofString "zip", .globalImplicit), (Str.ofString "len", .globalImplicit), (Str.ofString "_law_follow", .globalImplicit), (Str.ofString "_law_levels", .globalImplicit)]
local macro_rules | `(tactic| ktr_rel) => `(tactic| first
  | ((with_reducible show wpAny _ _ (eval (Expr.Subscript _ (Expr.Slice _ _ _ _) _) _) _ _ _); refine Subscript_ ?_)
  | ((with_reducible show wpAny _ _ (eval (Expr.Slice _ _ _ _) _) _ _ _); refine wpAny_Slice ?_))
section
variable {w : World} {mg mb : Str → Option Value} {g0 g h : Heap} {L : Addr} {tk : Nat} {gn : Array GenState} {dr : Drawn} {os : OsState} {env : Env}
theorem Nw.trans2 {g1 g2 g3 h1 h2 : Heap} (a : Nw g1 h1 g2) (b : Nw g2 h2 g3) (x : Ext h1 h2) : Nw g1 h1 g3 := fun c o e => by
  rcases b c o e with q | q
  · exact a c o q
  · exact .inr (Ext.none x q)
theorem Rel2.four {α β : Type} {R : α → β → Prop} {p q r s : β} : ∀ {ys : List α}, Rel2 R ys [p, q, r, s] → ∃ v0 v1 v2 v3, ys = [v0, v1, v2, v3] ∧ R v0 p ∧ R v1 q ∧ R v2 r ∧ R v3 s
  | [], z => z.elim
  | [_], z => z.2.elim
  | [_, _], z => z.2.2.elim
  | [_, _, _], z => z.2.2.2.elim
  | [a, b, c, d], z => ⟨a, b, c, d, rfl, z.1, z.2.1, z.2.2.1, z.2.2.2.1⟩
  | _ :: _ :: _ :: _ :: _ :: _, z => z.2.2.2.2.elim
theorem range4 {β : Type} (f : Nat → β) : (List.range 4).map f = [f 0, f 1, f 2, f 3] := rfl
theorem ToldAt.keeps {g g' : Heap} (k : Ext g g') {tl : Addr} {told : Told} (x : ToldAt g tl told) : ToldAt g' tl told := let ⟨vs, ⟨o, e, r⟩, q⟩ := x; ⟨vs, ⟨o, k _ _ e, r⟩, q.mono fun _ _ ⟨a, t1, t2, e, ⟨o, e2, r⟩⟩ => ⟨a, t1, t2, e, ⟨o, k _ _ e2, r⟩⟩⟩
theorem SeenAt.keeps {g g' : Heap} (k : Ext g g') {sl : Addr} {seen : List (List Nat)} (x : SeenAt g sl seen) : SeenAt g' sl seen := let ⟨ts, ⟨o, e, r⟩, q⟩ := x; ⟨ts, ⟨o, k _ _ e, r⟩, q⟩
theorem law_clos {cl : List (Str × Addr)} {cg : Addr} {scope : Scope} (he : EnvOk env L lawKs cl) (hc : cl.lookup (Str.ofString "numbers") = some cg) (hs : scope.names = [(Str.ofString ".0", .local), (Str.ofString "k", .local), (Str.ofString "_law_file", .globalImplicit), (Str.ofString "numbers", .free)]) : closureFor scope env = pure [(Str.ofString "numbers", cg)] := by
  unfold closureFor cellOf
  rw [hs, he.cells]
  simp only [List.forIn_cons, List.forIn_nil]
  rw [hc]
  rfl
theorem law_rel {cl : List (Str × Addr)} {scope : Scope} (he : EnvOk env L lawKs cl) (hs : scope.names = [(Str.ofString ".0", .local), (Str.ofString "k", .local), (Str.ofString "_law_file", .globalImplicit), (Str.ofString "numbers", .free)]) : (relabel scope env).names = [(Str.ofString ".0", .local), (Str.ofString "k", .local), (Str.ofString "_law_file", .globalImplicit), (Str.ofString "numbers", .cell)] := by
  unfold relabel
  rw [hs, he.kind]
  simp only [List.map_cons, List.map_nil, he.kindOf]
  rfl
set_option maxHeartbeats 16000000 in
theorem law_body {sc cg : Addr} {its : List Value} {Q : Flow → Shared → Prop} (G : Gd w mg mb g) (Bm : Bx mg g) (he : EnvOk env L lawKs [(Str.ofString "numbers", cg)])
    (H : St g L h [(Str.ofString "script", .ref sc)] [(cg, IsCl none), (206, fun o => o = tabObj #[])]) (hsc : g.IsList sc its.toArray) (hi : IntsV its) (hlen : its.length ≤ 63) (hlaw : LawAll)
    (hq : ∀ h' tk', Ext g h' → (∃ ps, h'.get? 206 = some (tabObj ps)) → Q (.ret (.bool true)) ⟨h', gn, dr, tk', os⟩) :
    wpAny (model PR w) (AW 790 7900) (execs lawBody env) Q NE ⟨h, gn, dr, tk, os⟩ := by
  show wpAny (model PR w) (AW 790 7900) (execs (_ :: _ :: _ :: _ :: _ :: _ :: _ :: _ :: []) env) Q NE _
  repeat' ktr_rel
  refine newLB (L := L) ?_
  repeat' ktr_rel
  refine ⟨Nat.le_of_ble_eq_true rfl, _, _, _, _, _, rfl, H, ?_⟩
  intro g1 pl h₁ x1 H₁ hpl0 _
  obtain ⟨xs, hxn, hxs, hpl⟩ : ∃ xs : List Value, xs.length = 4 ∧ (∀ i, i < 4 → ∃ t, xs[i]? = some (.str (S (K4 i)) t)) ∧ g1.IsList pl xs.toArray := by
    refine ⟨_, rfl, ?_, hpl0⟩
    intro i hi
    match i, hi with
    | 0, _ => exact ⟨_, rfl⟩
    | 1, _ => exact ⟨_, rfl⟩
    | 2, _ => exact ⟨_, rfl⟩
    | 3, _ => exact ⟨_, rfl⟩
  clear H hpl0
  have G1 := G.keeps x1
  have hsc1 : g1.IsList sc its.toArray := let ⟨o, e, r⟩ := hsc; ⟨o, x1 _ _ e, r⟩
  repeat' ktr_rel
  rename St g1 _ _ _ _ => H₂
  clear H₁
  refine wpW (numbers_spec G1 H₂.keep hsc1 hi hlen ?_)
  intro nl g2 h₃ tk₃ nums y1 y2 y3 y4 hnl hni hnn
  have H₃ := H₂.take y4 y1 y2 y3
  have G2 := G1.keeps y1
  clear H₂
  refine stc 0 H₃ he rfl rfl rfl ?_
  intro h₄ H₄
  dsimp only [List.set] at H₄
  clear H₃
  repeat' ktr_rel
  refine asgLR (sw_list he rfl rfl rfl) he (law_clos he rfl rfl) (by decide) rfl (by decide) rfl rfl ?_
  repeat' ktr_rel
  refine oRange1 H₄ ?_
  intro g3 rg h₅ tk₅ x3 H₅ hrg _ _
  have G3 := G2.keeps x3
  have hnl3 : g3.IsList nl nums.toArray := let ⟨o, e, r⟩ := hnl; ⟨o, x3 _ _ e, r⟩
  have hcg := H₅.get 0 rfl
  clear H₄
  refine ⟨rg, h₅, tk₅, g3, _, _, 4, 4, (fun GB i ys => ∃ gs, Ext g3 gs ∧ Ext gs GB ∧ Nw g3 h₅ gs ∧ Rel2 (PairAt gs) ys ((List.range i).map (nsOf nums hni))), rfl, rfl, H₅, (let ⟨o, e, q⟩ := hrg; ⟨o, H₅.keep _ _ e, q⟩), rfl, by decide, ⟨g3, Ext.refl _, H₅.keep, Nw.refl _ _, trivial⟩, ?_, ?_⟩
  · intro i t GB h₆ tk₆ ys C D I WI cenv hi4 xG ⟨gs, z1, z2, z3, z4⟩ hce HS hy
    rw [law_rel he rfl] at hce
    have Gs := G3.keeps z1
    have GS := Gs.keeps z2
    have hcg2 : ∃ o, h₆.get? cg = some o ∧ IsCl (some (Value.ref nl)) o := let ⟨o, e, q⟩ := hcg; ⟨o, HS.keep _ _ (xG _ _ e), q⟩
    repeat' ktr_rel
    refine ldc (cl := [(Str.ofString "numbers", cg)]) (c := cg) HS hce ?_ ?_ ?_ hcg2 ?_
    · rfl
    · rfl
    · rfl
    repeat' ktr_rel
    refine oSliceL (its := nums) HS (let ⟨o, e, r⟩ := hnl3; ⟨o, HS.keep _ _ (z2 _ _ (z1 _ _ e)), r⟩) (by omega) (.int _ _) .none (.int _ _) (by simp) (fun i => ⟨_, rfl⟩) ?_
    intro h₈ la H₈ k8 n8
    obtain ⟨ga, w1, Ha, w3, w4, _⟩ := ((H₈.base z2).sub (List.sublist_append_left _ _)).grow h₆
    have hla : ga.IsList la (pickL nums i).toArray := by
      obtain ⟨o, e, q⟩ := H₈.get 2 rfl
      exact IsLs.isList ⟨o, w4 _ _ e n8 (HS.no n8).1 (HS.no n8).2, q⟩
    repeat' ktr_rel
    refine wpW (file_spec (ns := nsOf nums hni i) (Gs.keeps w1) Ha.keep hla (nsOf_rel hni i) (Nat.le_trans (nsOf_len hni i hi4 hnn) (by decide)) ?_)
    intro ra g9 h₉ tk₉ t9 rl9 v1 v2 v3 v4 v5 v6
    obtain ⟨GB9, u1, H₉, _, u4, _⟩ := ((H₈.sub (List.sublist_append_left _ _)).ext v4).grow h₆
    have e9 : Ext g9 GB9 := by
      have key : ∀ b o, g9.get? b = some o → h₆.get? b = none → GB9.get? b = some o := fun b o e n => u4 b o (v2 _ _ e) n (HS.no n).1 (HS.no n).2
      intro b o e
      rcases v3 b o e with q | q
      · rcases w3 b o q with q' | q'
        · exact u1 _ _ (z2 _ _ q')
        · exact key b o e q'
      · exact key b o e (Ext.none k8 q)
    refine ⟨GB9, h₉, _, _, rfl, .inr ⟨_, rfl⟩, u1, H₉, g9, z1.trans (w1.trans v1), e9, (z3.trans2 w3 (xG.trans HS.keep)).trans2 v3 ((xG.trans HS.keep).trans k8), ?_⟩
    rw [List.range_succ, List.map_append]
    exact Rel2.append (z4.mono fun _ _ z => z.keeps (w1.trans v1)) ⟨⟨ra, t9, rl9, rfl, v5, v6⟩, trivial⟩
  · intro g6 h₆ tk₆ wl GB ys x6 lift ⟨gs, z1, z2, z3, z4⟩ hwl H₆
    have eg : Ext gs g6 := fun b o e => by
      rcases z3 b o e with q | q
      · exact x6 _ _ q
      · exact lift b o (z2 _ _ e) q
    obtain ⟨v0, v1, v2, v3, rfl, p0, p1, p2, p3⟩ := Rel2.four (R := PairAt g6) (p := nsOf nums hni 0) (q := nsOf nums hni 1) (r := nsOf nums hni 2) (s := nsOf nums hni 3) (by
      rw [range4] at z4
      exact z4.mono fun _ _ z => z.keeps eg)
    obtain ⟨n0, n1, n2, n3, p0, p1, p2, p3, hL⟩ : ∃ n0 n1 n2 n3, PairAt g6 v0 n0 ∧ PairAt g6 v1 n1 ∧ PairAt g6 v2 n2 ∧ PairAt g6 v3 n3 ∧ ∀ start ∈ placesL, LawAt (filesOf n0 n1 n2 n3) start := ⟨_, _, _, _, p0, p1, p2, p3, hlaw _ _ _ _ (nsOf_len hni 0 (by decide) hnn) (nsOf_len hni 1 (by decide) hnn) (nsOf_len hni 2 (by decide) hnn) (nsOf_len hni 3 (by decide) hnn)⟩
    obtain ⟨a0, t0, r0, rfl, b0, c0⟩ := p0
    obtain ⟨a1, t1, r1, rfl, b1, c1⟩ := p1
    obtain ⟨a2, t2, r2, rfl, b2, c2⟩ := p2
    obtain ⟨a3, t3, r3, rfl, b3, c3⟩ := p3
    clear z4 lift z2 z3 z1
    obtain ⟨VT, hVT⟩ : ∃ VT : Nat → Value, VT = fun i => [Value.str (S (fileT n0)) t0, .str (S (fileT n1)) t1, .str (S (fileT n2)) t2, .str (S (fileT n3)) t3].getD i .none := ⟨_, rfl⟩
    obtain ⟨VR, hVR⟩ : ∃ VR : Nat → Value, VR = fun i => [Value.ref r0, .ref r1, .ref r2, .ref r3].getD i .none := ⟨_, rfl⟩
    have hyt : ∀ i y, i < 4 → [Value.ref a0, .ref a1, .ref a2, .ref a3][i]? = some y → ∃ a, y = .ref a ∧ g6.IsTuple a #[VT i, VR i] := by
      intro i y hi hy
      subst hVT hVR
      match i, hi, hy with
      | 0, _, hy => cases hy; exact ⟨_, rfl, b0⟩
      | 1, _, hy => cases hy; exact ⟨_, rfl, b1⟩
      | 2, _, hy => cases hy; exact ⟨_, rfl, b2⟩
      | 3, _, hy => cases hy; exact ⟨_, rfl, b3⟩
    have hpl6 : g6.IsList pl xs.toArray := let ⟨o, e, r⟩ := hpl; ⟨o, x6 _ _ (x3 _ _ (y1 _ _ e)), r⟩
    have hwl6 := IsLs.isList hwl
    have G6 := G3.keeps x6
    repeat' ktr_rel
    refine asgDZ (sw_dict he rfl rfl rfl) he (closureFor_none (by decide)) (by decide) rfl (by decide) rfl rfl (by decide) rfl rfl ?_
    repeat' ktr_rel
    refine oZip H₆ hpl6 hwl6 ?_
    intro z TI TO i1 i2 h₇ H₇ k7 m1 m2 m3 m4 m5 m6 m7 m8
    refine ⟨z, TI, TO, i1, i2, pl, wl, _, _, 4, h₇, _, g6, _, _, K4, VT, rfl, rfl, H₇, m1, m2, m3, m4, m5, m6, m7, m8, hpl6, hwl6, by simpa using hxn, rfl, by decide, by simpa using hxs, ?_, ?_⟩
    · intro i x y GB h₈ tk₈ cenv C led hi ex ey xG hce HS Q' hQ'
      obtain ⟨a, rfl, ta⟩ := hyt i y hi (by simpa using ey)
      have ta8 : h₈.IsTuple a #[VT i, VR i] := let ⟨o, e, q⟩ := ta; ⟨o, HS.keep _ _ (xG _ _ e), q⟩
      repeat' ktr_rel
      exact ixT 0 ta8 (by decide) (by decide) rfl rfl rfl (hQ' _)
    intro g7 h₈ tk₈ td x7 sz7 hd7 H₈
    have G7 := G6.keeps x7
    have hpl7 : g7.IsList pl xs.toArray := let ⟨o, e, r⟩ := hpl6; ⟨o, x7 _ _ e, r⟩
    have hwl7 : g7.IsList wl [Value.ref a0, .ref a1, .ref a2, .ref a3].toArray := let ⟨o, e, r⟩ := hwl6; ⟨o, x7 _ _ e, r⟩
    have lt206 : ∀ {hh : Heap} {gg : Heap} {fr : Fm}, St gg L hh fr [(cg, IsCl (some (.ref nl))), (206, fun o => o = tabObj #[])] → 206 < hh.objs.size := fun HH => let ⟨_, e, _⟩ := HH.get 1 rfl; Heap.lt_size e
    have td1 : td ≠ 1 := fun q => by have := Nat.lt_of_lt_of_le (lt206 H₇) sz7; rw [q] at this; exact absurd this (by decide)
    repeat' ktr_rel
    refine asgDZ (sw_dict he rfl rfl rfl) he (closureFor_none (by decide)) (by decide) rfl (by decide) rfl rfl (by decide) rfl rfl ?_
    repeat' ktr_rel
    refine oZip H₈ hpl7 hwl7 ?_
    intro z TI TO i1 i2 h₉ H₉ k9 m1 m2 m3 m4 m5 m6 m7 m8
    refine ⟨z, TI, TO, i1, i2, pl, wl, _, _, 4, h₉, _, g7, _, _, K4, VR, rfl, rfl, H₉, m1, m2, m3, m4, m5, m6, m7, m8, hpl7, hwl7, by simpa using hxn, rfl, by decide, by simpa using hxs, ?_, ?_⟩
    · intro i x y GB h₈ tk₈ cenv C led hi ex ey xG hce HS Q' hQ'
      obtain ⟨a, rfl, ta⟩ := hyt i y hi (by simpa using ey)
      have ta8 : h₈.IsTuple a #[VT i, VR i] := let ⟨o, e, q⟩ := ta; ⟨o, HS.keep _ _ (xG _ _ (x7 _ _ e)), q⟩
      repeat' ktr_rel
      exact ixT 1 ta8 (by decide) (by decide) rfl rfl rfl (hQ' _)
    intro g9 hA tkA rd x9 sz9 hd9 HA
    have rd1 : rd ≠ 1 := fun q => by have := Nat.lt_of_lt_of_le (lt206 H₉) sz9; rw [q] at this; exact absurd this (by decide)
    clear H₈ H₉ m1 m2 m3 m4 m5 m6 m7 m8
    have G9 := G7.keeps x9
    have x69 := x7.trans x9
    have xg6 : Ext g g6 := x1.trans (y1.trans (x3.trans x6))
    have hsc9 : g9.IsList sc its.toArray := let ⟨o, e, r⟩ := hsc; ⟨o, x69 _ _ (xg6 _ _ e), r⟩
    have htd : TextsAt w g9 td (filesOf n0 n1 n2 n3) := by
      refine ⟨td1, _, hd7.keep x9, fun k => ?_⟩
      rw [kvF4, valueAt_kvOf, hVT]
      unfold filesOf
      simp only [List.lookup_cons, List.lookup_nil]
      cases k == pdf <;> cases k == pf <;> cases k == pdg <;> cases k == pdeg <;> first | exact rfl | exact ⟨_, rfl⟩
    have hrd : RowsTab w g9 rd (filesOf n0 n1 n2 n3) := by
      refine ⟨rd1, _, hd9, fun k => ?_⟩
      rw [kvF4, valueAt_kvOf, hVR]
      unfold filesOf
      simp only [List.lookup_cons, List.lookup_nil]
      cases k == pdf <;> cases k == pf <;> cases k == pdg <;> cases k == pdeg <;> first | exact rfl | exact ⟨_, rfl, c0.keeps x69⟩ | exact ⟨_, rfl, c1.keeps x69⟩ | exact ⟨_, rfl, c2.keeps x69⟩ | exact ⟨_, rfl, c3.keeps x69⟩
    have Bm9 : Bx mg g9 := Bm.keeps (xg6.trans x69)
    repeat' ktr_rel
    refine oLenL (its := its) (let ⟨o, e, r⟩ := hsc9; ⟨o, HA.keep _ _ e, r⟩) (by omega) ?_
    intro _ _
    repeat' ktr_rel
    have f1 : 0 ≤ Int.fmod (its.length : Int) 4 := Int.fmod_nonneg (by omega) (by decide)
    have f2 : Int.fmod (its.length : Int) 4 < 4 := Int.fmod_lt_of_pos _ (by decide)
    obtain ⟨ts, hst⟩ := hxs (Int.fmod (its.length : Int) 4).toNat (by omega)
    have hstart : K4 (Int.fmod (its.length : Int) 4).toNat ∈ placesL := by
      have h4 : (Int.fmod (its.length : Int) 4).toNat < 4 := by omega
      revert h4
      generalize (Int.fmod (its.length : Int) 4).toNat = m
      intro h4
      unfold K4
      rw [List.getD_eq_getElem?_getD, List.getElem?_eq_getElem (by exact h4)]
      exact List.getElem_mem _
    refine ixL (its := xs) (let ⟨o, e, r⟩ := hpl7; ⟨o, HA.keep _ _ (x9 _ _ e), r⟩) f1 (by omega) hst rfl ?_
    generalize K4 (Int.fmod (its.length : Int) 4).toNat = start at hst hstart
    obtain ⟨ns, w1, r1', k, told, seen, q1, q2, q3, q4, q5, q6, q7, q8⟩ := hL start hstart
    repeat' ktr_rel
    rename St g9 _ _ _ _ => HB
    refine wpW (follow_spec G9 HB.keep Bm9 (HB.off (206, _) (List.mem_of_getElem? (i := 1) rfl)) (let ⟨o, e, q⟩ := HB.get 1 rfl; ⟨o, e, .inl q⟩) htd q1 q4 q5 q6 q3 q7 ?_)
    intro tt gC hC tkC tl sl pql ln tln u1 u2 u3 u4 u5 u6 u7 u8 u9 u10
    have HC := HB.takeBut (g' := gC) (h' := hC) 1 (P' := fun o => ∃ ps, o = tabObj ps) rfl u1 u3 u4 (let ⟨ps, e⟩ := u5; ⟨_, e, ps, rfl⟩)
    dsimp only [List.set] at HC
    clear HA HB
    have GC := G9.keeps u2
    repeat' ktr_rel
    rename St gC _ _ _ _ => HD
    clear HC
    refine BoolOp_and ?_
    repeat' ktr_rel
    refine newT (L := L) ?_
    repeat' ktr_rel
    refine ⟨Nat.le_of_ble_eq_true rfl, _, _, _, _, _, rfl, HD, ?_⟩
    intro gE ta hE xE HE hta _ _
    have GE := GC.keeps xE
    clear HD
    repeat' ktr_rel
    refine wpW (levels_spec GE HE.keep ((hrd.keeps u2).keeps xE) q1 q2 q8 ?_)
    intro tb gF hF tkF tl' sl' s1 s2 s3 s4 s5 s6 s7
    have HF := HE.take s1 s2 s3 s4
    have GF := GE.keeps s2
    clear HE
    repeat' ktr_rel
    have xCF : Ext gC hF := xE.trans (s2.trans HF.keep)
    refine oEqT (told := told) (seen := seen) (let ⟨o, e, r⟩ := hta; ⟨o, HF.keep _ _ (s2 _ _ e), r⟩) (let ⟨o, e, r⟩ := s5; ⟨o, HF.keep _ _ e, r⟩) (u7.keeps xCF) (s6.keeps HF.keep) (u8.keeps xCF) (s7.keeps HF.keep) (by decide) ?_
    repeat' ktr_rel
    rw [if_pos rfl]
    refine BoolOp_and ?_
    repeat' ktr_rel
    refine newLB (L := L) ?_
    repeat' ktr_rel
    refine ⟨Nat.le_of_ble_eq_true rfl, _, _, _, _, _, rfl, HF, ?_⟩
    intro gG le hG xG HG hle _
    have GG := GF.keeps xG
    clear HF
    have hpq : hG.IsList pql #[] := by
      obtain ⟨ts9, e1, e2⟩ := u9
      obtain rfl : ts9 = [] := by simpa using e2
      obtain ⟨o, e, r⟩ := e1
      exact ⟨o, HG.keep _ _ (xG _ _ (s2 _ _ (xE _ _ e))), r⟩
    repeat' ktr_rel
    refine oEqE hpq (let ⟨o, e, r⟩ := hle; ⟨o, HG.keep _ _ e, r⟩) (by decide) ?_
    repeat' ktr_rel
    rw [if_pos rfl]
    repeat' ktr_rel
    obtain ⟨_, kvs, hkv, hv⟩ := htd
    have hvs := hv start
    rw [q1] at hvs
    obtain ⟨tv, hvs⟩ := hvs
    have x9G : Ext g9 hG := u2.trans (xE.trans (s2.trans (xG.trans HG.keep)))
    refine dgT (hkv.keep x9G) hvs rfl ?_
    intro _
    repeat' ktr_rel
    have hc : ((ln : Int) == 1 + Txt.count (S (fileT ns)) (S [10])) = true := by
      rw [count_S, beq_iff_eq]
      simp only [List.count_nil] at u10
      omega
    rw [hc]
    refine hq _ _ (xg6.trans (x69.trans x9G)) ?_
    obtain ⟨o, e, ps, rfl⟩ := HG.get 1 rfl
    exact ⟨ps, e⟩
end

end
section
theorem top_St {g h : Heap} {L c : Addr} {m : Str → Option Value} {oc : Obj} {fr : Fm} (F : Fr g L h m) (hm : m = fun x => fr.lookup x) (N : News g L h [(c, oc), (206, tabObj #[])]) (hc : oc.data = .cell none) (hne : c ≠ 206) : St g L h fr [(c, IsCl none), (206, fun o => o = tabObj #[])] := by
  have n1 := N (c, oc) (.head _)
  have n2 := N (206, tabObj #[]) (.tail _ (.head _))
  refine ⟨hm ▸ F.ns, F.keep, ?_, ?_, ?_, none_ge F.above, by simpa using hne⟩
  · simp only [List.forall_mem_cons]
    exact ⟨⟨_, n1.1, hc⟩, ⟨_, n2.1, rfl⟩, fun _ q => nomatch q⟩
  · simp only [List.forall_mem_cons]
    exact ⟨n1.2.2, n2.2.2, fun _ q => nomatch q⟩
  · simp only [List.forall_mem_cons]
    exact ⟨n1.2.1, n2.2.1, fun _ q => nomatch q⟩
theorem ints_of : ∀ {vs : List Value} {ns : List Int}, IntsAre vs ns → IntsV vs ∧ vs.length = ns.length
  | _, _, .nil => ⟨fun _ q => (nomatch q), rfl⟩
  | _, _, .cons n t h => by
    have ih := ints_of h
    refine ⟨fun v hv => ?_, by simp [ih.2]⟩
    rcases List.mem_cons.mp hv with rfl | q
    · exact ⟨_, _, rfl⟩
    · exact ih.1 v q
theorem top_Bx {p : Program} {loose : List Str} {mean : ExcName → Option Value} {mg mb : Str → Option Value} {g : Heap} (T : Top p loose mean mg mb g) (n : g.get? 206 = none) : Bx mg g := by
  obtain ⟨bm, ob, e1, e2, e3, e4, e5, e6⟩ := T.bmain
  refine ⟨bm, ob, e1, e2, ?_, ?_, e3, e4, e5, e6⟩
  · rintro rfl
    obtain ⟨o, es, ep, q1, q2, _⟩ := T.g
    rw [e3] at q1
    cases q1
    rw [q2] at e6
    cases e6
  · rintro rfl; rw [n] at e3; cases e3
theorem lk1 {x a : Str} {u : Value} : (if x = a then some u else none) = List.lookup x [(a, u)] := by
  simp only [List.lookup_cons, List.lookup_nil]
  by_cases p : x = a
  · simp [p]
  · have pa : (x == a) = false := by simpa using p
    rw [if_neg p, pa]
theorem join_law {w : World} {p : Program} {loose : List Str} {mean : ExcName → Option Value} {mg mb m : Str → Option Value} {g h : Heap} {L sc : Addr} {tk : Nat} {gn : Array GenState} {dr : Drawn} {os : OsState} {env : Env} {its : List Value} {ns : List Int} {oc : Obj} {Q : Flow → Shared → Prop} (hlaw : LawAll)
    (X : (Mine.hd.heap_39 w.params).In g) (T : Top p loose mean mg mb g) (F : Fr g L h m) (N : News g L h [(L + 1, oc), (206, tabObj #[])]) (hc : oc.data = .cell none) (l0 : 206 < L) (lifted : g.IsList sc its.toArray) (hI : IntsAre its ns)
    (hm : m = fun x => List.lookup x [(Str.ofString "script", .ref sc)]) (hlen : ns.length ≤ 63) (he : EnvOk env L lawKs [(Str.ofString "numbers", L + 1)])
    (hq : ∀ h' tk', Ext g h' → (∃ ps, h'.get? 206 = some (tabObj ps)) → Q (.ret (.bool true)) ⟨h', gn, dr, tk', os⟩) : wpAny (model PR w) (AW 790 7900) (execs lawBody env) Q NE ⟨h, gn, dr, tk, os⟩ := by
  have n206 := (N (206, tabObj #[]) (.tail _ (.head _))).2.2
  have Hs := top_St F hm N hc (Nat.ne_of_gt (Nat.lt_succ_of_lt l0))
  have hi := ints_of hI
  exact law_body ⟨X, T.g, T.b, T.nolimit, T.builtins⟩ (top_Bx T n206) he Hs lifted hi.1 (by rw [hi.2]; exact hlen) hlaw hq
theorem post_ok (args ds : List WData) : PySem.Challenge.rw_pd0074_01.row.claim.post args (.bool true) ds = true := by
  show (WShape.has [] (WData.bool true) .bool && WTm.holds [] (WTm.res.eq (WTm.lit (WData.bool true))) { args := args, res := some (.bool true), after := ds }) = true
  have e : same (WData.bool true) (WData.bool true) = true := by simp [same]
  simp [WShape.has, WShape.arms, WTm.holds, WTm.value, e]
set_option maxHeartbeats 8000000 in
theorem holds_of (hlaw : LawAll) : PySem.Challenge.rw_pd0074_01.Holds := by
  refine holds_law said fun ok => ?_
  refine holds_open (q := view) (loose := []) (Xt := fun s => xlAt view [] s && recOk (RowW.records (OpenRow.toRowW PySem.Challenge.rw_pd0074_01.row)) s) (XP := XL view []) (Yf := Hook.obs (kmHook hd.heap_39 kA kA_ok [206])) (Ya := Hook.val (kmHook hd.heap_39 kA kA_ok [206])) (YP := Hook.says (kmHook hd.heap_39 kA kA_ok [206])) (N := 3138) left_once (Hook.of (kmHook hd.heap_39 kA kA_ok [206])) (Hook.keeps (kmHook hd.heap_39 kA kA_ok [206]))
    (fun s e => xl_of s (Bool.and_eq_true_iff.mp e).1) XL.keeps (by rfl) (by rfl) (by rfl) (fun s e => recFacts_of (Bool.and_eq_true_iff.mp e).2) (by rfl) ok (by decide +kernel) ⟨rfl, rfl, rfl, rfl, rfl, by decide +kernel⟩ ?hw ?hc
  case hw => exact ⟨[WData.list []], by decide +kernel, by decide +kernel⟩
  k_go0
  rename Fr _ _ _ _ => F'
  rename News _ _ _ _ => N'
  rename Top _ _ _ _ _ _ => T'
  rename IntsAre _ _ => hI
  rename ¬ _ => hln
  rename _ = Data.cell _ => hcell
  rename Frag.In _ _ => X'
  rename _ < _ => l0
  refine wp_weak (d := 790) (u := 7900) (wpAny_mono (join_law hlaw X' T' F' N' hcell l0 lifted hI ?hfr ?hlen ?he ?hq) (fun _ _ q => q) (fun _ _ q => q.elim)) rfl (Nat.le_of_ble_eq_true rfl) (Nat.le_of_ble_eq_true rfl)
  case hfr => funext x; exact lk1
  case hlen => omega
  case he => exact ⟨rfl, rfl, rfl, rfl, rfl, rfl⟩
  case hq =>
    clear F' N' T' hI
    intro h' tk' x6 hT
    rename _ = #[] => hg
    refine ⟨⟨.inl ⟨.bool true, .bool true, [], rfl, ?_, ?_, ?_, ?_⟩, x6, rfl, hg⟩, hT, trivial⟩
    · intro _; rfl
    · exact .bool true
    · exact post_ok _ _
    · exact fun _ => ⟨List.nodup_nil, fun _ q => nomatch q⟩

end
end Mine
theorem PySem.Challenge.cw_pd0074_01_holds : PySem.Challenge.rw_pd0074_01.Holds :=
  Mine.holds_of Mine.lawAll
