import PyProof.Rows.All
import Wide.All
import OpenK.AllK
import Wide.FinOn
import Lean
import PySem.Challenge.RW_pd0062_01
set_option Elab.async false
set_option compiler.extract_closed false
section
open PySem PySem.W PyProof.Rows
namespace Mine
set_option maxRecDepth 100000
set_option maxHeartbeats 4000000
/-- the row's program -/
noncomputable abbrev pw : Program := PySem.Challenge.pw_pd0062_01
noncomputable def nth : List Stmt → Nat → Stmt
  | [], _ => .Pass ⟨0, 0, 0, 0⟩
  | a :: _, 0 => a
  | _ :: l, n + 1 => nth l n
noncomputable def st (i : Nat) : Stmt := nth pw.main.body i
/-- the view: the program less the assignments to __name__ -/
noncomputable def hd.view_39 : Program := by
  refine' (fun (c0 : Stmt) (c1 : Stmt) (c2 : Stmt) (c3 : Stmt) (c4 : Stmt) (c5 : Stmt) (c6 : Stmt) (c7 : Stmt) (c8 : Stmt) (c9 : Stmt) (c10 : Stmt) (c11 : Stmt) (c12 : Stmt) (c13 : Stmt) (c14 : Stmt) (c15 : Stmt) (c16 : Stmt) (c17 : Stmt) (c18 : Stmt) (c19 : Stmt) (c20 : Stmt) (c21 : Stmt) (c22 : Stmt) (c23 : Stmt) (c24 : Stmt) (c25 : Stmt) (c26 : Stmt) (c27 : Stmt) (c28 : Stmt) (c29 : Stmt) (c30 : Stmt) (c31 : Stmt) (c32 : Stmt) (c33 : Stmt) (c34 : Stmt) (c35 : Stmt) (c36 : Stmt) (c37 : Stmt) (c38 : Stmt) (c39 : Stmt) (c40 : Stmt) (c41 : Stmt) (c42 : Stmt) (c43 : Stmt) (c44 : Stmt) (c45 : Stmt) (c46 : Stmt) (c47 : Stmt) (c48 : Stmt) (c49 : Stmt) (c50 : Stmt) (c51 : Stmt) (_ : [c0, c1, c2, c3, c4, c5, c6, c7, c8, c9, c10, c11, c12, c13, c14, c15, c16, c17, c18, c19, c20, c21, c22, c23, c24, c25, c26, c27, c28, c29, c30, c31, c32, c33, c34, c35, c36, c37, c38, c39, c40, c41, c42, c43, c44, c45, c46, c47, c48, c49, c50, c51] = pw.main.body) => { pw with main := { pw.main with body := [c0, c2, c4, c6, c7, c9, c11, c13, c14, c15, c16, c17, c18, c20, c21, c22, c23, c24, c25, c26, c27, c28, c29, c30, c31, c32, c33, c34, c35, c36, c37, c38, c39, c40, c41, c42, c43, c45, c46, c47, c48, c49, c50, c51] } }) _ _ _ _ _ _ _ _ _ _ _ _ _ _ _ _ _ _ _ _ _ _ _ _ _ _ _ _ _ _ _ _ _ _ _ _ _ _ _ _ _ _ _ _ _ _ _ _ _ _ _ _ ?h
  case h => exact rfl
/-- what the walk knows of the heap: the names, the defs, their code objects, the table -/
noncomputable def hd.heap_39 : Params → Frag := by
  refine' fun P => (fun (n9 : Str) (p9 : Arguments) (b9 : List Stmt) (d9 : List Expr) (r9 : Option Expr) (t9 : List TypeParam) (s9 : Scope) (u9 : Option Scope) (x9 : Str) (z9 : Pos) (n13 : Str) (p13 : Arguments) (b13 : List Stmt) (d13 : List Expr) (r13 : Option Expr) (t13 : List TypeParam) (s13 : Scope) (u13 : Option Scope) (x13 : Str) (z13 : Pos) (n14 : Str) (p14 : Arguments) (b14 : List Stmt) (d14 : List Expr) (r14 : Option Expr) (t14 : List TypeParam) (s14 : Scope) (u14 : Option Scope) (x14 : Str) (z14 : Pos) (n15 : Str) (p15 : Arguments) (b15 : List Stmt) (d15 : List Expr) (r15 : Option Expr) (t15 : List TypeParam) (s15 : Scope) (u15 : Option Scope) (x15 : Str) (z15 : Pos) (n16 : Str) (p16 : Arguments) (b16 : List Stmt) (d16 : List Expr) (r16 : Option Expr) (t16 : List TypeParam) (s16 : Scope) (u16 : Option Scope) (x16 : Str) (z16 : Pos) (n17 : Str) (p17 : Arguments) (b17 : List Stmt) (d17 : List Expr) (r17 : Option Expr) (t17 : List TypeParam) (s17 : Scope) (u17 : Option Scope) (x17 : Str) (z17 : Pos) (n18 : Str) (p18 : Arguments) (b18 : List Stmt) (d18 : List Expr) (r18 : Option Expr) (t18 : List TypeParam) (s18 : Scope) (u18 : Option Scope) (x18 : Str) (z18 : Pos) (n20 : Str) (p20 : Arguments) (b20 : List Stmt) (d20 : List Expr) (r20 : Option Expr) (t20 : List TypeParam) (s20 : Scope) (u20 : Option Scope) (x20 : Str) (z20 : Pos) (n21 : Str) (p21 : Arguments) (b21 : List Stmt) (d21 : List Expr) (r21 : Option Expr) (t21 : List TypeParam) (s21 : Scope) (u21 : Option Scope) (x21 : Str) (z21 : Pos) (n29 : Str) (p29 : Arguments) (b29 : List Stmt) (d29 : List Expr) (r29 : Option Expr) (t29 : List TypeParam) (s29 : Scope) (u29 : Option Scope) (x29 : Str) (z29 : Pos) (n43 : Str) (p43 : Arguments) (b43 : List Stmt) (d43 : List Expr) (r43 : Option Expr) (t43 : List TypeParam) (s43 : Scope) (u43 : Option Scope) (x43 : Str) (z43 : Pos) (n45 : Str) (p45 : Arguments) (b45 : List Stmt) (d45 : List Expr) (r45 : Option Expr) (t45 : List TypeParam) (s45 : Scope) (u45 : Option Scope) (x45 : Str) (z45 : Pos) (n46 : Str) (p46 : Arguments) (b46 : List Stmt) (d46 : List Expr) (r46 : Option Expr) (t46 : List TypeParam) (s46 : Scope) (u46 : Option Scope) (x46 : Str) (z46 : Pos) (n47 : Str) (p47 : Arguments) (b47 : List Stmt) (d47 : List Expr) (r47 : Option Expr) (t47 : List TypeParam) (s47 : Scope) (u47 : Option Scope) (x47 : Str) (z47 : Pos) (n48 : Str) (p48 : Arguments) (b48 : List Stmt) (d48 : List Expr) (r48 : Option Expr) (t48 : List TypeParam) (s48 : Scope) (u48 : Option Scope) (x48 : Str) (z48 : Pos) (n49 : Str) (p49 : Arguments) (b49 : List Stmt) (d49 : List Expr) (r49 : Option Expr) (t49 : List TypeParam) (s49 : Scope) (u49 : Option Scope) (x49 : Str) (z49 : Pos) (n50 : Str) (p50 : Arguments) (b50 : List Stmt) (d50 : List Expr) (r50 : Option Expr) (t50 : List TypeParam) (s50 : Scope) (u50 : Option Scope) (x50 : Str) (z50 : Pos) (n51 : Str) (p51 : Arguments) (b51 : List Stmt) (d51 : List Expr) (r51 : Option Expr) (t51 : List TypeParam) (s51 : Scope) (u51 : Option Scope) (x51 : Str) (z51 : Pos) (_ : Stmt.FunctionDef n9 p9 b9 d9 r9 t9 s9 u9 x9 z9 = st 9 ∧ Stmt.FunctionDef n13 p13 b13 d13 r13 t13 s13 u13 x13 z13 = st 13 ∧ Stmt.FunctionDef n14 p14 b14 d14 r14 t14 s14 u14 x14 z14 = st 14 ∧ Stmt.FunctionDef n15 p15 b15 d15 r15 t15 s15 u15 x15 z15 = st 15 ∧ Stmt.FunctionDef n16 p16 b16 d16 r16 t16 s16 u16 x16 z16 = st 16 ∧ Stmt.FunctionDef n17 p17 b17 d17 r17 t17 s17 u17 x17 z17 = st 17 ∧ Stmt.FunctionDef n18 p18 b18 d18 r18 t18 s18 u18 x18 z18 = st 18 ∧ Stmt.FunctionDef n20 p20 b20 d20 r20 t20 s20 u20 x20 z20 = st 20 ∧ Stmt.FunctionDef n21 p21 b21 d21 r21 t21 s21 u21 x21 z21 = st 21 ∧ Stmt.FunctionDef n29 p29 b29 d29 r29 t29 s29 u29 x29 z29 = st 29 ∧ Stmt.FunctionDef n43 p43 b43 d43 r43 t43 s43 u43 x43 z43 = st 43 ∧ Stmt.FunctionDef n45 p45 b45 d45 r45 t45 s45 u45 x45 z45 = st 45 ∧ Stmt.FunctionDef n46 p46 b46 d46 r46 t46 s46 u46 x46 z46 = st 46 ∧ Stmt.FunctionDef n47 p47 b47 d47 r47 t47 s47 u47 x47 z47 = st 47 ∧ Stmt.FunctionDef n48 p48 b48 d48 r48 t48 s48 u48 x48 z48 = st 48 ∧ Stmt.FunctionDef n49 p49 b49 d49 r49 t49 s49 u49 x49 z49 = st 49 ∧ Stmt.FunctionDef n50 p50 b50 d50 r50 t50 s50 u50 x50 z50 = st 50 ∧ Stmt.FunctionDef n51 p51 b51 d51 r51 t51 s51 u51 x51 z51 = st 51) =>
    (nat_lit 2, { cls := Value.none, data := Data.dict #[] }) ::
    (nat_lit 3, { cls := Value.type "dict", data := Data.dict #[{ hash := PyData.keyHash P (Str.ofString "__name__"), key := Value.str (Str.ofString "__name__") 165, val := Value.str (Str.ofString "law_pd0062_01") 465 }, { hash := PyData.keyHash P (Str.ofString "__doc__"), key := Value.str (Str.ofString "__doc__") 166, val := Value.none }, { hash := PyData.keyHash P (Str.ofString "__package__"), key := Value.str (Str.ofString "__package__") 167, val := Value.none }, { hash := PyData.keyHash P (Str.ofString "__loader__"), key := Value.str (Str.ofString "__loader__") 168, val := Value.builtin "__main__.__loader__#opaque" }, { hash := PyData.keyHash P (Str.ofString "__spec__"), key := Value.str (Str.ofString "__spec__") 169, val := Value.none }, { hash := PyData.keyHash P (Str.ofString "__annotations__"), key := Value.str (Str.ofString "__annotations__") 170, val := Value.ref 6 }, { hash := PyData.keyHash P (Str.ofString "__builtins__"), key := Value.str (Str.ofString "__builtins__") 171, val := Value.ref 4 }, { hash := PyData.keyHash P (Str.ofString "__file__"), key := Value.str (Str.ofString "__file__") 173, val := Value.str (Str.ofString "/claim/cut.py") 172 }, { hash := PyData.keyHash P (Str.ofString "__cached__"), key := Value.str (Str.ofString "__cached__") 174, val := Value.none }, { hash := PyData.keyHash P (Str.ofString "_wall"), key := Value.str (Str.ofString "_wall") 193, val := Value.ref 21 }, { hash := PyData.keyHash P (Str.ofString "_plain_name"), key := Value.str (Str.ofString "_plain_name") 204, val := Value.ref 28 }, { hash := PyData.keyHash P (Str.ofString "ABCMeta"), key := Value.str (Str.ofString "ABCMeta") 230, val := Value.ref 45 }, { hash := PyData.keyHash P (Str.ofString "_ABCLike"), key := Value.str (Str.ofString "_ABCLike") 273, val := Value.ref 78 }, { hash := PyData.keyHash P (Str.ofString "_abc_plain_meta"), key := Value.str (Str.ofString "_abc_plain_meta") 280, val := Value.ref 87 }, { hash := PyData.keyHash P (Str.ofString "fspath"), key := Value.str (Str.ofString "fspath") 292, val := Value.ref 94 }, { hash := PyData.keyHash P (Str.ofString "_check_arg_types"), key := Value.str (Str.ofString "_check_arg_types") 305, val := Value.ref 101 }, { hash := PyData.keyHash P (Str.ofString "_get_sep"), key := Value.str (Str.ofString "_get_sep") 314, val := Value.ref 108 }, { hash := PyData.keyHash P (Str.ofString "join"), key := Value.str (Str.ofString "join") 325, val := Value.ref 115 }, { hash := PyData.keyHash P (Str.ofString "splitroot"), key := Value.str (Str.ofString "splitroot") 334, val := Value.ref 122 }, { hash := PyData.keyHash P (Str.ofString "dirname"), key := Value.str (Str.ofString "dirname") 344, val := Value.ref 129 }, { hash := PyData.keyHash P (Str.ofString "normpath"), key := Value.str (Str.ofString "normpath") 359, val := Value.ref 136 }, { hash := PyData.keyHash P (Str.ofString "commonpath"), key := Value.str (Str.ofString "commonpath") 365, val := Value.ref 141 }, { hash := PyData.keyHash P (Str.ofString "S_IMODE"), key := Value.str (Str.ofString "S_IMODE") 374, val := Value.ref 148 }, { hash := PyData.keyHash P (Str.ofString "S_IFMT"), key := Value.str (Str.ofString "S_IFMT") 381, val := Value.ref 155 }, { hash := PyData.keyHash P (Str.ofString "S_IFDIR"), key := Value.str (Str.ofString "S_IFDIR") 383, val := Value.int 16384 382 }, { hash := PyData.keyHash P (Str.ofString "S_IFCHR"), key := Value.str (Str.ofString "S_IFCHR") 385, val := Value.int 8192 384 }, { hash := PyData.keyHash P (Str.ofString "S_IFBLK"), key := Value.str (Str.ofString "S_IFBLK") 387, val := Value.int 24576 386 }, { hash := PyData.keyHash P (Str.ofString "S_IFREG"), key := Value.str (Str.ofString "S_IFREG") 389, val := Value.int 32768 388 }, { hash := PyData.keyHash P (Str.ofString "S_IFIFO"), key := Value.str (Str.ofString "S_IFIFO") 391, val := Value.int 4096 390 }, { hash := PyData.keyHash P (Str.ofString "S_IFLNK"), key := Value.str (Str.ofString "S_IFLNK") 393, val := Value.int 40960 392 }, { hash := PyData.keyHash P (Str.ofString "S_IFSOCK"), key := Value.str (Str.ofString "S_IFSOCK") 395, val := Value.int 49152 394 }, { hash := PyData.keyHash P (Str.ofString "S_ISLNK"), key := Value.str (Str.ofString "S_ISLNK") 402, val := Value.ref 162 }, { hash := PyData.keyHash P (Str.ofString "S_ISUID"), key := Value.str (Str.ofString "S_ISUID") 404, val := Value.int 2048 403 }, { hash := PyData.keyHash P (Str.ofString "S_ISGID"), key := Value.str (Str.ofString "S_ISGID") 406, val := Value.int 1024 405 }, { hash := PyData.keyHash P (Str.ofString "S_ISVTX"), key := Value.str (Str.ofString "S_ISVTX") 408, val := Value.int 512 407 }, { hash := PyData.keyHash P (Str.ofString "S_IRUSR"), key := Value.str (Str.ofString "S_IRUSR") 410, val := Value.int 256 409 }, { hash := PyData.keyHash P (Str.ofString "S_IWUSR"), key := Value.str (Str.ofString "S_IWUSR") 412, val := Value.int 128 411 }, { hash := PyData.keyHash P (Str.ofString "S_IXUSR"), key := Value.str (Str.ofString "S_IXUSR") 414, val := Value.int 64 413 }, { hash := PyData.keyHash P (Str.ofString "S_IRGRP"), key := Value.str (Str.ofString "S_IRGRP") 416, val := Value.int 32 415 }, { hash := PyData.keyHash P (Str.ofString "S_IWGRP"), key := Value.str (Str.ofString "S_IWGRP") 418, val := Value.int 16 417 }, { hash := PyData.keyHash P (Str.ofString "S_IXGRP"), key := Value.str (Str.ofString "S_IXGRP") 420, val := Value.int 8 419 }, { hash := PyData.keyHash P (Str.ofString "S_IROTH"), key := Value.str (Str.ofString "S_IROTH") 422, val := Value.int 4 421 }, { hash := PyData.keyHash P (Str.ofString "S_IWOTH"), key := Value.str (Str.ofString "S_IWOTH") 424, val := Value.int 2 423 }, { hash := PyData.keyHash P (Str.ofString "S_IXOTH"), key := Value.str (Str.ofString "S_IXOTH") 426, val := Value.int 1 425 }, { hash := PyData.keyHash P (Str.ofString "_filemode_table"), key := Value.str (Str.ofString "_filemode_table") 452, val := Value.ref 195 }, { hash := PyData.keyHash P (Str.ofString "filemode"), key := Value.str (Str.ofString "filemode") 464, val := Value.ref 202 }, { hash := PyData.keyHash P (Str.ofString "_law_row"), key := Value.str (Str.ofString "_law_row") 477, val := Value.ref 209 }, { hash := PyData.keyHash P (Str.ofString "_law_way"), key := Value.str (Str.ofString "_law_way") 483, val := Value.ref 214 }, { hash := PyData.keyHash P (Str.ofString "_law_signs"), key := Value.str (Str.ofString "_law_signs") 494, val := Value.ref 221 }, { hash := PyData.keyHash P (Str.ofString "_law_deep"), key := Value.str (Str.ofString "_law_deep") 500, val := Value.ref 226 }, { hash := PyData.keyHash P (Str.ofString "_law_common"), key := Value.str (Str.ofString "_law_common") 509, val := Value.ref 233 }, { hash := PyData.keyHash P (Str.ofString "_law_led"), key := Value.str (Str.ofString "_law_led") 521, val := Value.ref 240 }, { hash := PyData.keyHash P (Str.ofString "law"), key := Value.str (Str.ofString "law") 527, val := Value.ref 245 }] 53 }) ::
    (nat_lit 93, { cls := Value.type "code", data := Data.fields #[Value.str (Str.ofString "fspath") 283, Value.str (Str.ofString "fspath") 284, Value.str (Str.ofString "/claim/cut.py") 285, Value.int 35 0, Value.int 1 0, Value.int 0 0, Value.int 0 0, Value.int 3 0, Value.ref 88, Value.bool true, Value.int 181 0, Value.ref 89, Value.none, Value.ref 90, Value.ref 91, Value.ref 92, Value.int 290 0, Value.int 35 0, Value.str (Str.ofString "/claim/cut.py") 291] }) ::
    (nat_lit 94, { cls := Value.type "function", data := Data.func (FuncData.mk n9 n9 p9 (FuncBody.stmts b9) s9 3 [] Value.none Value.none Value.none (Value.str (Str.ofString "os") 281) none (Value.ref 93) Value.none 0) }) ::
    (nat_lit 107, { cls := Value.type "code", data := Data.fields #[Value.str (Str.ofString "_get_sep") 308, Value.str (Str.ofString "_get_sep") 309, Value.str (Str.ofString "/claim/cut.py") 310, Value.int 64 0, Value.int 1 0, Value.int 0 0, Value.int 0 0, Value.int 3 0, Value.ref 102, Value.bool true, Value.int 181 0, Value.ref 103, Value.none, Value.ref 104, Value.ref 105, Value.ref 106, Value.int 312 0, Value.int 64 0, Value.str (Str.ofString "/claim/cut.py") 313] }) ::
    (nat_lit 108, { cls := Value.type "function", data := Data.func (FuncData.mk n13 n13 p13 (FuncBody.stmts b13) s13 3 [] Value.none Value.none Value.none (Value.str (Str.ofString "cpy313.posixpath") 306) none (Value.ref 107) Value.none 0) }) ::
    (nat_lit 114, { cls := Value.type "code", data := Data.fields #[Value.str (Str.ofString "join") 315, Value.str (Str.ofString "join") 316, Value.str (Str.ofString "/claim/cut.py") 317, Value.int 69 0, Value.int 1 0, Value.int 0 0, Value.int 0 0, Value.int 7 0, Value.ref 109, Value.bool true, Value.int 181 0, Value.ref 110, Value.none, Value.ref 111, Value.ref 112, Value.ref 113, Value.int 323 0, Value.int 69 0, Value.str (Str.ofString "/claim/cut.py") 324] }) ::
    (nat_lit 115, { cls := Value.type "function", data := Data.func (FuncData.mk n14 n14 p14 (FuncBody.stmts b14) s14 3 [] Value.none Value.none Value.none (Value.str (Str.ofString "cpy313.posixpath") 306) none (Value.ref 114) Value.none 0) }) ::
    (nat_lit 121, { cls := Value.type "code", data := Data.fields #[Value.str (Str.ofString "splitroot") 326, Value.str (Str.ofString "splitroot") 327, Value.str (Str.ofString "/claim/cut.py") 328, Value.int 86 0, Value.int 1 0, Value.int 0 0, Value.int 0 0, Value.int 3 0, Value.ref 116, Value.bool true, Value.int 181 0, Value.ref 117, Value.none, Value.ref 118, Value.ref 119, Value.ref 120, Value.int 332 0, Value.int 86 0, Value.str (Str.ofString "/claim/cut.py") 333] }) ::
    (nat_lit 122, { cls := Value.type "function", data := Data.func (FuncData.mk n15 n15 p15 (FuncBody.stmts b15) s15 3 [] Value.none Value.none Value.none (Value.str (Str.ofString "cpy313.posixpath") 306) none (Value.ref 121) Value.none 0) }) ::
    (nat_lit 128, { cls := Value.type "code", data := Data.fields #[Value.str (Str.ofString "dirname") 335, Value.str (Str.ofString "dirname") 336, Value.str (Str.ofString "/claim/cut.py") 337, Value.int 100 0, Value.int 1 0, Value.int 0 0, Value.int 0 0, Value.int 3 0, Value.ref 123, Value.bool true, Value.int 181 0, Value.ref 124, Value.none, Value.ref 125, Value.ref 126, Value.ref 127, Value.int 342 0, Value.int 100 0, Value.str (Str.ofString "/claim/cut.py") 343] }) ::
    (nat_lit 129, { cls := Value.type "function", data := Data.func (FuncData.mk n16 n16 p16 (FuncBody.stmts b16) s16 3 [] Value.none Value.none Value.none (Value.str (Str.ofString "cpy313.posixpath") 306) none (Value.ref 128) Value.none 0) }) ::
    (nat_lit 135, { cls := Value.type "code", data := Data.fields #[Value.str (Str.ofString "normpath") 345, Value.str (Str.ofString "normpath") 346, Value.str (Str.ofString "/claim/cut.py") 347, Value.int 108 0, Value.int 1 0, Value.int 0 0, Value.int 0 0, Value.int 3 0, Value.ref 130, Value.bool true, Value.int 181 0, Value.ref 131, Value.none, Value.ref 132, Value.ref 133, Value.ref 134, Value.int 357 0, Value.int 108 0, Value.str (Str.ofString "/claim/cut.py") 358] }) ::
    (nat_lit 136, { cls := Value.type "function", data := Data.func (FuncData.mk n17 n17 p17 (FuncBody.stmts b17) s17 3 [] Value.none Value.none Value.none (Value.str (Str.ofString "cpy313.posixpath") 306) none (Value.ref 135) Value.none 0) }) ::
    (nat_lit 140, { cls := Value.type "code", data := Data.fields #[Value.str (Str.ofString "commonpath") 360, Value.str (Str.ofString "commonpath") 361, Value.str (Str.ofString "/claim/cut.py") 362, Value.int 133 0, Value.int 1 0, Value.int 0 0, Value.int 0 0, Value.int 3 0, Value.ref 137, Value.bool true, Value.int 181 0, Value.ref 138, Value.none, Value.none, Value.none, Value.ref 139, Value.int 363 0, Value.int 133 0, Value.str (Str.ofString "/claim/cut.py") 364] }) ::
    (nat_lit 141, { cls := Value.type "function", data := Data.func (FuncData.mk n18 n18 p18 (FuncBody.stmts b18) s18 3 [] Value.none Value.none Value.none (Value.str (Str.ofString "cpy313.posixpath") 306) none (Value.ref 140) Value.none 0) }) ::
    (nat_lit 147, { cls := Value.type "code", data := Data.fields #[Value.str (Str.ofString "S_IMODE") 368, Value.str (Str.ofString "S_IMODE") 369, Value.str (Str.ofString "/claim/cut.py") 370, Value.int 163 0, Value.int 1 0, Value.int 0 0, Value.int 0 0, Value.int 3 0, Value.ref 142, Value.bool true, Value.int 181 0, Value.ref 143, Value.none, Value.ref 144, Value.ref 145, Value.ref 146, Value.int 372 0, Value.int 163 0, Value.str (Str.ofString "/claim/cut.py") 373] }) ::
    (nat_lit 148, { cls := Value.type "function", data := Data.func (FuncData.mk n20 n20 p20 (FuncBody.stmts b20) s20 3 [] Value.none Value.none Value.none (Value.str (Str.ofString "cpy313.stat") 366) none (Value.ref 147) Value.none 0) }) ::
    (nat_lit 154, { cls := Value.type "code", data := Data.fields #[Value.str (Str.ofString "S_IFMT") 375, Value.str (Str.ofString "S_IFMT") 376, Value.str (Str.ofString "/claim/cut.py") 377, Value.int 165 0, Value.int 1 0, Value.int 0 0, Value.int 0 0, Value.int 3 0, Value.ref 149, Value.bool true, Value.int 181 0, Value.ref 150, Value.none, Value.ref 151, Value.ref 152, Value.ref 153, Value.int 379 0, Value.int 165 0, Value.str (Str.ofString "/claim/cut.py") 380] }) ::
    (nat_lit 155, { cls := Value.type "function", data := Data.func (FuncData.mk n21 n21 p21 (FuncBody.stmts b21) s21 3 [] Value.none Value.none Value.none (Value.str (Str.ofString "cpy313.stat") 366) none (Value.ref 154) Value.none 0) }) ::
    (nat_lit 161, { cls := Value.type "code", data := Data.fields #[Value.str (Str.ofString "S_ISLNK") 396, Value.str (Str.ofString "S_ISLNK") 397, Value.str (Str.ofString "/claim/cut.py") 398, Value.int 174 0, Value.int 1 0, Value.int 0 0, Value.int 0 0, Value.int 3 0, Value.ref 156, Value.bool true, Value.int 181 0, Value.ref 157, Value.none, Value.ref 158, Value.ref 159, Value.ref 160, Value.int 400 0, Value.int 174 0, Value.str (Str.ofString "/claim/cut.py") 401] }) ::
    (nat_lit 162, { cls := Value.type "function", data := Data.func (FuncData.mk n29 n29 p29 (FuncBody.stmts b29) s29 3 [] Value.none Value.none Value.none (Value.str (Str.ofString "cpy313.stat") 366) none (Value.ref 161) Value.none 0) }) ::
    (nat_lit 163, { cls := Value.type "tuple", data := Data.seq #[Value.int 40960 392, Value.str (Str.ofString "l") 427] }) ::
    (nat_lit 164, { cls := Value.type "tuple", data := Data.seq #[Value.int 49152 394, Value.str (Str.ofString "s") 428] }) ::
    (nat_lit 165, { cls := Value.type "tuple", data := Data.seq #[Value.int 32768 388, Value.str (Str.ofString "-") 429] }) ::
    (nat_lit 166, { cls := Value.type "tuple", data := Data.seq #[Value.int 24576 386, Value.str (Str.ofString "b") 430] }) ::
    (nat_lit 167, { cls := Value.type "tuple", data := Data.seq #[Value.int 16384 382, Value.str (Str.ofString "d") 431] }) ::
    (nat_lit 168, { cls := Value.type "tuple", data := Data.seq #[Value.int 8192 384, Value.str (Str.ofString "c") 432] }) ::
    (nat_lit 169, { cls := Value.type "tuple", data := Data.seq #[Value.int 4096 390, Value.str (Str.ofString "p") 433] }) ::
    (nat_lit 170, { cls := Value.type "tuple", data := Data.seq #[Value.ref 163, Value.ref 164, Value.ref 165, Value.ref 166, Value.ref 167, Value.ref 168, Value.ref 169] }) ::
    (nat_lit 171, { cls := Value.type "tuple", data := Data.seq #[Value.int 256 409, Value.str (Str.ofString "r") 434] }) ::
    (nat_lit 172, { cls := Value.type "tuple", data := Data.seq #[Value.ref 171] }) ::
    (nat_lit 173, { cls := Value.type "tuple", data := Data.seq #[Value.int 128 411, Value.str (Str.ofString "w") 435] }) ::
    (nat_lit 174, { cls := Value.type "tuple", data := Data.seq #[Value.ref 173] }) ::
    (nat_lit 175, { cls := Value.type "tuple", data := Data.seq #[Value.int 2112 436, Value.str (Str.ofString "s") 437] }) ::
    (nat_lit 176, { cls := Value.type "tuple", data := Data.seq #[Value.int 2048 403, Value.str (Str.ofString "S") 438] }) ::
    (nat_lit 177, { cls := Value.type "tuple", data := Data.seq #[Value.int 64 413, Value.str (Str.ofString "x") 439] }) ::
    (nat_lit 178, { cls := Value.type "tuple", data := Data.seq #[Value.ref 175, Value.ref 176, Value.ref 177] }) ::
    (nat_lit 179, { cls := Value.type "tuple", data := Data.seq #[Value.int 32 415, Value.str (Str.ofString "r") 440] }) ::
    (nat_lit 180, { cls := Value.type "tuple", data := Data.seq #[Value.ref 179] }) ::
    (nat_lit 181, { cls := Value.type "tuple", data := Data.seq #[Value.int 16 417, Value.str (Str.ofString "w") 441] }) ::
    (nat_lit 182, { cls := Value.type "tuple", data := Data.seq #[Value.ref 181] }) ::
    (nat_lit 183, { cls := Value.type "tuple", data := Data.seq #[Value.int 1032 442, Value.str (Str.ofString "s") 443] }) ::
    (nat_lit 184, { cls := Value.type "tuple", data := Data.seq #[Value.int 1024 405, Value.str (Str.ofString "S") 444] }) ::
    (nat_lit 185, { cls := Value.type "tuple", data := Data.seq #[Value.int 8 419, Value.str (Str.ofString "x") 445] }) ::
    (nat_lit 186, { cls := Value.type "tuple", data := Data.seq #[Value.ref 183, Value.ref 184, Value.ref 185] }) ::
    (nat_lit 187, { cls := Value.type "tuple", data := Data.seq #[Value.int 4 421, Value.str (Str.ofString "r") 446] }) ::
    (nat_lit 188, { cls := Value.type "tuple", data := Data.seq #[Value.ref 187] }) ::
    (nat_lit 189, { cls := Value.type "tuple", data := Data.seq #[Value.int 2 423, Value.str (Str.ofString "w") 447] }) ::
    (nat_lit 190, { cls := Value.type "tuple", data := Data.seq #[Value.ref 189] }) ::
    (nat_lit 191, { cls := Value.type "tuple", data := Data.seq #[Value.int 513 448, Value.str (Str.ofString "t") 449] }) ::
    (nat_lit 192, { cls := Value.type "tuple", data := Data.seq #[Value.int 512 407, Value.str (Str.ofString "T") 450] }) ::
    (nat_lit 193, { cls := Value.type "tuple", data := Data.seq #[Value.int 1 425, Value.str (Str.ofString "x") 451] }) ::
    (nat_lit 194, { cls := Value.type "tuple", data := Data.seq #[Value.ref 191, Value.ref 192, Value.ref 193] }) ::
    (nat_lit 195, { cls := Value.type "tuple", data := Data.seq #[Value.ref 170, Value.ref 172, Value.ref 174, Value.ref 178, Value.ref 180, Value.ref 182, Value.ref 186, Value.ref 188, Value.ref 190, Value.ref 194] }) ::
    (nat_lit 201, { cls := Value.type "code", data := Data.fields #[Value.str (Str.ofString "filemode") 453, Value.str (Str.ofString "filemode") 454, Value.str (Str.ofString "/claim/cut.py") 455, Value.int 189 0, Value.int 1 0, Value.int 0 0, Value.int 0 0, Value.int 3 0, Value.ref 196, Value.bool true, Value.int 181 0, Value.ref 197, Value.none, Value.ref 198, Value.ref 199, Value.ref 200, Value.int 462 0, Value.int 189 0, Value.str (Str.ofString "/claim/cut.py") 463] }) ::
    (nat_lit 202, { cls := Value.type "function", data := Data.func (FuncData.mk n43 n43 p43 (FuncBody.stmts b43) s43 3 [] Value.none Value.none Value.none (Value.str (Str.ofString "cpy313.stat") 366) none (Value.ref 201) Value.none 0) }) ::
    (nat_lit 208, { cls := Value.type "code", data := Data.fields #[Value.str (Str.ofString "_law_row") 467, Value.str (Str.ofString "_law_row") 468, Value.str (Str.ofString "/claim/cut.py") 469, Value.int 207 0, Value.int 1 0, Value.int 0 0, Value.int 0 0, Value.int 3 0, Value.ref 203, Value.bool true, Value.int 181 0, Value.ref 204, Value.none, Value.ref 205, Value.ref 206, Value.ref 207, Value.int 475 0, Value.int 207 0, Value.str (Str.ofString "/claim/cut.py") 476] }) ::
    (nat_lit 209, { cls := Value.type "function", data := Data.func (FuncData.mk n45 n45 p45 (FuncBody.stmts b45) s45 3 [] Value.none Value.none Value.none (Value.str (Str.ofString "law_pd0062_01") 465) none (Value.ref 208) Value.none 0) }) ::
    (nat_lit 213, { cls := Value.type "code", data := Data.fields #[Value.str (Str.ofString "_law_way") 478, Value.str (Str.ofString "_law_way") 479, Value.str (Str.ofString "/claim/cut.py") 480, Value.int 217 0, Value.int 2 0, Value.int 0 0, Value.int 0 0, Value.int 3 0, Value.ref 210, Value.bool true, Value.int 181 0, Value.ref 211, Value.none, Value.none, Value.none, Value.ref 212, Value.int 481 0, Value.int 217 0, Value.str (Str.ofString "/claim/cut.py") 482] }) ::
    (nat_lit 214, { cls := Value.type "function", data := Data.func (FuncData.mk n46 n46 p46 (FuncBody.stmts b46) s46 3 [] Value.none Value.none Value.none (Value.str (Str.ofString "law_pd0062_01") 465) none (Value.ref 213) Value.none 0) }) ::
    (nat_lit 220, { cls := Value.type "code", data := Data.fields #[Value.str (Str.ofString "_law_signs") 484, Value.str (Str.ofString "_law_signs") 485, Value.str (Str.ofString "/claim/cut.py") 486, Value.int 223 0, Value.int 1 0, Value.int 0 0, Value.int 0 0, Value.int 3 0, Value.ref 215, Value.bool true, Value.int 181 0, Value.ref 216, Value.none, Value.ref 217, Value.ref 218, Value.ref 219, Value.int 492 0, Value.int 223 0, Value.str (Str.ofString "/claim/cut.py") 493] }) ::
    (nat_lit 221, { cls := Value.type "function", data := Data.func (FuncData.mk n47 n47 p47 (FuncBody.stmts b47) s47 3 [] Value.none Value.none Value.none (Value.str (Str.ofString "law_pd0062_01") 465) none (Value.ref 220) Value.none 0) }) ::
    (nat_lit 225, { cls := Value.type "code", data := Data.fields #[Value.str (Str.ofString "_law_deep") 495, Value.str (Str.ofString "_law_deep") 496, Value.str (Str.ofString "/claim/cut.py") 497, Value.int 231 0, Value.int 1 0, Value.int 0 0, Value.int 0 0, Value.int 3 0, Value.ref 222, Value.bool true, Value.int 181 0, Value.ref 223, Value.none, Value.none, Value.none, Value.ref 224, Value.int 498 0, Value.int 231 0, Value.str (Str.ofString "/claim/cut.py") 499] }) ::
    (nat_lit 226, { cls := Value.type "function", data := Data.func (FuncData.mk n48 n48 p48 (FuncBody.stmts b48) s48 3 [] Value.none Value.none Value.none (Value.str (Str.ofString "law_pd0062_01") 465) none (Value.ref 225) Value.none 0) }) ::
    (nat_lit 232, { cls := Value.type "code", data := Data.fields #[Value.str (Str.ofString "_law_common") 501, Value.str (Str.ofString "_law_common") 502, Value.str (Str.ofString "/claim/cut.py") 503, Value.int 238 0, Value.int 1 0, Value.int 0 0, Value.int 0 0, Value.int 3 0, Value.ref 227, Value.bool true, Value.int 181 0, Value.ref 228, Value.none, Value.ref 229, Value.ref 230, Value.ref 231, Value.int 507 0, Value.int 238 0, Value.str (Str.ofString "/claim/cut.py") 508] }) ::
    (nat_lit 233, { cls := Value.type "function", data := Data.func (FuncData.mk n49 n49 p49 (FuncBody.stmts b49) s49 3 [] Value.none Value.none Value.none (Value.str (Str.ofString "law_pd0062_01") 465) none (Value.ref 232) Value.none 0) }) ::
    (nat_lit 239, { cls := Value.type "code", data := Data.fields #[Value.str (Str.ofString "_law_led") 510, Value.str (Str.ofString "_law_led") 511, Value.str (Str.ofString "/claim/cut.py") 512, Value.int 245 0, Value.int 4 0, Value.int 0 0, Value.int 0 0, Value.int 3 0, Value.ref 234, Value.bool true, Value.int 181 0, Value.ref 235, Value.none, Value.ref 236, Value.ref 237, Value.ref 238, Value.int 519 0, Value.int 245 0, Value.str (Str.ofString "/claim/cut.py") 520] }) ::
    (nat_lit 240, { cls := Value.type "function", data := Data.func (FuncData.mk n50 n50 p50 (FuncBody.stmts b50) s50 3 [] Value.none Value.none Value.none (Value.str (Str.ofString "law_pd0062_01") 465) none (Value.ref 239) Value.none 0) }) ::
    (nat_lit 244, { cls := Value.type "code", data := Data.fields #[Value.str (Str.ofString "law") 522, Value.str (Str.ofString "law") 523, Value.str (Str.ofString "/claim/cut.py") 524, Value.int 252 0, Value.int 1 0, Value.int 0 0, Value.int 0 0, Value.int 3 0, Value.ref 241, Value.bool true, Value.int 181 0, Value.ref 242, Value.none, Value.none, Value.none, Value.ref 243, Value.int 525 0, Value.int 252 0, Value.str (Str.ofString "/claim/cut.py") 526] }) ::
    (nat_lit 245, { cls := Value.type "function", data := Data.func (FuncData.mk n51 n51 p51 (FuncBody.stmts b51) s51 3 [] Value.none Value.none Value.none (Value.str (Str.ofString "law_pd0062_01") 465) none (Value.ref 244) Value.none 0) }) :: []) _ _ _ _ _ _ _ _ _ _ _ _ _ _ _ _ _ _ _ _ _ _ _ _ _ _ _ _ _ _ _ _ _ _ _ _ _ _ _ _ _ _ _ _ _ _ _ _ _ _ _ _ _ _ _ _ _ _ _ _ _ _ _ _ _ _ _ _ _ _ _ _ _ _ _ _ _ _ _ _ _ _ _ _ _ _ _ _ _ _ _ _ _ _ _ _ _ _ _ _ _ _ _ _ _ _ _ _ _ _ _ _ _ _ _ _ _ _ _ _ _ _ _ _ _ _ _ _ _ _ _ _ _ _ _ _ _ _ _ _ _ _ _ _ _ _ _ _ _ _ _ _ _ _ _ _ _ _ _ _ _ _ _ _ _ _ _ _ _ _ _ _ _ _ _ _ _ _ _ _ ?h
  case h => (refine ⟨?_, ?_, ?_, ?_, ?_, ?_, ?_, ?_, ?_, ?_, ?_, ?_, ?_, ?_, ?_, ?_, ?_, ?_⟩ <;> exact rfl)
noncomputable abbrev hd.adrs : List Addr := [nat_lit 2, nat_lit 3, nat_lit 93, nat_lit 94, nat_lit 107, nat_lit 108, nat_lit 114, nat_lit 115, nat_lit 121, nat_lit 122, nat_lit 128, nat_lit 129, nat_lit 135, nat_lit 136, nat_lit 140, nat_lit 141, nat_lit 147, nat_lit 148, nat_lit 154, nat_lit 155, nat_lit 161, nat_lit 162, nat_lit 163, nat_lit 164, nat_lit 165, nat_lit 166, nat_lit 167, nat_lit 168, nat_lit 169, nat_lit 170, nat_lit 171, nat_lit 172, nat_lit 173, nat_lit 174, nat_lit 175, nat_lit 176, nat_lit 177, nat_lit 178, nat_lit 179, nat_lit 180, nat_lit 181, nat_lit 182, nat_lit 183, nat_lit 184, nat_lit 185, nat_lit 186, nat_lit 187, nat_lit 188, nat_lit 189, nat_lit 190, nat_lit 191, nat_lit 192, nat_lit 193, nat_lit 194, nat_lit 195, nat_lit 201, nat_lit 202, nat_lit 208, nat_lit 209, nat_lit 213, nat_lit 214, nat_lit 220, nat_lit 221, nat_lit 225, nat_lit 226, nat_lit 232, nat_lit 233, nat_lit 239, nat_lit 240, nat_lit 244, nat_lit 245]
theorem hd.adrs_ok : ∀ P, hd.adrs = (hd.heap_39 P).map (·.1) := fun _ => by kernel_rfl
noncomputable abbrev hd.hook : Hook := kHook hd.heap_39 hd.adrs hd.adrs_ok
theorem hd.op : ∀ w : World, (fencedOpening treeTable pw w 3314).map (fun s => (s.heap, s.gens, s.drawn, s.toks)) = some (boot_heap w.params, Array.mk [], boot_drawn, boot_toks) :=
  boot_open (by kernel_rfl) (by decide) (fun s => by kernel_rfl)
noncomputable def cb : Stmt → List Stmt
  | .ClassDef _ _ _ b .. => b
  | _ => []
/-- the object of a def -/
noncomputable def fo (s : Stmt) (q : Str) (c : Value) (g : Addr) (m k : Value) : Obj := match s with
  | .FunctionDef n p b _ _ _ sc _ _ _ => { cls := c, data := .func { name := n, qualname := q, params := p, body := .stmts b, scope := sc, globals := g, closure := [], defaults := .none, kwdefaults := .none, pyModule := m, code := k } }
  | _ => { cls := c }
/-- the whole heap behind the top -/
noncomputable def hd.h1 (P : Params) : Heap := { objs := Array.mk [
  boot_o_0 P,
  boot_o_1 P,
  boot_o_2 P,
  { cls := Value.type "dict", data := Data.dict #[{ hash := PyData.keyHash P (Str.ofString "__name__"), key := Value.str (Str.ofString "__name__") 165, val := Value.str (Str.ofString "law_pd0062_01") 465 }, { hash := PyData.keyHash P (Str.ofString "__doc__"), key := Value.str (Str.ofString "__doc__") 166, val := Value.none }, { hash := PyData.keyHash P (Str.ofString "__package__"), key := Value.str (Str.ofString "__package__") 167, val := Value.none }, { hash := PyData.keyHash P (Str.ofString "__loader__"), key := Value.str (Str.ofString "__loader__") 168, val := Value.builtin "__main__.__loader__#opaque" }, { hash := PyData.keyHash P (Str.ofString "__spec__"), key := Value.str (Str.ofString "__spec__") 169, val := Value.none }, { hash := PyData.keyHash P (Str.ofString "__annotations__"), key := Value.str (Str.ofString "__annotations__") 170, val := Value.ref 6 }, { hash := PyData.keyHash P (Str.ofString "__builtins__"), key := Value.str (Str.ofString "__builtins__") 171, val := Value.ref 4 }, { hash := PyData.keyHash P (Str.ofString "__file__"), key := Value.str (Str.ofString "__file__") 173, val := Value.str (Str.ofString "/claim/cut.py") 172 }, { hash := PyData.keyHash P (Str.ofString "__cached__"), key := Value.str (Str.ofString "__cached__") 174, val := Value.none }, { hash := PyData.keyHash P (Str.ofString "_wall"), key := Value.str (Str.ofString "_wall") 193, val := Value.ref 21 }, { hash := PyData.keyHash P (Str.ofString "_plain_name"), key := Value.str (Str.ofString "_plain_name") 204, val := Value.ref 28 }, { hash := PyData.keyHash P (Str.ofString "ABCMeta"), key := Value.str (Str.ofString "ABCMeta") 230, val := Value.ref 45 }, { hash := PyData.keyHash P (Str.ofString "_ABCLike"), key := Value.str (Str.ofString "_ABCLike") 273, val := Value.ref 78 }, { hash := PyData.keyHash P (Str.ofString "_abc_plain_meta"), key := Value.str (Str.ofString "_abc_plain_meta") 280, val := Value.ref 87 }, { hash := PyData.keyHash P (Str.ofString "fspath"), key := Value.str (Str.ofString "fspath") 292, val := Value.ref 94 }, { hash := PyData.keyHash P (Str.ofString "_check_arg_types"), key := Value.str (Str.ofString "_check_arg_types") 305, val := Value.ref 101 }, { hash := PyData.keyHash P (Str.ofString "_get_sep"), key := Value.str (Str.ofString "_get_sep") 314, val := Value.ref 108 }, { hash := PyData.keyHash P (Str.ofString "join"), key := Value.str (Str.ofString "join") 325, val := Value.ref 115 }, { hash := PyData.keyHash P (Str.ofString "splitroot"), key := Value.str (Str.ofString "splitroot") 334, val := Value.ref 122 }, { hash := PyData.keyHash P (Str.ofString "dirname"), key := Value.str (Str.ofString "dirname") 344, val := Value.ref 129 }, { hash := PyData.keyHash P (Str.ofString "normpath"), key := Value.str (Str.ofString "normpath") 359, val := Value.ref 136 }, { hash := PyData.keyHash P (Str.ofString "commonpath"), key := Value.str (Str.ofString "commonpath") 365, val := Value.ref 141 }, { hash := PyData.keyHash P (Str.ofString "S_IMODE"), key := Value.str (Str.ofString "S_IMODE") 374, val := Value.ref 148 }, { hash := PyData.keyHash P (Str.ofString "S_IFMT"), key := Value.str (Str.ofString "S_IFMT") 381, val := Value.ref 155 }, { hash := PyData.keyHash P (Str.ofString "S_IFDIR"), key := Value.str (Str.ofString "S_IFDIR") 383, val := Value.int 16384 382 }, { hash := PyData.keyHash P (Str.ofString "S_IFCHR"), key := Value.str (Str.ofString "S_IFCHR") 385, val := Value.int 8192 384 }, { hash := PyData.keyHash P (Str.ofString "S_IFBLK"), key := Value.str (Str.ofString "S_IFBLK") 387, val := Value.int 24576 386 }, { hash := PyData.keyHash P (Str.ofString "S_IFREG"), key := Value.str (Str.ofString "S_IFREG") 389, val := Value.int 32768 388 }, { hash := PyData.keyHash P (Str.ofString "S_IFIFO"), key := Value.str (Str.ofString "S_IFIFO") 391, val := Value.int 4096 390 }, { hash := PyData.keyHash P (Str.ofString "S_IFLNK"), key := Value.str (Str.ofString "S_IFLNK") 393, val := Value.int 40960 392 }, { hash := PyData.keyHash P (Str.ofString "S_IFSOCK"), key := Value.str (Str.ofString "S_IFSOCK") 395, val := Value.int 49152 394 }, { hash := PyData.keyHash P (Str.ofString "S_ISLNK"), key := Value.str (Str.ofString "S_ISLNK") 402, val := Value.ref 162 }, { hash := PyData.keyHash P (Str.ofString "S_ISUID"), key := Value.str (Str.ofString "S_ISUID") 404, val := Value.int 2048 403 }, { hash := PyData.keyHash P (Str.ofString "S_ISGID"), key := Value.str (Str.ofString "S_ISGID") 406, val := Value.int 1024 405 }, { hash := PyData.keyHash P (Str.ofString "S_ISVTX"), key := Value.str (Str.ofString "S_ISVTX") 408, val := Value.int 512 407 }, { hash := PyData.keyHash P (Str.ofString "S_IRUSR"), key := Value.str (Str.ofString "S_IRUSR") 410, val := Value.int 256 409 }, { hash := PyData.keyHash P (Str.ofString "S_IWUSR"), key := Value.str (Str.ofString "S_IWUSR") 412, val := Value.int 128 411 }, { hash := PyData.keyHash P (Str.ofString "S_IXUSR"), key := Value.str (Str.ofString "S_IXUSR") 414, val := Value.int 64 413 }, { hash := PyData.keyHash P (Str.ofString "S_IRGRP"), key := Value.str (Str.ofString "S_IRGRP") 416, val := Value.int 32 415 }, { hash := PyData.keyHash P (Str.ofString "S_IWGRP"), key := Value.str (Str.ofString "S_IWGRP") 418, val := Value.int 16 417 }, { hash := PyData.keyHash P (Str.ofString "S_IXGRP"), key := Value.str (Str.ofString "S_IXGRP") 420, val := Value.int 8 419 }, { hash := PyData.keyHash P (Str.ofString "S_IROTH"), key := Value.str (Str.ofString "S_IROTH") 422, val := Value.int 4 421 }, { hash := PyData.keyHash P (Str.ofString "S_IWOTH"), key := Value.str (Str.ofString "S_IWOTH") 424, val := Value.int 2 423 }, { hash := PyData.keyHash P (Str.ofString "S_IXOTH"), key := Value.str (Str.ofString "S_IXOTH") 426, val := Value.int 1 425 }, { hash := PyData.keyHash P (Str.ofString "_filemode_table"), key := Value.str (Str.ofString "_filemode_table") 452, val := Value.ref 195 }, { hash := PyData.keyHash P (Str.ofString "filemode"), key := Value.str (Str.ofString "filemode") 464, val := Value.ref 202 }, { hash := PyData.keyHash P (Str.ofString "_law_row"), key := Value.str (Str.ofString "_law_row") 477, val := Value.ref 209 }, { hash := PyData.keyHash P (Str.ofString "_law_way"), key := Value.str (Str.ofString "_law_way") 483, val := Value.ref 214 }, { hash := PyData.keyHash P (Str.ofString "_law_signs"), key := Value.str (Str.ofString "_law_signs") 494, val := Value.ref 221 }, { hash := PyData.keyHash P (Str.ofString "_law_deep"), key := Value.str (Str.ofString "_law_deep") 500, val := Value.ref 226 }, { hash := PyData.keyHash P (Str.ofString "_law_common"), key := Value.str (Str.ofString "_law_common") 509, val := Value.ref 233 }, { hash := PyData.keyHash P (Str.ofString "_law_led"), key := Value.str (Str.ofString "_law_led") 521, val := Value.ref 240 }, { hash := PyData.keyHash P (Str.ofString "law"), key := Value.str (Str.ofString "law") 527, val := Value.ref 245 }] 53 },
  boot_o_4 P,
  boot_o_5 P,
  boot_o_6 P,
  boot_o_7 P,
  boot_o_8 P,
  boot_o_9 P,
  boot_o_10 P,
  { cls := Value.type "tuple", data := Data.seq #[] },
  { cls := Value.none, data := Data.fields #[Value.int 1 0, Value.int 0 0, Value.ref 20, Value.int 5 0, Value.int 0 0, Value.ref 27, Value.int 11 0, Value.int 0 0, Value.ref 34, Value.int 16 0, Value.int 0 0, Value.ref 53, Value.int 31 0, Value.int 0 0, Value.ref 86, Value.int 35 0, Value.int 0 0, Value.ref 93, Value.int 52 0, Value.int 0 0, Value.ref 100, Value.int 64 0, Value.int 0 0, Value.ref 107, Value.int 69 0, Value.int 0 0, Value.ref 114, Value.int 86 0, Value.int 0 0, Value.ref 121, Value.int 100 0, Value.int 0 0, Value.ref 128, Value.int 108 0, Value.int 0 0, Value.ref 135, Value.int 133 0, Value.int 0 0, Value.ref 140, Value.int 163 0, Value.int 0 0, Value.ref 147, Value.int 165 0, Value.int 0 0, Value.ref 154, Value.int 174 0, Value.int 0 0, Value.ref 161, Value.int 189 0, Value.int 0 0, Value.ref 201, Value.int 207 0, Value.int 0 0, Value.ref 208, Value.int 217 0, Value.int 0 0, Value.ref 213, Value.int 223 0, Value.int 0 0, Value.ref 220, Value.int 231 0, Value.int 0 0, Value.ref 225, Value.int 238 0, Value.int 0 0, Value.ref 232, Value.int 245 0, Value.int 0 0, Value.ref 239, Value.int 252 0, Value.int 0 0, Value.ref 244] },
  { cls := Value.type "code", data := Data.fields #[Value.str (Str.ofString "<module>") 182, Value.str (Str.ofString "<module>") 183, Value.str (Str.ofString "/claim/cut.py") 184, Value.int 1 0, Value.int 0 0, Value.int 0 0, Value.int 0 0, Value.int 0 0, Value.ref 11, Value.bool false, Value.int 181 0, Value.ref 12, Value.none, Value.none, Value.none, Value.none, Value.int 185 0, Value.int 1 0, Value.str (Str.ofString "/claim/cut.py") 186] },
  { cls := Value.type "frame", slots := #[some (Value.ref 13), some (Value.ref 3), some (Value.ref 3), none, some (Value.str (Str.ofString "__main__") 164), none, some (Value.ref 0)] },
  { cls := Value.type "tuple", data := Data.seq #[] },
  { cls := Value.none, data := Data.fields #[] },
  { cls := Value.type "tuple", data := Data.seq #[Value.str (Str.ofString "k") 190] },
  { cls := Value.type "tuple", data := Data.seq #[] },
  fo (st 0) "_wall" (Value.none) 0 (Value.none) (Value.none),
  { cls := Value.type "code", data := Data.fields #[Value.str (Str.ofString "_wall") 187, Value.str (Str.ofString "_wall") 188, Value.str (Str.ofString "/claim/cut.py") 189, Value.int 1 0, Value.int 1 0, Value.int 0 0, Value.int 0 0, Value.int 3 0, Value.ref 15, Value.bool true, Value.int 181 0, Value.ref 16, Value.none, Value.ref 17, Value.ref 18, Value.ref 19, Value.int 191 0, Value.int 1 0, Value.str (Str.ofString "/claim/cut.py") 192] },
  fo (st 0) "_wall" (Value.type "function") 3 (Value.str (Str.ofString "__main__") 164) (Value.ref 20),
  { cls := Value.type "tuple", data := Data.seq #[] },
  { cls := Value.none, data := Data.fields #[] },
  { cls := Value.type "tuple", data := Data.seq #[Value.str (Str.ofString "x") 199, Value.str (Str.ofString "what") 200, Value.str (Str.ofString "kind") 201] },
  { cls := Value.type "tuple", data := Data.seq #[] },
  fo (st 2) "_plain_name" (Value.none) 0 (Value.none) (Value.none),
  { cls := Value.type "code", data := Data.fields #[Value.str (Str.ofString "_plain_name") 196, Value.str (Str.ofString "_plain_name") 197, Value.str (Str.ofString "/claim/cut.py") 198, Value.int 5 0, Value.int 2 0, Value.int 0 0, Value.int 0 0, Value.int 3 0, Value.ref 22, Value.bool true, Value.int 181 0, Value.ref 23, Value.none, Value.ref 24, Value.ref 25, Value.ref 26, Value.int 202 0, Value.int 5 0, Value.str (Str.ofString "/claim/cut.py") 203] },
  fo (st 2) "_plain_name" (Value.type "function") 3 (Value.str (Str.ofString "os") 194) (Value.ref 27),
  { cls := Value.type "tuple", data := Data.seq #[Value.type "type"] },
  { cls := Value.type "builtin_function_or_method", data := Data.fields #[Value.builtin "type.__prepare__", Value.type "type"] },
  { cls := Value.type "dict", data := Data.dict #[{ hash := PyData.keyHash P (Str.ofString "__module__"), key := Value.str (Str.ofString "__module__") 214, val := Value.str (Str.ofString "abc") 205 }, { hash := PyData.keyHash P (Str.ofString "__qualname__"), key := Value.str (Str.ofString "__qualname__") 216, val := Value.str (Str.ofString "ABCMeta") 215 }, { hash := PyData.keyHash P (Str.ofString "__firstlineno__"), key := Value.str (Str.ofString "__firstlineno__") 218, val := Value.int 11 217 }, { hash := PyData.keyHash P (Str.ofString "register"), key := Value.str (Str.ofString "register") 226, val := Value.ref 42 }, { hash := PyData.keyHash P (Str.ofString "__static_attributes__"), key := Value.str (Str.ofString "__static_attributes__") 227, val := Value.ref 43 }] 5 },
  { cls := Value.type "tuple", data := Data.seq #[] },
  { cls := Value.none, data := Data.fields #[Value.int 13 0, Value.int 4 0, Value.ref 41] },
  { cls := Value.type "code", data := Data.fields #[Value.str (Str.ofString "ABCMeta") 209, Value.str (Str.ofString "ABCMeta") 210, Value.str (Str.ofString "/claim/cut.py") 211, Value.int 11 0, Value.int 0 0, Value.int 0 0, Value.int 0 0, Value.int 0 0, Value.ref 32, Value.bool false, Value.int 181 0, Value.ref 33, Value.none, Value.none, Value.none, Value.none, Value.int 212 0, Value.int 11 0, Value.str (Str.ofString "/claim/cut.py") 213] },
  { cls := Value.type "frame", slots := #[some (Value.ref 34), some (Value.ref 3), some (Value.ref 31), none, some (Value.str (Str.ofString "abc") 205), none, some (Value.ref 0)] },
  { cls := Value.type "tuple", data := Data.seq #[] },
  { cls := Value.none, data := Data.fields #[] },
  { cls := Value.type "tuple", data := Data.seq #[Value.str (Str.ofString "cls") 222, Value.str (Str.ofString "subclass") 223] },
  { cls := Value.type "tuple", data := Data.seq #[] },
  fo (nth (cb (st 4)) 0) "ABCMeta.register" (Value.none) 0 (Value.none) (Value.none),
  { cls := Value.type "code", data := Data.fields #[Value.str (Str.ofString "register") 219, Value.str (Str.ofString "ABCMeta.register") 220, Value.str (Str.ofString "/claim/cut.py") 221, Value.int 13 0, Value.int 2 0, Value.int 0 0, Value.int 0 0, Value.int 3 0, Value.ref 36, Value.bool true, Value.int 181 0, Value.ref 37, Value.none, Value.ref 38, Value.ref 39, Value.ref 40, Value.int 224 0, Value.int 13 0, Value.str (Str.ofString "/claim/cut.py") 225] },
  fo (nth (cb (st 4)) 0) "ABCMeta.register" (Value.type "function") 3 (Value.str (Str.ofString "abc") 205) (Value.ref 41),
  { cls := Value.type "tuple", data := Data.seq #[] },
  { cls := Value.type "dict", data := Data.dict #[{ hash := PyData.keyHash P (Str.ofString "__module__"), key := Value.str (Str.ofString "__module__") 214, val := Value.str (Str.ofString "abc") 205 }, { hash := PyData.keyHash P (Str.ofString "__firstlineno__"), key := Value.str (Str.ofString "__firstlineno__") 218, val := Value.int 11 217 }, { hash := PyData.keyHash P (Str.ofString "register"), key := Value.str (Str.ofString "register") 226, val := Value.ref 42 }, { hash := PyData.keyHash P (Str.ofString "__static_attributes__"), key := Value.str (Str.ofString "__static_attributes__") 227, val := Value.ref 43 }, { hash := PyData.keyHash P (Str.ofString "__doc__"), key := Value.str (Str.ofString "__doc__") 228, val := Value.none }] 2 },
  { cls := Value.type "type", data := Data.cls { name := Str.ofString "ABCMeta", bases := [Value.type "type"], mro := [Value.ref 45, Value.type "type", Value.type "object"], ns := 44, qualname := Str.ofString "ABCMeta", subclasses := [Value.ref 78] }, slots := #[some (Value.ref 29), none, some (Value.str (Str.ofString "ABCMeta") 207), some (Value.str (Str.ofString "ABCMeta") 215), some (Value.builtin "type.__new__"), some (Value.bool true)] },
  { cls := Value.type "super", data := Data.fields #[Value.ref 45, Value.ref 45, Value.ref 45] },
  { cls := Value.type "builtin_function_or_method", data := Data.fields #[Value.builtin "object.__init_subclass__", Value.ref 45] },
  { cls := Value.type "tuple", data := Data.seq #[Value.ref 45] },
  { cls := Value.type "builtin_function_or_method", data := Data.fields #[Value.builtin "type.__prepare__", Value.type "type"] },
  { cls := Value.type "dict", data := Data.dict #[{ hash := PyData.keyHash P (Str.ofString "__module__"), key := Value.str (Str.ofString "__module__") 240, val := Value.str (Str.ofString "collections.abc") 231 }, { hash := PyData.keyHash P (Str.ofString "__qualname__"), key := Value.str (Str.ofString "__qualname__") 242, val := Value.str (Str.ofString "_ABCLike") 241 }, { hash := PyData.keyHash P (Str.ofString "__firstlineno__"), key := Value.str (Str.ofString "__firstlineno__") 244, val := Value.int 16 243 }, { hash := PyData.keyHash P (Str.ofString "__instancecheck__"), key := Value.str (Str.ofString "__instancecheck__") 253, val := Value.ref 61 }, { hash := PyData.keyHash P (Str.ofString "__subclasscheck__"), key := Value.str (Str.ofString "__subclasscheck__") 261, val := Value.ref 68 }, { hash := PyData.keyHash P (Str.ofString "register"), key := Value.str (Str.ofString "register") 269, val := Value.ref 75 }, { hash := PyData.keyHash P (Str.ofString "__static_attributes__"), key := Value.str (Str.ofString "__static_attributes__") 270, val := Value.ref 76 }] 7 },
  { cls := Value.type "tuple", data := Data.seq #[] },
  { cls := Value.none, data := Data.fields #[Value.int 18 0, Value.int 4 0, Value.ref 60, Value.int 24 0, Value.int 4 0, Value.ref 67, Value.int 29 0, Value.int 4 0, Value.ref 74] },
  { cls := Value.type "code", data := Data.fields #[Value.str (Str.ofString "_ABCLike") 235, Value.str (Str.ofString "_ABCLike") 236, Value.str (Str.ofString "/claim/cut.py") 237, Value.int 16 0, Value.int 0 0, Value.int 0 0, Value.int 0 0, Value.int 0 0, Value.ref 51, Value.bool false, Value.int 181 0, Value.ref 52, Value.none, Value.none, Value.none, Value.none, Value.int 238 0, Value.int 16 0, Value.str (Str.ofString "/claim/cut.py") 239] },
  { cls := Value.type "frame", slots := #[some (Value.ref 53), some (Value.ref 3), some (Value.ref 50), none, some (Value.str (Str.ofString "collections.abc") 231), none, some (Value.ref 0)] },
  { cls := Value.type "tuple", data := Data.seq #[] },
  { cls := Value.none, data := Data.fields #[] },
  { cls := Value.type "tuple", data := Data.seq #[Value.str (Str.ofString "cls") 248, Value.str (Str.ofString "instance") 249, Value.str (Str.ofString "C") 250] },
  { cls := Value.type "tuple", data := Data.seq #[] },
  fo (nth (cb (st 6)) 0) "_ABCLike.__instancecheck__" (Value.none) 0 (Value.none) (Value.none),
  { cls := Value.type "code", data := Data.fields #[Value.str (Str.ofString "__instancecheck__") 245, Value.str (Str.ofString "_ABCLike.__instancecheck__") 246, Value.str (Str.ofString "/claim/cut.py") 247, Value.int 18 0, Value.int 2 0, Value.int 0 0, Value.int 0 0, Value.int 3 0, Value.ref 55, Value.bool true, Value.int 181 0, Value.ref 56, Value.none, Value.ref 57, Value.ref 58, Value.ref 59, Value.int 251 0, Value.int 18 0, Value.str (Str.ofString "/claim/cut.py") 252] },
  fo (nth (cb (st 6)) 0) "_ABCLike.__instancecheck__" (Value.type "function") 3 (Value.str (Str.ofString "collections.abc") 231) (Value.ref 60),
  { cls := Value.type "tuple", data := Data.seq #[] },
  { cls := Value.none, data := Data.fields #[] },
  { cls := Value.type "tuple", data := Data.seq #[Value.str (Str.ofString "cls") 257, Value.str (Str.ofString "C") 258] },
  { cls := Value.type "tuple", data := Data.seq #[] },
  fo (nth (cb (st 6)) 1) "_ABCLike.__subclasscheck__" (Value.none) 0 (Value.none) (Value.none),
  { cls := Value.type "code", data := Data.fields #[Value.str (Str.ofString "__subclasscheck__") 254, Value.str (Str.ofString "_ABCLike.__subclasscheck__") 255, Value.str (Str.ofString "/claim/cut.py") 256, Value.int 24 0, Value.int 2 0, Value.int 0 0, Value.int 0 0, Value.int 3 0, Value.ref 62, Value.bool true, Value.int 181 0, Value.ref 63, Value.none, Value.ref 64, Value.ref 65, Value.ref 66, Value.int 259 0, Value.int 24 0, Value.str (Str.ofString "/claim/cut.py") 260] },
  fo (nth (cb (st 6)) 1) "_ABCLike.__subclasscheck__" (Value.type "function") 3 (Value.str (Str.ofString "collections.abc") 231) (Value.ref 67),
  { cls := Value.type "tuple", data := Data.seq #[] },
  { cls := Value.none, data := Data.fields #[] },
  { cls := Value.type "tuple", data := Data.seq #[Value.str (Str.ofString "cls") 265, Value.str (Str.ofString "subclass") 266] },
  { cls := Value.type "tuple", data := Data.seq #[] },
  fo (nth (cb (st 6)) 2) "_ABCLike.register" (Value.none) 0 (Value.none) (Value.none),
  { cls := Value.type "code", data := Data.fields #[Value.str (Str.ofString "register") 262, Value.str (Str.ofString "_ABCLike.register") 263, Value.str (Str.ofString "/claim/cut.py") 264, Value.int 29 0, Value.int 2 0, Value.int 0 0, Value.int 0 0, Value.int 3 0, Value.ref 69, Value.bool true, Value.int 181 0, Value.ref 70, Value.none, Value.ref 71, Value.ref 72, Value.ref 73, Value.int 267 0, Value.int 29 0, Value.str (Str.ofString "/claim/cut.py") 268] },
  fo (nth (cb (st 6)) 2) "_ABCLike.register" (Value.type "function") 3 (Value.str (Str.ofString "collections.abc") 231) (Value.ref 74),
  { cls := Value.type "tuple", data := Data.seq #[] },
  { cls := Value.type "dict", data := Data.dict #[{ hash := PyData.keyHash P (Str.ofString "__module__"), key := Value.str (Str.ofString "__module__") 240, val := Value.str (Str.ofString "collections.abc") 231 }, { hash := PyData.keyHash P (Str.ofString "__firstlineno__"), key := Value.str (Str.ofString "__firstlineno__") 244, val := Value.int 16 243 }, { hash := PyData.keyHash P (Str.ofString "__instancecheck__"), key := Value.str (Str.ofString "__instancecheck__") 253, val := Value.ref 61 }, { hash := PyData.keyHash P (Str.ofString "__subclasscheck__"), key := Value.str (Str.ofString "__subclasscheck__") 261, val := Value.ref 68 }, { hash := PyData.keyHash P (Str.ofString "register"), key := Value.str (Str.ofString "register") 269, val := Value.ref 75 }, { hash := PyData.keyHash P (Str.ofString "__static_attributes__"), key := Value.str (Str.ofString "__static_attributes__") 270, val := Value.ref 76 }, { hash := PyData.keyHash P (Str.ofString "__doc__"), key := Value.str (Str.ofString "__doc__") 271, val := Value.none }] 2 },
  { cls := Value.type "type", data := Data.cls { name := Str.ofString "_ABCLike", bases := [Value.ref 45], mro := [Value.ref 78, Value.ref 45, Value.type "type", Value.type "object"], ns := 77, qualname := Str.ofString "_ABCLike" }, slots := #[some (Value.ref 48), none, some (Value.str (Str.ofString "_ABCLike") 233), some (Value.str (Str.ofString "_ABCLike") 241), some (Value.builtin "type.__new__"), some (Value.bool true)] },
  { cls := Value.type "super", data := Data.fields #[Value.ref 78, Value.ref 78, Value.ref 78] },
  { cls := Value.type "builtin_function_or_method", data := Data.fields #[Value.builtin "object.__init_subclass__", Value.ref 78] },
  { cls := Value.type "tuple", data := Data.seq #[] },
  { cls := Value.none, data := Data.fields #[] },
  { cls := Value.type "tuple", data := Data.seq #[Value.str (Str.ofString "C") 277] },
  { cls := Value.type "tuple", data := Data.seq #[] },
  fo (st 7) "_abc_plain_meta" (Value.none) 0 (Value.none) (Value.none),
  { cls := Value.type "code", data := Data.fields #[Value.str (Str.ofString "_abc_plain_meta") 274, Value.str (Str.ofString "_abc_plain_meta") 275, Value.str (Str.ofString "/claim/cut.py") 276, Value.int 31 0, Value.int 1 0, Value.int 0 0, Value.int 0 0, Value.int 3 0, Value.ref 81, Value.bool true, Value.int 181 0, Value.ref 82, Value.none, Value.ref 83, Value.ref 84, Value.ref 85, Value.int 278 0, Value.int 31 0, Value.str (Str.ofString "/claim/cut.py") 279] },
  fo (st 7) "_abc_plain_meta" (Value.type "function") 3 (Value.str (Str.ofString "collections.abc") 231) (Value.ref 86),
  { cls := Value.type "tuple", data := Data.seq #[] },
  { cls := Value.none, data := Data.fields #[] },
  { cls := Value.type "tuple", data := Data.seq #[Value.str (Str.ofString "path") 286, Value.str (Str.ofString "kind") 287, Value.str (Str.ofString "hook") 288, Value.str (Str.ofString "given") 289] },
  { cls := Value.type "tuple", data := Data.seq #[] },
  fo (st 9) "fspath" (Value.none) 0 (Value.none) (Value.none),
  { cls := Value.type "code", data := Data.fields #[Value.str (Str.ofString "fspath") 283, Value.str (Str.ofString "fspath") 284, Value.str (Str.ofString "/claim/cut.py") 285, Value.int 35 0, Value.int 1 0, Value.int 0 0, Value.int 0 0, Value.int 3 0, Value.ref 88, Value.bool true, Value.int 181 0, Value.ref 89, Value.none, Value.ref 90, Value.ref 91, Value.ref 92, Value.int 290 0, Value.int 35 0, Value.str (Str.ofString "/claim/cut.py") 291] },
  fo (st 9) "fspath" (Value.type "function") 3 (Value.str (Str.ofString "os") 281) (Value.ref 93),
  { cls := Value.type "tuple", data := Data.seq #[] },
  { cls := Value.none, data := Data.fields #[] },
  { cls := Value.type "tuple", data := Data.seq #[Value.str (Str.ofString "funcname") 298, Value.str (Str.ofString "args") 299, Value.str (Str.ofString "hasstr") 300, Value.str (Str.ofString "hasbytes") 301, Value.str (Str.ofString "s") 302] },
  { cls := Value.type "tuple", data := Data.seq #[] },
  fo (st 11) "_check_arg_types" (Value.none) 0 (Value.none) (Value.none),
  { cls := Value.type "code", data := Data.fields #[Value.str (Str.ofString "_check_arg_types") 295, Value.str (Str.ofString "_check_arg_types") 296, Value.str (Str.ofString "/claim/cut.py") 297, Value.int 52 0, Value.int 1 0, Value.int 0 0, Value.int 0 0, Value.int 7 0, Value.ref 95, Value.bool true, Value.int 181 0, Value.ref 96, Value.none, Value.ref 97, Value.ref 98, Value.ref 99, Value.int 303 0, Value.int 52 0, Value.str (Str.ofString "/claim/cut.py") 304] },
  fo (st 11) "_check_arg_types" (Value.type "function") 3 (Value.str (Str.ofString "cpy313.genericpath") 293) (Value.ref 100),
  { cls := Value.type "tuple", data := Data.seq #[] },
  { cls := Value.none, data := Data.fields #[] },
  { cls := Value.type "tuple", data := Data.seq #[Value.str (Str.ofString "path") 311] },
  { cls := Value.type "tuple", data := Data.seq #[] },
  fo (st 13) "_get_sep" (Value.none) 0 (Value.none) (Value.none),
  { cls := Value.type "code", data := Data.fields #[Value.str (Str.ofString "_get_sep") 308, Value.str (Str.ofString "_get_sep") 309, Value.str (Str.ofString "/claim/cut.py") 310, Value.int 64 0, Value.int 1 0, Value.int 0 0, Value.int 0 0, Value.int 3 0, Value.ref 102, Value.bool true, Value.int 181 0, Value.ref 103, Value.none, Value.ref 104, Value.ref 105, Value.ref 106, Value.int 312 0, Value.int 64 0, Value.str (Str.ofString "/claim/cut.py") 313] },
  fo (st 13) "_get_sep" (Value.type "function") 3 (Value.str (Str.ofString "cpy313.posixpath") 306) (Value.ref 107),
  { cls := Value.type "tuple", data := Data.seq #[] },
  { cls := Value.none, data := Data.fields #[] },
  { cls := Value.type "tuple", data := Data.seq #[Value.str (Str.ofString "a") 318, Value.str (Str.ofString "p") 319, Value.str (Str.ofString "sep") 320, Value.str (Str.ofString "path") 321, Value.str (Str.ofString "b") 322] },
  { cls := Value.type "tuple", data := Data.seq #[] },
  fo (st 14) "join" (Value.none) 0 (Value.none) (Value.none),
  { cls := Value.type "code", data := Data.fields #[Value.str (Str.ofString "join") 315, Value.str (Str.ofString "join") 316, Value.str (Str.ofString "/claim/cut.py") 317, Value.int 69 0, Value.int 1 0, Value.int 0 0, Value.int 0 0, Value.int 7 0, Value.ref 109, Value.bool true, Value.int 181 0, Value.ref 110, Value.none, Value.ref 111, Value.ref 112, Value.ref 113, Value.int 323 0, Value.int 69 0, Value.str (Str.ofString "/claim/cut.py") 324] },
  fo (st 14) "join" (Value.type "function") 3 (Value.str (Str.ofString "cpy313.posixpath") 306) (Value.ref 114),
  { cls := Value.type "tuple", data := Data.seq #[] },
  { cls := Value.none, data := Data.fields #[] },
  { cls := Value.type "tuple", data := Data.seq #[Value.str (Str.ofString "p") 329, Value.str (Str.ofString "sep") 330, Value.str (Str.ofString "empty") 331] },
  { cls := Value.type "tuple", data := Data.seq #[] },
  fo (st 15) "splitroot" (Value.none) 0 (Value.none) (Value.none),
  { cls := Value.type "code", data := Data.fields #[Value.str (Str.ofString "splitroot") 326, Value.str (Str.ofString "splitroot") 327, Value.str (Str.ofString "/claim/cut.py") 328, Value.int 86 0, Value.int 1 0, Value.int 0 0, Value.int 0 0, Value.int 3 0, Value.ref 116, Value.bool true, Value.int 181 0, Value.ref 117, Value.none, Value.ref 118, Value.ref 119, Value.ref 120, Value.int 332 0, Value.int 86 0, Value.str (Str.ofString "/claim/cut.py") 333] },
  fo (st 15) "splitroot" (Value.type "function") 3 (Value.str (Str.ofString "cpy313.posixpath") 306) (Value.ref 121),
  { cls := Value.type "tuple", data := Data.seq #[] },
  { cls := Value.none, data := Data.fields #[] },
  { cls := Value.type "tuple", data := Data.seq #[Value.str (Str.ofString "p") 338, Value.str (Str.ofString "sep") 339, Value.str (Str.ofString "i") 340, Value.str (Str.ofString "head") 341] },
  { cls := Value.type "tuple", data := Data.seq #[] },
  fo (st 16) "dirname" (Value.none) 0 (Value.none) (Value.none),
  { cls := Value.type "code", data := Data.fields #[Value.str (Str.ofString "dirname") 335, Value.str (Str.ofString "dirname") 336, Value.str (Str.ofString "/claim/cut.py") 337, Value.int 100 0, Value.int 1 0, Value.int 0 0, Value.int 0 0, Value.int 3 0, Value.ref 123, Value.bool true, Value.int 181 0, Value.ref 124, Value.none, Value.ref 125, Value.ref 126, Value.ref 127, Value.int 342 0, Value.int 100 0, Value.str (Str.ofString "/claim/cut.py") 343] },
  fo (st 16) "dirname" (Value.type "function") 3 (Value.str (Str.ofString "cpy313.posixpath") 306) (Value.ref 128),
  { cls := Value.type "tuple", data := Data.seq #[] },
  { cls := Value.none, data := Data.fields #[] },
  { cls := Value.type "tuple", data := Data.seq #[Value.str (Str.ofString "path") 348, Value.str (Str.ofString "sep") 349, Value.str (Str.ofString "dot") 350, Value.str (Str.ofString "dotdot") 351, Value.str (Str.ofString "_") 352, Value.str (Str.ofString "initial_slashes") 353, Value.str (Str.ofString "comps") 354, Value.str (Str.ofString "new_comps") 355, Value.str (Str.ofString "comp") 356] },
  { cls := Value.type "tuple", data := Data.seq #[] },
  fo (st 17) "normpath" (Value.none) 0 (Value.none) (Value.none),
  { cls := Value.type "code", data := Data.fields #[Value.str (Str.ofString "normpath") 345, Value.str (Str.ofString "normpath") 346, Value.str (Str.ofString "/claim/cut.py") 347, Value.int 108 0, Value.int 1 0, Value.int 0 0, Value.int 0 0, Value.int 3 0, Value.ref 130, Value.bool true, Value.int 181 0, Value.ref 131, Value.none, Value.ref 132, Value.ref 133, Value.ref 134, Value.int 357 0, Value.int 108 0, Value.str (Str.ofString "/claim/cut.py") 358] },
  fo (st 17) "normpath" (Value.type "function") 3 (Value.str (Str.ofString "cpy313.posixpath") 306) (Value.ref 135),
  { cls := Value.type "tuple", data := Data.seq #[] },
  { cls := Value.none, data := Data.fields #[] },
  fo (st 18) "commonpath" (Value.none) 0 (Value.none) (Value.none),
  { cls := Value.type "code", data := Data.fields #[Value.str (Str.ofString "commonpath") 360, Value.str (Str.ofString "commonpath") 361, Value.str (Str.ofString "/claim/cut.py") 362, Value.int 133 0, Value.int 1 0, Value.int 0 0, Value.int 0 0, Value.int 3 0, Value.ref 137, Value.bool true, Value.int 181 0, Value.ref 138, Value.none, Value.none, Value.none, Value.ref 139, Value.int 363 0, Value.int 133 0, Value.str (Str.ofString "/claim/cut.py") 364] },
  fo (st 18) "commonpath" (Value.type "function") 3 (Value.str (Str.ofString "cpy313.posixpath") 306) (Value.ref 140),
  { cls := Value.type "tuple", data := Data.seq #[] },
  { cls := Value.none, data := Data.fields #[] },
  { cls := Value.type "tuple", data := Data.seq #[Value.str (Str.ofString "mode") 371] },
  { cls := Value.type "tuple", data := Data.seq #[] },
  fo (st 20) "S_IMODE" (Value.none) 0 (Value.none) (Value.none),
  { cls := Value.type "code", data := Data.fields #[Value.str (Str.ofString "S_IMODE") 368, Value.str (Str.ofString "S_IMODE") 369, Value.str (Str.ofString "/claim/cut.py") 370, Value.int 163 0, Value.int 1 0, Value.int 0 0, Value.int 0 0, Value.int 3 0, Value.ref 142, Value.bool true, Value.int 181 0, Value.ref 143, Value.none, Value.ref 144, Value.ref 145, Value.ref 146, Value.int 372 0, Value.int 163 0, Value.str (Str.ofString "/claim/cut.py") 373] },
  fo (st 20) "S_IMODE" (Value.type "function") 3 (Value.str (Str.ofString "cpy313.stat") 366) (Value.ref 147),
  { cls := Value.type "tuple", data := Data.seq #[] },
  { cls := Value.none, data := Data.fields #[] },
  { cls := Value.type "tuple", data := Data.seq #[Value.str (Str.ofString "mode") 378] },
  { cls := Value.type "tuple", data := Data.seq #[] },
  fo (st 21) "S_IFMT" (Value.none) 0 (Value.none) (Value.none),
  { cls := Value.type "code", data := Data.fields #[Value.str (Str.ofString "S_IFMT") 375, Value.str (Str.ofString "S_IFMT") 376, Value.str (Str.ofString "/claim/cut.py") 377, Value.int 165 0, Value.int 1 0, Value.int 0 0, Value.int 0 0, Value.int 3 0, Value.ref 149, Value.bool true, Value.int 181 0, Value.ref 150, Value.none, Value.ref 151, Value.ref 152, Value.ref 153, Value.int 379 0, Value.int 165 0, Value.str (Str.ofString "/claim/cut.py") 380] },
  fo (st 21) "S_IFMT" (Value.type "function") 3 (Value.str (Str.ofString "cpy313.stat") 366) (Value.ref 154),
  { cls := Value.type "tuple", data := Data.seq #[] },
  { cls := Value.none, data := Data.fields #[] },
  { cls := Value.type "tuple", data := Data.seq #[Value.str (Str.ofString "mode") 399] },
  { cls := Value.type "tuple", data := Data.seq #[] },
  fo (st 29) "S_ISLNK" (Value.none) 0 (Value.none) (Value.none),
  { cls := Value.type "code", data := Data.fields #[Value.str (Str.ofString "S_ISLNK") 396, Value.str (Str.ofString "S_ISLNK") 397, Value.str (Str.ofString "/claim/cut.py") 398, Value.int 174 0, Value.int 1 0, Value.int 0 0, Value.int 0 0, Value.int 3 0, Value.ref 156, Value.bool true, Value.int 181 0, Value.ref 157, Value.none, Value.ref 158, Value.ref 159, Value.ref 160, Value.int 400 0, Value.int 174 0, Value.str (Str.ofString "/claim/cut.py") 401] },
  fo (st 29) "S_ISLNK" (Value.type "function") 3 (Value.str (Str.ofString "cpy313.stat") 366) (Value.ref 161),
  { cls := Value.type "tuple", data := Data.seq #[Value.int 40960 392, Value.str (Str.ofString "l") 427] },
  { cls := Value.type "tuple", data := Data.seq #[Value.int 49152 394, Value.str (Str.ofString "s") 428] },
  { cls := Value.type "tuple", data := Data.seq #[Value.int 32768 388, Value.str (Str.ofString "-") 429] },
  { cls := Value.type "tuple", data := Data.seq #[Value.int 24576 386, Value.str (Str.ofString "b") 430] },
  { cls := Value.type "tuple", data := Data.seq #[Value.int 16384 382, Value.str (Str.ofString "d") 431] },
  { cls := Value.type "tuple", data := Data.seq #[Value.int 8192 384, Value.str (Str.ofString "c") 432] },
  { cls := Value.type "tuple", data := Data.seq #[Value.int 4096 390, Value.str (Str.ofString "p") 433] },
  { cls := Value.type "tuple", data := Data.seq #[Value.ref 163, Value.ref 164, Value.ref 165, Value.ref 166, Value.ref 167, Value.ref 168, Value.ref 169] },
  { cls := Value.type "tuple", data := Data.seq #[Value.int 256 409, Value.str (Str.ofString "r") 434] },
  { cls := Value.type "tuple", data := Data.seq #[Value.ref 171] },
  { cls := Value.type "tuple", data := Data.seq #[Value.int 128 411, Value.str (Str.ofString "w") 435] },
  { cls := Value.type "tuple", data := Data.seq #[Value.ref 173] },
  { cls := Value.type "tuple", data := Data.seq #[Value.int 2112 436, Value.str (Str.ofString "s") 437] },
  { cls := Value.type "tuple", data := Data.seq #[Value.int 2048 403, Value.str (Str.ofString "S") 438] },
  { cls := Value.type "tuple", data := Data.seq #[Value.int 64 413, Value.str (Str.ofString "x") 439] },
  { cls := Value.type "tuple", data := Data.seq #[Value.ref 175, Value.ref 176, Value.ref 177] },
  { cls := Value.type "tuple", data := Data.seq #[Value.int 32 415, Value.str (Str.ofString "r") 440] },
  { cls := Value.type "tuple", data := Data.seq #[Value.ref 179] },
  { cls := Value.type "tuple", data := Data.seq #[Value.int 16 417, Value.str (Str.ofString "w") 441] },
  { cls := Value.type "tuple", data := Data.seq #[Value.ref 181] },
  { cls := Value.type "tuple", data := Data.seq #[Value.int 1032 442, Value.str (Str.ofString "s") 443] },
  { cls := Value.type "tuple", data := Data.seq #[Value.int 1024 405, Value.str (Str.ofString "S") 444] },
  { cls := Value.type "tuple", data := Data.seq #[Value.int 8 419, Value.str (Str.ofString "x") 445] },
  { cls := Value.type "tuple", data := Data.seq #[Value.ref 183, Value.ref 184, Value.ref 185] },
  { cls := Value.type "tuple", data := Data.seq #[Value.int 4 421, Value.str (Str.ofString "r") 446] },
  { cls := Value.type "tuple", data := Data.seq #[Value.ref 187] },
  { cls := Value.type "tuple", data := Data.seq #[Value.int 2 423, Value.str (Str.ofString "w") 447] },
  { cls := Value.type "tuple", data := Data.seq #[Value.ref 189] },
  { cls := Value.type "tuple", data := Data.seq #[Value.int 513 448, Value.str (Str.ofString "t") 449] },
  { cls := Value.type "tuple", data := Data.seq #[Value.int 512 407, Value.str (Str.ofString "T") 450] },
  { cls := Value.type "tuple", data := Data.seq #[Value.int 1 425, Value.str (Str.ofString "x") 451] },
  { cls := Value.type "tuple", data := Data.seq #[Value.ref 191, Value.ref 192, Value.ref 193] },
  { cls := Value.type "tuple", data := Data.seq #[Value.ref 170, Value.ref 172, Value.ref 174, Value.ref 178, Value.ref 180, Value.ref 182, Value.ref 186, Value.ref 188, Value.ref 190, Value.ref 194] },
  { cls := Value.type "tuple", data := Data.seq #[] },
  { cls := Value.none, data := Data.fields #[] },
  { cls := Value.type "tuple", data := Data.seq #[Value.str (Str.ofString "mode") 456, Value.str (Str.ofString "perm") 457, Value.str (Str.ofString "index") 458, Value.str (Str.ofString "table") 459, Value.str (Str.ofString "bit") 460, Value.str (Str.ofString "char") 461] },
  { cls := Value.type "tuple", data := Data.seq #[] },
  fo (st 43) "filemode" (Value.none) 0 (Value.none) (Value.none),
  { cls := Value.type "code", data := Data.fields #[Value.str (Str.ofString "filemode") 453, Value.str (Str.ofString "filemode") 454, Value.str (Str.ofString "/claim/cut.py") 455, Value.int 189 0, Value.int 1 0, Value.int 0 0, Value.int 0 0, Value.int 3 0, Value.ref 196, Value.bool true, Value.int 181 0, Value.ref 197, Value.none, Value.ref 198, Value.ref 199, Value.ref 200, Value.int 462 0, Value.int 189 0, Value.str (Str.ofString "/claim/cut.py") 463] },
  fo (st 43) "filemode" (Value.type "function") 3 (Value.str (Str.ofString "cpy313.stat") 366) (Value.ref 201),
  { cls := Value.type "tuple", data := Data.seq #[] },
  { cls := Value.none, data := Data.fields #[] },
  { cls := Value.type "tuple", data := Data.seq #[Value.str (Str.ofString "numbers") 470, Value.str (Str.ofString "row") 471, Value.str (Str.ofString "number") 472, Value.str (Str.ofString "rest") 473, Value.str (Str.ofString "size") 474] },
  { cls := Value.type "tuple", data := Data.seq #[] },
  fo (st 45) "_law_row" (Value.none) 0 (Value.none) (Value.none),
  { cls := Value.type "code", data := Data.fields #[Value.str (Str.ofString "_law_row") 467, Value.str (Str.ofString "_law_row") 468, Value.str (Str.ofString "/claim/cut.py") 469, Value.int 207 0, Value.int 1 0, Value.int 0 0, Value.int 0 0, Value.int 3 0, Value.ref 203, Value.bool true, Value.int 181 0, Value.ref 204, Value.none, Value.ref 205, Value.ref 206, Value.ref 207, Value.int 475 0, Value.int 207 0, Value.str (Str.ofString "/claim/cut.py") 476] },
  fo (st 45) "_law_row" (Value.type "function") 3 (Value.str (Str.ofString "law_pd0062_01") 465) (Value.ref 208),
  { cls := Value.type "tuple", data := Data.seq #[] },
  { cls := Value.none, data := Data.fields #[] },
  fo (st 46) "_law_way" (Value.none) 0 (Value.none) (Value.none),
  { cls := Value.type "code", data := Data.fields #[Value.str (Str.ofString "_law_way") 478, Value.str (Str.ofString "_law_way") 479, Value.str (Str.ofString "/claim/cut.py") 480, Value.int 217 0, Value.int 2 0, Value.int 0 0, Value.int 0 0, Value.int 3 0, Value.ref 210, Value.bool true, Value.int 181 0, Value.ref 211, Value.none, Value.none, Value.none, Value.ref 212, Value.int 481 0, Value.int 217 0, Value.str (Str.ofString "/claim/cut.py") 482] },
  fo (st 46) "_law_way" (Value.type "function") 3 (Value.str (Str.ofString "law_pd0062_01") 465) (Value.ref 213),
  { cls := Value.type "tuple", data := Data.seq #[] },
  { cls := Value.none, data := Data.fields #[] },
  { cls := Value.type "tuple", data := Data.seq #[Value.str (Str.ofString "mode") 487, Value.str (Str.ofString "text") 488, Value.str (Str.ofString "place") 489, Value.str (Str.ofString "figure") 490, Value.str (Str.ofString "more") 491] },
  { cls := Value.type "tuple", data := Data.seq #[] },
  fo (st 47) "_law_signs" (Value.none) 0 (Value.none) (Value.none),
  { cls := Value.type "code", data := Data.fields #[Value.str (Str.ofString "_law_signs") 484, Value.str (Str.ofString "_law_signs") 485, Value.str (Str.ofString "/claim/cut.py") 486, Value.int 223 0, Value.int 1 0, Value.int 0 0, Value.int 0 0, Value.int 3 0, Value.ref 215, Value.bool true, Value.int 181 0, Value.ref 216, Value.none, Value.ref 217, Value.ref 218, Value.ref 219, Value.int 492 0, Value.int 223 0, Value.str (Str.ofString "/claim/cut.py") 493] },
  fo (st 47) "_law_signs" (Value.type "function") 3 (Value.str (Str.ofString "law_pd0062_01") 465) (Value.ref 220),
  { cls := Value.type "tuple", data := Data.seq #[] },
  { cls := Value.none, data := Data.fields #[] },
  fo (st 48) "_law_deep" (Value.none) 0 (Value.none) (Value.none),
  { cls := Value.type "code", data := Data.fields #[Value.str (Str.ofString "_law_deep") 495, Value.str (Str.ofString "_law_deep") 496, Value.str (Str.ofString "/claim/cut.py") 497, Value.int 231 0, Value.int 1 0, Value.int 0 0, Value.int 0 0, Value.int 3 0, Value.ref 222, Value.bool true, Value.int 181 0, Value.ref 223, Value.none, Value.none, Value.none, Value.ref 224, Value.int 498 0, Value.int 231 0, Value.str (Str.ofString "/claim/cut.py") 499] },
  fo (st 48) "_law_deep" (Value.type "function") 3 (Value.str (Str.ofString "law_pd0062_01") 465) (Value.ref 225),
  { cls := Value.type "tuple", data := Data.seq #[] },
  { cls := Value.none, data := Data.fields #[] },
  { cls := Value.type "tuple", data := Data.seq #[Value.str (Str.ofString "ways") 504, Value.str (Str.ofString "kept") 505, Value.str (Str.ofString "told") 506] },
  { cls := Value.type "tuple", data := Data.seq #[] },
  fo (st 49) "_law_common" (Value.none) 0 (Value.none) (Value.none),
  { cls := Value.type "code", data := Data.fields #[Value.str (Str.ofString "_law_common") 501, Value.str (Str.ofString "_law_common") 502, Value.str (Str.ofString "/claim/cut.py") 503, Value.int 238 0, Value.int 1 0, Value.int 0 0, Value.int 0 0, Value.int 3 0, Value.ref 227, Value.bool true, Value.int 181 0, Value.ref 228, Value.none, Value.ref 229, Value.ref 230, Value.ref 231, Value.int 507 0, Value.int 238 0, Value.str (Str.ofString "/claim/cut.py") 508] },
  fo (st 49) "_law_common" (Value.type "function") 3 (Value.str (Str.ofString "law_pd0062_01") 465) (Value.ref 232),
  { cls := Value.type "tuple", data := Data.seq #[] },
  { cls := Value.none, data := Data.fields #[] },
  { cls := Value.type "tuple", data := Data.seq #[Value.str (Str.ofString "start") 513, Value.str (Str.ofString "goal") 514, Value.str (Str.ofString "plain") 515, Value.str (Str.ofString "below") 516, Value.str (Str.ofString "up") 517, Value.str (Str.ofString "name") 518] },
  { cls := Value.type "tuple", data := Data.seq #[] },
  fo (st 50) "_law_led" (Value.none) 0 (Value.none) (Value.none),
  { cls := Value.type "code", data := Data.fields #[Value.str (Str.ofString "_law_led") 510, Value.str (Str.ofString "_law_led") 511, Value.str (Str.ofString "/claim/cut.py") 512, Value.int 245 0, Value.int 4 0, Value.int 0 0, Value.int 0 0, Value.int 3 0, Value.ref 234, Value.bool true, Value.int 181 0, Value.ref 235, Value.none, Value.ref 236, Value.ref 237, Value.ref 238, Value.int 519 0, Value.int 245 0, Value.str (Str.ofString "/claim/cut.py") 520] },
  fo (st 50) "_law_led" (Value.type "function") 3 (Value.str (Str.ofString "law_pd0062_01") 465) (Value.ref 239),
  { cls := Value.type "tuple", data := Data.seq #[] },
  { cls := Value.none, data := Data.fields #[] },
  fo (st 51) "law" (Value.none) 0 (Value.none) (Value.none),
  { cls := Value.type "code", data := Data.fields #[Value.str (Str.ofString "law") 522, Value.str (Str.ofString "law") 523, Value.str (Str.ofString "/claim/cut.py") 524, Value.int 252 0, Value.int 1 0, Value.int 0 0, Value.int 0 0, Value.int 3 0, Value.ref 241, Value.bool true, Value.int 181 0, Value.ref 242, Value.none, Value.none, Value.none, Value.ref 243, Value.int 525 0, Value.int 252 0, Value.str (Str.ofString "/claim/cut.py") 526] },
  fo (st 51) "law" (Value.type "function") 3 (Value.str (Str.ofString "law_pd0062_01") 465) (Value.ref 244)] }
theorem hd.size (w : World) : ((boot_heap w.params).isNs mainGlobals && (Array.mk [] : Array GenState).size == 0, (boot_heap w.params).objs.size, (boot_heap w.params).nsMap mainGlobals "__annotations__") = (true, 11, some (Value.ref 6)) := by kernel_rfl
theorem hd.run (w : World) (os : OsState) : topRun treeTable pw w 11 (some (Value.ref 6)) 3314 ⟨boot_heap w.params, Array.mk [], boot_drawn, boot_toks, os⟩ (topStub pw) = some ⟨hd.h1 w.params, Array.mk [], {}, 528, os⟩ := by
  rw [PySem.W.Fast.te14082659384304107361, PySem.W.Fast.te14364793385576792824]; kernel_rfl
theorem andT {a b : Bool} (ha : a = true) (hb : b = true) : (a && b) = true := by rw [ha, hb]; rfl
theorem prT {α β : Type} {a a' : α} {b b' : β} (x : a = a') (y : b = b') : (a, b) = (a', b') := by rw [x, y]
theorem hd.behind (w : World) (os : OsState) : (staticsOk (importedModules pw.main.body) (boot_heap w.params) (hd.h1 w.params) && namesBound pw (hd.h1 w.params) && gensDone ⟨hd.h1 w.params, Array.mk [], {}, 528, os⟩ && laidKept (boot_heap w.params) (hd.h1 w.params)) = true :=
  andT (andT (andT (by as_aux_lemma => kernel_rfl) (by as_aux_lemma => kernel_rfl)) (by as_aux_lemma => kernel_rfl)) (by as_aux_lemma => kernel_rfl)
theorem hd.seen (w : World) (os : OsState) : openSeen hd.view_39 [Str.ofString "_filemode_table"] (importedModules pw.main.body) (xlAt hd.view_39 []) true ⟨hd.h1 w.params, Array.mk [], {}, 528, os⟩ = openGood hd.view_39 [Str.ofString "_filemode_table"] := by
  rw [PySem.W.Fast.te4187177175401517315]
  delta PySem.W.Fast.tw4187177175401517315 openGood
  refine prT ?_ (prT ?_ (prT ?_ (prT ?_ (prT ?_ (prT ?_ (prT ?_ (prT ?_ ?_)))))))
  all_goals (as_aux_lemma => kernel_rfl)
theorem hd.obs (w : World) (os : OsState) : Hook.obs hd.hook ⟨hd.h1 w.params, Array.mk [], {}, 528, os⟩ = Hook.val hd.hook w := by kernel_rfl
theorem hd.left : LeftO pw hd.view_39 [Str.ofString "_filemode_table"] (xlAt hd.view_39 []) (Hook.obs hd.hook) (Hook.val hd.hook) 3314 :=
  LeftO.of_pieces hd.op hd.size hd.run (by rfl) fun w => funext fun os => prT (hd.behind w os) (prT (hd.seen w os) (hd.obs w os))
theorem hd.looks : PySem.W.Fast.tw12908688711261696721 pw = true := by
  delta PySem.W.Fast.tw12908688711261696721
  repeat' with_reducible refine andT ?_ ?_
  all_goals (as_aux_lemma => kernel_rfl)
theorem hd.part : PySem.W.Fast.tw17960256430627541270 (PySem.W.Fast.tw2368527892694137696 PySem.Challenge.rw_pd0062_01) = true := by
  delta PySem.W.Fast.tw17960256430627541270 PySem.W.Fast.tw2436336058641802641
  repeat' with_reducible refine andT ?_ ?_
  · exact hd.looks
  all_goals kernel_rfl
theorem hd.said : PySem.Challenge.rw_pd0062_01.wellSaid = true := by
  rw [PySem.W.Fast.te9446332074065402090]
  delta PySem.W.Fast.tw9446332074065402090
  repeat' with_reducible refine andT ?_ ?_
  · exact hd.part
  all_goals (as_aux_lemma => kernel_rfl)
theorem hd.top {d : DefRec} {kwd : List (Str × Expr)} (e : defOf hd.view_39 PySem.Challenge.rw_pd0062_01.row.name = some (d, kwd)) (hp : pw.theDef PySem.Challenge.rw_pd0062_01.row.name = some (d.params, d.body, d.scope))
    (hk : kwWritten? d.params.kwonlyargs d.params.kw_defaults = some kwd)
    (call : WalkO hd.view_39 [Str.ofString "_filemode_table"] (XL hd.view_39 []) (kHook hd.heap_39 hd.adrs hd.adrs_ok).says PySem.Challenge.rw_pd0062_01.row.toRowW d kwd fun f vs => PySem.call f vs) : PySem.Challenge.rw_pd0062_01.Holds := by
  refine holds_law hd.said fun said => ?_
  refine holds_open (q := hd.view_39) (loose := [Str.ofString "_filemode_table"]) (Xt := xlAt hd.view_39 []) (XP := XL hd.view_39 []) (Yf := Hook.obs hd.hook) (Ya := Hook.val hd.hook) (YP := Hook.says hd.hook) (N := 3314) hd.left (Hook.of hd.hook) (Hook.keeps hd.hook) (fun s e => xl_of s e) XL.keeps e hp hk (fun s _ => recFacts_of (by rfl)) (by rfl) said (by decide +kernel) ⟨rfl, rfl, rfl, rfl, rfl, by decide +kernel⟩ ?hw call
  case hw => w_witness2
end Mine
end
section
open PySem PySem.Spec PySem.Calls PySem.W PyProof.Rows
namespace Mine

noncomputable abbrev lz : List Str := looseW hd.view_39 [Str.ofString "_filemode_table"]

structure Ok (w : World) (mean : ExcName → Option Value) (mg mb : Str → Option Value) (h : Heap) : Prop where
  X : (hd.heap_39 w.params).In h
  T : Top hd.view_39 lz mean mg mb h
theorem Ok.keeps {w mean mg mb} {h h' : Heap} (O : Ok w mean mg mb h) (k : h.StaysIn h') : Ok w mean mg mb h' := ⟨O.X.keeps k, O.T.keeps k⟩

/-- what stands around a call, at a depth and a room in C of our own choice -/
noncomputable abbrev Ar (d u : Nat) (gd : Option (List Code)) (outer : List Env) : Around := { handled := none, depth := d, frames := some outer, guards := gd, units := u }

theorem ar_le {α : Type} {M : Model} {A : Around} {t : Sem α} {Q : α → Shared → Prop} {E : Value → Shared → Prop} {s : Shared} {d u : Nat} {outer : List Env}
    (hh : A.handled = none) (hf : A.frames = some outer) (hd : A.depth ≤ d) (hu : A.units ≤ u) (h : wpAny M (Ar d u A.guards outer) t Q E s) : wpAny M A t Q E s :=
  fun Γ p hΓ => h Γ p ⟨hΓ.1.trans hh, Nat.le_trans hΓ.2.1 hd, fun l hl => hΓ.2.2.1 l (hf.trans hl), hΓ.2.2.2.1, Nat.le_trans hΓ.2.2.2.2 hu⟩

noncomputable def Meets (d u : Nat) (prog : Program) (w : World) (f : Addr) (vs : List Value) (s : Shared) (Post : Value → Heap → Prop) : Prop :=
  ∀ (base : Heap) (outer : List Env) (gd : Option (List Code)) (Q E : Value → Shared → Prop), Below (Ar d u gd outer) base outer s.heap →
    (∀ v h' tk', s.heap.StaysIn h' → Post v h' → Q v { s with heap := h', toks := tk' }) → wpAny (model prog w) (Ar d u gd outer) (call (.ref f) vs) Q E s

theorem enter {prog : Program} {w : World} {A : Around} {s : Shared} {R : Result → Shared → Prop} {name qual : Str} {params : Arguments} {body : List Stmt} {scope : Scope}
    {dV kV doc pm cdv ct oc : Value} {an od : Option Addr} {osl : Array (Option Value)} {f : Addr} {args : Args} {binds : List (Str × Value)} {mean : ExcName → Option Value} {mg mb : Str → Option Value}
    (O : Ok w mean mg mb s.heap)
    (ho : (hd.heap_39 w.params).lookup f = some ⟨oc, od, .func (fnOf name qual params body scope dV kV doc pm an cdv ct), osl⟩) (hcd : codeIn (hd.heap_39 w.params) cdv qual = true) (hroom : A.depth < recursionLimit)
    (hbind : BindsTo s (fnOf name qual params body scope dV kV doc pm an cdv ct) args binds) (hloc : ∀ y ∈ binds, scope.names.lookup y.1 = some .local)
    (h : ∀ L' h₁, Fr s.heap L' h₁ (fun y => binds.reverse.lookup y) → News s.heap L' h₁ [] →
      wpAny (model prog w) (A.deeper (envOf qual scope L' f cdv)) (execs body (envOf qual scope L' f cdv))
        (fun fl s' => R (.ok (.ret (match fl with | .ret v => v | _ => .none))) s')
        (fun e s' => wpAny (model prog w) (A.deeper (envOf qual scope L' f cdv)) (leaving (envOf qual scope L' f cdv) e) (fun _ s'' => R (.error e) s'') (fun e' s'' => R (.error e') s'') s')
        { s with heap := h₁, toks := s.toks + binds.length })
    (hco : scope.isCoroutine = false) (hgen : scope.isGenerator = false) (hk : scope.kind = .function)
    (hcell : ∀ x ∈ scope.names, x.2 ≠ .cell) : codeAny (model prog w) A (.call (.ref f) args) R s := by
  refine codeAny_call_def (fd := fnOf name qual params body scope dV kV doc pm an cdv ct) (body := body) (binds := binds) hroom (O.X _ _ ho) rfl O.T.nolimit (codeRec_of O.X hcd) rfl hbind hcell hloc (fun h₁ hns hk₁ => ?_) hco hgen hk
  exact h _ h₁ ⟨hns, hk₁, Nat.le_refl _⟩ News.nil

theorem enterC {prog : Program} {w : World} {A : Around} {s : Shared} {R : Result → Shared → Prop} {name qual : Str} {params : Arguments} {body : List Stmt} {scope : Scope}
    {dV kV doc pm cdv ct oc : Value} {an od : Option Addr} {osl : Array (Option Value)} {f : Addr} {args : Args} {binds : List (Str × Value)} {mean : ExcName → Option Value} {mg mb : Str → Option Value}
    (O : Ok w mean mg mb s.heap)
    (ho : (hd.heap_39 w.params).lookup f = some ⟨oc, od, .func (fnOf name qual params body scope dV kV doc pm an cdv ct), osl⟩) (hcd : codeIn (hd.heap_39 w.params) cdv qual = true) (hroom : A.depth < recursionLimit)
    (hbind : BindsTo s (fnOf name qual params body scope dV kV doc pm an cdv ct) args binds) (hkind : (binds.all fun y => scope.names.lookup y.1 == some .local || scope.names.lookup y.1 == some .cell) = true)
    (hnd : ((cellsFrom 0 scope.names []).map (·.1)).Nodup)
    (h : ∀ L' h₁ tk cells, Fr s.heap L' h₁ (bindL (envOfC qual scope L' f cdv).kindOf binds fun _ => none) → News s.heap L' h₁ cells →
      CellsAre (bindC (envOfC qual scope L' f cdv).kindOf binds fun _ => none) (cellsFrom (L' + 1) scope.names []) cells →
      wpAny (model prog w) (A.deeper (envOfC qual scope L' f cdv)) (execs body (envOfC qual scope L' f cdv))
        (fun fl s' => R (.ok (.ret (match fl with | .ret v => v | _ => .none))) s')
        (fun e s' => wpAny (model prog w) (A.deeper (envOfC qual scope L' f cdv)) (leaving (envOfC qual scope L' f cdv) e) (fun _ s'' => R (.error e) s'') (fun e' s'' => R (.error e') s'') s')
        { s with heap := h₁, toks := tk })
    (hco : scope.isCoroutine = false) (hgen : scope.isGenerator = false) (hk : scope.kind = .function) : codeAny (model prog w) A (.call (.ref f) args) R s := by
  refine codeAny_call_function hroom (O.X _ _ ho) rfl hco hgen rfl (codeRec_of O.X hcd) (hbind _ _ _ _ ?_)
  refine wpAny_newFunctionEnv_cells hk (kindsX hkind _) fun env' he s' x => ?_
  subst he
  refine ⟨O.T.nolimit.keeps x.toInCall.keep, codeAny_func ?_⟩
  obtain ⟨h₁, tk, rfl, _⟩ := x.done
  have hk₁ := x.toInCall.keep
  obtain ⟨cells, NC, Y⟩ := Cl.news (h₀ := s.heap) (Nat.le_refl _) fun n c hm => ⟨x.cell n c (lookup_of_mem_nodup (cellsFrom_names scope.names 0 (s.heap.objs.size + 1) [] [] rfl ▸ hnd) hm), x.above n c hm⟩
  exact h s.heap.objs.size h₁ tk cells ⟨x.toInCall.ns, hk₁, Nat.le_refl _⟩ NC Y

theorem enter0 {prog : Program} {w : World} {A : Around} {s : Shared} {Q E : Value → Shared → Prop} {name qual : Str} {params : Arguments} {body : List Stmt} {scope : Scope}
    {dV kV doc pm cdv ct oc : Value} {an od : Option Addr} {osl : Array (Option Value)} {f : Addr} {vs : List Value} {binds : List (Str × Value)} {mean : ExcName → Option Value} {mg mb : Str → Option Value}
    (O : Ok w mean mg mb s.heap)
    (ho : (hd.heap_39 w.params).lookup f = some ⟨oc, od, .func (fnOf name qual params body scope dV kV doc pm an cdv ct), osl⟩) (hcd : codeIn (hd.heap_39 w.params) cdv qual = true) (hroom : A.depth < recursionLimit)
    (hbind : BindsTo s (fnOf name qual params body scope dV kV doc pm an cdv ct) ⟨vs, []⟩ binds) (hloc : ∀ y ∈ binds, scope.names.lookup y.1 = some .local)
    (h : ∀ L' h₁, Fr s.heap L' h₁ (fun y => binds.reverse.lookup y) → News s.heap L' h₁ [] →
      wpAny (model prog w) (A.deeper (envOf qual scope L' f cdv)) (execs body (envOf qual scope L' f cdv))
        (fun fl s' => Q (match fl with | .ret v => v | _ => .none) s') (fun _ _ => False) { s with heap := h₁, toks := s.toks + binds.length })
    (hco : scope.isCoroutine = false) (hgen : scope.isGenerator = false) (hk : scope.kind = .function)
    (hcell : ∀ x ∈ scope.names, x.2 ≠ .cell) : wpAny (model prog w) A (call (.ref f) vs) Q E s :=
  wpAny_call (enter O ho hcd hroom hbind hloc (fun L' h₁ F N => wpAny_mono (h L' h₁ F N) (fun _ _ x => x) (fun _ _ x => x.elim)) hco hgen hk hcell)

theorem enterC0 {prog : Program} {w : World} {A : Around} {s : Shared} {Q E : Value → Shared → Prop} {name qual : Str} {params : Arguments} {body : List Stmt} {scope : Scope}
    {dV kV doc pm cdv ct oc : Value} {an od : Option Addr} {osl : Array (Option Value)} {f : Addr} {vs : List Value} {binds : List (Str × Value)} {mean : ExcName → Option Value} {mg mb : Str → Option Value}
    (O : Ok w mean mg mb s.heap)
    (ho : (hd.heap_39 w.params).lookup f = some ⟨oc, od, .func (fnOf name qual params body scope dV kV doc pm an cdv ct), osl⟩) (hcd : codeIn (hd.heap_39 w.params) cdv qual = true) (hroom : A.depth < recursionLimit)
    (hbind : BindsTo s (fnOf name qual params body scope dV kV doc pm an cdv ct) ⟨vs, []⟩ binds) (hkind : (binds.all fun y => scope.names.lookup y.1 == some .local || scope.names.lookup y.1 == some .cell) = true)
    (hnd : ((cellsFrom 0 scope.names []).map (·.1)).Nodup)
    (h : ∀ L' h₁ tk cells, Fr s.heap L' h₁ (bindL (envOfC qual scope L' f cdv).kindOf binds fun _ => none) → News s.heap L' h₁ cells →
      CellsAre (bindC (envOfC qual scope L' f cdv).kindOf binds fun _ => none) (cellsFrom (L' + 1) scope.names []) cells →
      wpAny (model prog w) (A.deeper (envOfC qual scope L' f cdv)) (execs body (envOfC qual scope L' f cdv))
        (fun fl s' => Q (match fl with | .ret v => v | _ => .none) s') (fun _ _ => False) { s with heap := h₁, toks := tk })
    (hco : scope.isCoroutine = false) (hgen : scope.isGenerator = false) (hk : scope.kind = .function) : wpAny (model prog w) A (call (.ref f) vs) Q E s :=
  wpAny_call (enterC O ho hcd hroom hbind hkind hnd (fun L' h₁ tk cells F N Y => wpAny_mono (h L' h₁ tk cells F N Y) (fun _ _ x => x) (fun _ _ x => x.elim)) hco hgen hk)
end Mine
end
section
open PySem PySem.Spec PySem.Calls PySem.W PyProof.Rows
namespace Mine
set_option maxRecDepth 100000

theorem issub_nested {prog : Program} {w : World} {A : Around} {s : Shared} {k : Value} {Q : Fin → Shared → Prop} {E : Value → Shared → Prop} {dep : Int} {tk : Tok} (hk : k = .int dep tk) (hself : isSubtype (.type "str") (.type "str") = pure true) (hq : Q (.done (.ret (.bool true))) s) :
    wpAny (model prog w) A (Builtin.«issubclass.nested» ⟨[.type "str", .type "str", k], []⟩) Q E s := by
  subst hk
  have hm : typeOf (.type "str") = pure (.type "type") := by rfl
  repeat (any_goals (first | assumption | (rw [hself]) | wp_step))

theorem issub_nestedT {prog : Program} {w : World} {A : Around} {s : Shared} {Q : Fin → Shared → Prop} {E : Value → Shared → Prop} {tk : Tok} {tp : Addr} {cs : List Value} (hcs : cs = [.type "str", .type "bytes"]) (hself : isSubtype (.type "str") (.type "str") = pure true)
    (htp : s.heap.get? tp = some { cls := .type "tuple", data := .seq cs.toArray }) (hq : Q (.done (.ret (.bool true))) s) :
    wpAny (model prog w) A (Builtin.«issubclass.nested» ⟨[.type "str", .ref tp, .int 0 tk], []⟩) Q E s := by
  obtain ⟨h, g, d, t, os⟩ := s
  have hT2 : (⟨h, g, d, t, os⟩ : Shared).TypeIs (.ref tp) "tuple" := ⟨_, htp, rfl⟩
  have f1 := F.isi_sub_tuple
  repeat (any_goals (first | assumption | wp_step))
  refine wpAny_arrayLoop ?_
  simp only [Option.getD_some, List.toList_toArray]
  subst hcs
  rw [List.forIn_cons]
  refine wpAny_bind (wpAny_bind ?_)
  refine call_function_meets (by decide +kernel) (by decide +kernel) F.entry_issubclass_nested (by unfold argsOk; kernel_rfl) (S := fun _ R s' => s' = ⟨h, g, d, t, os⟩ ∧ R (.ok (.ret (.bool true))) s') (fun _ _ _ _ _ hs => issub_nested rfl hself hs.2) ⟨rfl, ?_⟩
  show wpAny _ _ (truthy (.bool true) >>= _) _ _ _
  refine wpAny_bind (m := truthy (.bool true)) (wpAny_pure ?_)
  refine wpAny_bind (wpAny_pure (wpAny_pure (wpAny_pure ?_)))
  repeat (any_goals (first | assumption | wp_step))

theorem issub_call {prog : Program} {w : World} {A : Around} {s : Shared} {Q E : Value → Shared → Prop} {tp : Addr} 
    (htp : s.heap.get? tp = some { cls := .type "tuple", data := .seq #[.type "str", .type "bytes"] }) (hq : Q (.bool true) s) :
    wpAny (model prog w) A (call (.builtin "issubclass") [.type "str", .ref tp]) Q E s := by
  refine call_issubclass (S := fun _ R s => s.heap.get? tp = some { cls := .type "tuple", data := .seq #[.type "str", .type "bytes"] } ∧ R (.ok (.ret (.bool true))) s) (fun _ _ _ _ _ hs => issubclass_outer (issub_nestedT rfl ?_ hs.1 hs.2)) ⟨htp, hq⟩
  rw [isSubtype_type]; kernel_rfl

theorem below_at {A : Around} {base h : Heap} {l : List Env} {d u : Nat} {gd : Option (List Code)} (B : Below A base l h) : Below (Ar d u gd l) base l h := ⟨rfl, B.stays, B.frames⟩

theorem use_meets {d u : Nat} {prog : Program} {w : World} {A₀ A : Around} {base h₀ : Heap} {outer : List Env} {env : Env} {L : Addr} {m : Str → Option Value} {news : List (Addr × Obj)} {f : Addr} {vs : List Value} {s : Shared} {Post : Value → Heap → Prop} {Q E : Value → Shared → Prop}
    (C : Meets d u prog w f vs s Post) (B : Below A₀ base outer h₀) (F : Fr h₀ L s.heap m) (N : News h₀ L s.heap news) (hA : A.frames = some (env :: outer)) (hf : env.frame = some L) (hk : env.scope.kind = .function) (hh : A.handled = none) (hd : A.depth ≤ d) (hu : A.units ≤ u)
    (h : ∀ v h' tk', Post v h' → s.heap.StaysIn h' → Fr h₀ L h' m → News h₀ L h' news → Q v { s with heap := h', toks := tk' }) : wpAny (model prog w) A (call (.ref f) vs) Q E s :=
  ar_le hh hA hd hu (C base (env :: outer) A.guards Q E (below_at (pushX B F hf hk)) fun v h' tk' st p => h v h' tk' p st (F.keeps st) (N.keepsAll st))
end Mine
end
section
open PySem PySem.Spec PySem.Calls PySem.W PyProof.Rows
namespace Mine
set_option maxRecDepth 100000
section
variable {prog : Program} {w : World} {A : Around} {E : Value → Shared → Prop} {s : Shared} {Q : Value → Shared → Prop}
theorem fd {a c : Int} {t u : Tok} (hc : 0 < c ∧ c < 1000000) (h : ∀ t' k, Q (.int (a / c) t') { s with toks := k }) : wpAny (model prog w) A (binaryOp .FloorDiv (.int a t) (.int c u)) Q E s := by
  refine floordiv_int (by omega) ?_ (Or.inl (PyProof.noPylong_small (by omega)))
  rw [Int.fdiv_eq_ediv_of_nonneg _ (by omega)]; exact h _ _
theorem md {a c : Int} {t u : Tok} (hc : 0 < c ∧ c < 1000000) (h : ∀ t' k, Q (.int (a % c) t') { s with toks := k }) : wpAny (model prog w) A (binaryOp .Mod (.int a t) (.int c u)) Q E s := by
  refine mod_int' (by omega) ?_
  rw [Int.fmod_eq_emod_of_nonneg _ (by omega)]; exact h _ _
theorem itemAt {value slice : PySem.Expr} {x : Str} {i : Int} {t u : Tok} {n : Nat} (hk : x.length = n) (h0 : 0 ≤ i) (h1 : i < (n : Int)) (hn : n ≤ 100) (h : ∀ t' k, Q (.str (Txt.item x i) t') { s with toks := k })
    (hs : subscripted slice false (.str x t) (.int i u) = operate [.str x t, .int i u] (getItem (.str x t) (.int i u)) := by with_unfolding_all rfl)
    (ht : ∀ r, letTemporaryGo value (.str x t) r = pure () := by intro _; with_unfolding_all rfl) :
    wpAny (model prog w) A (subscriptTail value slice (.str x t) (.int i u)) Q E s :=
  item_str (fitsSsize_of (N := 9223372036854775808) (by omega) (by omega) (Int.le_refl _)) (by omega) (by omega) (fun _ => h _ _) hs ht
end
end Mine
end
section
open PySem PySem.Spec PySem.Calls PySem.W PyProof.Rows
namespace Mine
set_option maxRecDepth 100000
theorem fill : PySem.Challenge.rw_pd0062_01.prog = PySem.Challenge.rw_pd0062_01.prog → hd.heap_39 = hd.heap_39 := by k_fill; intros; rfl
variable {prog : Program} {w : World} {s : Shared} {mean : ExcName → Option Value} {mg mb : Str → Option Value}
set_option maxHeartbeats 4000000
local macro_rules | `(tactic| walk_at "execs cons") => `(tactic| (k_here; refine wpAny_execs_cons ?_; k_fold))
local macro_rules | `(tactic| walk_at "execs nil") => `(tactic| (k_here; refine wpAny_execs_nil ?_))
local macro_rules | `(tactic| walk_at "call builtin:issubclass") => `(tactic| (k_here; k_dflt (refine' issub_call ?k1 ?_; (case k1 => exact News.get (by k_asm) (by k_mem)); k_whole)))

noncomputable abbrev SL : Str := Str.ofString "/"
noncomputable def rootF (x : Str) : Str × Str :=
  if (Txt.slice x none (some 1) != SL) = true then (Str.ofString "", x)
  else if (Txt.slice x (some 1) (some 2) != SL) = true then (SL, Txt.slice x (some 1) none)
  else if (Txt.slice x (some 2) (some 3) == SL) = true then (SL, Txt.slice x (some 1) none)
  else (Txt.slice x none (some 2), Txt.slice x (some 2) none)
noncomputable def headF (x : Str) : Str := Txt.slice x none (some (Txt.rfind x SL + 1))
noncomputable def dirF (x : Str) : Str :=
  if ((headF x).length : Int) = 0 then headF x
  else if (headF x != Txt.mul SL (headF x).length) = true then Txt.rstripChars (headF x) SL
  else headF x
noncomputable def sg (i : Int) : Str :=
  Txt.item (Str.ofString "?pc?d?b?-?l?s???") (i / 4096) ++
  (Txt.item (Str.ofString "-r") (i / 64 % 8 / 4) ++ Txt.item (Str.ofString "-w") (i / 64 % 8 / 2 % 2)) ++
  Txt.item (Str.ofString "-xSs") (2 * (i / 2048 % 2) + i / 64 % 8 % 2) ++
  (Txt.item (Str.ofString "-r") (i / 8 % 8 / 4) ++ Txt.item (Str.ofString "-w") (i / 8 % 8 / 2 % 2)) ++
  Txt.item (Str.ofString "-xSs") (2 * (i / 1024 % 2) + i / 8 % 8 % 2) ++
  (Txt.item (Str.ofString "-r") (i / 1 % 8 / 4) ++ Txt.item (Str.ofString "-w") (i / 1 % 8 / 2 % 2)) ++
  Txt.item (Str.ofString "-xTt") (2 * (i / 512 % 2) + i / 1 % 8 % 2)
noncomputable abbrev IsT (h : Heap) (T : Addr) (vs : List Value) : Prop := h.get? T = some { cls := .type "tuple", data := .seq vs.toArray }
theorem str_end {x y : Str} {t : Tok} (e : y = x) : ∃ t', Value.str y t = .str x t' := ⟨t, by rw [e]⟩
theorem root_end {h : Heap} {T : Addr} {b c x : Str} {t1 t2 t3 : Tok} (e : IsT h T [.str (Str.ofString "") t1, .str b t2, .str c t3]) (h1 : rootF x = (b, c)) :
    ∃ T' t1 t2 t3, Value.ref T = .ref T' ∧ IsT h T' [.str (Str.ofString "") t1, .str (rootF x).1 t2, .str (rootF x).2 t3] := ⟨T, t1, t2, t3, rfl, by rw [h1]; exact e⟩
theorem c_fspath (O : Ok w mean mg mb s.heap) (x : Str) (t : Tok) : Meets 900 9000 prog w 94 [.str x t] s (fun v _ => v = .str x t) := by
  intro base outer gd Q E B hQ
  have X := O.X
  have T := O.T
  (k_dflt (refine' enter0 (binds := [(Str.ofString "path", .str x t)]) O ?k6 ?k7 ?k8 ?k9 ?kB ?_ ?c2 ?c3 ?c4 ?c5; (case k6 => k_is); (case k7 => k_is); (case k8 => exact Nat.le_of_ble_eq_true rfl); (case k9 => exact BindsTo.of_eq rfl); (case kB => exact locs rfl); (case c2 => exact rfl); (case c3 => exact rfl); (case c4 => exact rfl); (case c5 => decide)))
  intro L' h' F' N'
  (try dsimp only)
  k_fold
  k_steps
  exact hQ _ _ _ (Fr.keep (by assumption)) rfl

local macro_rules | `(tactic| walk_at "call ref") => `(tactic| (k_here; (with_reducible show wpAny _ _ (call (Value.ref 94) [Value.str _ _]) _ _ _); k_dflt (refine' use_meets (c_fspath (Ok.keeps (by assumption) (Fr.keep (by assumption))) _ _) ?k1 ?k2 ?k3 ?k4 ?k5 ?k6 ?k7 ?k8 ?k9 ?_; (case k1 => assumption); (case k2 => assumption); (case k3 => assumption); (case k4 => exact rfl); (case k5 => exact rfl); (case k6 => exact rfl); (case k7 => exact rfl); (case k8 => exact Nat.le_of_ble_eq_true rfl); (case k9 => exact Nat.le_of_ble_eq_true rfl); k_whole); intro v' h' tk' e' st' F' N'; subst e'; (try k_sweep)))
theorem c_getsep (O : Ok w mean mg mb s.heap) (x : Str) (t : Tok) : Meets 900 9000 prog w 108 [.str x t] s (fun v _ => ∃ t', v = .str SL t') := by
  intro base outer gd Q E B hQ
  have X := O.X
  have T := O.T
  (k_dflt (refine' enter0 (binds := [(Str.ofString "path", .str x t)]) O ?k6 ?k7 ?k8 ?k9 ?kB ?_ ?c2 ?c3 ?c4 ?c5; (case k6 => k_is); (case k7 => k_is); (case k8 => exact Nat.le_of_ble_eq_true rfl); (case k9 => exact BindsTo.of_eq rfl); (case kB => exact locs rfl); (case c2 => exact rfl); (case c3 => exact rfl); (case c4 => exact rfl); (case c5 => decide)))
  intro L' h' F' N'
  (try dsimp only)
  k_fold
  k_steps
  exact hQ _ _ _ (Fr.keep (by assumption)) ⟨_, rfl⟩

local macro_rules | `(tactic| walk_at "call ref") => `(tactic| (k_here; (with_reducible show wpAny _ _ (call (Value.ref 108) [Value.str _ _]) _ _ _); k_dflt (refine' use_meets (c_getsep (Ok.keeps (by assumption) (Fr.keep (by assumption))) _ _) ?k1 ?k2 ?k3 ?k4 ?k5 ?k6 ?k7 ?k8 ?k9 ?_; (case k1 => assumption); (case k2 => assumption); (case k3 => assumption); (case k4 => exact rfl); (case k5 => exact rfl); (case k6 => exact rfl); (case k7 => exact rfl); (case k8 => exact Nat.le_of_ble_eq_true rfl); (case k9 => exact Nat.le_of_ble_eq_true rfl); k_whole); intro v' h' tk' e' st' F' N'; obtain ⟨t', e'⟩ := e'; subst e'; (try k_sweep)))
theorem c_splitroot (O : Ok w mean mg mb s.heap) (x : Str) (t : Tok) (hx : x.length ≤ 1048576) : Meets 800 8000 prog w 122 [.str x t] s (fun v h => ∃ T t1 t2 t3, v = .ref T ∧ IsT h T [.str (Str.ofString "") t1, .str (rootF x).1 t2, .str (rootF x).2 t3]) := by
  intro base outer gd Q E B hQ
  have X := O.X
  have T := O.T
  (k_dflt (refine' enter0 (binds := [(Str.ofString "p", .str x t)]) O ?k6 ?k7 ?k8 ?k9 ?kB ?_ ?c2 ?c3 ?c4 ?c5; (case k6 => k_is); (case k7 => k_is); (case k8 => exact Nat.le_of_ble_eq_true rfl); (case k9 => exact BindsTo.of_eq rfl); (case kB => exact locs rfl); (case c2 => exact rfl); (case c3 => exact rfl); (case c4 => exact rfl); (case c5 => decide)))
  intro L' h' F' N'
  (try dsimp only)
  k_fold
  k_steps
  · exact hQ _ _ _ (Fr.keep (by assumption)) (root_end (News.get (by assumption) (List.Mem.head _)) (by rw [rootF, if_pos (by assumption)]))
  · exact hQ _ _ _ (Fr.keep (by assumption)) (root_end (News.get (by assumption) (List.Mem.head _)) (by rw [rootF, if_neg (by simp [*]), if_pos (by assumption)]))
  · exact hQ _ _ _ (Fr.keep (by assumption)) (root_end (News.get (by assumption) (List.Mem.head _)) (by rw [rootF, if_neg (by simp [*]), if_neg (by simp [*]), if_pos (by assumption)]))
  · exact hQ _ _ _ (Fr.keep (by assumption)) (root_end (News.get (by assumption) (List.Mem.head _)) (by rw [rootF, if_neg (by simp [*]), if_neg (by simp [*]), if_neg (by simp [*])]))

theorem c_dirname (O : Ok w mean mg mb s.heap) (x : Str) (t : Tok) (hx : x.length ≤ 1048576) : Meets 800 8000 prog w 129 [.str x t] s (fun v _ => ∃ t', v = .str (dirF x) t') := by
  intro base outer gd Q E B hQ
  have X := O.X
  have T := O.T
  (k_dflt (refine' enter0 (binds := [(Str.ofString "p", .str x t)]) O ?k6 ?k7 ?k8 ?k9 ?kB ?_ ?c2 ?c3 ?c4 ?c5; (case k6 => k_is); (case k7 => k_is); (case k8 => exact Nat.le_of_ble_eq_true rfl); (case k9 => exact BindsTo.of_eq rfl); (case kB => exact locs rfl); (case c2 => exact rfl); (case c3 => exact rfl); (case c4 => exact rfl); (case c5 => decide)))
  intro L' h' F' N'
  (try dsimp only)
  k_fold
  k_steps
  · exact hQ _ _ _ (Fr.keep (by assumption)) (str_end (by rw [dirF, if_neg (by assumption), if_pos (by assumption)]; rfl))
  · exact hQ _ _ _ (Fr.keep (by assumption)) (str_end (by rw [dirF, if_neg (by assumption), if_neg (by simp only [headF]; simp [*])]; rfl))
  · exact hQ _ _ _ (Fr.keep (by assumption)) (str_end (by rw [dirF, if_pos (by assumption)]; rfl))


section
local macro_rules | `(tactic| walk_at "binaryOp FloorDiv int int") => `(tactic| (k_here; refine fd (by decide) ?_; intro _ _))
local macro_rules | `(tactic| walk_at "binaryOp Mod int int") => `(tactic| (k_here; refine md (by decide) ?_; intro _ _))
local macro_rules | `(tactic| walk_at "subscriptTail") => `(tactic| (k_here; (with_reducible show wpAny _ _ (subscriptTail _ _ (Value.str _ _) (Value.int _ _)) _ _ _); (refine itemAt (by kxi_len) (by omega) (by omega) (by decide) ?_); intro _ _))
local macro_rules | `(tactic| walk_at "binaryOp Add str str") => `(tactic| (k_here; (refine add_str ?_ (hsz := ?hz)); (case hz => (simp only [Str.length_append, len_item]; decide)); intro _ _))
local macro_rules | `(tactic| walk_at "inplaceOp Add str str") => `(tactic| (k_here; (refine iadd_str ?_ (hsz := ?hz)); (case hz => (simp only [Str.length_append, len_item]; decide)); intro _ _))
theorem c_signs (O : Ok w mean mg mb s.heap) (i : Int) (t : Tok) (h0 : 0 ≤ i) (h1 : i < 65536) : Meets 900 9000 prog w 221 [.int i t] s (fun v _ => ∃ t', v = .str (sg i) t') := by
  intro base outer gd Q E B hQ
  have X := O.X
  have T := O.T
  (k_dflt (refine' enter0 (binds := [(Str.ofString "mode", .int i t)]) O ?k6 ?k7 ?k8 ?k9 ?kB ?_ ?c2 ?c3 ?c4 ?c5; (case k6 => k_is); (case k7 => k_is); (case k8 => exact Nat.le_of_ble_eq_true rfl); (case k9 => exact BindsTo.of_eq rfl); (case kB => exact locs rfl); (case c2 => exact rfl); (case c3 => exact rfl); (case c4 => exact rfl); (case c5 => decide)))
  intro L' h' F' N'
  (try dsimp only)
  k_fold
  k_steps
  exact hQ _ _ _ (Fr.keep (by assumption)) ⟨_, rfl⟩

end
end Mine
end
section
open PySem PySem.Spec PySem.Calls PySem.W PyProof.Rows
namespace Mine
set_option maxRecDepth 100000

noncomputable abbrev NoE : Value → Shared → Prop := fun _ _ => False

/-- the end of a loop's turn -/
noncomputable def TEnd (s : Shared) (h₀ : Heap) (L : Addr) (own : List (Addr × Obj)) (nxt : (Str → Option Value) → List (Addr × Obj) → Prop) (Q : Flow → Shared → Prop) (f : Flow) (s₃ : Shared) : Prop :=
  match f with
  | .ret v => Q (.ret v) s₃
  | .brk => Q .next s₃
  | _ => ∃ h' tk' m' news' led, s₃ = { s with heap := h', toks := tk' } ∧ Fr h₀ L h' m' ∧ News h₀ L h' led ∧ (∀ p ∈ own, p ∈ led) ∧ (∀ p ∈ news', p ∈ led) ∧ nxt m' news'

section
variable {prog : Program} {w : World} {A : Around} {s : Shared} {env : Env} {h₀ : Heap} {target : PySem.Expr} {body orelse : List Stmt} {Q : Flow → Shared → Prop}

theorem for_J {I : Addr} {fp wr : List Addr} {n : Nat} {P Md : Nat → Value → Heap → Prop} {St : Nat → Heap → Prop} {m : Str → Option Value} {news : List (Addr × Obj)}
    (W : KTurns prog w A target I fp wr n P Md St) (hLf : env.locals ∉ fp) (hwr : ∀ b ∈ wr, h₀.get? b = none) (hnw : ∀ p ∈ news, p.1 ∉ wr) (hst : St 0 s.heap)
    (F : Fr h₀ env.locals s.heap m) (N : News h₀ env.locals s.heap news) (J : Nat → (Str → Option Value) → List (Addr × Obj) → Prop) (h0 : J 0 m news)
    (step : ∀ i v m₁ news₁ h₁ tk₁ own, i < n → P i v h₁ → J i m₁ news₁ → news₁.map (·.1) = news.map (·.1) → (∀ p ∈ own, p.1 ∈ fp) → Fr h₀ env.locals h₁ m₁ → News h₀ env.locals h₁ (news₁ ++ own) →
      wpAny (model prog w) A (assign target env v) (fun _ s₂ => wpAny (model prog w) A (execs body env) (TEnd s h₀ env.locals own (fun m' nx => nx.map (·.1) = news.map (·.1) ∧ J (i + 1) m' nx) Q) NoE s₂) NoE { s with heap := h₁, toks := tk₁ })
    (done : ∀ h tk m' news', J n m' news' → Fr h₀ env.locals h m' → News h₀ env.locals h news' → wpAny (model prog w) A (execs orelse env) Q NoE { s with heap := h, toks := tk }) :
    codeAny (model prog w) A (.forLoop target (.ref I) body orelse env) (fun r s' => match r with | .ok f => Q f s' | .error e => cameBackBy (model prog w) A env NoE e s') s := by
  have hLw : env.locals ∉ wr := fun h => hLf (W.sub _ h)
  have old : ∀ b o, h₀.get? b = some o → b ∉ wr := fun b o e hb => by rw [hwr b hb] at e; cases e
  have nE : ∀ {α : Type} {t : Sem α} {Q' : α → Shared → Prop} {E' : Value → Shared → Prop} {s' : Shared}, wpAny (model prog w) A t Q' NoE s' → wpAny (model prog w) A t Q' E' s' := fun h => wpAny_mono h (fun _ _ x => x) fun _ _ x => x.elim
  refine codeAny_forLoop_any
    (fun k s' => ∃ h' tk m' news' i, s' = { s with heap := h', toks := tk } ∧ St i h' ∧ Fr h₀ env.locals h' m' ∧ News h₀ env.locals h' news' ∧ news'.map (·.1) = news.map (·.1) ∧ J i m' news' ∧ i ≤ n ∧ k = n + 1 - i) ?_ (n + 1)
    ⟨s.heap, s.toks, m, news, 0, rfl, hst, F, N, rfl, h0, Nat.zero_le _, rfl⟩
  rintro k s' ⟨h', tk, m', news', i, rfl, hst', F', N', ha', hJ, hi, rfl⟩
  have hnw' : ∀ p ∈ news', p.1 ∉ wr := fun p hp => by
    have h1 : p.1 ∈ news'.map (·.1) := List.mem_map_of_mem hp
    rw [ha'] at h1
    obtain ⟨q, hq, e⟩ := List.mem_map.mp h1
    exact e ▸ hnw q hq
  have next : ∀ h₁ : Heap, (∀ b o, b ∉ wr → h'.get? b = some o → h₁.get? b = some o) → Fr h₀ env.locals h₁ m' ∧ News h₀ env.locals h₁ news' := fun h₁ hk₁ =>
    ⟨⟨F'.ns.at' fun o e => hk₁ _ o hLw e, fun b o e => hk₁ b o (old b o e) (F'.keep b o e), F'.above⟩, fun p hp => ⟨hk₁ _ _ (hnw' p hp) (N' p hp).1, (N' p hp).2⟩⟩
  by_cases hlt : i < n
  · refine W.item i _ _ _ hlt hst' fun v h₁ tk₁ hM hk₁ => W.go i v _ _ _ hM fun h₂ hP hst₂ hk₂ => ?_
    obtain ⟨F₂, N₂⟩ := next h₂ fun b o hb e => hk₂ b o hb (hk₁ b o hb e)
    have Nown : News h₀ env.locals h₂ (ownOf h₀ fp h₂) := news_ownOf hLf
    refine nE (wpAny_mono (step i v m' news' h₂ tk₁ (ownOf h₀ fp h₂) hlt hP hJ ha' ownOf_sub F₂ (fun p hp => (List.mem_append.mp hp).elim (N₂ p) (Nown p))) (fun _ s₂ h₂' => nE (wpAny_mono h₂' (fun f s₃ h₃ => ?_) fun _ _ e => e)) fun _ _ e => e)
    have fin : (∃ h' tk' m' news'' led, s₃ = { s with heap := h', toks := tk' } ∧ Fr h₀ env.locals h' m' ∧ News h₀ env.locals h' led ∧ (∀ p ∈ ownOf h₀ fp h₂, p ∈ led) ∧ (∀ p ∈ news'', p ∈ led) ∧ (news''.map (·.1) = news.map (·.1) ∧ J (i + 1) m' news'')) →
        ∃ k, k < n + 1 - i ∧ ∃ h' tk m' news' i, s₃ = { s with heap := h', toks := tk } ∧ St i h' ∧ Fr h₀ env.locals h' m' ∧ News h₀ env.locals h' news' ∧ news'.map (·.1) = news.map (·.1) ∧ J i m' news' ∧ i ≤ n ∧ k = n + 1 - i := by
      rintro ⟨h₃', tk₃, m₃, news₃, led, rfl, F₃, N₃, ho₃, hn₃, ha₃, hJ₃⟩
      refine ⟨n + 1 - (i + 1), by omega, h₃', tk₃, m₃, news₃, i + 1, rfl, ?_, F₃, fun p hp => N₃ p (hn₃ p hp), ha₃, hJ₃, hlt, rfl⟩
      refine W.frame _ _ _ hst₂ fun b hb o e => ?_
      cases hn : h₀.get? b with
      | some o₀ =>
        have : o₀ = o := by have := F₂.keep b o₀ hn; rw [e] at this; exact (Option.some.inj this).symm
        exact this ▸ F₃.keep b o₀ hn
      | none => exact (N₃ _ (ho₃ _ (mem_ownOf hb hn e))).1
    cases f with
    | ret v => exact h₃
    | brk => exact h₃
    | cont => exact fin h₃
    | next => exact fin h₃
  · have hin : i = n := by omega
    subst hin
    refine W.done _ _ _ hst' fun h₁ tk₁ hk₁ => ?_
    obtain ⟨F₁, N₁⟩ := next h₁ hk₁
    exact nE (done h₁ tk₁ m' news' hJ F₁ N₁)

theorem it_list {l : Addr} {vs : List Value} {m : Str → Option Value} {news : List (Addr × Obj)} (J : Nat → (Str → Option Value) → List (Addr × Obj) → Prop) (hh : A.handled = none)
    (hl : s.heap.IsList l vs.toArray) (hlL : l ≠ env.locals) (F : Fr h₀ env.locals s.heap m) (N : News h₀ env.locals s.heap news) (h0 : J 0 m news)
    (step : ∀ i v m₁ news₁ h₁ tk₁ own, vs[i]? = some v → J i m₁ news₁ → news₁.map (·.1) = news.map (·.1) → (∀ p ∈ own, p.1 = l ∨ p.1 ∉ news.map (·.1)) → Fr h₀ env.locals h₁ m₁ → News h₀ env.locals h₁ (news₁ ++ own) →
      wpAny (model prog w) A (assign target env v) (fun _ s₂ => wpAny (model prog w) A (execs body env) (TEnd s h₀ env.locals own (fun m' nx => nx.map (·.1) = news.map (·.1) ∧ J (i + 1) m' nx) Q) NoE s₂) NoE { s with heap := h₁, toks := tk₁ })
    (done : ∀ h tk m' news', J vs.length m' news' → Fr h₀ env.locals h m' → News h₀ env.locals h news' → wpAny (model prog w) A (execs orelse env) Q NoE { s with heap := h, toks := tk }) :
    wpAny (model prog w) A (pyIter (.ref l)) (fun it s₂ => codeAny (model prog w) A (.forLoop target it body orelse env) (fun r s' => match r with | .ok f => Q f s' | .error e => cameBackBy (model prog w) A env NoE e s') s₂) NoE s := by
  obtain ⟨ol, hol, _⟩ := id hl
  have hlt : l < s.heap.objs.size := Heap.lt_size hol
  have hne : l ≠ s.heap.objs.size := Nat.ne_of_lt hlt
  refine wpAny_pyIter_list hl ?_
  have W : KTurns prog w A target s.heap.objs.size _ _ _ _ _ _ := KTurns.ofWalks (Walks.list hh s.heap.objs.size l hne vs.toArray) fun i v s Q E st q => letGo_listiter st.1 q
  refine for_J (s := { s with heap := _ }) (n := vs.toArray.size) W ?_ (fun b hb => ?_) (fun p hp hI => ?_) ⟨⟨_, Heap.get?_push_size _ rfl, rfl, rfl⟩, hl.at fun o e => Heap.get?_push_of_some _ e⟩ (F.push _) (fun p hp => ⟨Heap.get?_push_of_some _ (N p hp).1, (N p hp).2⟩) J h0 ?_ ?_
  · intro hI
    rcases List.mem_cons.mp hI with e | hI
    · exact absurd F.ns.lt (e ▸ Nat.lt_irrefl _)
    · exact hlL (List.mem_singleton.mp hI).symm
  · rw [List.mem_singleton.mp hb]; exact next_is_new F
  · exact absurd (Heap.lt_size (N p hp).1) ((List.mem_singleton.mp hI) ▸ Nat.lt_irrefl _)
  · intro i v m₁ news₁ h₁ tk₁ own hi hP hJ ha hown F₁ N₁
    have hP' : vs.toArray[i]? = some v := hP
    refine step i v m₁ news₁ h₁ tk₁ own (by simpa using hP') hJ ha (fun p hp => ?_) F₁ N₁
    rcases List.mem_cons.mp (hown p hp) with e | e
    · refine .inr fun hq => ?_
      obtain ⟨q, hq, e'⟩ := List.mem_map.mp hq
      exact absurd (Heap.lt_size (N q hq).1) (by rw [e', e]; exact Nat.lt_irrefl _)
    · exact .inl (List.mem_singleton.mp e)
  · intro h tk m' news' hJ F' N'
    exact done h tk m' news' (by simpa using hJ) F' N'

theorem it_tuple {l : Addr} {vs : List Value} {m : Str → Option Value} {news : List (Addr × Obj)} (J : Nat → (Str → Option Value) → List (Addr × Obj) → Prop) (hh : A.handled = none)
    (hl : s.heap.IsTuple l vs.toArray) (hlL : l ≠ env.locals) (F : Fr h₀ env.locals s.heap m) (N : News h₀ env.locals s.heap news) (h0 : J 0 m news)
    (step : ∀ i v m₁ news₁ h₁ tk₁ own, vs[i]? = some v → J i m₁ news₁ → news₁.map (·.1) = news.map (·.1) → (∀ p ∈ own, p.1 = l ∨ p.1 ∉ news.map (·.1)) → Fr h₀ env.locals h₁ m₁ → News h₀ env.locals h₁ (news₁ ++ own) →
      wpAny (model prog w) A (assign target env v) (fun _ s₂ => wpAny (model prog w) A (execs body env) (TEnd s h₀ env.locals own (fun m' nx => nx.map (·.1) = news.map (·.1) ∧ J (i + 1) m' nx) Q) NoE s₂) NoE { s with heap := h₁, toks := tk₁ })
    (done : ∀ h tk m' news', J vs.length m' news' → Fr h₀ env.locals h m' → News h₀ env.locals h news' → wpAny (model prog w) A (execs orelse env) Q NoE { s with heap := h, toks := tk }) :
    wpAny (model prog w) A (pyIter (.ref l)) (fun it s₂ => codeAny (model prog w) A (.forLoop target it body orelse env) (fun r s' => match r with | .ok f => Q f s' | .error e => cameBackBy (model prog w) A env NoE e s') s₂) NoE s := by
  obtain ⟨ol, hol, _⟩ := id hl
  have hlt : l < s.heap.objs.size := Heap.lt_size hol
  have hne : l ≠ s.heap.objs.size := Nat.ne_of_lt hlt
  refine wpAny_pyIter_tuple hl ?_
  have W : KTurns prog w A target s.heap.objs.size _ _ _ _ _ _ := KTurns.ofWalks (Walks.tuple hh s.heap.objs.size l hne vs.toArray) fun i v s Q E st q => letGo_tupleiter st.1 q
  refine for_J (s := { s with heap := _ }) (n := vs.toArray.size) W ?_ (fun b hb => ?_) (fun p hp hI => ?_) ⟨⟨_, Heap.get?_push_size _ rfl, rfl, rfl⟩, hl.at fun o e => Heap.get?_push_of_some _ e⟩ (F.push _) (fun p hp => ⟨Heap.get?_push_of_some _ (N p hp).1, (N p hp).2⟩) J h0 ?_ ?_
  · intro hI
    rcases List.mem_cons.mp hI with e | hI
    · exact absurd F.ns.lt (e ▸ Nat.lt_irrefl _)
    · exact hlL (List.mem_singleton.mp hI).symm
  · rw [List.mem_singleton.mp hb]; exact next_is_new F
  · exact absurd (Heap.lt_size (N p hp).1) ((List.mem_singleton.mp hI) ▸ Nat.lt_irrefl _)
  · intro i v m₁ news₁ h₁ tk₁ own hi hP hJ ha hown F₁ N₁
    have hP' : vs.toArray[i]? = some v := hP
    refine step i v m₁ news₁ h₁ tk₁ own (by simpa using hP') hJ ha (fun p hp => ?_) F₁ N₁
    rcases List.mem_cons.mp (hown p hp) with e | e
    · refine .inr fun hq => ?_
      obtain ⟨q, hq, e'⟩ := List.mem_map.mp hq
      exact absurd (Heap.lt_size (N q hq).1) (by rw [e', e]; exact Nat.lt_irrefl _)
    · exact .inl (List.mem_singleton.mp e)
  · intro h tk m' news' hJ F' N'
    exact done h tk m' news' (by simpa using hJ) F' N'
end
end Mine
end
section
open PySem PySem.Spec PySem.Calls PySem.W PyProof.Rows
namespace Mine
set_option maxRecDepth 100000



section
variable {prog : Program} {w : World} {A : Around} {s : Shared} {env : Env} {Q : Flow → Shared → Prop}
theorem try0 {body orelse : List Stmt} {h₀ : ExceptHandler} {hs : List ExceptHandler} {pos : Pos}
    (h : wpAny (model prog w) A (execs body env) (fun f s₁ => match f with | .next => wpAny (model prog w) A (execs orelse env) Q NoE s₁ | f => Q f s₁) NoE s) :
    wpAny (model prog w) A (exec (.Try body (h₀ :: hs) orelse [] pos) env) Q NoE s := wpAny_Try_except (wpAny_mono h (fun _ _ x => x) fun _ _ x => x.elim)
end

noncomputable def AEnd (s : Shared) (h₀ : Heap) (L : Addr) (need : List (Addr × Obj)) (x y v : Str) (m : Str → Option Value) (f : Flow) (s₃ : Shared) : Prop :=
  f = .next ∧ ∃ h' tk' m' led t', s₃ = { s with heap := h', toks := tk' } ∧ Fr h₀ L h' m' ∧ News h₀ L h' led ∧ (∀ p ∈ need, p ∈ led) ∧ m' y = some (.str v t') ∧ ∀ z, z ≠ x → z ≠ y → m' z = m z
theorem AEnd.intro {s : Shared} {h₀ : Heap} {L : Addr} {need : List (Addr × Obj)} {x y v v' : Str} {m : Str → Option Value} {h' : Heap} {tk' : Nat} {m' : Str → Option Value} {led : List (Addr × Obj)} {t' : Tok}
    (F' : Fr h₀ L h' m') (N' : News h₀ L h' led) (hall : ∀ p ∈ need, p ∈ led) (hy : m' y = some (.str v' t')) (e : v' = v) (hm : ∀ z, z ≠ x → z ≠ y → m' z = m z) :
    AEnd s h₀ L need x y v m .next { s with heap := h', toks := tk' } := ⟨rfl, h', tk', m', led, t', rfl, F', N', hall, by rw [hy, e], hm⟩

section
variable {prog : Program} {w : World} {A : Around} {s : Shared} {env : Env} {h₀ : Heap} {body orelse : List Stmt} {Q : Flow → Shared → Prop}
theorem fold_step {ps : List (Str × Tok)} (g : Str → Str → Str) (a₀ : Str) {i : Nat} (hlt : i < ps.length) :
    ((ps.take (i + 1)).map (·.1)).foldl g a₀ = g (((ps.take i).map (·.1)).foldl g a₀) ps[i].1 := by
  rw [List.take_add_one, List.getElem?_eq_getElem hlt]
  simp only [Option.toList_some, List.map_append, List.map_cons, List.map_nil, List.foldl_append, List.foldl_cons, List.foldl_nil]
theorem m_form {m m₀ : Str → Option Value} {x y : Str} {v u : Value} (hy : m y = some u) (hm : ∀ z, z ≠ x → z ≠ y → m z = m₀ z) :
    (fun z => if z = x then some v else m z) = fun z => if z = x then some v else if z = y then some u else m₀ z := by
  funext z
  by_cases h1 : z = x
  · simp [h1]
  · simp only [if_neg h1]
    by_cases h2 : z = y
    · subst h2; simp [hy]
    · simp only [if_neg h2]; exact hm z h1 h2

theorem acc_tup {x y : Str} {px : Pos} {l : Addr} {ps : List (Str × Tok)} {m : Str → Option Value} {news : List (Addr × Obj)} {a₀ : Str} {t₀ : Tok} (g : Str → Str → Str) (hx : env.kindOf x = some .local)
    (hp : (env.scope.kind == .class || (env.scope.kind == .module && env.locals != env.globals)) = false) (hh : A.handled = none)
    (hl : s.heap.IsTuple l (strValues ps).toArray) (hlL : l ≠ env.locals) (F : Fr h₀ env.locals s.heap m) (N : News h₀ env.locals s.heap news) (hy : m y = some (.str a₀ t₀))
    (turn : ∀ i b tb a ta h tk own, ps[i]? = some (b, tb) → a = ((ps.take i).map (·.1)).foldl g a₀ → Fr h₀ env.locals h (fun z => if z = x then some (.str b tb) else if z = y then some (.str a ta) else m z) → News h₀ env.locals h (news ++ own) →
      wpAny (model prog w) A (execs body env) (AEnd s h₀ env.locals (news ++ own) x y (g a b) m) NoE { s with heap := h, toks := tk })
    (done : ∀ h tk u t', Fr h₀ env.locals h (fun z => if z = x then u else if z = y then some (.str ((ps.map (·.1)).foldl g a₀) t') else m z) → News h₀ env.locals h news → wpAny (model prog w) A (execs orelse env) Q NoE { s with heap := h, toks := tk }) :
    wpAny (model prog w) A (pyIter (.ref l)) (fun it s₂ => codeAny (model prog w) A (.forLoop (.Name x px) it body orelse env) (fun r s' => match r with | .ok f => Q f s' | .error e => cameBackBy (model prog w) A env NoE e s') s₂) NoE s := by
  refine it_tuple (vs := strValues ps) (fun i m' nx => nx = news ∧ (∃ t, m' y = some (.str (((ps.take i).map (·.1)).foldl g a₀) t)) ∧ ∀ z, z ≠ x → z ≠ y → m' z = m z) hh hl hlL F N ⟨rfl, ⟨t₀, by simpa using hy⟩, fun _ _ _ => rfl⟩ ?_ ?_
  · rintro i v m₁ news₁ h₁ tk₁ own hv ⟨rfl, ⟨ta, ha⟩, hm⟩ _ _ F₁ N₁
    have hlt : i < ps.length := by
      rcases Nat.lt_or_ge i ps.length with h | h
      · exact h
      · rw [List.getElem?_eq_none (by simpa [strValues] using h)] at hv; cases hv
    have hv' : v = .str ps[i].1 ps[i].2 := by
      have : (strValues ps)[i]? = some (.str ps[i].1 ps[i].2) := by simp [strValues, hlt]
      rw [this] at hv; exact (Option.some.inj hv).symm
    subst hv'
    refine wpAny_assign_Name (wpAny_storeName_local hx F₁.ns (fun h₂ hn₂ hs₂ => ?_) hp)
    have F₂ := F₁.set hn₂ hs₂
    rw [m_form ha hm] at F₂
    refine wpAny_mono (turn i ps[i].1 ps[i].2 _ ta h₂ (tk₁ + 1) own (by simp [hlt]) rfl F₂ (N₁.set hs₂)) ?_ fun _ _ e => e
    rintro f s₃ ⟨rfl, h', tk', m', led, t', rfl, F', N', hall, hy', hm'⟩
    refine ⟨h', tk', m', news₁, led, rfl, F', N', fun p hp => hall p (List.mem_append_right _ hp), fun p hp => hall p (List.mem_append_left _ hp), rfl, rfl, ⟨t', ?_⟩, hm'⟩
    rw [hy', fold_step g a₀ hlt]
  · rintro h tk m' news' ⟨rfl, ⟨t, ht⟩, hm⟩ F' N'
    have ht' : m' y = some (.str ((ps.map (·.1)).foldl g a₀) t) := by rw [ht]; simp [strValues]
    have e : m' = fun z => if z = x then m' x else if z = y then some (.str ((ps.map (·.1)).foldl g a₀) t) else m z := by
      funext z
      by_cases h1 : z = x
      · simp [h1]
      · simp only [if_neg h1]
        by_cases h2 : z = y
        · subst h2; simp [ht']
        · simp only [if_neg h2]; exact hm z h1 h2
    rw [e] at F'
    exact done h tk (m' x) t F' N'

theorem acc_lst {x y : Str} {px : Pos} {l : Addr} {ps : List (Str × Tok)} {m : Str → Option Value} {news : List (Addr × Obj)} {a₀ : Str} {t₀ : Tok} (g : Str → Str → Str) (hx : env.kindOf x = some .local)
    (hp : (env.scope.kind == .class || (env.scope.kind == .module && env.locals != env.globals)) = false) (hh : A.handled = none)
    (hl : s.heap.IsList l (strValues ps).toArray) (hlL : l ≠ env.locals) (F : Fr h₀ env.locals s.heap m) (N : News h₀ env.locals s.heap news) (hy : m y = some (.str a₀ t₀))
    (turn : ∀ i b tb a ta h tk own, ps[i]? = some (b, tb) → a = ((ps.take i).map (·.1)).foldl g a₀ → Fr h₀ env.locals h (fun z => if z = x then some (.str b tb) else if z = y then some (.str a ta) else m z) → News h₀ env.locals h (news ++ own) →
      wpAny (model prog w) A (execs body env) (AEnd s h₀ env.locals (news ++ own) x y (g a b) m) NoE { s with heap := h, toks := tk })
    (done : ∀ h tk u t', Fr h₀ env.locals h (fun z => if z = x then u else if z = y then some (.str ((ps.map (·.1)).foldl g a₀) t') else m z) → News h₀ env.locals h news → wpAny (model prog w) A (execs orelse env) Q NoE { s with heap := h, toks := tk }) :
    wpAny (model prog w) A (pyIter (.ref l)) (fun it s₂ => codeAny (model prog w) A (.forLoop (.Name x px) it body orelse env) (fun r s' => match r with | .ok f => Q f s' | .error e => cameBackBy (model prog w) A env NoE e s') s₂) NoE s := by
  refine it_list (vs := strValues ps) (fun i m' nx => nx = news ∧ (∃ t, m' y = some (.str (((ps.take i).map (·.1)).foldl g a₀) t)) ∧ ∀ z, z ≠ x → z ≠ y → m' z = m z) hh hl hlL F N ⟨rfl, ⟨t₀, by simpa using hy⟩, fun _ _ _ => rfl⟩ ?_ ?_
  · rintro i v m₁ news₁ h₁ tk₁ own hv ⟨rfl, ⟨ta, ha⟩, hm⟩ _ _ F₁ N₁
    have hlt : i < ps.length := by
      rcases Nat.lt_or_ge i ps.length with h | h
      · exact h
      · rw [List.getElem?_eq_none (by simpa [strValues] using h)] at hv; cases hv
    have hv' : v = .str ps[i].1 ps[i].2 := by
      have : (strValues ps)[i]? = some (.str ps[i].1 ps[i].2) := by simp [strValues, hlt]
      rw [this] at hv; exact (Option.some.inj hv).symm
    subst hv'
    refine wpAny_assign_Name (wpAny_storeName_local hx F₁.ns (fun h₂ hn₂ hs₂ => ?_) hp)
    have F₂ := F₁.set hn₂ hs₂
    rw [m_form ha hm] at F₂
    refine wpAny_mono (turn i ps[i].1 ps[i].2 _ ta h₂ (tk₁ + 1) own (by simp [hlt]) rfl F₂ (N₁.set hs₂)) ?_ fun _ _ e => e
    rintro f s₃ ⟨rfl, h', tk', m', led, t', rfl, F', N', hall, hy', hm'⟩
    refine ⟨h', tk', m', news₁, led, rfl, F', N', fun p hp => hall p (List.mem_append_right _ hp), fun p hp => hall p (List.mem_append_left _ hp), rfl, rfl, ⟨t', ?_⟩, hm'⟩
    rw [hy', fold_step g a₀ hlt]
  · rintro h tk m' news' ⟨rfl, ⟨t, ht⟩, hm⟩ F' N'
    have ht' : m' y = some (.str ((ps.map (·.1)).foldl g a₀) t) := by rw [ht]; simp [strValues]
    have e : m' = fun z => if z = x then m' x else if z = y then some (.str ((ps.map (·.1)).foldl g a₀) t) else m z := by
      funext z
      by_cases h1 : z = x
      · simp [h1]
      · simp only [if_neg h1]
        by_cases h2 : z = y
        · subst h2; simp [ht']
        · simp only [if_neg h2]; exact hm z h1 h2
    rw [e] at F'
    exact done h tk (m' x) t F' N'
end
theorem enterV0 {prog : Program} {w : World} {A : Around} {s : Shared} {Q E : Value → Shared → Prop} {name qual : Str} {params : Arguments} {body : List Stmt} {scope : Scope}
    {dV kV doc pm cdv ct oc : Value} {an od : Option Addr} {osl : Array (Option Value)} {f : Addr} {vs rest : List Value} {binds : Value → List (Str × Value)} {mean : ExcName → Option Value} {mg mb : Str → Option Value}
    (O : Ok w mean mg mb s.heap)
    (ho : (hd.heap_39 w.params).lookup f = some ⟨oc, od, .func (fnOf name qual params body scope dV kV doc pm an cdv ct), osl⟩) (hcd : codeIn (hd.heap_39 w.params) cdv qual = true) (hroom : A.depth < recursionLimit)
    (hbind : bindArgs (fnOf name qual params body scope dV kV doc pm an cdv ct) ⟨vs, []⟩ = (do let t ← newTuple rest; pure (binds t))) (hsz : rest.length ≤ sizeLine) (hloc : ∀ v, ∀ y ∈ binds v, scope.names.lookup y.1 = some .local)
    (h : ∀ D g L' h₁ tk, s.heap.StaysIn g → g.get? D = some { cls := .type "tuple", data := .seq rest.toArray } → Fr g L' h₁ (fun y => (binds (.ref D)).reverse.lookup y) → News g L' h₁ [] →
      wpAny (model prog w) (A.deeper (envOf qual scope L' f cdv)) (execs body (envOf qual scope L' f cdv))
        (fun fl s' => Q (match fl with | .ret v => v | _ => .none) s') NoE { s with heap := h₁, toks := tk })
    (hco : scope.isCoroutine = false) (hgen : scope.isGenerator = false) (hk : scope.kind = .function)
    (hcell : ∀ x ∈ scope.names, x.2 ≠ .cell) : wpAny (model prog w) A (call (.ref f) vs) Q E s := by
  refine wpAny_call (codeAny_call_function hroom (O.X _ _ ho) rfl hco hgen rfl (codeRec_of O.X hcd) ?_)
  rw [hbind]
  refine wpAny_bind (wpAny_newObj_type (wpAny_pure ?_) (by show rest.toArray.size ≤ sizeLine; rw [List.size_toArray]; exact hsz))
  refine wpAny_newFunctionEnv hcell (hloc _) (fun h₁ hns hsb => ⟨(O.T.nolimit.keeps fun b o e => Heap.get?_push_of_some _ e).fresh _ hsb, ?_⟩) hk
  show codeAny _ _ (.func body (envOf qual scope _ f cdv)) _ _
  refine codeAny_func (wpAny_mono (h _ _ _ h₁ _ (fun b o e => Heap.get?_push_of_some _ e) (Heap.get?_push_size _ rfl) ⟨hns, fun b o e => hsb.extBut b o (Nat.ne_of_lt (Heap.lt_size e)) (Heap.get?_push_of_some _ e), Nat.le_refl _⟩ News.nil) (fun _ _ x => x) fun _ _ x => x.elim)
end Mine
end
section
open PySem PySem.Spec PySem.Calls PySem.W PyProof.Rows
namespace Mine
set_option maxRecDepth 100000
theorem fill2 : PySem.Challenge.rw_pd0062_01.prog = PySem.Challenge.rw_pd0062_01.prog → hd.heap_39 = hd.heap_39 := by k_fill; intros; rfl
variable {prog : Program} {w : World} {s : Shared} {mean : ExcName → Option Value} {mg mb : Str → Option Value}
set_option maxHeartbeats 4000000
local macro_rules | `(tactic| walk_at "execs cons") => `(tactic| (k_here; refine wpAny_execs_cons ?_; k_fold))
local macro_rules | `(tactic| walk_at "execs nil") => `(tactic| (k_here; refine wpAny_execs_nil ?_))
local macro_rules | `(tactic| walk_at "exec Try") => `(tactic| (k_here; refine try0 ?_))
local macro_rules | `(tactic| walk_at "call ref") => `(tactic| (k_here; (with_reducible show wpAny _ _ (call (Value.ref 94) [Value.str _ _]) _ _ _); k_dflt (refine' use_meets (c_fspath (Ok.keeps (by assumption) (Fr.keep (by assumption))) _ _) ?k1 ?k2 ?k3 ?k4 ?k5 ?k6 ?k7 ?k8 ?k9 ?_; (case k1 => assumption); (case k2 => assumption); (case k3 => assumption); (case k4 => exact rfl); (case k5 => exact rfl); (case k6 => exact rfl); (case k7 => exact rfl); (case k8 => exact Nat.le_of_ble_eq_true rfl); (case k9 => exact Nat.le_of_ble_eq_true rfl); k_whole); intro v' h' tk' e' st' F' N'; subst e'; (try k_sweep)))
local macro_rules | `(tactic| walk_at "call ref") => `(tactic| (k_here; (with_reducible show wpAny _ _ (call (Value.ref 108) [Value.str _ _]) _ _ _); k_dflt (refine' use_meets (c_getsep (Ok.keeps (by assumption) (Fr.keep (by assumption))) _ _) ?k1 ?k2 ?k3 ?k4 ?k5 ?k6 ?k7 ?k8 ?k9 ?_; (case k1 => assumption); (case k2 => assumption); (case k3 => assumption); (case k4 => exact rfl); (case k5 => exact rfl); (case k6 => exact rfl); (case k7 => exact rfl); (case k8 => exact Nat.le_of_ble_eq_true rfl); (case k9 => exact Nat.le_of_ble_eq_true rfl); k_whole); intro v' h' tk' e' st' F' N'; obtain ⟨t', e'⟩ := e'; subst e'; (try k_sweep)))

noncomputable def joinStep (path b : Str) : Str :=
  if Txt.startswith b SL = true then b
  else if (path.length : Int) = 0 then b
  else if Txt.endswith path SL = true then path ++ b
  else path ++ (SL ++ b)
noncomputable def joinF (a : Str) (ps : List Str) : Str := ps.foldl joinStep a
theorem SL_len : SL.length = 1 := by decide
theorem joinStep_len (a b : Str) : (joinStep a b).length ≤ a.length + (b.length + 1) := by
  unfold joinStep
  have := SL_len
  (repeat' split) <;> (try simp only [Str.length_append, SL_len]) <;> omega
theorem joinF_len : ∀ (ps : List Str) (a : Str), (joinF a ps).length ≤ a.length + (ps.map fun p => p.length + 1).sum
  | [], a => by simp [joinF]
  | p :: r, a => by
    have h1 := joinF_len r (joinStep a p)
    have h2 := joinStep_len a p
    simp only [joinF, List.foldl_cons, List.map_cons, List.sum_cons] at *
    omega
theorem sum_take (f : Str → Nat) : ∀ (ps : List Str) (i : Nat) (b : Str), ps[i]? = some b → ((ps.take i).map f).sum + f b ≤ (ps.map f).sum
  | [], i, b, h => by simp at h
  | p :: r, 0, b, h => by simp at h; subst h; simp
  | p :: r, i + 1, b, h => by
    have := sum_take f r i b (by simpa using h)
    simp only [List.take_succ_cons, List.map_cons, List.sum_cons]
    omega
local macro_rules | `(tactic| walk_at "binaryOp Add str str") => `(tactic| (k_here; (refine add_str ?_ (hsz := ?hz)); (case hz => (simp only [Str.length_append, SL_len, sizeLine_eq]; omega)); intro _ _))
local macro_rules | `(tactic| walk_at "inplaceOp Add str str") => `(tactic| (k_here; (refine iadd_str ?_ (hsz := ?hz)); (case hz => (simp only [Str.length_append, SL_len, sizeLine_eq]; omega)); intro _ _))
theorem c_join (O : Ok w mean mg mb s.heap) (a : Str) (t : Tok) (ps : List (Str × Tok)) (hz : a.length + (ps.map fun p => p.1.length + 1).sum ≤ 1048576) (hn : ps.length ≤ 1000) :
    Meets 800 8000 prog w 115 (.str a t :: strValues ps) s (fun v _ => ∃ t', v = .str (joinF a (ps.map (·.1))) t') := by
  intro base outer gd Q E B hQ
  (k_dflt (refine' enterV0 (rest := strValues ps) (binds := fun v => [(Str.ofString "a", .str a t), (Str.ofString "p", v)]) O ?k6 ?k7 ?k8 ?k9 ?kz ?kB ?_ ?c2 ?c3 ?c4 ?c5; (case k6 => k_is); (case k7 => k_is); (case k8 => exact Nat.le_of_ble_eq_true rfl); (case k9 => (cases ps <;> rfl)); (case kz => (simp only [strValues, List.length_map, sizeLine_eq]; omega)); (case kB => (intro v; exact locs rfl)); (case c2 => exact rfl); (case c3 => exact rfl); (case c4 => exact rfl); (case c5 => decide)))
  intro D g L' h' tk' st hD F' N'
  have O' := O.keeps st
  have X := O'.X
  have T := O'.T
  have B' : Below (Ar 800 8000 gd outer) base outer g := ⟨rfl, fun b o e => st b o (B.stays b o e), B.frames.of_keeps fun b o e _ => ⟨o, st b o e, rfl⟩⟩
  (try dsimp only)
  (with_reducible show wpAny _ _ _ _ _ _)
  k_fold
  repeat (first | (k_unfold; (try dsimp only)) | walk1)
  refine wpAny_For ?_
  repeat walk1
  (rename Fr _ _ _ _ => lF)
  (rename News _ _ _ _ => lN)
  have hlt : D < g.objs.size := Heap.lt_size hD
  refine acc_tup (y := Str.ofString "path") (ps := ps) joinStep rfl rfl rfl ⟨_, lF.keep _ _ hD, rfl, _, rfl⟩ (Nat.ne_of_lt (Nat.lt_of_lt_of_le hlt lF.above)) lF lN rfl ?_ ?_
  · intro i b tb c tc h1 tk1 own hb hc F1 N1
    have hb' : (ps.map (·.1))[i]? = some b := by simp [hb]
    have e1 := sum_take (fun p => p.length + 1) _ i b hb'
    have e2 := joinF_len ((ps.take i).map (·.1)) a
    have e3 : (ps.map fun p => p.1.length + 1).sum = ((ps.map (·.1)).map fun p => p.length + 1).sum := by simp [Function.comp_def]
    have hlen : c.length + (b.length + 1) ≤ 1048576 := by
      rw [hc]; rw [e3] at hz; simp only [List.map_take, joinF] at *; omega
    clear e1 e2 e3 lF lN hb' hc hb
    simp only [List.nil_append] at N1
    k_steps
    · exact AEnd.intro (by assumption) (by assumption) (fun p hp => hp) rfl (by rw [joinStep, if_pos (by assumption)]) (by intro z h1 h2; simp [h1, h2])
    · exact AEnd.intro (by assumption) (by assumption) (fun p hp => hp) rfl (by rw [joinStep, if_neg (by simp [*]), if_neg (by assumption), if_pos (by assumption)]) (by intro z h1 h2; simp [h1, h2])
    · exact AEnd.intro (by assumption) (by assumption) (fun p hp => hp) rfl (by rw [joinStep, if_neg (by simp [*]), if_neg (by assumption), if_neg (by simp [*])]) (by intro z h1 h2; simp [h1, h2])
    · exact AEnd.intro (by assumption) (by assumption) (fun p hp => hp) rfl (by rw [joinStep, if_neg (by simp [*]), if_pos (by assumption)]) (by intro z h1 h2; simp [h1, h2])
  · intro h1 tk1 u1 t1 F1 N1
    clear lF lN
    k_steps
    exact hQ _ _ _ (fun b o e => Fr.keep (by assumption) b o (st b o e)) ⟨_, rfl⟩
end Mine
end
section
open PySem PySem.Spec PySem.Calls PySem.W PyProof.Rows
namespace Mine
set_option maxRecDepth 100000
section
variable {prog : Program} {w : World} {A : Around} {E : Value → Shared → Prop} {s : Shared} {h₀ : Heap} {L D : Addr} {m : Str → Option Value} {news news' : List (Addr × Obj)} {n : Nat}
theorem strValues_snoc (a : List (Str × Tok)) (p : Str × Tok) : strValues (a ++ [p]) = strValues a ++ [.str p.1 p.2] := by simp [strValues]
theorem strValues_length (a : List (Str × Tok)) : (strValues a).length = a.length := by simp [strValues]
theorem tr_nil {Q : Bool → Shared → Prop} (N : News h₀ L s.heap news) (hm : (D, listOf #[] n) ∈ news) (h : ∀ k, Q false { s with toks := k }) : wpAny (model prog w) A (truthy (.ref D)) Q E s :=
  wpAny_truthy_list ⟨_, N.get hm, rfl, _, rfl⟩ (by simp) (h _)
theorem tr_snoc {Q : Bool → Shared → Prop} {a : List (Str × Tok)} {p : Str × Tok} (N : News h₀ L s.heap news) (hm : (D, listOf (strValues (a ++ [p])).toArray n) ∈ news) (hz : a.length < 1000000) (h : ∀ k, Q true { s with toks := k }) : wpAny (model prog w) A (truthy (.ref D)) Q E s :=
  wpAny_truthy_list ⟨_, N.get hm, rfl, _, rfl⟩ (by simp [strValues]; omega) (by
    have : (!(strValues (a ++ [p])).toArray.isEmpty) = true := by simp [strValues]
    rw [this]; exact h _)
theorem last_item {value slice : PySem.Expr} {Q : Value → Shared → Prop} {a : List (Str × Tok)} {y : Str} {ty u : Tok} (N : News h₀ L s.heap news) (hm : (D, listOf (strValues (a ++ [(y, ty)])).toArray n) ∈ news) (hz : a.length < 1000000) (h : Q (.str y ty) s)
    (hs : subscripted slice false (.ref D) (.int (-1) u) = operate [.ref D, .int (-1) u] (getItem (.ref D) (.int (-1) u)) := by with_unfolding_all rfl) :
    wpAny (model prog w) A (subscriptTail value slice (.ref D) (.int (-1) u)) Q E s := by
  have hl : s.heap.IsList D (strValues (a ++ [(y, ty)])).toArray := ⟨_, N.get hm, rfl, _, rfl⟩
  refine tail_any hl.typeIs slot_list_getitem.lookup (wpAny_getItem_list_neg hl ?_ ?_ ?_ ?_ h) hs
  · decide
  · simp [strValues]; omega
  · decide
  · have e : (-1 + ((strValues (a ++ [(y, ty)])).toArray.size : Int)).toNat = a.length := by simp [strValues]; omega
    rw [e, strValues_snoc]
    simp [strValues]
theorem pop_snoc {Q : Value → Shared → Prop} {a : List (Str × Tok)} {p : Str × Tok} (F : Fr h₀ L s.heap m) (N : News h₀ L s.heap news) (U : Upd D (listOf (strValues (a ++ [p])).toArray n) (listOf (strValues a).toArray (n + 1)) news news') (hz : a.length < 1000000)
    (h : ∀ h', Fr h₀ L h' m → News h₀ L h' news' → Q (.str p.1 p.2) { s with heap := h' }) : wpAny (model prog w) A (call (.builtin "list.pop") [.ref D]) Q E s := by
  refine kl_pop F N (p := strValues a) (y := .str p.1 p.2) ?_ U (by simp only [List.toList_toArray, strValues, List.length_map, List.length_append, List.length_singleton, sizeLine_eq]; omega) h
  rw [List.toList_toArray, strValues_snoc]
  exact kpa_last _ _
end
end Mine
end
section
open PySem PySem.Spec PySem.Calls PySem.W PyProof.Rows
namespace Mine
set_option maxRecDepth 100000

noncomputable def MEnd (s : Shared) (h₀ : Heap) (L : Addr) (own : List (Addr × Obj)) (x : Str) (nc cp : Addr) (oc : Obj) (v : List Str) (n : Nat) (m : Str → Option Value) (f : Flow) (s₃ : Shared) : Prop :=
  (f = .next ∨ f = .cont) ∧ ∃ h' tk' m' led acc ep, s₃ = { s with heap := h', toks := tk' } ∧ Fr h₀ L h' m' ∧ News h₀ L h' led ∧ (∀ p ∈ own, p ∈ led) ∧ (nc, listOf (strValues acc).toArray ep) ∈ led ∧ (cp, oc) ∈ led ∧ acc.map (·.1) = v ∧ acc.length ≤ n ∧ ∀ z, z ≠ x → m' z = m z
theorem MEnd.intro {s : Shared} {h₀ : Heap} {L : Addr} {own : List (Addr × Obj)} {x : Str} {nc cp : Addr} {oc : Obj} {v : List Str} {n : Nat} {m : Str → Option Value} {f : Flow} {h' : Heap} {tk' : Nat} {m' : Str → Option Value} {led : List (Addr × Obj)}
    {acc : List (Str × Tok)} {ep : Nat} {its : Array Value} (hf : f = .next ∨ f = .cont) (F' : Fr h₀ L h' m') (N' : News h₀ L h' led) (hown : ∀ p ∈ own, p ∈ led) (hn : (nc, listOf its ep) ∈ led) (hi : its = (strValues acc).toArray) (hc : (cp, oc) ∈ led)
    (hv : acc.map (·.1) = v) (hl : acc.length ≤ n) (hm : ∀ z, z ≠ x → m' z = m z) : MEnd s h₀ L own x nc cp oc v n m f { s with heap := h', toks := tk' } :=
  ⟨hf, h', tk', m', led, acc, ep, rfl, F', N', hown, hi ▸ hn, hc, hv, hl, hm⟩

theorem foldl_step {β : Type} {ps : List (Str × Tok)} (g : β → Str → β) (a₀ : β) {i : Nat} (hlt : i < ps.length) :
    ((ps.take (i + 1)).map (·.1)).foldl g a₀ = g (((ps.take i).map (·.1)).foldl g a₀) ps[i].1 := by
  rw [List.take_add_one, List.getElem?_eq_getElem hlt]
  simp only [Option.toList_some, List.map_append, List.map_cons, List.map_nil, List.foldl_append, List.foldl_cons, List.foldl_nil]

section
variable {prog : Program} {w : World} {A : Around} {s : Shared} {env : Env} {h₀ : Heap} {body orelse : List Stmt} {Q : Flow → Shared → Prop}
theorem mut_lst {x : Str} {px : Pos} {nc cp : Addr} {l : List (Str × Tok)} {m : Str → Option Value} {ep₀ : Nat} (g : List Str → Str → List Str) (hx : env.kindOf x = some .local)
    (hp : (env.scope.kind == .class || (env.scope.kind == .module && env.locals != env.globals)) = false) (hh : A.handled = none) (hne : cp < nc)
    (F : Fr h₀ env.locals s.heap m) (N : News h₀ env.locals s.heap [(nc, listOf #[] ep₀), (cp, listOf (strValues l).toArray 0)])
    (turn : ∀ i c tc acc ep h tk own, l[i]? = some (c, tc) → acc.map (·.1) = ((l.take i).map (·.1)).foldl g [] → acc.length ≤ i → OwnOff own [nc] → Fr h₀ env.locals h (fun z => if z = x then some (.str c tc) else m z) →
      News h₀ env.locals h ((nc, listOf (strValues acc).toArray ep) :: (cp, listOf (strValues l).toArray 0) :: own) →
      wpAny (model prog w) A (execs body env) (MEnd s h₀ env.locals own x nc cp (listOf (strValues l).toArray 0) (g (acc.map (·.1)) c) (i + 1) m) NoE { s with heap := h, toks := tk })
    (done : ∀ acc ep h tk u, acc.map (·.1) = (l.map (·.1)).foldl g [] → acc.length ≤ l.length → Fr h₀ env.locals h (fun z => if z = x then u else m z) → News h₀ env.locals h [(nc, listOf (strValues acc).toArray ep), (cp, listOf (strValues l).toArray 0)] →
      wpAny (model prog w) A (execs orelse env) Q NoE { s with heap := h, toks := tk }) :
    wpAny (model prog w) A (pyIter (.ref cp)) (fun it s₂ => codeAny (model prog w) A (.forLoop (.Name x px) it body orelse env) (fun r s' => match r with | .ok f => Q f s' | .error e => cameBackBy (model prog w) A env NoE e s') s₂) NoE s := by
  have hc := N _ (List.Mem.tail _ (List.Mem.head _))
  refine it_list (l := cp) (vs := strValues l) (fun i m' nx => ∃ acc ep, nx = [(nc, listOf (strValues acc).toArray ep), (cp, listOf (strValues l).toArray 0)] ∧ acc.map (·.1) = ((l.take i).map (·.1)).foldl g [] ∧ acc.length ≤ i ∧ ∀ z, z ≠ x → m' z = m z)
    hh ⟨_, hc.1, rfl, _, rfl⟩ hc.2.1 F N ⟨[], ep₀, rfl, rfl, Nat.le_refl _, fun _ _ => rfl⟩ ?_ ?_
  · rintro i v m₁ news₁ h₁ tk₁ own hv ⟨acc, ep, rfl, ha, hle, hm⟩ _ hoff F₁ N₁
    have hlt : i < l.length := by
      rcases Nat.lt_or_ge i l.length with h | h
      · exact h
      · rw [List.getElem?_eq_none (by simpa [strValues] using h)] at hv; cases hv
    have hv' : v = .str l[i].1 l[i].2 := by
      have : (strValues l)[i]? = some (.str l[i].1 l[i].2) := by simp [strValues, hlt]
      rw [this] at hv; exact (Option.some.inj hv).symm
    subst hv'
    refine wpAny_assign_Name (wpAny_storeName_local hx F₁.ns (fun h₂ hn₂ hs₂ => ?_) hp)
    have F₂ := F₁.set hn₂ hs₂
    have e : (fun z => if z = x then some (Value.str l[i].1 l[i].2) else m₁ z) = fun z => if z = x then some (Value.str l[i].1 l[i].2) else m z := by
      funext z
      by_cases h1 : z = x
      · simp [h1]
      · simp only [if_neg h1]; exact hm z h1
    rw [e] at F₂
    have hoff' : OwnOff own [nc] := by
      intro p hp b hb e
      have e' : p.1 = nc := e.trans (List.mem_singleton.mp hb)
      rcases hoff p hp with h | h
      · exact absurd (h.symm.trans e') (Nat.ne_of_lt hne)
      · exact h (by simp [e'])
    refine wpAny_mono (turn i l[i].1 l[i].2 acc ep h₂ (tk₁ + 1) own (by simp [hlt]) ha hle hoff' F₂ (N₁.set hs₂)) ?_ fun _ _ e => e
    rintro f s₃ ⟨hf, h', tk', m', led, acc', ep', rfl, F', N', hown, hn', hc', hv', hl', hm'⟩
    have fin : ∃ h'' tk'' m'' news' led', ({ s with heap := h', toks := tk' } : Shared) = { s with heap := h'', toks := tk'' } ∧ Fr h₀ env.locals h'' m'' ∧ News h₀ env.locals h'' led' ∧ (∀ p ∈ own, p ∈ led') ∧ (∀ p ∈ news', p ∈ led') ∧
        (news'.map (·.1) = [nc, cp] ∧ ∃ acc ep, news' = [(nc, listOf (strValues acc).toArray ep), (cp, listOf (strValues l).toArray 0)] ∧ acc.map (·.1) = ((l.take (i + 1)).map (·.1)).foldl g [] ∧ acc.length ≤ i + 1 ∧ ∀ z, z ≠ x → m'' z = m z) := by
      refine ⟨h', tk', m', _, led, rfl, F', N', hown, ?_, rfl, acc', ep', rfl, ?_, hl', hm'⟩
      · intro p hp
        rcases List.mem_cons.mp hp with rfl | hp
        · exact hn'
        · rw [List.mem_singleton.mp hp]; exact hc'
      · rw [hv', foldl_step g [] hlt, ha]
    rcases hf with rfl | rfl
    · exact fin
    · exact fin
  · rintro h tk m' news' ⟨acc, ep, rfl, ha, hle, hm⟩ F' N'
    have e : m' = fun z => if z = x then m' x else m z := by
      funext z
      by_cases h1 : z = x
      · simp [h1]
      · simp only [if_neg h1]; exact hm z h1
    rw [e] at F'
    refine done acc ep h tk (m' x) ?_ (by simpa [strValues] using hle) F' N'
    rw [ha]; simp [strValues]
end
end Mine
end
section
open PySem PySem.Spec PySem.Calls PySem.W PyProof.Rows
namespace Mine
set_option maxRecDepth 100000
theorem fill3 : PySem.Challenge.rw_pd0062_01.prog = PySem.Challenge.rw_pd0062_01.prog → hd.heap_39 = hd.heap_39 := by k_fill; intros; rfl
variable {prog : Program} {w : World} {s : Shared} {mean : ExcName → Option Value} {mg mb : Str → Option Value}
set_option maxHeartbeats 4000000
local macro_rules | `(tactic| walk_at "execs cons") => `(tactic| (k_here; refine wpAny_execs_cons ?_; k_fold))
local macro_rules | `(tactic| walk_at "execs nil") => `(tactic| (k_here; refine wpAny_execs_nil ?_))
local macro_rules | `(tactic| walk_at "call ref") => `(tactic| (k_here; (with_reducible show wpAny _ _ (call (Value.ref 94) [Value.str _ _]) _ _ _); k_dflt (refine' use_meets (c_fspath (Ok.keeps (by assumption) (Fr.keep (by assumption))) _ _) ?k1 ?k2 ?k3 ?k4 ?k5 ?k6 ?k7 ?k8 ?k9 ?_; (case k1 => assumption); (case k2 => assumption); (case k3 => assumption); (case k4 => exact rfl); (case k5 => exact rfl); (case k6 => exact rfl); (case k7 => exact rfl); (case k8 => exact Nat.le_of_ble_eq_true rfl); (case k9 => exact Nat.le_of_ble_eq_true rfl); k_whole); intro v' h' tk' e' st' F' N'; subst e'; (try k_sweep)))
local macro_rules | `(tactic| walk_at "call ref") => `(tactic| (k_here; (with_reducible show wpAny _ _ (call (Value.ref 108) [Value.str _ _]) _ _ _); k_dflt (refine' use_meets (c_getsep (Ok.keeps (by assumption) (Fr.keep (by assumption))) _ _) ?k1 ?k2 ?k3 ?k4 ?k5 ?k6 ?k7 ?k8 ?k9 ?_; (case k1 => assumption); (case k2 => assumption); (case k3 => assumption); (case k4 => exact rfl); (case k5 => exact rfl); (case k6 => exact rfl); (case k7 => exact rfl); (case k8 => exact Nat.le_of_ble_eq_true rfl); (case k9 => exact Nat.le_of_ble_eq_true rfl); k_whole); intro v' h' tk' e' st' F' N'; obtain ⟨t', e'⟩ := e'; subst e'; (try k_sweep)))
theorem isT_tup {h : Heap} {T : Addr} {vs : List Value} (e : IsT h T vs) : IsTup h T vs.toArray := ⟨_, e, rfl, _, rfl⟩
theorem rootF_len (x : Str) : (rootF x).1.length ≤ x.length + 1 ∧ (rootF x).2.length ≤ x.length := by
  have h1 := PyProof.Txt.length_slice_le x (some 1) none
  have h2 := PyProof.Txt.length_slice_le x (some 2) none
  have h3 := PyProof.Txt.length_slice_le x none (some 2)
  have h4 : (Str.ofString "").length = 0 := by decide
  have h5 := SL_len
  unfold rootF
  (repeat' split) <;> constructor <;> dsimp only <;> omega
noncomputable abbrev dotS : Str := Str.ofString "."
noncomputable abbrev dotdotS : Str := Str.ofString ".."
noncomputable def normStep (r : Str) (acc : List Str) (c : Str) : List Str :=
  if (c.length : Int) = 0 then acc
  else if (c == dotS) = true then acc
  else if (c != dotdotS) = true then acc ++ [c]
  else match acc.getLast? with
    | none => if (r.length : Int) = 0 then acc ++ [c] else acc
    | some y => if (y == dotdotS) = true then acc ++ [c] else acc.dropLast
noncomputable def normF (x : Str) : Str :=
  let p := (rootF x).1 ++ Txt.join SL ((Txt.split (rootF x).2 SL).foldl (normStep (rootF x).1) [])
  if (p.length : Int) = 0 then dotS else p
section
variable {r c y : Str} {a : List Str}
theorem ns_empty (h : (c.length : Int) = 0) : normStep r a c = a := by rw [normStep, if_pos h]
theorem ns_dot (h : (c.length : Int) ≠ 0) (h1 : (c == dotS) = true) : normStep r a c = a := by rw [normStep, if_neg h, if_pos h1]
theorem ns_app (h : (c.length : Int) ≠ 0) (h1 : (c == dotS) = false) (h2 : (c != dotdotS) = true) : normStep r a c = a ++ [c] := by rw [normStep, if_neg h, if_neg (by simp [h1]), if_pos h2]
theorem ns_nil0 (h : (c.length : Int) ≠ 0) (h1 : (c == dotS) = false) (h2 : (c != dotdotS) = false) (h3 : (r.length : Int) = 0) : normStep r [] c = [c] := by
  rw [normStep, if_neg h, if_neg (by simp [h1]), if_neg (by simp [h2])]; simp only [List.getLast?_nil]; rw [if_pos h3]; rfl
theorem ns_nil1 (h : (c.length : Int) ≠ 0) (h1 : (c == dotS) = false) (h2 : (c != dotdotS) = false) (h3 : (r.length : Int) ≠ 0) : normStep r [] c = [] := by
  rw [normStep, if_neg h, if_neg (by simp [h1]), if_neg (by simp [h2])]; simp only [List.getLast?_nil]; rw [if_neg h3]
theorem ns_dd (h : (c.length : Int) ≠ 0) (h1 : (c == dotS) = false) (h2 : (c != dotdotS) = false) (h3 : (y == dotdotS) = true) : normStep r (a ++ [y]) c = a ++ [y] ++ [c] := by
  rw [normStep, if_neg h, if_neg (by simp [h1]), if_neg (by simp [h2])]; simp only [List.getLast?_append, List.getLast?_singleton, Option.some_or]; rw [if_pos h3]
theorem ns_pop (h : (c.length : Int) ≠ 0) (h1 : (c == dotS) = false) (h2 : (c != dotdotS) = false) (h3 : (y == dotdotS) = false) : normStep r (a ++ [y]) c = a := by
  rw [normStep, if_neg h, if_neg (by simp [h1]), if_neg (by simp [h2])]; simp only [List.getLast?_append, List.getLast?_singleton, Option.some_or]; rw [if_neg (by simp [h3])]; simp
end
theorem normStep_len (r : Str) (acc : List Str) (c : Str) : ((normStep r acc c).map (·.length)).sum + (normStep r acc c).length ≤ ((acc.map (·.length)).sum + acc.length) + (c.length + 1) := by
  unfold normStep
  have key : ∀ l : List Str, ((l.dropLast).map (·.length)).sum + l.dropLast.length ≤ (l.map (·.length)).sum + l.length := by
    intro l
    induction l with
    | nil => simp
    | cons a l ih =>
      cases l with
      | nil => simp
      | cons b l => simp only [List.dropLast_cons₂, List.map_cons, List.sum_cons, List.length_cons] at *; omega
  have k1 := key acc
  (repeat' split) <;> (try simp only [List.map_append, List.sum_append, List.length_append, List.map_cons, List.map_nil, List.sum_cons, List.sum_nil, List.length_cons, List.length_nil]) <;> omega
theorem normFold_len (r : Str) : ∀ (cs : List Str) (acc : List Str), ((cs.foldl (normStep r) acc).map (·.length)).sum + (cs.foldl (normStep r) acc).length ≤ ((acc.map (·.length)).sum + acc.length) + ((cs.map (·.length)).sum + cs.length)
  | [], acc => by simp
  | c :: r', acc => by
    have h1 := normFold_len r r' (normStep r acc c)
    have h2 := normStep_len r acc c
    simp only [List.foldl_cons, List.map_cons, List.sum_cons, List.length_cons] at *
    omega
local macro_rules | `(tactic| walk_at "call ref") => `(tactic| (k_here; (with_reducible show wpAny _ _ (call (Value.ref 122) [Value.str _ _]) _ _ _); k_dflt (refine' use_meets (c_splitroot (Ok.keeps (by assumption) (Fr.keep (by assumption))) _ _ (by assumption)) ?k1 ?k2 ?k3 ?k4 ?k5 ?k6 ?k7 ?k8 ?k9 ?_; (case k1 => assumption); (case k2 => assumption); (case k3 => assumption); (case k4 => exact rfl); (case k5 => exact rfl); (case k6 => exact rfl); (case k7 => exact rfl); (case k8 => exact Nat.le_of_ble_eq_true rfl); (case k9 => exact Nat.le_of_ble_eq_true rfl); k_whole); intro v' h' tk' e' st' F' N'; obtain ⟨T', t1', t2', t3', e', hT'⟩ := e'; subst e'; have hT' := isT_tup hT'; (try k_sweep)))
local macro_rules | `(tactic| walk_at "call builtin:str.split") => `(tactic| (k_here; (refine KSpl.split1 (by k_asm) (by k_asm) (by decide) ?_ (by rw [sizeLine_eq]; omega)); intro D' l' h' k' e' a' F' N' l1; (try k_lt l1)))
local macro_rules | `(tactic| walk_at "exec For Name Name cons nil") => `(tactic| (k_here; k_dflt (refine wpAny_For ?_)))
theorem spl_weight (x : Str) : ((Txt.split x SL).map (·.length)).sum + (Txt.split x SL).length ≤ x.length + 1 := split_weight x SL (by decide)
theorem split_count (x : Str) : (Txt.split x SL).length ≤ x.length + 2 := by
  have := spl_weight x
  omega
local macro_rules | `(tactic| walk_at "call builtin:str.join") => `(tactic| (k_here; k_dflt (refine' SC.join ?k1 ?k2 ?k3 ?_; (case k1 => exact ⟨_, News.get (by k_asm) (by k_mem), rfl, _, rfl⟩); (case k2 => exact rfl); (case k3 => exact joinOk_of_weight (by omega) (by decide)); k_whole); intro _ _))
local macro_rules | `(tactic| walk_at "binaryOp Add str str") => `(tactic| (k_here; (refine add_str ?_ (hsz := ?hz)); (case hz => first | assumption | (rw [sizeLine_eq]; omega)); intro _ _))
local macro_rules | `(tactic| walk_at "truthy ref") => `(tactic| (k_here; k_dflt (refine' tr_snoc ?k1 ?k2 ?k3 ?_; (case k1 => k_asm); (case k2 => k_mem); (case k3 => assumption); k_whole); intro _))
local macro_rules | `(tactic| walk_at "truthy ref") => `(tactic| (k_here; k_dflt (refine' tr_nil ?k1 ?k2 ?_; (case k1 => k_asm); (case k2 => k_mem); k_whole); intro _))
local macro_rules | `(tactic| walk_at "subscriptTail Name UnaryOp ref int") => `(tactic| (k_here; k_dflt (refine' last_item ?k1 ?k2 ?k3 ?_; (case k1 => k_asm); (case k2 => k_mem); (case k3 => assumption); k_whole)))
local macro_rules | `(tactic| walk_at "call builtin:list.pop") => `(tactic| (k_here; k_dflt (refine' pop_snoc ?k1 ?k2 ?k3 ?k4 ?_; (case k1 => k_asm); (case k2 => k_asm); (case k3 => k_upd); (case k4 => assumption); k_whole); intro h' F' N'; (try k_sweep)))
local macro_rules | `(tactic| walk_at "call builtin:list.append") => `(tactic| (k_here; k_dflt (refine' append_K ?k1 ?k2 ?k3 ?_ ?z; (case k1 => k_asm); (case k2 => k_asm); (case k3 => k_upd); (case z => (simp only [List.size_toArray, strValues_length, List.length_append, List.length_cons, List.length_nil, sizeLine_eq]; omega)); k_whole); intro h' F' N'; (try k_sweep)))
theorem c_normpath (O : Ok w mean mg mb s.heap) (x : Str) (t : Tok) (hx : x.length ≤ 900000) (h1 : (x.length : Int) ≠ 0) : Meets 700 7000 prog w 136 [.str x t] s (fun v _ => ∃ t', v = .str (normF x) t') := by
  intro base outer gd Q E B hQ
  have X := O.X
  have T := O.T
  (k_dflt (refine' enter0 (binds := [(Str.ofString "path", .str x t)]) O ?k6 ?k7 ?k8 ?k9 ?kB ?_ ?c2 ?c3 ?c4 ?c5; (case k6 => k_is); (case k7 => k_is); (case k8 => exact Nat.le_of_ble_eq_true rfl); (case k9 => exact BindsTo.of_eq rfl); (case kB => exact locs rfl); (case c2 => exact rfl); (case c3 => exact rfl); (case c4 => exact rfl); (case c5 => decide)))
  intro L' h' F' N'
  (try dsimp only)
  k_fold
  have hx0 : x.length ≤ 1048576 := by omega
  have hr := rootF_len x
  repeat (first | (k_unfold; (try dsimp only)) | walk1 | (dsimp only; walk1))
  rename_i cp l h3 k3 he hs l1a h2 nc h1a l1 h0 lF lN
  refine mut_lst (normStep (rootF x).1) rfl rfl rfl l1 lF lN ?_ ?_
  · intro i c tc acc ep h4 tk4 own hc hacc hlen hoff F4 N4
    have hci : i < l.length := by
      rcases Nat.lt_or_ge i l.length with h | h
      · exact h
      · rw [List.getElem?_eq_none h] at hc; cases hc
    have hcl : c.length ≤ 1048576 := by
      have e1 : c ∈ l.map (·.1) := List.mem_map.mpr ⟨(c, tc), List.mem_of_getElem? hc, rfl⟩
      rw [he] at e1
      have e2 := part_short e1
      omega
    have hll : l.length ≤ 900002 := by
      have e1 := congrArg List.length he
      have e2 := split_count (rootF x).2
      rw [List.length_map] at e1
      rw [e1]
      exact Nat.le_trans e2 (by omega)
    have hr1 : (rootF x).1.length ≤ 1048576 := by omega
    clear lF lN hc hacc he hs hx hr hx0 h1
    change Fr s.heap L' h4 _ at F4
    rcases List.eq_nil_or_concat acc with rfl | ⟨a0, p, rfl⟩
    · change News s.heap L' h4 ((nc, listOf #[] ep) :: _) at N4
      k_steps
      all_goals (try dsimp only)
      all_goals first
        | exact MEnd.intro (acc := []) (by first | exact .inl rfl | exact .inr rfl) (by assumption) (by assumption) (fun p hp => List.Mem.tail _ (List.Mem.tail _ hp)) (List.Mem.head _) rfl (List.Mem.tail _ (List.Mem.head _)) (Eq.symm (by first | exact ns_empty (by assumption) | exact ns_dot (by assumption) (by assumption) | exact ns_nil1 (by assumption) (by assumption) (by assumption) (by assumption))) (Nat.zero_le _) (by intro z h1; simp [h1])
        | exact MEnd.intro (acc := [(c, tc)]) (by first | exact .inl rfl | exact .inr rfl) (by assumption) (by assumption) (fun p hp => List.Mem.tail _ (List.Mem.tail _ hp)) (List.Mem.head _) rfl (List.Mem.tail _ (List.Mem.head _)) (Eq.symm (by first | exact ns_app (by assumption) (by assumption) (by assumption) | exact ns_nil0 (by assumption) (by assumption) (by assumption) (by assumption))) (by simp) (by intro z h1; simp [h1])
    · obtain ⟨y, ty⟩ := p
      simp only [List.concat_eq_append] at *
      change News s.heap L' h4 _ at N4
      have hz : a0.length < 1000000 := by
        have e1 : (a0 ++ [(y, ty)]).length = a0.length + 1 := by simp
        omega
      k_steps
      all_goals (try dsimp only)
      all_goals first
        | exact MEnd.intro (acc := a0 ++ [(y, ty)]) (by first | exact .inl rfl | exact .inr rfl) (by assumption) (by assumption) (fun p hp => List.Mem.tail _ (List.Mem.tail _ hp)) (List.Mem.head _) rfl (List.Mem.tail _ (List.Mem.head _)) (Eq.symm (by first | exact ns_empty (by assumption) | exact ns_dot (by assumption) (by assumption))) (by omega) (by intro z h1; simp [h1])
        | exact MEnd.intro (acc := a0 ++ [(y, ty)] ++ [(c, tc)]) (by first | exact .inl rfl | exact .inr rfl) (by assumption) (by assumption) (fun p hp => List.Mem.tail _ (List.Mem.tail _ hp)) (List.Mem.head _) (by rw [strValues_snoc _ (c, tc), List.push_toArray]) (List.Mem.tail _ (List.Mem.head _)) (Eq.symm (by simp only [List.map_append, List.map_cons, List.map_nil]; first | exact ns_app (by assumption) (by assumption) (by assumption) | exact ns_dd (by assumption) (by assumption) (by assumption) (by assumption))) (by simp only [List.length_append, List.length_cons, List.length_nil] at *; omega) (by intro z h1; simp [h1])
        | exact MEnd.intro (acc := a0) (by first | exact .inl rfl | exact .inr rfl) (by assumption) (by assumption) (fun p hp => List.Mem.tail _ (List.Mem.tail _ hp)) (List.Mem.head _) rfl (List.Mem.tail _ (List.Mem.head _)) (Eq.symm (by simp only [List.map_append, List.map_cons, List.map_nil]; exact ns_pop (by assumption) (by assumption) (by assumption) (by assumption))) (by simp only [List.length_append, List.length_cons, List.length_nil] at *; omega) (by intro z h1; simp [h1])
  · intro acc ep h4 tk4 u4 hacc hlen F4 N4
    have hw : ((acc.map (·.1)).map (·.length)).sum + (acc.map (·.1)).length ≤ 1000000 := by
      rw [hacc]
      have e1 := normFold_len (rootF x).1 (l.map (·.1)) []
      have e2 := spl_weight (rootF x).2
      rw [← he] at e2
      simp only [List.map_nil, List.sum_nil, List.length_nil, Nat.zero_add] at e1
      omega
    have hj : (rootF x).1.length + (Txt.join SL (acc.map (·.1))).length ≤ 2000000 := by
      have e1 := StrLaws.join_length_le SL (acc.map (·.1))
      have e2 : Txt.join SL (acc.map (·.1)) = Str.join SL (acc.map (·.1)) := StrLaws.glued_eq_join _ _
      rw [e2]
      rw [SL_len, Nat.mul_one] at e1
      omega
    change Fr s.heap L' h4 _ at F4
    change News s.heap L' h4 _ at N4
    have hnF : normF x = if (((rootF x).1 ++ Txt.join SL (acc.map (·.1))).length : Int) = 0 then dotS else (rootF x).1 ++ Txt.join SL (acc.map (·.1)) := by
      rw [hacc, he]; rfl
    have hj2 : (rootF x).1.length + (Txt.join (Str.ofString "/") (acc.map (·.1))).length ≤ sizeLine := by rw [sizeLine_eq]; exact Nat.le_trans hj (by decide)
    have hj3 : ((rootF x).1 ++ Txt.join (Str.ofString "/") (acc.map (·.1))).length ≤ 2000000 := by rw [Str.length_append]; exact hj
    clear lF lN hacc he
    k_steps
    · exact hQ _ _ _ (Fr.keep (by assumption)) (str_end (by rw [hnF, if_neg (by assumption)]))
    · exact hQ _ _ _ (Fr.keep (by assumption)) (str_end (by rw [hnF, if_pos (by assumption)]))
  · exact absurd (by assumption) h1

end Mine
end
section
open PySem PySem.Spec PySem.Calls PySem.W PyProof.Rows
namespace Mine
set_option maxRecDepth 100000

theorem keeps_refl (s : Shared) : Keeps s s := ⟨s.heap, s.toks, rfl, fun _ _ e => e⟩

/-- what a comprehension's test and element must do, seen from the heap before its loop -/
structure Ele (prog : Program) (w : World) (A : Around) (env : Env) (scope : Scope) (cl : List (Str × Addr)) (x : Str) (ifs : List PySem.Expr) (elt : PySem.Expr) (P : Nat → Value → Prop) (p : Value → Bool) (G : Value → Value → Prop) (h : Heap) : Prop where
  tests : ∀ C i v s₃ m₃, P i v → Fr h C s₃.heap m₃ → m₃ x = some v →
    wpAny (model prog w) A (forIn ifs true fun c r => if r = true then do let ok ← isTrue c (compEnvC scope cl C env) (eval c (compEnvC scope cl C env)); pure (ForInStep.yield ok) else pure (ForInStep.yield r)) (fun ok s₄ => ok = p v ∧ Keeps s₃ s₄) NoE s₃
  elt : ∀ C i v s₃ m₃, P i v → p v = true → Fr h C s₃.heap m₃ → m₃ x = some v → wpAny (model prog w) A (eval elt (compEnvC scope cl C env)) (fun y s₄ => G v y ∧ Keeps s₃ s₄) NoE s₃

section
variable {prog : Program} {w : World} {A : Around} {E : Value → Shared → Prop} {env : Env} {scope : Scope} {cl : List (Str × Addr)} {x : Str} {ifs : List PySem.Expr} {elt : PySem.Expr} {P : Nat → Value → Prop} {p : Value → Bool} {G : Value → Value → Prop} {s : Shared}
theorem Ele.quiet {o : Obj} {s₂ : Shared} (Q : Ele prog w A env scope cl x ifs elt P p G s.heap) (e : s₂ = { s with heap := s.heap.push o }) : QuietOnC prog w A env scope cl x ifs elt [s.heap.objs.size] P p G s₂ := by
  subst e
  have fr : ∀ {C : Addr} {s₃ : Shared} {m₃}, (s.heap.push o).objs.size ≤ C → s₃.heap.Ns C m₃ → (∀ b o', b ∉ [s.heap.objs.size] → (s.heap.push o).get? b = some o' → s₃.heap.get? b = some o') → Fr s.heap C s₃.heap m₃ := fun hC hn hk =>
    ⟨hn, fun b o' e => hk b o' (fun q => Nat.lt_irrefl _ ((List.mem_singleton.mp q) ▸ Heap.lt_size e)) (Heap.get?_push_of_some _ e), by rw [Heap.size_push] at hC; exact Nat.le_of_succ_le hC⟩
  refine ⟨fun C i v s₃ m₃ E' hC hP hn hm hk _ => wpAny_mono (Q.tests C i v s₃ m₃ hP (fr hC hn hk) hm) (fun _ _ h => h) fun _ _ h => h.elim,
    fun C i v s₃ m₃ E' hC hP hp hn hm hk _ => wpAny_mono (Q.elt C i v s₃ m₃ hP hp (fr hC hn hk) hm) (fun _ _ h => h) fun _ _ h => h.elim⟩
theorem tests_one {c : PySem.Expr} {C : Addr} {v : Value} {s₃ : Shared} (h : wpAny (model prog w) A (isTrue c (compEnvC scope cl C env) (eval c (compEnvC scope cl C env))) (fun ok s₄ => ok = p v ∧ Keeps s₃ s₄) NoE s₃) :
    wpAny (model prog w) A (forIn [c] true fun c r => if r = true then do let ok ← isTrue c (compEnvC scope cl C env) (eval c (compEnvC scope cl C env)); pure (ForInStep.yield ok) else pure (ForInStep.yield r)) (fun ok s₄ => ok = p v ∧ Keeps s₃ s₄) NoE s₃ := by
  rw [List.forIn_cons]
  refine wpAny_bind ?_
  simp only [if_true]
  refine wpAny_bind (wpAny_mono h (fun ok s₄ hk => wpAny_pure ?_) fun _ _ e => e)
  exact wpAny_pure hk

end

section
variable {prog : Program} {w : World} {A : Around} {env : Env} {scope : Scope} {cl : List (Str × Addr)} {x y : Str} {ifs : List PySem.Expr} {elt : PySem.Expr} {p : Value → Bool} {G : Value → Value → Prop} {s : Shared} {h₀ : Heap} {m : Str → Option Value} {news : List (Addr × Obj)} {Q : Flow → Shared → Prop}
theorem vs_eq {vs ws : List Value} (hlen : ws.length = vs.length) (hP : ∀ (j : Nat) (v : Value), ws[j]? = some v → vs[j]? = some v) : ws = vs := by
  apply List.ext_getElem? 
  intro j
  cases h : ws[j]? with
  | some v => exact (hP j v h).symm
  | none =>
    rw [List.getElem?_eq_none_iff] at h
    rw [List.getElem?_eq_none (by omega)]

end
end Mine
end
section
open PySem PySem.Spec PySem.Calls PySem.W PyProof.Rows
namespace Mine
set_option maxRecDepth 100000

/-- the running fact inside a comprehension: all of g stays -/
structure Sx (g h : Heap) : Prop where
  st : g.StaysIn h
theorem Sx.refl (g : Heap) : Sx g g := ⟨fun _ _ e => e⟩
theorem Sx.trans {g h h' : Heap} (S : Sx g h) (k : h.StaysIn h') : Sx g h' := ⟨fun b o e => k b o (S.st b o e)⟩


section
variable {M : Model} {A : Around} {E : Value → Shared → Prop} {s : Shared} {g : Heap} {C c : Addr} {m mg mb : Str → Option Value} {scope : Scope} {cl : List (Str × Addr)} {env : Env} {x : Str} {pos : Pos} {v : Value} {o : Obj} {Q : Value → Shared → Prop} {K : Frag} {p : Program} {loose : List Str}
theorem sx_L (S : Sx g s.heap) (hn : g.Ns C m) (hv : m x = some v) (h : Q v s) (hk : (compEnvC scope cl C env).scope.kind = .function) (hx : (compEnvC scope cl C env).kindOf x = some .local) (hd : (x == ("__debug__" : Str)) = false := by decide) :
    wpAny M A (eval (.Name x pos) (compEnvC scope cl C env)) Q E s := wpAny_Name (wpAny_loadName_local hk hx (hn.keeps S.st) hv h) hd
theorem sx_C (S : Sx g s.heap) (hc : cl.lookup x = some c) (ho : g.get? c = some o) (hd : o.data = .cell (some v)) (h : Q v s) (hk : (compEnvC scope cl C env).scope.kind = .function) (hx : (compEnvC scope cl C env).kindOf x = some .cell) (hb : (x == ("__debug__" : Str)) = false := by decide) :
    wpAny M A (eval (.Name x pos) (compEnvC scope cl C env)) Q E s := wpAny_Name (wpAny_loadName_cell hk hx hc ⟨o, S.st _ _ ho, hd⟩ h) hb
end

end Mine
end
section
open PySem PySem.Spec PySem.Calls PySem.W PyProof.Rows
namespace Mine
set_option maxRecDepth 100000
theorem fill4 : PySem.Challenge.rw_pd0062_01.prog = PySem.Challenge.rw_pd0062_01.prog → hd.heap_39 = hd.heap_39 := by k_fill; intros; rfl
variable {prog : Program} {w : World} {s : Shared} {mean : ExcName → Option Value} {mg mb : Str → Option Value}
set_option maxHeartbeats 4000000
local macro_rules | `(tactic| walk_at "execs nil") => `(tactic| (k_here; refine wpAny_execs_nil ?_))

theorem and_ifmt {i : Int} (h0 : 0 ≤ i) (h1 : i < 65536) : Builtin.bitAnd i 61440 = i / 4096 * 4096 := by
  obtain ⟨n, rfl⟩ := Int.eq_ofNat_of_zero_le h0
  have e : Builtin.bitAnd (n : Int) 61440 = ((n &&& 61440 : Nat) : Int) := by rfl
  rw [e]
  have e1 : (n &&& 61440) % 4096 = 0 := by
    have := Nat.and_mod_two_pow (a := n) (b := 61440) (n := 12)
    simp at this; omega
  have e2 : (n &&& 61440) / 4096 = n / 4096 := by
    have h := Nat.and_div_two_pow (a := n) (b := 61440) (n := 12)
    have h3 := Nat.and_two_pow_sub_one_eq_mod (n / 4096) 4
    simp at h h3
    omega
  omega
theorem and_imode {i : Int} (h0 : 0 ≤ i) : Builtin.bitAnd i 4095 = i % 4096 := by
  obtain ⟨n, rfl⟩ := Int.eq_ofNat_of_zero_le h0
  have e : Builtin.bitAnd (n : Int) 4095 = ((n &&& 4095 : Nat) : Int) := by rfl
  rw [e]
  have h3 := Nat.and_two_pow_sub_one_eq_mod n 12
  simp at h3
  omega
theorem int_end {x y : Int} {t : Tok} (e : y = x) : ∃ t', Value.int y t = .int x t' := ⟨t, by rw [e]⟩
theorem c_ifmt (O : Ok w mean mg mb s.heap) (i : Int) (t : Tok) (h0 : 0 ≤ i) (h1 : i < 65536) : Meets 900 9000 prog w 155 [.int i t] s (fun v _ => ∃ t', v = .int (i / 4096 * 4096) t') := by
  intro base outer gd Q E B hQ
  have X := O.X
  have T := O.T
  (k_dflt (refine' enter0 (binds := [(Str.ofString "mode", .int i t)]) O ?k6 ?k7 ?k8 ?k9 ?kB ?_ ?c2 ?c3 ?c4 ?c5; (case k6 => k_is); (case k7 => k_is); (case k8 => exact Nat.le_of_ble_eq_true rfl); (case k9 => exact BindsTo.of_eq rfl); (case kB => exact locs rfl); (case c2 => exact rfl); (case c3 => exact rfl); (case c4 => exact rfl); (case c5 => decide)))
  intro L' h' F' N'
  (try dsimp only)
  k_fold
  k_steps
  exact hQ _ _ _ (Fr.keep (by assumption)) (int_end (and_ifmt h0 h1))

theorem c_imode (O : Ok w mean mg mb s.heap) (i : Int) (t : Tok) (h0 : 0 ≤ i) (h1 : i < 65536) : Meets 900 9000 prog w 148 [.int i t] s (fun v _ => ∃ t', v = .int (i % 4096) t') := by
  intro base outer gd Q E B hQ
  have X := O.X
  have T := O.T
  (k_dflt (refine' enter0 (binds := [(Str.ofString "mode", .int i t)]) O ?k6 ?k7 ?k8 ?k9 ?kB ?_ ?c2 ?c3 ?c4 ?c5; (case k6 => k_is); (case k7 => k_is); (case k8 => exact Nat.le_of_ble_eq_true rfl); (case k9 => exact BindsTo.of_eq rfl); (case kB => exact locs rfl); (case c2 => exact rfl); (case c3 => exact rfl); (case c4 => exact rfl); (case c5 => decide)))
  intro L' h' F' N'
  (try dsimp only)
  k_fold
  k_steps
  exact hQ _ _ _ (Fr.keep (by assumption)) (int_end (and_imode h0))

local macro_rules | `(tactic| walk_at "call ref") => `(tactic| (k_here; (with_reducible show wpAny _ _ (call (Value.ref 155) [Value.int _ _]) _ _ _); k_dflt (refine' use_meets (c_ifmt (Ok.keeps (by assumption) (Fr.keep (by assumption))) _ _ (by assumption) (by assumption)) ?k1 ?k2 ?k3 ?k4 ?k5 ?k6 ?k7 ?k8 ?k9 ?_; (case k1 => assumption); (case k2 => assumption); (case k3 => assumption); (case k4 => exact rfl); (case k5 => exact rfl); (case k6 => exact rfl); (case k7 => exact rfl); (case k8 => exact Nat.le_of_ble_eq_true rfl); (case k9 => exact Nat.le_of_ble_eq_true rfl); k_whole); intro v' h' tk' e' st' F' N'; obtain ⟨t', e'⟩ := e'; subst e'; (try k_sweep)))
theorem c_islnk (O : Ok w mean mg mb s.heap) (i : Int) (t : Tok) (h0 : 0 ≤ i) (h1 : i < 65536) : Meets 800 8000 prog w 162 [.int i t] s (fun v _ => v = .bool (i / 4096 * 4096 == 40960)) := by
  intro base outer gd Q E B hQ
  have X := O.X
  have T := O.T
  (k_dflt (refine' enter0 (binds := [(Str.ofString "mode", .int i t)]) O ?k6 ?k7 ?k8 ?k9 ?kB ?_ ?c2 ?c3 ?c4 ?c5; (case k6 => k_is); (case k7 => k_is); (case k8 => exact Nat.le_of_ble_eq_true rfl); (case k9 => exact BindsTo.of_eq rfl); (case kB => exact locs rfl); (case c2 => exact rfl); (case c3 => exact rfl); (case c4 => exact rfl); (case c5 => decide)))
  intro L' h' F' N'
  (try dsimp only)
  k_fold
  k_steps
  exact hQ _ _ _ (Fr.keep (by assumption)) rfl

end Mine
end
section
open PySem PySem.Spec PySem.Calls PySem.W PyProof.Rows
namespace Mine
set_option maxRecDepth 100000

theorem slot_map_next : Slot "map" "__next__" "map.__next__" :=
  .of (owner := "map") (n := "__next__") (by rw [typeLookup_type, builtinLookup_eq_fast]; kernel_rfl) (by decide +kernel) (by decide +kernel) (by decide +kernel)
    (by first | exact .inl (by decide +kernel) | exact .inr (by decide +kernel)) (by rw [isSubtype_type]; kernel_rfl)
theorem entry_map_next : entryFor table "map.__next__" = some Builtin.«map.__next__» := entryFor_of_tree (by kernel_rfl)
theorem args_map_next (a : Value) : argsOk "map.__next__" ⟨[a], []⟩ := by unfold argsOk; kernel_rfl
theorem slot_map_iter : Slot "map" "__iter__" "map.__iter__" :=
  .of (owner := "map") (n := "__iter__") (by rw [typeLookup_type, builtinLookup_eq_fast]; kernel_rfl) (by decide +kernel) (by decide +kernel) (by decide +kernel)
    (by first | exact .inl (by decide +kernel) | exact .inr (by decide +kernel)) (by rw [isSubtype_type]; kernel_rfl)
theorem args_map_iter (a : Value) : argsOk "map.__iter__" ⟨[a], []⟩ := by unfold argsOk; kernel_rfl
theorem slot_map_init : Slot "map" "__init__" "object.__init__" :=
  .of (owner := "object") (n := "__init__") (by rw [typeLookup_type, builtinLookup_eq_fast]; kernel_rfl) (by decide +kernel) (by decide +kernel) (by decide +kernel)
    (by first | exact .inl (by decide +kernel) | exact .inr (by decide +kernel)) (by rw [isSubtype_type]; kernel_rfl)
theorem entry_map_iter : entryFor table "map.__iter__" = some Builtin.«dict_keyiterator.__iter__» :=
  entryFor_alias (id' := "dict_keyiterator.__iter__") (by kernel_rfl) (by first | rfl | decide +kernel | (unfold String.splitOn; simp +decide [String.splitOnAux])) (by decide +kernel) (by kernel_rfl)
theorem mro_map : mroOf (.type "map") = pure [.type "map", .type "object"] := by rw [mroOf_type]; kernel_rfl
theorem lookup_map_new : typeLookup (.type "map") "__new__" = pure (some (.builtin "map.__new__")) := by rw [typeLookup_type, builtinLookup_eq_fast]; kernel_rfl
theorem called_map : TypeCalled "map" "map.__new__" "object.__init__" :=
  ⟨by decide +kernel, by decide +kernel, ⟨_, _, mro_map⟩, madeBy_type mro_map lookup_map_new (by decide +kernel), by decide +kernel, by rw [isSubtype_type]; kernel_rfl, slot_map_init⟩
theorem typeCall_map (a b : Value) : checkTypeCall "map" ⟨[a, b], []⟩ = pure () := by kernel_rfl
theorem newCall_map (a b : Value) : checkBuiltinCall "map.__new__" ⟨[.type "map", a, b], []⟩ = pure () := by kernel_rfl
theorem entry_map_new : entryFor table "map.__new__" = some Builtin.«map.__new__» := entryFor_of_tree (by kernel_rfl)
theorem sub_map : isSubtype (.type "map") (.type "map") = pure true := by rw [isSubtype_type]; kernel_rfl
theorem map_no_len : typeLookup (.type "map") "__len__" = pure none := by rw [typeLookup_type, builtinLookup_eq_fast]; kernel_rfl
theorem map_no_hint : typeLookup (.type "map") "__length_hint__" = pure none := by rw [typeLookup_type, builtinLookup_eq_fast]; kernel_rfl

noncomputable abbrev mapObj (T : Addr) (fn : Value) : Obj := { cls := .type "map", data := .fields #[.ref T, fn] }
noncomputable abbrev tupObj (vs : List Value) : Obj := { cls := .type "tuple", data := .seq vs.toArray }

section
variable {prog : Program} {w : World} {A : Around} {E : Value → Shared → Prop} {s : Shared}
theorem meets_map_new (l : Addr) (fn : Value) (items : Array Value) (n : Nat) (dct : Option Addr) (sl : Array (Option Value)) :
    PySem.Meets (Builtin.«map.__new__» ⟨[.type "map", fn, .ref l], []⟩) (fun _ R s => s.heap.get? l = some { cls := .type "list", dict := dct, data := .seq items n, slots := sl } ∧
      R (.ok (.ret (.ref (s.heap.objs.size + 2))))
        { s with heap := ((s.heap.push { cls := .type "list_iterator", data := .fields #[.ref l, .int 0 0] }).push (tupObj [.ref s.heap.objs.size])).push (mapObj (s.heap.objs.size + 1) fn) }) :=
  .of_wp fun prog w A R s h => by
    obtain ⟨hp, g, d, tk, os⟩ := s; obtain ⟨hl, h⟩ := h
    have hsub := sub_map
    have hL : Heap.IsList (Shared.heap ⟨hp, g, d, tk, os⟩) l items := ⟨_, hl, rfl, n, rfl⟩
    wp_walk using wpAny_pyIter_list hL
    refine ⟨_, rfl, ?_⟩
    have e1 : (hp.push { cls := .type "list_iterator", data := .fields #[.ref l, .int 0 0] }).objs.size = hp.objs.size + 1 := Heap.size_push ..
    have e2 : ((hp.push { cls := .type "list_iterator", data := .fields #[.ref l, .int 0 0] }).push (tupObj [.ref hp.objs.size])).objs.size = hp.objs.size + 2 := by rw [Heap.size_push, e1]
    simpa [e1, e2] using h

theorem call_map {l : Addr} {fn : Value} {items : Array Value} {Q : Value → Shared → Prop} (hL : s.heap.IsList l items)
    (h : Q (.ref (s.heap.objs.size + 2)) { s with heap := ((s.heap.push { cls := .type "list_iterator", data := .fields #[.ref l, .int 0 0] }).push (tupObj [.ref s.heap.objs.size])).push (mapObj (s.heap.objs.size + 1) fn) }) :
    wpAny (model prog w) A (call (.type "map") [fn, .ref l]) Q E s := by
  obtain ⟨⟨c, dct, dt, sl⟩, hl, hc, n, hd⟩ := hL
  replace hc : c = .type "list" := hc
  replace hd : dt = .seq items n := hd
  subst hc hd
  refine callType_new called_map (by decide) (typeCall_map _ _) (newCall_map _ _) (fun obj => by unfold argsOk; kernel_rfl) entry_map_new
    (meets_map_new l fn items n dct sl) ⟨hl, ?_⟩
  refine ⟨⟨mapObj (s.heap.objs.size + 1) fn, ?_, rfl⟩, h⟩
  have e2 : ((s.heap.push { cls := .type "list_iterator", data := .fields #[.ref l, .int 0 0] }).push (tupObj [.ref s.heap.objs.size])).objs.size = s.heap.objs.size + 2 := by rw [Heap.size_push, Heap.size_push]
  have := Heap.get?_push_size ((s.heap.push { cls := .type "list_iterator", data := .fields #[.ref l, .int 0 0] }).push (tupObj [.ref s.heap.objs.size])) (o := mapObj (s.heap.objs.size + 1) fn) rfl
  rw [e2] at this
  exact this

theorem next_map_item {I T J l : Addr} {fn : Value} {vs : Array Value} {i : Nat} {x : Value} {Q : Option Value → Shared → Prop} (hI : s.heap.get? I = some (mapObj T fn)) (hT : s.heap.get? T = some (tupObj [.ref J]))
    (hJ : s.heap.IsListIter J l i) (hl : s.heap.IsList l vs) (hx : vs[i]? = some x) (hIJ : I ≠ J)
    (hc : ∀ h', h'.IsListIter J l (i + 1) → Heap.SameBut J s.heap h' → wpAny (model prog w) A.in1 (call fn [x]) (fun v s' => Q (some v) s') (fun _ _ => False) { s with heap := h' }) :
    wpAny (model prog w) A (pyNext (.ref I)) Q E s := by
  have hTy : s.TypeIs (.ref I) "map" := ⟨_, hI, rfl⟩
  unfold pyNext
  refine wpAny_bind (wpAny_attempt (wpAny_callSpecial?_slot (name := Str.ofString "__next__") hTy slot_map_next
    (wpAny_call_entry slot_map_next hTy entry_map_next ?_ (args_map_next _))))
  show wpAny _ _ (field (.ref I) 0 >>= _) _ _ _
  refine wpAny_bind (wpAny_field hI rfl (x := .ref T) rfl ?_)
  refine wpAny_bind (wpAny_seqItems hT rfl ?_)
  dsimp only
  refine wpAny_bind (wpAny_arrayLoop ?_)
  simp only [List.toList_toArray, List.forIn_cons, List.forIn_nil]
  refine wpAny_bind (wpAny_bind (wpAny_holding (wpAny_nextOf_list_item hJ hl hx fun h₁ hJ₁ hs₁ => wpAny_pure ?_)))
  dsimp only
  refine wpAny_pure ?_
  have hI₁ : h₁.get? I = some (mapObj T fn) := (hs₁.2 I hIJ).trans hI
  refine wpAny_bind (wpAny_field hI₁ rfl (x := fn) rfl ?_)
  refine wpAny_bind (wpAny_holding (wpAny_mono (hc h₁ hJ₁ hs₁) (fun v s' hq => ?_) fun _ _ e => e.elim))
  exact wpAny_bind (wpAny_letGo (wpAny_pure ⟨_, rfl, wpAny_pure hq⟩))

theorem next_map_end {I T J l : Addr} {fn : Value} {vs : Array Value} {i : Nat} {Q : Option Value → Shared → Prop} (hh : A.handled = none) (hI : s.heap.get? I = some (mapObj T fn)) (hT : s.heap.get? T = some (tupObj [.ref J]))
    (hJ : s.heap.IsListIter J l i) (hl : s.heap.IsList l vs) (hx : vs[i]? = none) (hQ : ∀ h', Heap.ExtBut J s.heap h' → Q none { s with heap := h' }) :
    wpAny (model prog w) A (pyNext (.ref I)) Q E s := by
  have hTy : s.TypeIs (.ref I) "map" := ⟨_, hI, rfl⟩
  unfold pyNext
  refine wpAny_bind (wpAny_attempt (wpAny_callSpecial?_slot (name := Str.ofString "__next__") hTy slot_map_next
    (wpAny_call_entry slot_map_next hTy entry_map_next ?_ (args_map_next _))))
  show wpAny _ _ (field (.ref I) 0 >>= _) _ _ _
  refine wpAny_bind (wpAny_field hI rfl (x := .ref T) rfl ?_)
  refine wpAny_bind (wpAny_seqItems hT rfl ?_)
  dsimp only
  refine wpAny_bind (wpAny_arrayLoop ?_)
  simp only [List.forIn_cons, List.forIn_nil]
  refine wpAny_bind (wpAny_bind (wpAny_holding (wpAny_nextOf_list_end hh hJ hl hx fun h' x he' hx' => ?_)))
  obtain ⟨o, ho, hc⟩ := hx'
  refine wpAny_bind (wpAny_isInstance (T := "StopIteration") (b := true) ⟨o, ho, hc⟩ isSubtype_stop ?_)
  exact wpAny_pure (hQ _ he')

theorem iter_map {I T : Addr} {fn : Value} {Q : Value → Shared → Prop} (hI : s.heap.get? I = some (mapObj T fn)) (h : Q (.ref I) s) : wpAny (model prog w) A (pyIter (.ref I)) Q E s := by
  have hT : s.TypeIs (.ref I) "map" := ⟨_, hI, rfl⟩
  refine wpAny_pyIter_slot hT slot_map_iter (wpAny_call_entry slot_map_iter hT entry_map_iter ?_ (args_map_iter _))
  show wpAny _ _ (ret (.ref I)) _ _ s
  exact wpAny_pure ⟨_, rfl, "map", _, hT, slot_map_next.lookup, h⟩
end
end Mine
end
section
open PySem PySem.Spec PySem.Calls PySem.W PyProof.Rows
namespace Mine
set_option maxRecDepth 100000
section
variable {prog : Program} {w : World} {A : Around} {E : Value → Shared → Prop} {s : Shared}

/-- the state of a map object amid its walk; g: the heap ahead of the walk -/
noncomputable def MapSt (g : Heap) (I T J l : Addr) (fn : Value) (vs : List Value) (i : Nat) (h : Heap) : Prop :=
  (∀ b o, b ≠ J → g.get? b = some o → h.get? b = some o) ∧ h.get? I = some (mapObj T fn) ∧ h.get? T = some (tupObj [.ref J]) ∧ h.IsListIter J l i ∧ h.IsList l vs.toArray

theorem walks_map {g : Heap} {I T J l : Addr} {fn : Value} {vs : List Value} (hh : A.handled = none) (hIJ : I ≠ J) (hTJ : T ≠ J) (hlJ : l ≠ J)
    (hc : ∀ (s : Shared) (v : Value) (Q : Value → Shared → Prop), v ∈ vs → (∀ b o, b ≠ J → g.get? b = some o → s.heap.get? b = some o) → (∀ h' tk, s.heap.StaysIn h' → Q v { s with heap := h', toks := tk }) → wpAny (model prog w) A.in1 (call fn [v]) Q (fun _ _ => False) s) :
    Walks prog w A I (I :: T :: J :: l :: List.range g.objs.size) [J] vs.length (fun i v => vs[i]? = some v) (MapSt g I T J l fn vs) where
  sub := fun b hb => by rw [List.mem_singleton.mp hb]; simp
  frame := fun i h h' st hk => ⟨fun b o hb e => hk b (by simp [List.mem_range.mpr (Heap.lt_size e)]) o (st.1 b o hb e), hk I (by simp) _ st.2.1, hk T (by simp) _ st.2.2.1, st.2.2.2.1.at fun o e => hk J (by simp) o e, st.2.2.2.2.at fun o e => hk l (by simp) o e⟩
  item := fun i s Q E hi st hQ => by
    obtain ⟨hg, hI, hT, hJ, hl⟩ := st
    have hx : vs.toArray[i]? = some vs[i] := by simp [hi]
    refine next_map_item hI hT hJ hl hx hIJ fun h₁ hJ₁ hs₁ => hc _ _ _ (List.getElem_mem hi) (fun b o hb e => hs₁.extBut b o hb (hg b o hb e)) fun h₂ tk st₂ => ?_
    refine hQ _ h₂ tk (by simp [hi]) ⟨fun b o hb e => st₂ b o (hs₁.extBut b o hb (hg b o hb e)), st₂ _ _ (hs₁.extBut _ _ hIJ hI), st₂ _ _ (hs₁.extBut _ _ hTJ hT), hJ₁.at fun o e => st₂ _ _ e, (hl.extBut hs₁.extBut hlJ).at fun o e => st₂ _ _ e⟩ fun b o hb e => st₂ b o (hs₁.extBut b o (fun q => hb (by simp [q])) e)
  done := fun s Q E st hQ => by
    obtain ⟨hg, hI, hT, hJ, hl⟩ := st
    exact next_map_end hh hI hT hJ hl (by simp) fun h' hx => hQ h' s.toks fun b o hb e => hx b o (fun q => hb (by simp [q])) e
  self := fun i s Q E st hQ => iter_map st.2.1 hQ

theorem collect_map {g : Heap} {I T J l : Addr} {fn : Value} {vs : List Value} {R : Result → Shared → Prop} (W : Walks prog w A.in1 I (I :: T :: J :: l :: List.range g.objs.size) [J] vs.length (fun i v => vs[i]? = some v) (MapSt g I T J l fn vs))
    (st : MapSt g I T J l fn vs 0 s.heap) (hb : ∀ b ∈ I :: T :: J :: l :: List.range g.objs.size, b < s.heap.objs.size) (hn : vs.length ≤ sizeLine)
    (hQ : ∀ (h' : Heap) (tk : Nat) (D : Addr) (c : Nat), (∀ b o, b ≠ J → s.heap.get? b = some o → h'.get? b = some o) → h'.get? D = some { cls := .type "list", data := .seq vs.toArray c } → R (.ok (.ret (.ref D))) { s with heap := h', toks := tk }) :
    codeAny (model prog w) A (.builtin "proto.collect" ⟨[.ref I], []⟩) R s := by
  obtain ⟨hp, gs, d, tk, os⟩ := s
  have hI : (Shared.mk hp gs d tk os).heap.get? I = some (mapObj T fn) := st.2.1
  have hTy : (Shared.mk hp gs d tk os).TypeIs (.ref I) "map" := ⟨_, hI, rfl⟩
  have n1 := map_no_len
  have n2 := map_no_hint
  refine codeAny_builtin F.entry_proto_collect ?_
  rw [Around.under_plainId F.plain_proto_collect _]
  unfold Builtin.«proto.collect»
  wp_walk
  refine ⟨plainId_quiet F.plain_list_iadd _, codeAny_builtin F.entry_list_iadd ?_⟩
  rw [Around.under_plainId F.plain_list_iadd _]
  generalize hH : hp.push { cls := .type "list", data := .seq ([] : List Value).toArray } = H
  have hS : H.get? hp.objs.size = some { cls := .type "list", data := .seq ([] : List Value).toArray } := by rw [← hH]; exact Heap.get?_push_size _ rfl
  have up : ∀ b o, hp.get? b = some o → H.get? b = some o := fun b o e => by rw [← hH]; exact Heap.get?_push_of_some _ e
  have hTy' : (Shared.mk H gs d tk os).TypeIs (.ref I) "map" := ⟨_, up _ _ hI, rfl⟩
  have hSI : Builtin.List.listSameRef (.ref hp.objs.size) (.ref I) = false := by simp [Builtin.List.listSameRef, Nat.ne_of_gt (Heap.lt_size hI)]
  unfold Builtin.«list.__iadd__» Builtin.List.listExtendWith
  wp_walk using wpAny_typeOf hTy', iter_map (up _ _ hI)
  refine ⟨plainId_quiet F.plain_extend_loop _, ?_⟩
  generalize hK : (H.update hp.objs.size (Obj.mapSeq fun x => x.push Value.none)).update hp.objs.size (Obj.mapSeq fun x => x.pop) = K
  have a1 := Heap.get?_update_self (Obj.mapSeq (·.push Value.none)) hS rfl
  have a2 := Heap.get?_update_self (Obj.mapSeq (·.pop)) a1 rfl
  have new : hp.objs.size ∉ I :: T :: J :: l :: List.range g.objs.size := fun q => Nat.lt_irrefl _ (hb _ q)
  have upK : ∀ b o, b ≠ hp.objs.size → hp.get? b = some o → K.get? b = some o := fun b o q e => by
    rw [← hK]; exact (Heap.get?_update_other _ _ (Ne.symm q)).trans ((Heap.get?_update_other _ _ (Ne.symm q)).trans (up b o e))
  have st' : MapSt g I T J l fn vs 0 K := W.frame 0 hp K st fun b q o e => upK b o (fun z => new (z ▸ q)) e
  rw [hK] at a2
  refine codeAny_extend_loopS (s := ⟨K, gs, d, tk, os⟩) W.toS hn hp.objs.size new (.ref hp.objs.size) vs.length 0 _ _ rfl (Nat.zero_le _) st' a2 (ItemsOf.nil _) fun s' acc c hm hS' hacc => ?_
  obtain ⟨h', gs', d', tk', os'⟩ := s'
  obtain ⟨m1, m2, m3, m4, m5⟩ := hm
  have e1 : gs' = gs := m2
  have e2 : d' = d := m3
  have e3 : os' = os := m4
  subst e1 e2 e3
  have e : acc.toList = vs := by
    refine List.ext_getElem? fun j => ?_
    cases q : acc.toList[j]? with
    | some v => exact (hacc.2 j v (by simpa using q)).symm
    | none =>
      have := hacc.1
      rw [List.getElem?_eq_none_iff, Array.length_toList] at q
      rw [List.getElem?_eq_none (by omega)]
  have e' : acc = vs.toArray := by rw [← e]
  rw [e'] at hS'
  exact hQ h' tk' _ c (fun b o q e => m1 b o (fun z => by rcases List.mem_cons.mp z with z | z; exact new (by subst z; exact absurd (Heap.lt_size e) (Nat.lt_irrefl _)); exact q (List.mem_singleton.mp z)) (upK b o (Nat.ne_of_lt (Heap.lt_size e)) e)) hS'

theorem tuple_map {I T J l : Addr} {fn : Value} {vs : List Value} {Q : Value → Shared → Prop} (hh : A.handled = none) (hI : s.heap.get? I = some (mapObj T fn)) (hT : s.heap.get? T = some (tupObj [.ref J])) (hJ : s.heap.IsListIter J l 0) (hl : s.heap.IsList l vs.toArray) (hn : vs.length ≤ sizeLine) 
    (hc : ∀ (s' : Shared) (v : Value) (Q : Value → Shared → Prop), v ∈ vs → (∀ b o, b ≠ J → s.heap.get? b = some o → s'.heap.get? b = some o) → (∀ h' tk, s'.heap.StaysIn h' → Q v { s' with heap := h', toks := tk }) → wpAny (model prog w) A.in1.in1.in1.in1 (call fn [v]) Q (fun _ _ => False) s')
    (hQ : ∀ (h' : Heap) (tk : Nat), (∀ b o, b ≠ J → s.heap.get? b = some o → h'.get? b = some o) → Q (.ref h'.objs.size) { s with heap := h'.push (tupObj vs), toks := tk }) :
    wpAny (model prog w) A (call (.type "tuple") [.ref I]) Q E s := by
  have apart : ∀ {b : Addr} {o : Obj}, s.heap.get? b = some o → o.cls ≠ .type "list_iterator" → b ≠ J := fun e q z => by
    obtain ⟨oj, e', c, _⟩ := hJ
    subst z; rw [e] at e'; cases e'; exact q c
  obtain ⟨ol, hol, hcl, _⟩ := id hl
  have W : Walks prog w A.in1.in1.in1 I (I :: T :: J :: l :: List.range s.heap.objs.size) [J] vs.length (fun i v => vs[i]? = some v) (MapSt s.heap I T J l fn vs) :=
    walks_map hh (apart hI (show Value.type "map" ≠ Value.type "list_iterator" by decide)) (apart hT (show Value.type "tuple" ≠ Value.type "list_iterator" by decide)) (apart hol (by rw [hcl]; decide)) hc
  refine callType_codes (Q₁ := fun obj s₁ => s₁.TypeIs obj "tuple" ∧ Q obj s₁) F.called_tuple (F.typeCall_tuple_1 _) F.entry_object_init ?_ fun obj s₁ h₁ =>
    ⟨h₁.1, F.args_object_init_2 obj _, object_init_meets F.called_tuple.init.lookup F.called_tuple.made (by decide) prog w A.in1 _ s₁ ⟨h₁.1, rfl, h₁.2⟩⟩
  refine codeAny_of_tree (wpAny_bind (wpAny_of_eq (F.newCall_tuple_1 _) (wpAny_pure ⟨plainId_quiet F.plain_tuple_new _, codeAny_builtin F.entry_tuple_new ?_⟩)))
  rw [Around.under_plainId F.plain_tuple_new _]
  obtain ⟨hp, gs, d, tk, os⟩ := s
  have f1 := sub_tuple_self
  have f2 := init_tuple_lookup
  have f3 := madeHere_tuple
  have hTy : (Shared.mk hp gs d tk os).TypeIs (.ref I) "map" := ⟨_, hI, rfl⟩
  have below : ∀ b ∈ I :: T :: J :: l :: List.range hp.objs.size, b < hp.objs.size := by
    intro b hb
    simp only [List.mem_cons, List.mem_range] at hb
    rcases hb with rfl | rfl | rfl | rfl | hb
    · exact Heap.lt_size hI
    · exact Heap.lt_size hT
    · exact Heap.lt_size (Exists.choose_spec hJ).1
    · exact Heap.lt_size hol
    · exact hb
  wp_walk using wpAny_typeOf hTy
  refine collect_map (hn := hn) W ⟨fun _ _ _ e => e, hI, hT, hJ, hl⟩ below fun h' tk' D c hk hD => ?_
  dsimp only
  refine wpAny_bind (wpAny_load hD (wpAny_pure ?_))
  wp_walk
  exact ⟨⟨_, Heap.get?_push_size _ rfl, rfl⟩, hQ h' tk' hk⟩

/-- tuple(map(f, l)) in one: f hands its text back -/
theorem tuple_map_K {h₀ : Heap} {L l : Addr} {m : Str → Option Value} {news : List (Addr × Obj)} {fn : Value} {vs : List Value} {Q : Value → Shared → Prop} (hh : A.handled = none) (F : Fr h₀ L s.heap m) (N : News h₀ L s.heap news) (hl : s.heap.IsList l vs.toArray) (hn : vs.length ≤ sizeLine)
    (hc : ∀ (s' : Shared) (v : Value) (Q : Value → Shared → Prop), v ∈ vs → Fr h₀ L s'.heap m → News h₀ L s'.heap news → (∀ h' tk, s'.heap.StaysIn h' → Q v { s' with heap := h', toks := tk }) → wpAny (model prog w) A.in1.in1.in1.in1 (call fn [v]) Q (fun _ _ => False) s')
    (hQ : ∀ D h' tk, Fr h₀ L h' m → News h₀ L h' ((D, tupObj vs) :: news) → (∀ q ∈ news, q.1 < D) → Q (.ref D) { s with heap := h', toks := tk }) :
    wpAny (model prog w) A (call (.type "map") [fn, .ref l]) (fun v s' => wpAny (model prog w) A (call (.type "tuple") [v]) Q E s') E s := by
  obtain ⟨hp, gs, d, tk, os⟩ := s
  refine call_map hl ?_
  dsimp only at F N hl ⊢
  have z1 : (hp.push { cls := .type "list_iterator", data := .fields #[.ref l, .int 0 0] }).objs.size = hp.objs.size + 1 := Heap.size_push ..
  have z2 : ((hp.push { cls := .type "list_iterator", data := .fields #[.ref l, .int 0 0] }).push (tupObj [.ref hp.objs.size])).objs.size = hp.objs.size + 2 := by rw [Heap.size_push, z1]
  have g1 := Heap.get?_push_size ((hp.push { cls := .type "list_iterator", data := .fields #[.ref l, .int 0 0] }).push (tupObj [.ref hp.objs.size])) (o := mapObj (hp.objs.size + 1) fn) rfl
  have g2 := Heap.get?_push_of_some (mapObj (hp.objs.size + 1) fn) (Heap.get?_push_size (hp.push { cls := .type "list_iterator", data := .fields #[.ref l, .int 0 0] }) (o := tupObj [.ref hp.objs.size]) rfl)
  have g3 := Heap.get?_push_of_some (mapObj (hp.objs.size + 1) fn) (Heap.get?_push_of_some (tupObj [.ref hp.objs.size]) (Heap.get?_push_size hp (o := { cls := .type "list_iterator", data := .fields #[.ref l, .int 0 0] }) rfl))
  have up : ∀ b o, hp.get? b = some o → (((hp.push { cls := .type "list_iterator", data := .fields #[.ref l, .int 0 0] }).push (tupObj [.ref hp.objs.size])).push (mapObj (hp.objs.size + 1) fn)).get? b = some o := fun b o e => Heap.get?_push_of_some _ (Heap.get?_push_of_some _ (Heap.get?_push_of_some _ e))
  rw [z2] at g1
  rw [z1] at g2
  have old : ∀ (h' : Heap), (∀ b o, b ≠ hp.objs.size → (((hp.push { cls := .type "list_iterator", data := .fields #[.ref l, .int 0 0] }).push (tupObj [.ref hp.objs.size])).push (mapObj (hp.objs.size + 1) fn)).get? b = some o → h'.get? b = some o) → hp.StaysIn h' :=
    fun h' k b o e => k b o (Nat.ne_of_lt (Heap.lt_size e)) (up b o e)
  refine tuple_map hh g1 g2 ⟨_, g3, rfl, rfl⟩ (hl.at fun o e => up _ _ e) hn (fun s' v Q' hv hk hq => hc s' v Q' hv (F.keeps (old _ hk)) (N.keepsAll (old _ hk)) hq) fun h' tk' hk => ?_
  have F' := F.keeps (old _ hk)
  have N' := N.keepsAll (old _ hk)
  exact hQ _ _ _ (F'.push _) (News.push F' N' _) fun q hq => Heap.lt_size (N' q hq).1
end
end Mine
end
section
open PySem PySem.Spec PySem.Calls PySem.W PyProof.Rows
namespace Mine
set_option maxRecDepth 100000
open Builtin Builtin.Str
section
variable {prog : Program} {w : World} {A : Around} {E : Value → Shared → Prop} {s : Shared}

theorem nextOf_tuple_item {it t : Addr} {i : Nat} {items} {x : Value} {Q : Value → Shared → Prop} (hit : s.heap.IsTupleIter it t i)
    (ht : s.heap.IsTuple t items) (hx : items[i]? = some x)
    (hQ : ∀ h', h'.IsTupleIter it t (i + 1) → Heap.SameBut it s.heap h' → Q x { s with heap := h' }) :
    wpAny (model prog w) A (Builtin.SmallTypes.nextOf (.ref it)) Q E s := by
  obtain ⟨o, ho, hc, hd⟩ := id hit
  obtain ⟨ol, hol, _, nl, hdl⟩ := ht
  unfold Builtin.SmallTypes.nextOf
  refine wpAny_bind (wpAny_callSpecial?_slot (name := Str.ofString "__next__") hit.typeIs F.slot_tuple_iterator_next
    (wpAny_call_entry F.slot_tuple_iterator_next hit.typeIs F.entry_tuple_iterator_next ?_ (F.args_tuple_iterator_next_1 _)))
  show wpAny _ _ (field (.ref it) 0 >>= _) _ _ s
  refine wpAny_bind (wpAny_field ho hd (x := .ref t) rfl ?_)
  show wpAny _ _ (if (Value.ref t == Value.none) = true then _ else _) _ _ s
  rw [if_neg (show ¬ ((Value.ref t == Value.none) = true) from Bool.false_ne_true)]
  show wpAny _ _ (field (.ref it) 1 >>= _) _ _ s
  refine wpAny_bind (wpAny_field ho hd (x := .int i 0) rfl ?_)
  show wpAny _ _ (seqItems? (.ref t) >>= _) _ _ s
  refine wpAny_bind (wpAny_seqItems hol hdl ?_)
  simp only [Int.toNat_natCast, hx]
  refine wpAny_bind (wpAny_setField ho hd (by simp) (wpAny_pure ⟨x, rfl, wpAny_pure (hQ _ ?_ (Heap.SameBut.update ..))⟩))
  exact ⟨_, Heap.get?_update_self _ ho (Obj.isFreed_of_fields (Obj.data_mapFields hd _)), (Obj.cls_mapFields ..).trans hc, by
    rw [Obj.data_mapFields hd]; simp [rawInt]⟩

theorem nextOf_tuple_end {it t : Addr} {i : Nat} {items} {Q : Value → Shared → Prop} (hh : A.handled = none)
    (hit : s.heap.IsTupleIter it t i) (ht : s.heap.IsTuple t items) (hx : items[i]? = none)
    (hE : ∀ h' e, Heap.ExtBut it s.heap h' → (∃ o, h'.get? e = some o ∧ o.cls = .type "StopIteration") → E (.ref e) { s with heap := h' }) :
    wpAny (model prog w) A (Builtin.SmallTypes.nextOf (.ref it)) Q E s := by
  obtain ⟨o, ho, hc, hd⟩ := id hit
  obtain ⟨ol, hol, _, nl, hdl⟩ := ht
  unfold Builtin.SmallTypes.nextOf
  refine wpAny_bind (wpAny_callSpecial?_slot (name := Str.ofString "__next__") hit.typeIs F.slot_tuple_iterator_next
    (wpAny_call_entry F.slot_tuple_iterator_next hit.typeIs F.entry_tuple_iterator_next ?_ (F.args_tuple_iterator_next_1 _)))
  show wpAny _ _ (field (.ref it) 0 >>= _) _ _ s
  refine wpAny_bind (wpAny_field ho hd (x := .ref t) rfl ?_)
  show wpAny _ _ (if (Value.ref t == Value.none) = true then _ else _) _ _ s
  rw [if_neg (show ¬ ((Value.ref t == Value.none) = true) from Bool.false_ne_true)]
  show wpAny _ _ (field (.ref it) 1 >>= _) _ _ s
  refine wpAny_bind (wpAny_field ho hd (x := .int i 0) rfl ?_)
  show wpAny _ _ (seqItems? (.ref t) >>= _) _ _ s
  refine wpAny_bind (wpAny_seqItems hol hdl ?_)
  simp only [Int.toNat_natCast, hx]
  refine wpAny_bind (wpAny_rule (wpAny_bind (wpAny_setField ho hd (by simp) ?_)))
  show wpAny _ _ (newExc (.type "StopIteration") [] >>= _) _ _ _
  refine wpAny_bind ?_
  simp only [newExc, newTuple]
  refine wpAny_bind (wpAny_newObj_type ?_ (by size_fits))
  refine wpAny_bind (m := firstArgMember _ _) (wpAny_of_eq (a := Value.none) (by first | rfl | (simp only [firstArgMember]; rfl)) ?_)
  refine wpAny_newObj_type ?_ (by size_fits)
  simp only [raiseNew]
  refine wpAny_bind (wpAny_handled ?_)
  first | rw [show A.in1.handled = none from hh] | rw [hh]
  refine wpAny_bind (wpAny_pure (wpAny_throw ?_))
  exact hE _ _ (((Heap.SameBut.update ..).extBut.push _).push _) ⟨_, Heap.get?_push_size _ rfl, rfl⟩

theorem draws_tuple {prog : Program} {w : World} {A : Around} (hh : A.handled = none) (it l : Addr) (hne : l ≠ it) (items : Array Value) :
    Draws prog w A it [it, l] items.size (fun i v => items[i]? = some v) (fun i h => h.IsTupleIter it l i ∧ h.IsTuple l items) where
  live := fun _ _ st => let ⟨o, ho, _⟩ := st.1; ⟨o, ho⟩
  frame := fun _ _ _ st hk => ⟨st.1.at fun o e => hk it (by simp) o e, st.2.at fun o e => hk l (by simp) o e⟩
  item := fun i s Q E hi st hQ => by
    refine nextOf_tuple_item st.1 st.2 (x := items[i]) (by simp [hi]) fun h' hit' hs' => ?_
    exact hQ _ h' s.toks (by simp [hi]) ⟨hit', st.2.extBut hs'.extBut hne⟩ hs'
  done := fun s Q E st hE => nextOf_tuple_end hh st.1 st.2 (by simp) hE

set_option maxHeartbeats 1000000 in
theorem meets_enum_tup (l : Addr) (items : Array Value) (n : Nat) (dct : Option Addr) (sl : Array (Option Value)) :
    PySem.Meets (Builtin.«enumerate.__new__» ⟨[.type "enumerate", .ref l], []⟩) (fun _ R s => s.heap.get? l = some { cls := .type "tuple", dict := dct, data := .seq items n, slots := sl } ∧
      R (.ok (.ret (.ref (s.heap.push { cls := .type "tuple_iterator", data := .fields #[.ref l, .int 0 0] }).objs.size)))
        { s with heap := (s.heap.push { cls := .type "tuple_iterator", data := .fields #[.ref l, .int 0 0] }).push { cls := .type "enumerate", data := .fields #[.none, .bool false, .ref s.heap.objs.size, rawInt 0, .none, .none] } }) :=
  .of_wp fun prog w A R s h => by
    obtain ⟨hp, g, d, tk, os⟩ := s; obtain ⟨hl, h⟩ := h
    have hsub := sub_enumerate
    have hL : Heap.IsTuple (Shared.heap ⟨hp, g, d, tk, os⟩) l items := ⟨_, hl, rfl, n, rfl⟩
    wp_walk using AutoSeq1.wpAny_loadPart' hl
    refine wpAny_stack_any fun st => wpAny_pure ?_
    split
    · rename_i c _ _ _ _ _
      cases (c == Value.type "enumerate")
      · wp_walk using AutoSeq1.wpAny_loadPart' hl, wpAny_pyIter_tuple hL
        exact ⟨_, rfl, h⟩
      · wp_walk using AutoSeq1.wpAny_loadPart' hl, wpAny_pyIter_tuple hL
        exact ⟨_, rfl, h⟩
    · wp_walk using AutoSeq1.wpAny_loadPart' hl, wpAny_pyIter_tuple hL
      exact ⟨_, rfl, h⟩

theorem call_enum_tup {l : Addr} {items : Array Value} {Q : Value → Shared → Prop} (hL : s.heap.IsTuple l items)
    (h : ∀ h', IsEnum h' (s.heap.objs.size + 1) s.heap.objs.size 0 .none → h'.IsTupleIter s.heap.objs.size l 0 → h'.objs.size = s.heap.objs.size + 2 →
      (∀ b o, s.heap.get? b = some o → h'.get? b = some o) → Q (.ref (s.heap.objs.size + 1)) { s with heap := h' }) :
    wpAny (model prog w) A (call (.type "enumerate") [.ref l]) Q E s := by
  obtain ⟨⟨c, dct, dt, sl⟩, hl, hc, n, hd⟩ := hL
  replace hc : c = .type "tuple" := hc
  replace hd : dt = .seq items n := hd
  subst hc hd
  refine callType_new F.called_enumerate (by decide) (F.typeCall_enumerate_1 _) (F.newCall_enumerate_1 _) (fun obj => F.args_object_init_2 obj _) F.entry_enumerate_new
    (meets_enum_tup l items n dct sl) ⟨hl, ?_⟩
  have hz : (s.heap.push { cls := .type "tuple_iterator", data := .fields #[.ref l, .int 0 0] }).objs.size = s.heap.objs.size + 1 := Heap.size_push ..
  show _ ∧ _
  rw [hz]
  have he : IsEnum ((s.heap.push { cls := .type "tuple_iterator", data := .fields #[.ref l, .int 0 0] }).push
      { cls := .type "enumerate", data := .fields #[.none, .bool false, .ref s.heap.objs.size, rawInt 0, .none, .none] }) (s.heap.objs.size + 1) s.heap.objs.size 0 .none := by
    have := Heap.get?_push_size (s.heap.push { cls := .type "tuple_iterator", data := .fields #[.ref l, .int 0 0] })
      (o := { cls := .type "enumerate", data := .fields #[.none, .bool false, .ref s.heap.objs.size, rawInt 0, .none, .none] }) rfl
    rw [hz] at this; exact this
  refine ⟨⟨_, he, rfl⟩, h _ he ⟨_, Heap.get?_push_of_some _ (Heap.get?_push_size _ rfl), rfl, rfl⟩ (by rw [Heap.size_push, hz]) fun b o x => Heap.get?_push_of_some _ (Heap.get?_push_of_some _ x)⟩
end

section
variable {prog : Program} {w : World} {A : Around} {s : Shared} {env : Env} {h₀ : Heap} {body orelse : List Stmt} {Q : Flow → Shared → Prop}
theorem it_enum_tup {elts : List PySem.Expr} {kk : Nat} {pos : Pos} {l : Addr} {vs : List Value} {m : Str → Option Value} {news : List (Addr × Obj)} (J : Nat → (Str → Option Value) → List (Addr × Obj) → Prop) (hh : A.handled = none)
    (hl : s.heap.IsTuple l vs.toArray) (hlL : l ≠ env.locals) (F : Fr h₀ env.locals s.heap m) (N : News h₀ env.locals s.heap news) (h0 : J 0 m news)
    (step : ∀ (i : Nat) v T t m₁ news₁ h₁ tk₁ own, vs[i]? = some v → IsTup h₁ T #[.int (i : Int) t, v] → J i m₁ news₁ → news₁.map (·.1) = news.map (·.1) → (∀ p ∈ own, p.1 = l ∨ p.1 ∉ news.map (·.1)) → Fr h₀ env.locals h₁ m₁ → News h₀ env.locals h₁ (news₁ ++ own) →
      wpAny (model prog w) A (assign (.Tuple elts kk pos) env (.ref T)) (fun _ s₂ => wpAny (model prog w) A (execs body env) (TEnd s h₀ env.locals own (fun m' nx => nx.map (·.1) = news.map (·.1) ∧ J (i + 1) m' nx) Q) NoE s₂) NoE { s with heap := h₁, toks := tk₁ })
    (done : ∀ h tk m' news', J vs.length m' news' → Fr h₀ env.locals h m' → News h₀ env.locals h news' → wpAny (model prog w) A (execs orelse env) Q NoE { s with heap := h, toks := tk }) :
    wpAny (model prog w) A (call (.type "enumerate") [.ref l]) (fun xv s₁ => wpAny (model prog w) A (pyIter xv) (fun it s₂ => codeAny (model prog w) A (.forLoop (.Tuple elts kk pos) it body orelse env) (fun r s' => match r with | .ok f => Q f s' | .error e => cameBackBy (model prog w) A env NoE e s') s₂) NoE s₁) NoE s := by
  obtain ⟨ol, hol, _⟩ := id hl
  have hlt : l < s.heap.objs.size := Heap.lt_size hol
  have hLs : env.locals < s.heap.objs.size := F.ns.lt
  refine call_enum_tup hl fun h' hE hI hsz hk => ?_
  refine wpAny_pyIter_enum hE ?_
  have hef : s.heap.objs.size + 1 ∉ [s.heap.objs.size, l] := by
    intro hb
    rcases List.mem_cons.mp hb with e | e
    · exact Nat.succ_ne_self _ e
    · exact ktu_ne 1 hlt (List.mem_singleton.mp e).symm
  have W : KTurns prog w A (.Tuple elts kk pos) (s.heap.objs.size + 1) _ _ _ _ _ _ := KTurns.ofWalksU (WalksT.enumerateD (draws_tuple (prog := prog) (w := w) (A := A.in1) hh s.heap.objs.size l (Nat.ne_of_lt hlt) vs.toArray) (s.heap.objs.size + 1) (Nat.succ_ne_self _) hef (by simp)).toU
  refine for_J (s := { s with heap := h' }) (n := vs.toArray.size) W ?_ (fun b hb => ?_) (fun p hp hI => ?_) ⟨⟨.none, hE⟩, hI, hl.at fun o e => hk l o e⟩ (F.keeps hk) (N.grown hk) J h0 ?_ ?_
  · intro hI'
    have hb' : env.locals = s.heap.objs.size + 1 ∨ env.locals = s.heap.objs.size ∨ env.locals = l := by simpa using hI'
    rcases hb' with e | e | e
    · exact ktu_ne 1 hLs e
    · exact Nat.ne_of_lt hLs e
    · exact hlL e.symm
  · have hb' : b = s.heap.objs.size + 1 ∨ b = s.heap.objs.size := by simpa using hb
    rcases hb' with rfl | rfl
    · exact ktu_new F (Nat.le_add_right _ _)
    · exact ktu_new F (Nat.le_refl _)
  · have hb' : p.1 = s.heap.objs.size + 1 ∨ p.1 = s.heap.objs.size := by simpa using hI
    have hlp := Heap.lt_size (N p hp).1
    rcases hb' with e | e
    · exact ktu_ne 1 hlp e
    · exact Nat.ne_of_lt hlp e
  · rintro i v m₁ news₁ h₁ tk₁ own hi ⟨T, vals, rfl, ⟨t, x, hx, rfl⟩, hT⟩ hJ ha hown F₁ N₁
    refine step i x T t m₁ news₁ h₁ tk₁ own (by simpa using hx) hT hJ ha (fun p hp => ?_) F₁ N₁
    have hq : p.1 = s.heap.objs.size + 1 ∨ p.1 = s.heap.objs.size ∨ p.1 = l := by simpa using hown p hp
    rcases hq with e | e | e
    · refine .inr fun hq => ?_
      obtain ⟨q, hq, e'⟩ := List.mem_map.mp hq
      exact ktu_ne 1 (Heap.lt_size (N q hq).1) (e'.trans e)
    · refine .inr fun hq => ?_
      obtain ⟨q, hq, e'⟩ := List.mem_map.mp hq
      exact Nat.ne_of_lt (Heap.lt_size (N q hq).1) (e'.trans e)
    · exact .inl e
  · intro h tk m' news' hJ F' N'
    exact done h tk m' news' (by simpa using hJ) F' N'

end
end Mine
end
section
open PySem PySem.Spec PySem.Calls PySem.W PyProof.Rows
namespace Mine
set_option maxRecDepth 100000
theorem fill5 : PySem.Challenge.rw_pd0062_01.prog = PySem.Challenge.rw_pd0062_01.prog → hd.heap_39 = hd.heap_39 := by k_fill; intros; rfl
variable {prog : Program} {w : World} {s : Shared} {mean : ExcName → Option Value} {mg mb : Str → Option Value}
set_option maxHeartbeats 4000000
local macro_rules | `(tactic| walk_at "execs nil") => `(tactic| (k_here; refine wpAny_execs_nil ?_))
local macro_rules | `(tactic| walk_at "call ref") => `(tactic| (k_here; (with_reducible show wpAny _ _ (call (Value.ref 155) [Value.int _ _]) _ _ _); k_dflt (refine' use_meets (c_ifmt (Ok.keeps (by assumption) (Fr.keep (by assumption))) _ _ (by assumption) (by assumption)) ?k1 ?k2 ?k3 ?k4 ?k5 ?k6 ?k7 ?k8 ?k9 ?_; (case k1 => assumption); (case k2 => assumption); (case k3 => assumption); (case k4 => exact rfl); (case k5 => exact rfl); (case k6 => exact rfl); (case k7 => exact rfl); (case k8 => exact Nat.le_of_ble_eq_true rfl); (case k9 => exact Nat.le_of_ble_eq_true rfl); k_whole); intro v' h' tk' e' st' F' N'; obtain ⟨t', e'⟩ := e'; subst e'; (try k_sweep)))

noncomputable def seg0 (i : Int) : Str :=
  if i / 4096 * 4096 = 40960 then Str.ofString "l" else if i / 4096 * 4096 = 49152 then Str.ofString "s" else if i / 4096 * 4096 = 32768 then Str.ofString "-"
  else if i / 4096 * 4096 = 24576 then Str.ofString "b" else if i / 4096 * 4096 = 16384 then Str.ofString "d" else if i / 4096 * 4096 = 8192 then Str.ofString "c"
  else if i / 4096 * 4096 = 4096 then Str.ofString "p" else Str.ofString "?"
noncomputable def seg1 (i b : Int) (c : Str) : Str := if Builtin.bitAnd i b = b then c else Str.ofString "-"
noncomputable def seg3 (i a b c : Int) (x y z : Str) : Str := if Builtin.bitAnd i a = a then x else if Builtin.bitAnd i b = b then y else if Builtin.bitAnd i c = c then z else Str.ofString "-"
noncomputable def segs (i : Int) : List Str :=
  [seg0 i, seg1 i 256 (Str.ofString "r"), seg1 i 128 (Str.ofString "w"), seg3 i 2112 2048 64 (Str.ofString "s") (Str.ofString "S") (Str.ofString "x"),
   seg1 i 32 (Str.ofString "r"), seg1 i 16 (Str.ofString "w"), seg3 i 1032 1024 8 (Str.ofString "s") (Str.ofString "S") (Str.ofString "x"),
   seg1 i 4 (Str.ofString "r"), seg1 i 2 (Str.ofString "w"), seg3 i 513 512 1 (Str.ofString "t") (Str.ofString "T") (Str.ofString "x")]
noncomputable def fmF (i : Int) : Str := Txt.join (Str.ofString "") (segs i)

noncomputable def JF (i : Int) (P : Addr) (m : Str → Option Value) (k : Nat) (m' : Str → Option Value) (nx : List (Addr × Obj)) : Prop :=
  ∃ acc ep, nx = [(P, listOf (strValues acc).toArray ep)] ∧ acc.map (·.1) = (segs i).take k ∧ ∀ z, z ≠ Str.ofString "index" → z ≠ Str.ofString "table" → z ≠ Str.ofString "bit" → z ≠ Str.ofString "char" → m' z = m z

theorem lt_ne {h₀ h : Heap} {a L : Addr} {o : Obj} {m : Str → Option Value} (X : h₀.get? a = some o) (F : Fr h₀ L h m) : a ≠ L := Nat.ne_of_lt (Nat.lt_of_lt_of_le (Heap.lt_size X) F.above)
theorem off_tup {h₀ : Heap} {a P : Addr} {o : Obj} {own own2 : List (Addr × Obj)} (X : h₀.get? a = some o) (hP : h₀.get? P = none) (h1 : OwnOff own [P]) (h2 : ∀ p ∈ own2, p.1 = a ∨ p.1 ≠ P) : OwnOff (own ++ own2) [P] := by
  intro p hp b hb e
  rcases List.mem_append.mp hp with hp | hp
  · exact h1 p hp b hb e
  · have e' : p.1 = P := e.trans (List.mem_singleton.mp hb)
    rcases h2 p hp with q | q
    · rw [← q, e', hP] at X; cases X
    · exact q e'
local macro_rules | `(tactic| walk_at "call builtin:list.append") => `(tactic| (k_here; k_dflt (refine' append_K ?k1 ?k2 ?k3 ?_ ?z; (case k1 => k_asm); (case k2 => k_asm); (case k3 => k_upd); (case z => (simp only [List.size_toArray, strValues_length, List.length_append, List.length_cons, List.length_nil, sizeLine_eq]; omega)); k_whole); intro h' F' N'; (try k_sweep)))

theorem strValues_push (acc : List (Str × Tok)) (c : Str) (tc : Tok) : (strValues acc).toArray.push (.str c tc) = (strValues (acc ++ [(c, tc)])).toArray := by rw [strValues_snoc, List.push_toArray]
theorem TEnd_next {s : Shared} {h₀ : Heap} {L : Addr} {own news' led : List (Addr × Obj)} {nxt : (Str → Option Value) → List (Addr × Obj) → Prop} {Q : Flow → Shared → Prop} {h' : Heap} {tk' : Nat} {m' : Str → Option Value}
    (F' : Fr h₀ L h' m') (N' : News h₀ L h' led) (h1 : ∀ p ∈ own, p ∈ led) (h2 : ∀ p ∈ news', p ∈ led) (r : nxt m' news') : TEnd s h₀ L own nxt Q .next { s with heap := h', toks := tk' } :=
  ⟨h', tk', m', news', led, rfl, F', N', h1, h2, r⟩
theorem TEnd_brk {s s₃ : Shared} {h₀ : Heap} {L : Addr} {own : List (Addr × Obj)} {nxt : (Str → Option Value) → List (Addr × Obj) → Prop} {Q : Flow → Shared → Prop} (h : Q .next s₃) : TEnd s h₀ L own nxt Q .brk s₃ := h
theorem JF_end {s : Shared} {h₀ : Heap} {L P : Addr} {i : Int} {k : Nat} {own led : List (Addr × Obj)} {m m' : Str → Option Value} {Q : Flow → Shared → Prop} {h' : Heap} {tk' ep : Nat} {acc : List (Str × Tok)} {its : Array Value} {c : Str} {tc : Tok}
    (F' : Fr h₀ L h' m') (N' : News h₀ L h' led) (h1 : ∀ p ∈ own, p ∈ led) (hn : (P, listOf its ep) ∈ led) (hi : its = (strValues (acc ++ [(c, tc)])).toArray) (hacc : acc.map (·.1) = (segs i).take k) (hc : (segs i)[k]? = some c)
    (hm : ∀ z, z ≠ Str.ofString "index" → z ≠ Str.ofString "table" → z ≠ Str.ofString "bit" → z ≠ Str.ofString "char" → m' z = m z) :
    TEnd s h₀ L own (fun m' nx => nx.map (·.1) = [P] ∧ JF i P m (k + 1) m' nx) Q .next { s with heap := h', toks := tk' } :=
  TEnd_next F' N' h1 (fun p hp => by rw [List.mem_singleton.mp hp]; exact hi ▸ hn) ⟨rfl, acc ++ [(c, tc)], ep, rfl, by rw [List.map_append, hacc, List.take_add_one, hc]; rfl, hm⟩

theorem seg1_len (i b : Int) (c : Str) (h : c.length = 1) : (seg1 i b c).length = 1 := by unfold seg1; split; exact h; rfl
theorem seg3_len (i a b c : Int) (x y z : Str) (h : x.length = 1) (h' : y.length = 1) (h'' : z.length = 1) : (seg3 i a b c x y z).length = 1 := by unfold seg3; split; exact h; split; exact h'; split; exact h''; rfl
theorem seg0_len (i : Int) : (seg0 i).length = 1 := by unfold seg0; (repeat' split) <;> rfl
theorem segs_len (i : Int) : (segs i).map (·.length) = [1, 1, 1, 1, 1, 1, 1, 1, 1, 1] := by
  simp only [segs, List.map_cons, List.map_nil]
  rw [seg0_len, seg1_len _ _ _ rfl, seg1_len _ _ _ rfl, seg3_len _ _ _ _ _ _ _ rfl rfl rfl, seg1_len _ _ _ rfl, seg1_len _ _ _ rfl, seg3_len _ _ _ _ _ _ _ rfl rfl rfl, seg1_len _ _ _ rfl, seg1_len _ _ _ rfl, seg3_len _ _ _ _ _ _ _ rfl rfl rfl]
theorem segs_ok (i : Int) : JoinOk (Str.ofString "") (segs i) = true := by
  refine joinOk_of ?_
  rw [segs_len]
  have e : (segs i).length = 10 := rfl
  rw [e]
  decide
local macro_rules | `(tactic| walk_at "call builtin:str.join") => `(tactic| (k_here; k_dflt (refine' SC.join ?k1 ?k2 ?k3 ?_; (case k1 => exact ⟨_, News.get (by k_asm) (by k_mem), rfl, _, rfl⟩); (case k2 => exact rfl); (case k3 => assumption); k_whole); intro _ _))
local macro_rules | `(tactic| walk_at "exec For Tuple Call cons nil") => `(tactic| (k_here; k_dflt (refine wpAny_For ?_)))
local macro_rules | `(tactic| walk_at "exec For Tuple Name cons cons") => `(tactic| (k_here; k_dflt (refine wpAny_For ?_)))

/-- a pair of the table: where it stands, its int and its text -/
structure TEnt where
  a : Addr
  b : Int
  tb : Tok
  c : Str
  tc : Tok
noncomputable def tabs : List (Addr × List TEnt) :=
  [(170, [⟨163, 40960, 392, Str.ofString "l", 427⟩, ⟨164, 49152, 394, Str.ofString "s", 428⟩, ⟨165, 32768, 388, Str.ofString "-", 429⟩, ⟨166, 24576, 386, Str.ofString "b", 430⟩, ⟨167, 16384, 382, Str.ofString "d", 431⟩, ⟨168, 8192, 384, Str.ofString "c", 432⟩, ⟨169, 4096, 390, Str.ofString "p", 433⟩]),
   (172, [⟨171, 256, 409, Str.ofString "r", 434⟩]),
   (174, [⟨173, 128, 411, Str.ofString "w", 435⟩]),
   (178, [⟨175, 2112, 436, Str.ofString "s", 437⟩, ⟨176, 2048, 403, Str.ofString "S", 438⟩, ⟨177, 64, 413, Str.ofString "x", 439⟩]),
   (180, [⟨179, 32, 415, Str.ofString "r", 440⟩]),
   (182, [⟨181, 16, 417, Str.ofString "w", 441⟩]),
   (186, [⟨183, 1032, 442, Str.ofString "s", 443⟩, ⟨184, 1024, 405, Str.ofString "S", 444⟩, ⟨185, 8, 419, Str.ofString "x", 445⟩]),
   (188, [⟨187, 4, 421, Str.ofString "r", 446⟩]),
   (190, [⟨189, 2, 423, Str.ofString "w", 447⟩]),
   (194, [⟨191, 513, 448, Str.ofString "t", 449⟩, ⟨192, 512, 407, Str.ofString "T", 450⟩, ⟨193, 1, 425, Str.ofString "x", 451⟩])]
noncomputable def pickS (p : Int → Prop) [DecidablePred p] (d : Str) : List TEnt → Str
  | [] => d
  | x :: r => if p x.b then x.c else pickS p d r
theorem pick_hit {p : Int → Prop} [DecidablePred p] {d : Str} : ∀ {es : List TEnt} {j : Nat} {x : TEnt}, es[j]? = some x → (∀ (j' : Nat) (y : TEnt), j' < j → es[j']? = some y → ¬ p y.b) → p x.b → pickS p d es = x.c
  | [], _, _, h, _, _ => by simp at h
  | e :: r, 0, x, h, _, hx => by
    obtain rfl : e = x := by simpa using h
    exact if_pos hx
  | e :: r, j + 1, x, h, hn, hx => by
    unfold pickS
    rw [if_neg (hn 0 e (Nat.succ_pos _) rfl)]
    exact pick_hit (j := j) (by simpa using h) (fun j' y hj hy => hn (j' + 1) y (Nat.succ_lt_succ hj) (by simpa using hy)) hx
theorem pick_miss {p : Int → Prop} [DecidablePred p] {d : Str} : ∀ {es : List TEnt}, (∀ (j' : Nat) (y : TEnt), es[j']? = some y → ¬ p y.b) → pickS p d es = d
  | [], _ => rfl
  | e :: r, hn => by
    unfold pickS
    rw [if_neg (hn 0 e rfl)]
    exact pick_miss fun j' y hy => hn (j' + 1) y (by simpa using hy)
theorem seg_zero {i : Int} {e : Addr × List TEnt} (h : tabs[0]? = some e) : (segs i)[0]? = some (pickS (fun b => i / 4096 * 4096 = b) (Str.ofString "?") e.2) := by
  obtain rfl := Option.some.inj h
  rfl
theorem seg_more {i : Int} {k : Nat} {e : Addr × List TEnt} (hk : k ≠ 0) (h : tabs[k]? = some e) : (segs i)[k]? = some (pickS (fun b => Builtin.bitAnd i b = b) (Str.ofString "-") e.2) := by
  match k, hk, h with
  | 0, hk, _ => exact absurd rfl hk
  | 1, _, h | 2, _, h | 3, _, h | 4, _, h | 5, _, h | 6, _, h | 7, _, h | 8, _, h | 9, _, h => obtain rfl := Option.some.inj h; rfl
  | n + 10, _, h => simp [tabs] at h
noncomputable def hitF (i : Int) (k : Nat) (b : Int) : Prop := (k = 0 ∧ i / 4096 * 4096 = b) ∨ (k ≠ 0 ∧ Builtin.bitAnd i b = b)
noncomputable def frm (P : Addr) (k : Nat) (tt : Tok) (i : Int) (t : Tok) (u v w : Option Value) (z : Str) : Option Value :=
  if z = Str.ofString "char" then u else if z = Str.ofString "bit" then v else if z = Str.ofString "table" then w else if z = Str.ofString "index" then some (.int (k : Int) tt) else
    if z = Str.ofString "perm" then some (Value.ref P) else List.lookup z [(Str.ofString "mode", Value.int i t)].reverse
theorem frm_eq {P : Addr} {k : Nat} {tt : Tok} {i : Int} {t : Tok} {m : Str → Option Value} (hix : m (Str.ofString "index") = some (.int (k : Int) tt))
    (hm : ∀ z, z ≠ Str.ofString "index" → z ≠ Str.ofString "table" → z ≠ Str.ofString "bit" → z ≠ Str.ofString "char" → m z = if z = Str.ofString "perm" then some (Value.ref P) else List.lookup z [(Str.ofString "mode", Value.int i t)].reverse) :
    m = frm P k tt i t (m (Str.ofString "char")) (m (Str.ofString "bit")) (m (Str.ofString "table")) := by
  funext z
  unfold frm
  by_cases a1 : z = Str.ofString "char"
  · subst a1; rw [if_pos rfl]
  by_cases a2 : z = Str.ofString "bit"
  · subst a2; rw [if_neg a1, if_pos rfl]
  by_cases a3 : z = Str.ofString "table"
  · subst a3; rw [if_neg a1, if_neg a2, if_pos rfl]
  by_cases a4 : z = Str.ofString "index"
  · subst a4; rw [if_neg a1, if_neg a2, if_neg a3, if_pos rfl]; exact hix
  rw [if_neg a1, if_neg a2, if_neg a3, if_neg a4]
  exact hm z a4 a3 a2 a1
theorem tab_mem {k : Nat} {e : Addr × List TEnt} (h : tabs[k]? = some e) : e ∈ tabs := List.mem_of_getElem? h
theorem tab_obj : ∀ e ∈ tabs, ∀ P, (hd.heap_39 P).lookup e.1 = some { cls := .type "tuple", data := .seq (e.2.map fun x => Value.ref x.a).toArray } := by
  simp only [tabs, List.forall_mem_cons]
  refine ⟨fun P => rfl, fun P => rfl, fun P => rfl, fun P => rfl, fun P => rfl, fun P => rfl, fun P => rfl, fun P => rfl, fun P => rfl, fun P => rfl, fun _ h => nomatch h⟩
theorem ent_obj : ∀ e ∈ tabs, ∀ x ∈ e.2, ∀ P, (hd.heap_39 P).lookup x.a = some { cls := .type "tuple", data := .seq #[.int x.b x.tb, .str x.c x.tc] } := by
  simp only [tabs, List.forall_mem_cons]
  repeat' apply And.intro
  all_goals first | exact fun P => rfl | exact fun _ h => nomatch h
theorem ix_frm {u v u5 u6 u7 o : Option Value} {f : Option Value} : (if Str.ofString "index" = Str.ofString "char" then u else if Str.ofString "index" = Str.ofString "bit" then v else if Str.ofString "index" = Str.ofString "char" then u5 else if Str.ofString "index" = Str.ofString "bit" then u6 else
    if Str.ofString "index" = Str.ofString "table" then u7 else if Str.ofString "index" = Str.ofString "index" then o else f) = o := by
  rw [if_neg (by decide), if_neg (by decide), if_neg (by decide), if_neg (by decide), if_neg (by decide), if_pos rfl]
theorem hit_seg {i : Int} {k j : Nat} {e : Addr × List TEnt} {x : TEnt} (he : tabs[k]? = some e) (hx : e.2[j]? = some x) (hn : ∀ (j' : Nat) (y : TEnt), j' < j → e.2[j']? = some y → ¬ hitF i k y.b) (h : hitF i k x.b) : (segs i)[k]? = some x.c := by
  by_cases hk : k = 0
  · subst hk
    rw [seg_zero he]
    exact congrArg some (pick_hit hx (fun j' y hj hy hp => hn j' y hj hy (.inl ⟨rfl, hp⟩)) (h.elim (·.2) fun h => absurd rfl h.1))
  · rw [seg_more hk he]
    exact congrArg some (pick_hit hx (fun j' y hj hy hp => hn j' y hj hy (.inr ⟨hk, hp⟩)) (h.elim (fun h => absurd h.1 hk) (·.2)))
theorem miss0 {i : Int} {k : Nat} {e : Addr × List TEnt} (he : tabs[k]? = some e) (hn : ∀ (j' : Nat) (y : TEnt), e.2[j']? = some y → ¬ hitF i k y.b) (hk : (k : Int) = 0) : (segs i)[k]? = some (Str.ofString "?") := by
  obtain rfl : k = 0 := by omega
  rw [seg_zero he]
  exact congrArg some (pick_miss fun j' y hy hp => hn j' y hy (.inl ⟨rfl, hp⟩))
theorem miss1 {i : Int} {k : Nat} {e : Addr × List TEnt} (he : tabs[k]? = some e) (hn : ∀ (j' : Nat) (y : TEnt), e.2[j']? = some y → ¬ hitF i k y.b) (hk : (k : Int) ≠ 0) : (segs i)[k]? = some (Str.ofString "-") := by
  have hk' : k ≠ 0 := by omega
  rw [seg_more hk' he]
  exact congrArg some (pick_miss fun j' y hy hp => hn j' y hy (.inr ⟨hk', hp⟩))
theorem hit0 {i b : Int} {k : Nat} (h : (k : Int) = 0) (h' : i / 4096 * 4096 = b) : hitF i k b := .inl ⟨by omega, h'⟩
theorem hit1 {i b : Int} {k : Nat} (h : (k : Int) ≠ 0) (h' : Builtin.bitAnd i b = b) : hitF i k b := .inr ⟨by omega, h'⟩
theorem nohit0 {i b : Int} {k : Nat} (h : (k : Int) = 0) (h' : i / 4096 * 4096 ≠ b) : ¬ hitF i k b := fun q => q.elim (fun q => h' q.2) fun q => q.1 (by omega)
theorem nohit1 {i b : Int} {k : Nat} (h : (k : Int) ≠ 0) (h' : Builtin.bitAnd i b ≠ b) : ¬ hitF i k b := fun q => q.elim (fun q => h (by omega)) fun q => h' q.2
theorem no_more {i : Int} {k j : Nat} {es : List TEnt} {x : TEnt} (hx : es[j]? = some x) (hn : ∀ (j' : Nat) (y : TEnt), j' < j → es[j']? = some y → ¬ hitF i k y.b) (h : ¬ hitF i k x.b) : ∀ (j' : Nat) (y : TEnt), j' < j + 1 → es[j']? = some y → ¬ hitF i k y.b := by
  intro j' y hj hy
  rcases Nat.lt_succ_iff_lt_or_eq.mp hj with q | rfl
  · exact hn j' y q hy
  · rw [hx] at hy
    exact Option.some.inj hy ▸ h
theorem c_filemode (O : Ok w mean mg mb s.heap) (i : Int) (t : Tok) (h0 : 0 ≤ i) (h1 : i < 65536) : Meets 800 8000 prog w 202 [.int i t] s (fun v _ => ∃ t', v = .str (fmF i) t') := by
  intro base outer gd Q E B hQ
  have X := O.X
  have T := O.T
  (k_dflt (refine' enter0 (binds := [(Str.ofString "mode", .int i t)]) O ?k6 ?k7 ?k8 ?k9 ?kB ?_ ?c2 ?c3 ?c4 ?c5; (case k6 => k_is); (case k7 => k_is); (case k8 => exact Nat.le_of_ble_eq_true rfl); (case k9 => exact BindsTo.of_eq rfl); (case kB => exact locs rfl); (case c2 => exact rfl); (case c3 => exact rfl); (case c4 => exact rfl); (case c5 => decide)))
  intro L' h' F' N'
  (try dsimp only)
  k_fold
  repeat (first | (k_unfold; (try dsimp only)) | walk1 | (dsimp only; walk1))
  (rename Fr _ _ _ _ => lF)
  (rename News _ _ _ _ => lN)
  refine it_enum_tup (l := 195) (vs := tabs.map fun e => Value.ref e.1) (JF i _ _) rfl ⟨_, lF.keep _ _ (X _ _ (by k_is)), rfl, _, rfl⟩ ?_ lF lN ⟨[], _, rfl, rfl, fun _ _ _ _ _ => rfl⟩ ?_ ?_
  · exact Nat.ne_of_lt (Nat.lt_of_lt_of_le (Heap.lt_size (X 195 _ (by k_is))) lF.above)
  · intro k v T tt m₁ news₁ h₁ tk₁ own hv hT hJ ha hoff F₁ N₁
    obtain ⟨acc, ep, rfl, hacc, hm⟩ := hJ
    rename_i P _ _ _
    have hP := lN _ (List.Mem.head _)
    have hoff' : OwnOff own [P] := by
      intro p hp b hb e
      have e' : p.1 = P := e.trans (List.mem_singleton.mp hb)
      rcases hoff p hp with q | q
      · have h195 := X 195 _ (by k_is)
        rw [← q, e', hP.2.2] at h195; cases h195
      · exact q (by simp [e'])
    have e : m₁ = fun z => if z = Str.ofString "char" then m₁ (Str.ofString "char") else if z = Str.ofString "bit" then m₁ (Str.ofString "bit") else if z = Str.ofString "table" then m₁ (Str.ofString "table") else if z = Str.ofString "index" then m₁ (Str.ofString "index") else
        if z = Str.ofString "perm" then some (Value.ref P) else List.lookup z [(Str.ofString "mode", Value.int i t)].reverse := by
      funext z
      by_cases a1 : z = Str.ofString "char"
      · subst a1; rw [if_pos rfl]
      by_cases a2 : z = Str.ofString "bit"
      · subst a2; rw [if_neg a1, if_pos rfl]
      by_cases a3 : z = Str.ofString "table"
      · subst a3; rw [if_neg a1, if_neg a2, if_pos rfl]
      by_cases a4 : z = Str.ofString "index"
      · subst a4; rw [if_neg a1, if_neg a2, if_neg a3, if_pos rfl]
      rw [if_neg a1, if_neg a2, if_neg a3, if_neg a4]
      exact hm z a4 a3 a2 a1
    rw [e] at F₁
    generalize m₁ (Str.ofString "char") = u1 at F₁
    generalize m₁ (Str.ofString "bit") = u2 at F₁
    generalize m₁ (Str.ofString "table") = u3 at F₁
    generalize m₁ (Str.ofString "index") = u4 at F₁
    have hlen : acc.length ≤ 10 := by
      have := congrArg List.length hacc
      rw [List.length_map, List.length_take] at this
      have h10 : (segs i).length = 10 := rfl
      omega
    clear e hm hoff ha lF lN
    change Fr s.heap L' h₁ _ at F₁
    change News s.heap L' h₁ ((P, _) :: own) at N₁
    obtain ⟨e, he, rfl⟩ : ∃ e, tabs[k]? = some e ∧ v = .ref e.1 := by
      rw [List.getElem?_map] at hv
      obtain ⟨e, he, hq⟩ := Option.map_eq_some_iff.mp hv
      exact ⟨e, he, hq.symm⟩
    have hoT : s.heap.get? e.1 = some _ := X _ _ (tab_obj e (tab_mem he) _)
    clear hv
    repeat (first | (k_unfold; (try dsimp only)) | walk1 | (dsimp only; walk1) | (dsimp only; refine TEnd_brk ?_; dsimp only) | (refine TEnd_brk ?_; dsimp only))
    refine it_tuple (l := e.1) (vs := e.2.map fun x => Value.ref x.a) (fun j m' nx => nx = (P, listOf (strValues acc).toArray ep) :: own ∧ (m' (Str.ofString "index") = some (.int (k : Int) tt) ∧ ∀ z, z ≠ Str.ofString "index" → z ≠ Str.ofString "table" → z ≠ Str.ofString "bit" → z ≠ Str.ofString "char" → m' z = if z = Str.ofString "perm" then some (Value.ref P) else List.lookup z [(Str.ofString "mode", Value.int i t)].reverse) ∧ ∀ j' y, j' < j → e.2[j']? = some y → ¬ hitF i k y.b)
      rfl ⟨_, Fr.keep (by assumption) _ _ hoT, rfl, _, rfl⟩ (lt_ne hoT (by assumption)) (by assumption) (by assumption) ⟨rfl, ⟨by rw [if_neg (by decide), if_pos rfl], fun z z1 z2 z3 z4 => by simp only [z1, z2, z3, z4, if_false]⟩, fun _ _ h => absurd h (Nat.not_lt_zero _)⟩ ?_ ?_
    · intro j v' m₃ news₃ h₃ tk₃ own3 hv' hJ ha3 hoff3 F₃ N₃
      obtain ⟨rfl, ⟨hix, hm⟩, hno⟩ := hJ
      obtain ⟨x, hx, rfl⟩ : ∃ x, e.2[j]? = some x ∧ v' = .ref x.a := by
        rw [List.getElem?_map] at hv'
        obtain ⟨x, hx, hq⟩ := Option.map_eq_some_iff.mp hv'
        exact ⟨x, hx, hq.symm⟩
      have hoX : s.heap.get? x.a = some _ := X _ _ (ent_obj e (tab_mem he) x (List.mem_of_getElem? hx) _)
      have hX : IsTup h₃ x.a #[.int x.b x.tb, .str x.c x.tc] := ⟨_, F₃.keep _ _ hoX, rfl, _, rfl⟩
      have hoff4 := off_tup hoT hP.2.2 hoff' (fun p hp => (hoff3 p hp).imp_right fun q e => q (e ▸ List.Mem.head _))
      have e3 : m₃ = frm P k tt i t (m₃ (Str.ofString "char")) (m₃ (Str.ofString "bit")) (m₃ (Str.ofString "table")) := frm_eq hix hm
      rw [e3] at F₃
      generalize m₃ (Str.ofString "char") = u5 at F₃
      generalize m₃ (Str.ofString "bit") = u6 at F₃
      generalize m₃ (Str.ofString "table") = u7 at F₃
      unfold frm at F₃
      clear e3 hm hix hoff3 ha3 hoff' hT hv'
      change Fr s.heap L' h₃ _ at F₃
      change News s.heap L' h₃ ((P, _) :: (own ++ own3)) at N₃
      repeat (first | (k_unfold; (try dsimp only)) | walk1 | (dsimp only; walk1) | (dsimp only; refine TEnd_brk ?_; dsimp only) | (refine TEnd_brk ?_; dsimp only))
      · exact JF_end (by assumption) (by assumption) (fun p hp => List.Mem.tail _ (List.mem_append_left _ hp)) (List.Mem.head _) (strValues_push _ _ _) hacc (hit_seg he hx hno (hit0 (by assumption) (by assumption))) (by intro z z1 z2 z3 z4; simp only [z1, z2, z3, z4, if_false])
      repeat (first | (k_unfold; (try dsimp only)) | walk1 | (dsimp only; walk1) | (dsimp only; refine TEnd_brk ?_; dsimp only) | (refine TEnd_brk ?_; dsimp only))
      · refine TEnd_next (news' := (P, listOf (strValues acc).toArray ep) :: own) (by assumption) (by assumption) (fun p hp => List.Mem.tail _ (List.mem_append_right _ hp)) (fun p hp => by rcases List.mem_cons.mp hp with rfl | hp; exact List.Mem.head _; exact List.Mem.tail _ (List.mem_append_left _ hp)) ⟨rfl, rfl, ⟨ix_frm, by intro z z1 z2 z3 z4; simp only [z1, z2, z3, z4, if_false]⟩, no_more hx hno (by exact nohit0 (by assumption) (by assumption))⟩
      repeat (first | (k_unfold; (try dsimp only)) | walk1 | (dsimp only; walk1) | (dsimp only; refine TEnd_brk ?_; dsimp only) | (refine TEnd_brk ?_; dsimp only))
      · exact JF_end (by assumption) (by assumption) (fun p hp => List.Mem.tail _ (List.mem_append_left _ hp)) (List.Mem.head _) (strValues_push _ _ _) hacc (hit_seg he hx hno (hit1 (by assumption) (by assumption))) (by intro z z1 z2 z3 z4; simp only [z1, z2, z3, z4, if_false])
      repeat (first | (k_unfold; (try dsimp only)) | walk1 | (dsimp only; walk1) | (dsimp only; refine TEnd_brk ?_; dsimp only) | (refine TEnd_brk ?_; dsimp only))
      · refine TEnd_next (news' := (P, listOf (strValues acc).toArray ep) :: own) (by assumption) (by assumption) (fun p hp => List.Mem.tail _ (List.mem_append_right _ hp)) (fun p hp => by rcases List.mem_cons.mp hp with rfl | hp; exact List.Mem.head _; exact List.Mem.tail _ (List.mem_append_left _ hp)) ⟨rfl, rfl, ⟨ix_frm, by intro z z1 z2 z3 z4; simp only [z1, z2, z3, z4, if_false]⟩, no_more hx hno (by exact nohit1 (by assumption) (by assumption))⟩
    · intro h₃ tk₃ m₃ news₃ hJ F₃ N₃
      obtain ⟨rfl, ⟨hix, hm⟩, hno⟩ := hJ
      have hno' : ∀ (j' : Nat) (y : TEnt), e.2[j']? = some y → ¬ hitF i k y.b := fun j' y hy => hno j' y (by rw [List.length_map]; exact (List.getElem?_eq_some_iff.mp hy).1) hy
      have e3 : m₃ = frm P k tt i t (m₃ (Str.ofString "char")) (m₃ (Str.ofString "bit")) (m₃ (Str.ofString "table")) := frm_eq hix hm
      rw [e3] at F₃
      generalize m₃ (Str.ofString "char") = u5 at F₃
      generalize m₃ (Str.ofString "bit") = u6 at F₃
      generalize m₃ (Str.ofString "table") = u7 at F₃
      unfold frm at F₃
      clear e3 hm hix hno hT
      change Fr s.heap L' h₃ _ at F₃
      change News s.heap L' h₃ ((P, _) :: own) at N₃
      repeat (first | (k_unfold; (try dsimp only)) | walk1 | (dsimp only; walk1) | (dsimp only; refine TEnd_brk ?_; dsimp only) | (refine TEnd_brk ?_; dsimp only))
      · exact JF_end (by assumption) (by assumption) (fun p hp => List.Mem.tail _ hp) (List.Mem.head _) (strValues_push _ _ _) hacc (miss0 he hno' (by assumption)) (by intro z z1 z2 z3 z4; simp only [z1, z2, z3, z4, if_false])
      repeat (first | (k_unfold; (try dsimp only)) | walk1 | (dsimp only; walk1) | (dsimp only; refine TEnd_brk ?_; dsimp only) | (refine TEnd_brk ?_; dsimp only))
      exact JF_end (by assumption) (by assumption) (fun p hp => List.Mem.tail _ hp) (List.Mem.head _) (strValues_push _ _ _) hacc (miss1 he hno' (by assumption)) (by intro z z1 z2 z3 z4; simp only [z1, z2, z3, z4, if_false])
  · intro h tk m' news' hJ F' N'
    obtain ⟨acc, ep, rfl, hacc, hm⟩ := hJ
    rename_i P _ _ _ _
    have e : m' = fun z => if z = Str.ofString "char" then m' (Str.ofString "char") else if z = Str.ofString "bit" then m' (Str.ofString "bit") else if z = Str.ofString "table" then m' (Str.ofString "table") else if z = Str.ofString "index" then m' (Str.ofString "index") else
        if z = Str.ofString "perm" then some (Value.ref P) else List.lookup z [(Str.ofString "mode", Value.int i t)].reverse := by
      funext z
      by_cases a1 : z = Str.ofString "char"
      · subst a1; rw [if_pos rfl]
      by_cases a2 : z = Str.ofString "bit"
      · subst a2; rw [if_neg a1, if_pos rfl]
      by_cases a3 : z = Str.ofString "table"
      · subst a3; rw [if_neg a1, if_neg a2, if_pos rfl]
      by_cases a4 : z = Str.ofString "index"
      · subst a4; rw [if_neg a1, if_neg a2, if_neg a3, if_pos rfl]
      rw [if_neg a1, if_neg a2, if_neg a3, if_neg a4]
      exact hm z a4 a3 a2 a1
    rw [e] at F'
    generalize m' (Str.ofString "char") = u1 at F'
    generalize m' (Str.ofString "bit") = u2 at F'
    generalize m' (Str.ofString "table") = u3 at F'
    generalize m' (Str.ofString "index") = u4 at F'
    replace hacc : acc.map (·.1) = segs i := hacc
    have hj : JoinOk (Str.ofString "") (acc.map (·.1)) = true := by rw [hacc]; exact segs_ok i
    clear e hm lF lN
    change Fr s.heap L' h _ at F'
    change News s.heap L' h [(P, _)] at N'
    k_steps
    exact hQ _ _ _ (Fr.keep (by assumption)) (str_end (by rw [hacc]; rfl))

end Mine
end
section
open PySem PySem.Spec PySem.Calls PySem.W PyProof.Rows
namespace Mine
set_option maxRecDepth 100000
open AutoSeq1 (wpAny_loadPart')

noncomputable def ltS (x y : Str) : Bool := decide (x.cps.toList < y.cps.toList)
noncomputable def ltL : List Str → List Str → Bool
  | [], [] => false
  | [], _ :: _ => true
  | _ :: _, [] => false
  | x :: xs, y :: ys => if (x == y) = true then ltL xs ys else ltS x y

theorem sv_get (a : List (Str × Tok)) (i : Nat) : (strValues a).toArray[i]? = (a[i]?).map fun p => Value.str p.1 p.2 := by simp [strValues]

theorem lt_loop (l b : Addr) (p q : List (Str × Tok)) (n n2 : Nat) (k : Nat) :
    ∀ i : Nat, p.length - i = k → i ≤ p.length → i ≤ q.length → PySem.Meets (Builtin.«list.__eq__.loop» ⟨[.ref l, .ref b, rawInt i, rawInt 0], []⟩)
      (fun _ R s => s.heap.get? l = some (listOf (strValues p).toArray n) ∧ s.heap.get? b = some (listOf (strValues q).toArray n2) ∧
        R (.ok (.ret (.bool (ltL ((p.map (·.1)).drop i) ((q.map (·.1)).drop i))))) s) := by
  induction k with
  | zero =>
    intro i hk h1 h2 prog w A R s h
    obtain ⟨hp, g, d, tk, os⟩ := s; obtain ⟨hl, hb, h⟩ := h
    have hi : i = p.length := by omega
    subst hi
    wp_walk using wpAny_loadPart' hl, wpAny_loadPart' hb
    have hi1 : (strValues p).toArray[((p.length : Nat) : Int).toNat]? = none := by simp [strValues]
    have hd : (p.map (·.1)).drop p.length = [] := by simp
    rw [hd] at h
    rw [hi1]
    wp_walk using wpAny_loadPart' hl, wpAny_loadPart' hb
    have e : (decide ((strValues p).toArray.size < (strValues q).toArray.size)) = ltL [] ((q.map (·.1)).drop p.length) := by
      rw [List.size_toArray, List.size_toArray, strValues_length, strValues_length]
      by_cases hq : p.length < q.length
      · rw [decide_eq_true hq, List.drop_eq_getElem_cons (by simpa using hq)]; rfl
      · rw [decide_eq_false hq, List.drop_eq_nil_of_le (by simpa using hq)]; rfl
    show R (.ok (.ret (.bool (decide ((strValues p).toArray.size < (strValues q).toArray.size))))) _
    rw [e]; exact h
  | succ k ih =>
    intro i hk h1 h2 prog w A R s h
    obtain ⟨hp, g, d, tk, os⟩ := s; obtain ⟨hl, hb, h⟩ := h
    have hlt : i < p.length := by omega
    have hi1 : (strValues p).toArray[((i : Nat) : Int).toNat]? = some (.str p[i].1 p[i].2) := by rw [Int.toNat_natCast, sv_get]; simp [hlt]
    have hd1 : (p.map (·.1)).drop i = p[i].1 :: (p.map (·.1)).drop (i + 1) := by rw [List.drop_eq_getElem_cons (by simpa using hlt)]; simp
    wp_walk using wpAny_loadPart' hl, wpAny_loadPart' hb
    by_cases hq : i < q.length
    · have hi2 : (strValues q).toArray[((i : Nat) : Int).toNat]? = some (.str q[i].1 q[i].2) := by rw [Int.toNat_natCast, sv_get]; simp [hq]
      have hd2 : (q.map (·.1)).drop i = q[i].1 :: (q.map (·.1)).drop (i + 1) := by rw [List.drop_eq_getElem_cons (by simpa using hq)]; simp
      have hc : ((i : Int) + 1) = ((i + 1 : Nat) : Int) := by push_cast; rfl
      rw [hd1, hd2] at h
      rw [hi1, hi2]
      refine wpAny_bind (eqBool_str ?_)
      cases hb' : (p[i].1 == q[i].1) with
      | true =>
        have e : ltL (p[i].1 :: (p.map (·.1)).drop (i + 1)) (q[i].1 :: (q.map (·.1)).drop (i + 1)) = ltL ((p.map (·.1)).drop (i + 1)) ((q.map (·.1)).drop (i + 1)) := by rw [ltL, if_pos hb']
        rw [e] at h
        wp_walk
        rw [hc]
        exact ⟨plainId_quiet MeetsSeq3.plain_eq_loop _, codeAny_builtin MeetsSeq3.entry_eq_loop (by
          rw [Around.under_plainId MeetsSeq3.plain_eq_loop _]
          exact ih (i + 1) (by omega) (by omega) (by omega) prog w A R _ ⟨hl, hb, h⟩)⟩
      | false =>
        have e : ltL (p[i].1 :: (p.map (·.1)).drop (i + 1)) (q[i].1 :: (q.map (·.1)).drop (i + 1)) = ltS p[i].1 q[i].1 := by rw [ltL, if_neg (by simp [hb'])]
        rw [e] at h
        wp_walk using wpAny_loadPart' hl, wpAny_loadPart' hb
        rw [hi1, hi2]
        show wpAny _ _ (richCompare .Lt (.str p[i].1 p[i].2) (.str q[i].1 q[i].2) >>= _) _ _ _
        refine wpAny_bind ?_
        show wpAny _ _ (compareOp .Lt (.str p[i].1 p[i].2) (.str q[i].1 q[i].2)) _ _ _
        refine PyProof.Rows.lt_str ?_
        wp_walk
        exact h
    · have hi2 : (strValues q).toArray[((i : Nat) : Int).toNat]? = none := by rw [Int.toNat_natCast, sv_get]; simp; omega
      have hd2 : (q.map (·.1)).drop i = [] := List.drop_eq_nil_of_le (by simpa using hq)
      rw [hd1, hd2] at h
      rw [hi1, hi2]
      wp_walk using wpAny_loadPart' hl, wpAny_loadPart' hb
      show R (.ok (.ret (.bool (decide ((strValues p).toArray.size < (strValues q).toArray.size))))) _
      have e : (decide ((strValues p).toArray.size < (strValues q).toArray.size)) = false := by
        rw [List.size_toArray, List.size_toArray, strValues_length, strValues_length]
        exact decide_eq_false (by omega)
      rw [e]; exact h
theorem gt_loop (l b : Addr) (p q : List (Str × Tok)) (n n2 : Nat) (k : Nat) :
    ∀ i : Nat, p.length - i = k → i ≤ p.length → i ≤ q.length → PySem.Meets (Builtin.«list.__eq__.loop» ⟨[.ref l, .ref b, rawInt i, rawInt 4], []⟩)
      (fun _ R s => s.heap.get? l = some (listOf (strValues p).toArray n) ∧ s.heap.get? b = some (listOf (strValues q).toArray n2) ∧
        R (.ok (.ret (.bool (ltL ((q.map (·.1)).drop i) ((p.map (·.1)).drop i))))) s) := by
  induction k with
  | zero =>
    intro i hk h1 h2 prog w A R s h
    obtain ⟨hp, g, d, tk, os⟩ := s; obtain ⟨hl, hb, h⟩ := h
    have hi : i = p.length := by omega
    subst hi
    wp_walk using wpAny_loadPart' hl, wpAny_loadPart' hb
    have hi1 : (strValues p).toArray[((p.length : Nat) : Int).toNat]? = none := by simp [strValues]
    have hd : (p.map (·.1)).drop p.length = [] := by simp
    rw [hd] at h
    rw [hi1]
    wp_walk using wpAny_loadPart' hl, wpAny_loadPart' hb
    have e : (decide ((strValues p).toArray.size > (strValues q).toArray.size)) = ltL ((q.map (·.1)).drop p.length) [] := by
      rw [List.size_toArray, List.size_toArray, strValues_length, strValues_length]
      rw [decide_eq_false (by omega)]
      cases (q.map (·.1)).drop p.length <;> rfl
    show R (.ok (.ret (.bool (decide ((strValues p).toArray.size > (strValues q).toArray.size))))) _
    rw [e]; exact h
  | succ k ih =>
    intro i hk h1 h2 prog w A R s h
    obtain ⟨hp, g, d, tk, os⟩ := s; obtain ⟨hl, hb, h⟩ := h
    have hlt : i < p.length := by omega
    have hi1 : (strValues p).toArray[((i : Nat) : Int).toNat]? = some (.str p[i].1 p[i].2) := by rw [Int.toNat_natCast, sv_get]; simp [hlt]
    have hd1 : (p.map (·.1)).drop i = p[i].1 :: (p.map (·.1)).drop (i + 1) := by rw [List.drop_eq_getElem_cons (by simpa using hlt)]; simp
    wp_walk using wpAny_loadPart' hl, wpAny_loadPart' hb
    by_cases hq : i < q.length
    · have hi2 : (strValues q).toArray[((i : Nat) : Int).toNat]? = some (.str q[i].1 q[i].2) := by rw [Int.toNat_natCast, sv_get]; simp [hq]
      have hd2 : (q.map (·.1)).drop i = q[i].1 :: (q.map (·.1)).drop (i + 1) := by rw [List.drop_eq_getElem_cons (by simpa using hq)]; simp
      have hc : ((i : Int) + 1) = ((i + 1 : Nat) : Int) := by push_cast; rfl
      rw [hd1, hd2] at h
      rw [hi1, hi2]
      refine wpAny_bind (eqBool_str ?_)
      cases hb' : (p[i].1 == q[i].1) with
      | true =>
        have e : ltL (q[i].1 :: (q.map (·.1)).drop (i + 1)) (p[i].1 :: (p.map (·.1)).drop (i + 1)) = ltL ((q.map (·.1)).drop (i + 1)) ((p.map (·.1)).drop (i + 1)) := by rw [ltL, if_pos (by rw [eq_of_beq hb']; exact beq_self_eq_true _)]
        rw [e] at h
        wp_walk
        rw [hc]
        exact ⟨plainId_quiet MeetsSeq3.plain_eq_loop _, codeAny_builtin MeetsSeq3.entry_eq_loop (by
          rw [Around.under_plainId MeetsSeq3.plain_eq_loop _]
          exact ih (i + 1) (by omega) (by omega) (by omega) prog w A R _ ⟨hl, hb, h⟩)⟩
      | false =>
        have e : ltL (q[i].1 :: (q.map (·.1)).drop (i + 1)) (p[i].1 :: (p.map (·.1)).drop (i + 1)) = ltS q[i].1 p[i].1 := by rw [ltL, if_neg (by intro z; rw [eq_of_beq z, beq_self_eq_true] at hb'; cases hb')]
        rw [e] at h
        wp_walk using wpAny_loadPart' hl, wpAny_loadPart' hb
        rw [hi1, hi2]
        show wpAny _ _ (richCompare .Gt (.str p[i].1 p[i].2) (.str q[i].1 q[i].2) >>= _) _ _ _
        refine wpAny_bind ?_
        show wpAny _ _ (compareOp .Gt (.str p[i].1 p[i].2) (.str q[i].1 q[i].2)) _ _ _
        refine P.gt_str ?_
        wp_walk
        exact h
    · have hi2 : (strValues q).toArray[((i : Nat) : Int).toNat]? = none := by rw [Int.toNat_natCast, sv_get]; simp; omega
      have hd2 : (q.map (·.1)).drop i = [] := List.drop_eq_nil_of_le (by simpa using hq)
      rw [hd1, hd2] at h
      rw [hi1, hi2]
      wp_walk using wpAny_loadPart' hl, wpAny_loadPart' hb
      show R (.ok (.ret (.bool (decide ((strValues p).toArray.size > (strValues q).toArray.size))))) _
      have e : (decide ((strValues p).toArray.size > (strValues q).toArray.size)) = true := by
        rw [List.size_toArray, List.size_toArray, strValues_length, strValues_length]
        exact decide_eq_true (by omega)
      rw [e]; exact h

theorem list_lt (l b : Addr) (p q : List (Str × Tok)) (n n2 : Nat) :
    PySem.Meets (Builtin.«list.__lt__» ⟨[.ref l, .ref b], []⟩)
      (fun _ R s => s.heap.get? l = some (listOf (strValues p).toArray n) ∧ s.heap.get? b = some (listOf (strValues q).toArray n2) ∧
        R (.ok (.ret (.bool (ltL (p.map (·.1)) (q.map (·.1)))))) s) := by
  intro prog w A R s h
  obtain ⟨hp, g, d, tk, os⟩ := s; obtain ⟨hl, hb, h⟩ := h
  have f3 := AutoSeq1.sub_list_list
  wp_walk using wpAny_loadPart' hl, wpAny_loadPart' hb
  exact ⟨plainId_quiet MeetsSeq3.plain_eq_loop _, codeAny_builtin MeetsSeq3.entry_eq_loop (by
    rw [Around.under_plainId MeetsSeq3.plain_eq_loop _]
    exact lt_loop l b p q n n2 _ 0 rfl (Nat.zero_le _) (Nat.zero_le _) prog w A R _ ⟨hl, hb, by simpa using h⟩)⟩
theorem list_gt (l b : Addr) (p q : List (Str × Tok)) (n n2 : Nat) :
    PySem.Meets (Builtin.«list.__gt__» ⟨[.ref l, .ref b], []⟩)
      (fun _ R s => s.heap.get? l = some (listOf (strValues p).toArray n) ∧ s.heap.get? b = some (listOf (strValues q).toArray n2) ∧
        R (.ok (.ret (.bool (ltL (q.map (·.1)) (p.map (·.1)))))) s) := by
  intro prog w A R s h
  obtain ⟨hp, g, d, tk, os⟩ := s; obtain ⟨hl, hb, h⟩ := h
  have f3 := AutoSeq1.sub_list_list
  wp_walk using wpAny_loadPart' hl, wpAny_loadPart' hb
  exact ⟨plainId_quiet MeetsSeq3.plain_eq_loop _, codeAny_builtin MeetsSeq3.entry_eq_loop (by
    rw [Around.under_plainId MeetsSeq3.plain_eq_loop _]
    exact gt_loop l b p q n n2 _ 0 rfl (Nat.zero_le _) (Nat.zero_le _) prog w A R _ ⟨hl, hb, by simpa using h⟩)⟩

section
variable {prog : Program} {w : World} {A : Around} {E : Value → Shared → Prop} {s : Shared} {l b : Addr} {p q : List (Str × Tok)} {n n2 : Nat} {Q : Value → Shared → Prop}
theorem rich_lt (hl : s.heap.get? l = some (listOf (strValues p).toArray n)) (hb : s.heap.get? b = some (listOf (strValues q).toArray n2)) (hu : A.units < cLine) (h : Q (.bool (ltL (p.map (·.1)) (q.map (·.1)))) s) :
    wpAny (model prog w) A (richCompare .Lt (.ref l) (.ref b)) Q E s :=
  richCompare_meets_room (op := .Lt) ⟨_, hl, rfl⟩ ⟨_, hb, rfl⟩ F.slot_list_lt F.entry_list_lt (F.args_list_lt_2 _ _) (list_lt l b p q n n2) ⟨hl, hb, (fun e => nomatch e), h⟩ hu
theorem rich_gt (hl : s.heap.get? l = some (listOf (strValues p).toArray n)) (hb : s.heap.get? b = some (listOf (strValues q).toArray n2)) (hu : A.units < cLine) (h : Q (.bool (ltL (q.map (·.1)) (p.map (·.1)))) s) :
    wpAny (model prog w) A (richCompare .Gt (.ref l) (.ref b)) Q E s :=
  richCompare_meets_room (op := .Gt) ⟨_, hl, rfl⟩ ⟨_, hb, rfl⟩ F.slot_list_gt F.entry_list_gt (F.args_list_gt_2 _ _) (list_gt l b p q n n2) ⟨hl, hb, (fun e => nomatch e), h⟩ hu
end
end Mine
end
section
open PySem PySem.Spec PySem.Calls PySem.W PyProof.Rows
namespace Mine
set_option maxRecDepth 100000
/-- a list of texts in the heap: where, what, its epoch -/
noncomputable abbrev LEnt := Addr × List (Str × Tok) × Nat
noncomputable def LEnt.tx (e : LEnt) : List Str := e.2.1.map (·.1)
noncomputable def LEnt.ob (e : LEnt) : Obj := listOf (strValues e.2.1).toArray e.2.2
noncomputable def entRefs (ts : List LEnt) : List Value := ts.map fun e => .ref e.1
noncomputable def lesser (b x : LEnt) : LEnt := if ltL x.tx b.tx = true then x else b
noncomputable def greater (b x : LEnt) : LEnt := if ltL b.tx x.tx = true then x else b
section
variable {prog : Program} {w : World} {A : Around} {R : Result → Shared → Prop}
theorem refs_get {ts : List LEnt} {i : Nat} {e : LEnt} {r : List LEnt} (h : ts.drop i = e :: r) : (entRefs ts).toArray[i]? = some (.ref e.1) ∧ e ∈ ts ∧ ts.drop (i + 1) = r := by
  have hi : i < ts.length := by
    rcases Nat.lt_or_ge i ts.length with q | q
    · exact q
    · rw [List.drop_eq_nil_of_le q] at h; cases h
  rw [List.drop_eq_getElem_cons hi] at h
  injection h with h1 h2
  refine ⟨by simp [entRefs, hi, h1], h1 ▸ List.getElem_mem hi, h2⟩
theorem refs_end {ts : List LEnt} {i : Nat} (h : ts.drop i = []) : (entRefs ts).toArray[i]? = none := by
  have hi : ts.length ≤ i := by simpa using h
  simp [entRefs, hi]

theorem min_loop {ts : List LEnt} {I ax S : Addr} (hh : A.handled = none) (hu : A.in1.units < cLine) (hIS : I ≠ S) (hIa : I ≠ ax) (hSa : S ≠ ax) (hS : ∀ e ∈ ts, e.1 ≠ S) (hI : ∀ e ∈ ts, e.1 ≠ I) :
    ∀ (r : List LEnt) (i : Nat) (b : LEnt) (s : Shared) (c : Nat), ts.drop i = r → s.heap.IsListIter I ax i → s.heap.IsList ax (entRefs ts).toArray → (∀ e ∈ ts, s.heap.get? e.1 = some e.ob) → b ∈ ts →
    s.heap.get? S = some { cls := .type "list", dict := none, data := .seq #[.ref b.1, .ref b.1] c, slots := #[] } →
    (∀ h' tk, (∀ x o, x ≠ I → x ≠ S → s.heap.get? x = some o → h'.get? x = some o) → R (.ok (.ret (.ref (r.foldl lesser b).1))) { s with heap := h', toks := tk }) →
    codeAny (model prog w) A (.builtin "min.loop" ⟨[.ref I, .none, .ref S], []⟩) R s := by
  have hname : (toString "min" ++ toString ".loop" : String) = "min.loop" := by decide
  intro r
  induction r with
  | nil =>
    intro i b s c hr hit hl he hb hSo hR
    refine codeAny_builtin F.entry_min_loop ?_
    rw [Around.under_plainId F.plain_min_loop _]
    show wpAny _ A.in1 (seqItems? (.ref S) >>= _) _ _ s
    refine wpAny_bind (wpAny_seqItems hSo rfl ?_)
    show wpAny _ A.in1 (tryCatch (pyNext (.ref I)) _ >>= _) _ _ s
    refine wpAny_bind (wpAny_tryCatch (wpAny_pyNext_list_end hh hit hl (refs_end hr) fun h' hk' => ?_))
    have hS' := hk' S _ (Ne.symm hIS) hSo
    show wpAny _ A.in1 (updateSeq S (fun _ => #[]) >>= _) _ _ _
    refine wpAny_bind ?_
    refine wpAny_updateSeq hS' rfl (wpAny_bind (wpAny_letGo (wpAny_pure ?_)))
    exact hR _ _ fun x o hxI hxS e => (Heap.get?_update_other _ _ (Ne.symm hxS)).trans (hk' x o hxI e)
  | cons v r ih =>
    intro i b s c hr hit hl he hb hSo hR
    obtain ⟨hx, hv, hr'⟩ := refs_get hr
    refine codeAny_builtin F.entry_min_loop ?_
    rw [Around.under_plainId F.plain_min_loop _]
    show wpAny _ A.in1 (seqItems? (.ref S) >>= _) _ _ s
    refine wpAny_bind (wpAny_seqItems hSo rfl ?_)
    show wpAny _ A.in1 (tryCatch (pyNext (.ref I)) _ >>= _) _ _ s
    refine wpAny_bind (wpAny_tryCatch (wpAny_pyNext_list_item hit hl hx fun h' hit' hs' => ?_))
    have hk' : ∀ x o, x ≠ I → s.heap.get? x = some o → h'.get? x = some o := fun x o hxI e => (hs'.2 x (Ne.symm (Ne.symm hxI))).trans e
    have hS' := hk' S _ (Ne.symm hIS) hSo
    have he' : ∀ e ∈ ts, h'.get? e.1 = some e.ob := fun e hm => hk' _ _ (hI e hm) (he e hm)
    show wpAny _ A.in1 (tryCatch (holding [.ref v.1, .ref v.1] (richCompare .Lt (.ref v.1) (.ref b.1) >>= _)) _ >>= _) _ _ _
    refine wpAny_bind (wpAny_tryCatch (wpAny_holding (wpAny_bind (rich_lt (he' v hv) (he' b hb) hu ?_))))
    refine wpAny_bind (wpAny_holding (wpAny_truthy_bool ?_))
    refine wpAny_bind (wpAny_letGo (wpAny_pure ?_))
    have hl' : h'.IsList ax (entRefs ts).toArray := hl.at fun o e => hk' ax o (Ne.symm hIa) e
    cases hc : ltL (v.2.1.map (·.1)) (b.2.1.map (·.1)) with
    | true =>
      have hBest : lesser b v = v := by unfold lesser; exact if_pos hc
      simp only [if_true]
      refine wpAny_bind ?_
      refine wpAny_updateSeq hS' rfl (wpAny_bind (wpAny_letGo ?_))
      rw [hname]
      refine wpAny_pure ⟨plainId_quiet F.plain_min_loop _, ih (i + 1) v _ _ hr' ?_ ?_ ?_ hv (Heap.get?_update_self _ hS' rfl) fun h'' tk'' hk'' => ?_⟩
      · exact hit'.at fun o e => (Heap.get?_update_other _ _ (Ne.symm hIS)).trans e
      · exact hl'.at fun o e => (Heap.get?_update_other _ _ hSa).trans e
      · exact fun e hm => (Heap.get?_update_other _ _ (Ne.symm (hS e hm))).trans (he' e hm)
      · have := hR h'' tk'' fun x o hxI hxS e => hk'' x o hxI hxS ((Heap.get?_update_other _ _ (Ne.symm hxS)).trans (hk' x o hxI e))
        rw [List.foldl_cons, hBest] at this
        exact this
    | false =>
      have hBest : lesser b v = b := by unfold lesser; exact if_neg fun z => Bool.false_ne_true (hc.symm.trans z)
      simp only [Bool.false_eq_true, if_false]
      refine wpAny_bind (wpAny_letGo ?_)
      rw [hname]
      refine wpAny_pure ⟨plainId_quiet F.plain_min_loop _, ih (i + 1) b _ _ hr' hit' hl' he' hb hS' fun h'' tk'' hk'' => ?_⟩
      have := hR h'' tk'' fun x o hxI hxS e => hk'' x o hxI hxS (hk' x o hxI e)
      rw [List.foldl_cons, hBest] at this
      exact this

theorem call_min_ents {E : Value → Shared → Prop} {s : Shared} {Q : Value → Shared → Prop} {b : LEnt} {r : List LEnt} {ax : Addr} (hh : A.handled = none) (hu : A.in1.units < cLine) (hl : s.heap.IsList ax (entRefs (b :: r)).toArray) (he : ∀ e ∈ b :: r, s.heap.get? e.1 = some e.ob)
    (h : ∀ h' tk, s.heap.StaysIn h' → Q (.ref (r.foldl lesser b).1) { s with heap := h', toks := tk }) : wpAny (model prog w) A (call (.builtin "min") [.ref ax]) Q E s := by
  have hname : (toString "min" ++ toString ".loop" : String) = "min.loop" := by decide
  refine call_function_tree F.kind_min F.plain_min F.entry_min (F.args_min1 _) ?_
  show wpAny _ A.in1 (Builtin.Builtins.bindParams "min" ["key", "default"] 0 ⟨[], []⟩ >>= _) _ _ s
  refine wpAny_bind (wpAny_of_eq (show Builtin.Builtins.bindParams "min" ["key", "default"] 0 ⟨[], []⟩ = pure [none, none] from rfl) ?_)
  refine wpAny_bind (wpAny_pure ?_)
  refine wpAny_bind (wpAny_pyIter_list hl ?_)
  refine wpAny_bind (wpAny_newObj_type ?_)
  rw [hname]
  obtain ⟨ol, hol, _⟩ := id hl
  have hax : ax < s.heap.objs.size := Heap.lt_size hol
  have hz : (s.heap.push { cls := .type "list_iterator", data := .fields #[.ref ax, .int 0 0] }).objs.size = s.heap.objs.size + 1 := Heap.size_push ..
  refine wpAny_pure ⟨plainId_quiet F.plain_min_loop _, ?_⟩
  dsimp only
  rw [hz]
  generalize hK : (s.heap.push { cls := .type "list_iterator", data := .fields #[.ref ax, .int 0 0] }).push { cls := .type "list", data := .seq ([] : List Value).toArray } = K
  have up : ∀ x o, s.heap.get? x = some o → K.get? x = some o := fun x o e => by rw [← hK]; exact Heap.get?_push_of_some _ (Heap.get?_push_of_some _ e)
  have hSo : K.get? (s.heap.objs.size + 1) = some { cls := .type "list", dict := none, data := .seq #[] 0, slots := #[] } := by
    rw [← hK, ← hz]; exact Heap.get?_push_size _ rfl
  have hIo : K.get? s.heap.objs.size = some { cls := .type "list_iterator", data := .fields #[.ref ax, .int 0 0] } := by
    rw [← hK]; exact Heap.get?_push_of_some _ (Heap.get?_push_size _ rfl)
  have hIS : s.heap.objs.size ≠ s.heap.objs.size + 1 := Ne.symm (Nat.succ_ne_self _)
  have hlt : ∀ e ∈ b :: r, e.1 < s.heap.objs.size := fun e hm => Heap.lt_size (he e hm)
  have hx : (entRefs (b :: r)).toArray[0]? = some (.ref b.1) := by simp [entRefs]
  have hlK : K.IsList ax (entRefs (b :: r)).toArray := hl.at fun o e => up _ _ e
  have hIa : s.heap.objs.size ≠ ax := Ne.symm (Nat.ne_of_lt hax)
  refine codeAny_builtin F.entry_min_loop ?_
  rw [Around.under_plainId F.plain_min_loop _]
  show wpAny _ A.in1 (seqItems? (.ref (s.heap.objs.size + 1)) >>= _) _ _ _
  refine wpAny_bind (wpAny_seqItems hSo rfl ?_)
  show wpAny _ A.in1 (tryCatch (pyNext (.ref s.heap.objs.size)) _ >>= _) _ _ _
  refine wpAny_bind (wpAny_tryCatch (wpAny_pyNext_list_item ⟨_, hIo, rfl, rfl⟩ hlK hx fun h' hit' hs' => ?_))
  have hk' : ∀ x o, x ≠ s.heap.objs.size → K.get? x = some o → h'.get? x = some o := fun x o hxI e => (hs'.2 x hxI).trans e
  have hS' := hk' _ _ (Ne.symm hIS) hSo
  show wpAny _ A.in1 (updateSeq (s.heap.objs.size + 1) (fun _ => #[.ref b.1, .ref b.1]) >>= _) _ _ _
  refine wpAny_bind ?_
  refine wpAny_updateSeq hS' rfl ?_
  rw [hname]
  refine wpAny_pure ⟨plainId_quiet F.plain_min_loop _, min_loop (ts := b :: r) hh hu hIS hIa (Ne.symm (ktu_ne 1 hax)) (fun e hm => ktu_ne 1 (hlt e hm)) (fun e hm => Nat.ne_of_lt (hlt e hm)) r 1 b _ _ rfl ?_ ?_ ?_ (List.Mem.head _) (Heap.get?_update_self _ hS' rfl) fun h'' tk'' hk'' => ?_⟩
  · exact hit'.at fun o e => (Heap.get?_update_other _ _ (Ne.symm hIS)).trans e
  · exact (hlK.at fun o e => hk' ax o (Ne.symm hIa) e).at fun o e => (Heap.get?_update_other _ _ (Ne.symm (ktu_ne 1 hax))).trans e
  · exact fun e hm => (Heap.get?_update_other _ _ (Ne.symm (ktu_ne 1 (hlt e hm)))).trans (hk' _ _ (Nat.ne_of_lt (hlt e hm)) (up _ _ (he e hm)))
  · exact h h'' tk'' fun x o e => hk'' x o (Nat.ne_of_lt (Heap.lt_size e)) (ktu_ne 1 (Heap.lt_size e)) ((Heap.get?_update_other _ _ (Ne.symm (ktu_ne 1 (Heap.lt_size e)))).trans (hk' _ _ (Nat.ne_of_lt (Heap.lt_size e)) (up _ _ e)))

theorem max_loop {ts : List LEnt} {I ax S : Addr} (hh : A.handled = none) (hu : A.in1.units < cLine) (hIS : I ≠ S) (hIa : I ≠ ax) (hSa : S ≠ ax) (hS : ∀ e ∈ ts, e.1 ≠ S) (hI : ∀ e ∈ ts, e.1 ≠ I) :
    ∀ (r : List LEnt) (i : Nat) (b : LEnt) (s : Shared) (c : Nat), ts.drop i = r → s.heap.IsListIter I ax i → s.heap.IsList ax (entRefs ts).toArray → (∀ e ∈ ts, s.heap.get? e.1 = some e.ob) → b ∈ ts →
    s.heap.get? S = some { cls := .type "list", dict := none, data := .seq #[.ref b.1, .ref b.1] c, slots := #[] } →
    (∀ h' tk, (∀ x o, x ≠ I → x ≠ S → s.heap.get? x = some o → h'.get? x = some o) → R (.ok (.ret (.ref (r.foldl greater b).1))) { s with heap := h', toks := tk }) →
    codeAny (model prog w) A (.builtin "max.loop" ⟨[.ref I, .none, .ref S], []⟩) R s := by
  have hname : (toString "max" ++ toString ".loop" : String) = "max.loop" := by decide
  intro r
  induction r with
  | nil =>
    intro i b s c hr hit hl he hb hSo hR
    refine codeAny_builtin F.entry_max_loop ?_
    rw [Around.under_plainId F.plain_max_loop _]
    show wpAny _ A.in1 (seqItems? (.ref S) >>= _) _ _ s
    refine wpAny_bind (wpAny_seqItems hSo rfl ?_)
    show wpAny _ A.in1 (tryCatch (pyNext (.ref I)) _ >>= _) _ _ s
    refine wpAny_bind (wpAny_tryCatch (wpAny_pyNext_list_end hh hit hl (refs_end hr) fun h' hk' => ?_))
    have hS' := hk' S _ (Ne.symm hIS) hSo
    show wpAny _ A.in1 (updateSeq S (fun _ => #[]) >>= _) _ _ _
    refine wpAny_bind ?_
    refine wpAny_updateSeq hS' rfl (wpAny_bind (wpAny_letGo (wpAny_pure ?_)))
    exact hR _ _ fun x o hxI hxS e => (Heap.get?_update_other _ _ (Ne.symm hxS)).trans (hk' x o hxI e)
  | cons v r ih =>
    intro i b s c hr hit hl he hb hSo hR
    obtain ⟨hx, hv, hr'⟩ := refs_get hr
    refine codeAny_builtin F.entry_max_loop ?_
    rw [Around.under_plainId F.plain_max_loop _]
    show wpAny _ A.in1 (seqItems? (.ref S) >>= _) _ _ s
    refine wpAny_bind (wpAny_seqItems hSo rfl ?_)
    show wpAny _ A.in1 (tryCatch (pyNext (.ref I)) _ >>= _) _ _ s
    refine wpAny_bind (wpAny_tryCatch (wpAny_pyNext_list_item hit hl hx fun h' hit' hs' => ?_))
    have hk' : ∀ x o, x ≠ I → s.heap.get? x = some o → h'.get? x = some o := fun x o hxI e => (hs'.2 x (Ne.symm (Ne.symm hxI))).trans e
    have hS' := hk' S _ (Ne.symm hIS) hSo
    have he' : ∀ e ∈ ts, h'.get? e.1 = some e.ob := fun e hm => hk' _ _ (hI e hm) (he e hm)
    show wpAny _ A.in1 (tryCatch (holding [.ref v.1, .ref v.1] (richCompare .Gt (.ref v.1) (.ref b.1) >>= _)) _ >>= _) _ _ _
    refine wpAny_bind (wpAny_tryCatch (wpAny_holding (wpAny_bind (rich_gt (he' v hv) (he' b hb) hu ?_))))
    refine wpAny_bind (wpAny_holding (wpAny_truthy_bool ?_))
    refine wpAny_bind (wpAny_letGo (wpAny_pure ?_))
    have hl' : h'.IsList ax (entRefs ts).toArray := hl.at fun o e => hk' ax o (Ne.symm hIa) e
    cases hc : ltL (b.2.1.map (·.1)) (v.2.1.map (·.1)) with
    | true =>
      have hBest : greater b v = v := by unfold greater; exact if_pos hc
      simp only [if_true]
      refine wpAny_bind ?_
      refine wpAny_updateSeq hS' rfl (wpAny_bind (wpAny_letGo ?_))
      rw [hname]
      refine wpAny_pure ⟨plainId_quiet F.plain_max_loop _, ih (i + 1) v _ _ hr' ?_ ?_ ?_ hv (Heap.get?_update_self _ hS' rfl) fun h'' tk'' hk'' => ?_⟩
      · exact hit'.at fun o e => (Heap.get?_update_other _ _ (Ne.symm hIS)).trans e
      · exact hl'.at fun o e => (Heap.get?_update_other _ _ hSa).trans e
      · exact fun e hm => (Heap.get?_update_other _ _ (Ne.symm (hS e hm))).trans (he' e hm)
      · have := hR h'' tk'' fun x o hxI hxS e => hk'' x o hxI hxS ((Heap.get?_update_other _ _ (Ne.symm hxS)).trans (hk' x o hxI e))
        rw [List.foldl_cons, hBest] at this
        exact this
    | false =>
      have hBest : greater b v = b := by unfold greater; exact if_neg fun z => Bool.false_ne_true (hc.symm.trans z)
      simp only [Bool.false_eq_true, if_false]
      refine wpAny_bind (wpAny_letGo ?_)
      rw [hname]
      refine wpAny_pure ⟨plainId_quiet F.plain_max_loop _, ih (i + 1) b _ _ hr' hit' hl' he' hb hS' fun h'' tk'' hk'' => ?_⟩
      have := hR h'' tk'' fun x o hxI hxS e => hk'' x o hxI hxS (hk' x o hxI e)
      rw [List.foldl_cons, hBest] at this
      exact this

theorem call_max_ents {E : Value → Shared → Prop} {s : Shared} {Q : Value → Shared → Prop} {b : LEnt} {r : List LEnt} {ax : Addr} (hh : A.handled = none) (hu : A.in1.units < cLine) (hl : s.heap.IsList ax (entRefs (b :: r)).toArray) (he : ∀ e ∈ b :: r, s.heap.get? e.1 = some e.ob)
    (h : ∀ h' tk, s.heap.StaysIn h' → Q (.ref (r.foldl greater b).1) { s with heap := h', toks := tk }) : wpAny (model prog w) A (call (.builtin "max") [.ref ax]) Q E s := by
  have hname : (toString "max" ++ toString ".loop" : String) = "max.loop" := by decide
  refine call_function_tree F.kind_max F.plain_max F.entry_max (F.args_max1 _) ?_
  show wpAny _ A.in1 (Builtin.Builtins.bindParams "max" ["key", "default"] 0 ⟨[], []⟩ >>= _) _ _ s
  refine wpAny_bind (wpAny_of_eq (show Builtin.Builtins.bindParams "max" ["key", "default"] 0 ⟨[], []⟩ = pure [none, none] from rfl) ?_)
  refine wpAny_bind (wpAny_pure ?_)
  refine wpAny_bind (wpAny_pyIter_list hl ?_)
  refine wpAny_bind (wpAny_newObj_type ?_)
  rw [hname]
  obtain ⟨ol, hol, _⟩ := id hl
  have hax : ax < s.heap.objs.size := Heap.lt_size hol
  have hz : (s.heap.push { cls := .type "list_iterator", data := .fields #[.ref ax, .int 0 0] }).objs.size = s.heap.objs.size + 1 := Heap.size_push ..
  refine wpAny_pure ⟨plainId_quiet F.plain_max_loop _, ?_⟩
  dsimp only
  rw [hz]
  generalize hK : (s.heap.push { cls := .type "list_iterator", data := .fields #[.ref ax, .int 0 0] }).push { cls := .type "list", data := .seq ([] : List Value).toArray } = K
  have up : ∀ x o, s.heap.get? x = some o → K.get? x = some o := fun x o e => by rw [← hK]; exact Heap.get?_push_of_some _ (Heap.get?_push_of_some _ e)
  have hSo : K.get? (s.heap.objs.size + 1) = some { cls := .type "list", dict := none, data := .seq #[] 0, slots := #[] } := by
    rw [← hK, ← hz]; exact Heap.get?_push_size _ rfl
  have hIo : K.get? s.heap.objs.size = some { cls := .type "list_iterator", data := .fields #[.ref ax, .int 0 0] } := by
    rw [← hK]; exact Heap.get?_push_of_some _ (Heap.get?_push_size _ rfl)
  have hIS : s.heap.objs.size ≠ s.heap.objs.size + 1 := Ne.symm (Nat.succ_ne_self _)
  have hlt : ∀ e ∈ b :: r, e.1 < s.heap.objs.size := fun e hm => Heap.lt_size (he e hm)
  have hx : (entRefs (b :: r)).toArray[0]? = some (.ref b.1) := by simp [entRefs]
  have hlK : K.IsList ax (entRefs (b :: r)).toArray := hl.at fun o e => up _ _ e
  have hIa : s.heap.objs.size ≠ ax := Ne.symm (Nat.ne_of_lt hax)
  refine codeAny_builtin F.entry_max_loop ?_
  rw [Around.under_plainId F.plain_max_loop _]
  show wpAny _ A.in1 (seqItems? (.ref (s.heap.objs.size + 1)) >>= _) _ _ _
  refine wpAny_bind (wpAny_seqItems hSo rfl ?_)
  show wpAny _ A.in1 (tryCatch (pyNext (.ref s.heap.objs.size)) _ >>= _) _ _ _
  refine wpAny_bind (wpAny_tryCatch (wpAny_pyNext_list_item ⟨_, hIo, rfl, rfl⟩ hlK hx fun h' hit' hs' => ?_))
  have hk' : ∀ x o, x ≠ s.heap.objs.size → K.get? x = some o → h'.get? x = some o := fun x o hxI e => (hs'.2 x hxI).trans e
  have hS' := hk' _ _ (Ne.symm hIS) hSo
  show wpAny _ A.in1 (updateSeq (s.heap.objs.size + 1) (fun _ => #[.ref b.1, .ref b.1]) >>= _) _ _ _
  refine wpAny_bind ?_
  refine wpAny_updateSeq hS' rfl ?_
  rw [hname]
  refine wpAny_pure ⟨plainId_quiet F.plain_max_loop _, max_loop (ts := b :: r) hh hu hIS hIa (Ne.symm (ktu_ne 1 hax)) (fun e hm => ktu_ne 1 (hlt e hm)) (fun e hm => Nat.ne_of_lt (hlt e hm)) r 1 b _ _ rfl ?_ ?_ ?_ (List.Mem.head _) (Heap.get?_update_self _ hS' rfl) fun h'' tk'' hk'' => ?_⟩
  · exact hit'.at fun o e => (Heap.get?_update_other _ _ (Ne.symm hIS)).trans e
  · exact (hlK.at fun o e => hk' ax o (Ne.symm hIa) e).at fun o e => (Heap.get?_update_other _ _ (Ne.symm (ktu_ne 1 hax))).trans e
  · exact fun e hm => (Heap.get?_update_other _ _ (Ne.symm (ktu_ne 1 (hlt e hm)))).trans (hk' _ _ (Nat.ne_of_lt (hlt e hm)) (up _ _ (he e hm)))
  · exact h h'' tk'' fun x o e => hk'' x o (Nat.ne_of_lt (Heap.lt_size e)) (ktu_ne 1 (Heap.lt_size e)) ((Heap.get?_update_other _ _ (Ne.symm (ktu_ne 1 (Heap.lt_size e)))).trans (hk' _ _ (Nat.ne_of_lt (Heap.lt_size e)) (up _ _ e)))
end
end Mine
end
section
open PySem PySem.Spec PySem.Calls PySem.W PyProof.Rows
namespace Mine
set_option maxRecDepth 100000

noncomputable abbrev hB (b : Bool) : Int := if b = true then 1 else 0
noncomputable def isB (a : Bool) : Value → Bool
  | .bool b => a == b
  | _ => false
theorem isB_shape {a : Bool} {v : Value} (h : isB a v = true) : v = .bool a := by
  cases v <;> simp_all [isB]
theorem hash_bool {prog : Program} {w : World} {A : Around} {E : Value → Shared → Prop} {s : Shared} {b : Bool} {Q : Int → Shared → Prop} (h : Q (hB b) { s with toks := s.toks + 1 }) : wpAny (model prog w) A (pyHash (.bool b)) Q E s := by
  refine pyHash_slot (T := "bool") rfl F.slot_bool_hash entry_int_hash (args_int_hash _) (beq_builtin_none _) (.inl rfl) ?_
  cases b
  · exact (show wpAny _ _ (do ret (← mkInt 0)) _ _ s from wpAny_bind (wpAny_mkInt (wpAny_pure ⟨_, _, rfl, h⟩)))
  · exact (show wpAny _ _ (do ret (← mkInt 1)) _ _ s from wpAny_bind (wpAny_mkInt (wpAny_pure ⟨_, _, rfl, h⟩)))
noncomputable def boolKind (prog : Program) (w : World) : KeyKind prog w Bool where
  is := isB
  hash := hB
  inj := fun v a b h1 h2 => by have e := (isB_shape h1).symm.trans (isB_shape h2); injection e
  byValue := fun k v h => by rw [isB_shape h]; rfl
  pyHash := fun hv h => by rw [isB_shape hv]; exact hash_bool h
  eqBool := fun {A E s a b u v Q} hu hv h => by
    rw [isB_shape hu, isB_shape hv]
    refine PySem.SeqAt.EqAt.bool_bool (A := A) (s := s) a b prog w E Q ?_
    have e : (a == b) = decide (a = b) := by cases a <;> cases b <;> rfl
    rw [e]; exact h
  «strs» := fun k x t v h => by simp [isB] at h

noncomputable abbrev setO (es : Array (Int × Value)) (ep : Nat) (t : SetTable) : Obj := { cls := .type "set", dict := none, data := .set es ep t, slots := #[] }

section
variable {prog : Program} {w : World} {A : Around} {E : Value → Shared → Prop} {s : Shared}
theorem set_add_new {D : Addr} {es es1 : Array (Int × Value)} {ep : Nat} {t t1 : SetTable} {b : Bool} {Q : Value → Shared → Prop} (ho : s.heap.get? D = some (setO es ep t)) (hf : t.fits es.size = true)
    (hel : ElemsOf (boolKind prog w) es.toList) (hz : es.size < scanBound) (hr : es.toList.findIdx? (fun e => isB b e.2) = none) (hL : layNew t es (hB b) (.bool b) = (es1, t1, false, false)) (hp : t1.plain = true) (htf : t1.tooFull = false) (hz1 : es1.size ≤ sizeLine)
    (h : ∀ h', Heap.SameBut D s.heap h' → h'.get? D = some (setO es1 (ep + 1) t1) → Q .none { s with heap := h', toks := s.toks + 1 }) :
    wpAny (model prog w) A (call (.builtin "set.add") [.ref D, .bool b]) Q E s := by
  have hT : s.TypeIs (.ref D) "set" := ⟨_, ho, rfl⟩
  have hkey : (boolKind prog w).is b (.bool b) = true := by show isB b (.bool b) = true; simp [isB]
  refine wpAny_call_entry F.slot_set_add hT F.entry_set_add ?_ (F.args_set_add_2 _ _)
  unfold Builtin.«set.add» Builtin.Frozenset.oneOther
  simp only [List.isEmpty_nil, bind_assoc]
  unfold Builtin.Frozenset.addrOf setAdd
  refine wpAny_bind (wpAny_pure ?_)
  try dsimp only
  refine wpAny_bind (wpAny_pure ?_)
  try dsimp only
  refine wpAny_bind ?_
  refine wpAny_holding ?_
  refine wpAny_bind ((boolKind prog w).pyHash hkey ?_)
  unfold setAddHashed setAddHashedIn
  refine wpAny_holding (wpAny_bind (wpAny_setState_of (s := { s with toks := s.toks + 1 }) ho rfl hf ?_))
  dsimp only
  rw [byScan_of (knd := boolKind prog w) rfl hz hel]
  simp only [↓reduceIte]
  unfold setAddByScan
  refine wpAny_bind ?_
  refine wpAny_bind (wpAny_rule ?_)
  refine wpAny_bind (wpAny_setScan_of (s := { s with toks := s.toks + 1 }) hkey ho rfl hf hel ?_)
  have hr' : List.findIdx? (fun e => (boolKind prog w).is b e.2) es.toList = none := hr
  rw [hr']
  dsimp only
  have hL' : layNew t es ((boolKind prog w).hash b) (.bool b) = (es1, t1, false, false) := hL
  rw [hL']
  dsimp only
  refine wpAny_bind (wpAny_pure (a := ()) ?_)
  rw [hp]
  simp only [if_true]
  refine wpAny_bind ?_
  rw [hashByValue_scannable 8 rfl]
  refine wpAny_pure ?_
  have hpk : plainKind (Value.bool b) = true := rfl
  simp only [hpk, if_true]
  show wpAny _ _ (storeSet D es1 t1 >>= _) _ _ _
  refine wpAny_bind (wpAny_storeSet_of (s := { s with toks := s.toks + 1 }) ho rfl ?_ hz1)
  rw [htf]
  simp only [Bool.and_false, Bool.false_eq_true, if_false]
  refine wpAny_pure ?_
  dsimp only
  refine wpAny_pure ?_
  show wpAny _ _ (ret Value.none) _ _ _
  have hg : (s.heap.update D (Obj.putSet es1 t1)).get? D = some (setO es1 (ep + 1) t1) := by
    have := Heap.get?_update_self (Obj.putSet es1 t1) ho (by rw [putSet_of es1 t1 rfl]; rfl)
    rw [putSet_of es1 t1 rfl] at this; exact this
  exact wpAny_pure ⟨_, rfl, h _ (Heap.SameBut.update ..) hg⟩

theorem set_add_old {D : Addr} {es : Array (Int × Value)} {ep : Nat} {t : SetTable} {b : Bool} {j : Nat} {Q : Value → Shared → Prop} (ho : s.heap.get? D = some (setO es ep t)) (hf : t.fits es.size = true)
    (hel : ElemsOf (boolKind prog w) es.toList) (hz : es.size < scanBound) (hr : es.toList.findIdx? (fun e => isB b e.2) = some j) (h : Q .none { s with toks := s.toks + 1 }) :
    wpAny (model prog w) A (call (.builtin "set.add") [.ref D, .bool b]) Q E s := by
  have hT : s.TypeIs (.ref D) "set" := ⟨_, ho, rfl⟩
  have hkey : (boolKind prog w).is b (.bool b) = true := by show isB b (.bool b) = true; simp [isB]
  refine wpAny_call_entry F.slot_set_add hT F.entry_set_add ?_ (F.args_set_add_2 _ _)
  unfold Builtin.«set.add» Builtin.Frozenset.oneOther
  simp only [List.isEmpty_nil, bind_assoc]
  unfold Builtin.Frozenset.addrOf setAdd
  refine wpAny_bind (wpAny_pure ?_)
  try dsimp only
  refine wpAny_bind (wpAny_pure ?_)
  try dsimp only
  refine wpAny_bind ?_
  refine wpAny_holding ?_
  refine wpAny_bind ((boolKind prog w).pyHash hkey ?_)
  unfold setAddHashed setAddHashedIn
  refine wpAny_holding (wpAny_bind (wpAny_setState_of (s := { s with toks := s.toks + 1 }) ho rfl hf ?_))
  dsimp only
  rw [byScan_of (knd := boolKind prog w) rfl hz hel]
  simp only [↓reduceIte]
  unfold setAddByScan
  refine wpAny_bind ?_
  refine wpAny_bind (wpAny_rule ?_)
  refine wpAny_bind (wpAny_setScan_of (s := { s with toks := s.toks + 1 }) hkey ho rfl hf hel ?_)
  have hr' : List.findIdx? (fun e => (boolKind prog w).is b e.2) es.toList = some j := hr
  rw [hr']
  dsimp only
  refine wpAny_pure ?_
  dsimp only
  refine wpAny_pure ?_
  show wpAny _ _ (ret Value.none) _ _ _
  exact wpAny_pure ⟨_, rfl, h⟩

noncomputable def tb (pl : Array Nat) (led : Bool) : SetTable := { mask := 7, place := pl, dummies := #[], finger := 0, led := led, moves := 0, plain := true }
/-- the set that a row of bools makes -/
noncomputable def setB (led : Bool) (bs : List Bool) : Obj :=
  match bs.contains true, bs.contains false with
  | false, false => setO #[] 0 (tb #[] led)
  | true, false => setO #[(1, .bool true)] 1 (tb #[1] led)
  | false, true => setO #[(0, .bool false)] 1 (tb #[0] led)
  | true, true => setO #[(0, .bool false), (1, .bool true)] 2 (tb #[0, 1] led)

theorem setB_snoc_of {led : Bool} {bs : List Bool} {b : Bool} (h : bs.contains b = true) : setB led (bs ++ [b]) = setB led bs := by
  unfold setB
  have e1 : (bs ++ [b]).contains true = bs.contains true := by cases b <;> simp_all
  have e2 : (bs ++ [b]).contains false = bs.contains false := by cases b <;> simp_all
  rw [e1, e2]
theorem elems_of {es : List (Int × Value)} (h : ∀ e ∈ es, ∃ b, e = (hB b, .bool b)) : ElemsOf (boolKind prog w) es := fun e he => by
  obtain ⟨b, rfl⟩ := h e he
  exact ⟨⟨b, by show isB b (.bool b) = true; simp [isB], rfl⟩, rfl⟩

theorem set_add_bool {D : Addr} {led : Bool} {bs : List Bool} {b : Bool} {Q : Value → Shared → Prop} (ho : s.heap.get? D = some (setB led bs))
    (h : ∀ h', Heap.SameBut D s.heap h' → h'.get? D = some (setB led (bs ++ [b])) → Q .none { s with heap := h', toks := s.toks + 1 }) :
    wpAny (model prog w) A (call (.builtin "set.add") [.ref D, .bool b]) Q E s := by
  have stay : bs.contains b = true → Q .none { s with toks := s.toks + 1 } := fun hc => h s.heap (Heap.SameBut.refl ..) (by rw [setB_snoc_of hc]; exact ho)
  have e0 : ∀ c : Bool, (bs ++ [c]).contains true = (bs.contains true || c) := by intro c; cases c <;> simp
  have e1 : ∀ c : Bool, (bs ++ [c]).contains false = (bs.contains false || !c) := by intro c; cases c <;> simp
  unfold setB at ho h
  rw [e0, e1] at h
  cases ht : bs.contains true <;> cases hf : bs.contains false <;> rw [ht, hf] at ho h <;> cases b
  · exact set_add_new ho rfl (elems_of (by simp)) (by decide) rfl (es1 := #[(0, .bool false)]) (t1 := tb #[0] led) (by with_unfolding_all rfl) rfl rfl (by rw [sizeLine_eq]; decide) h
  · exact set_add_new ho rfl (elems_of (by simp)) (by decide) rfl (es1 := #[(1, .bool true)]) (t1 := tb #[1] led) (by with_unfolding_all rfl) rfl rfl (by rw [sizeLine_eq]; decide) h
  · exact set_add_old ho rfl (elems_of (by intro e he; simp at he; exact ⟨false, by simp [he]⟩)) (by decide) (j := 0) rfl (stay hf)
  · exact set_add_new ho rfl (elems_of (by intro e he; simp at he; exact ⟨false, by simp [he]⟩)) (by decide) rfl (es1 := #[(0, .bool false), (1, .bool true)]) (t1 := tb #[0, 1] led) (by with_unfolding_all rfl) rfl rfl (by rw [sizeLine_eq]; decide) h
  · exact set_add_new ho rfl (elems_of (by intro e he; simp at he; exact ⟨true, by simp [he]⟩)) (by decide) rfl (es1 := #[(0, .bool false), (1, .bool true)]) (t1 := tb #[0, 1] led) (by with_unfolding_all rfl) rfl rfl (by rw [sizeLine_eq]; decide) h
  · exact set_add_old ho rfl (elems_of (by intro e he; simp at he; exact ⟨true, by simp [he]⟩)) (by decide) (j := 0) rfl (stay ht)
  · exact set_add_old ho rfl (elems_of (by intro e he; simp at he; rcases he with rfl | rfl; exact ⟨false, rfl⟩; exact ⟨true, rfl⟩)) (by decide) (j := 0) rfl (stay hf)
  · exact set_add_old ho rfl (elems_of (by intro e he; simp at he; rcases he with rfl | rfl; exact ⟨false, rfl⟩; exact ⟨true, rfl⟩)) (by decide) (j := 1) rfl (stay ht)
end
end Mine
end
section
open PySem PySem.Spec PySem.Calls PySem.W PyProof.Rows
namespace Mine
set_option maxRecDepth 100000
theorem entry_set_iter : entryFor table "set.__iter__" = some Builtin.«frozenset.__iter__» :=
  entryFor_alias (id' := "frozenset.__iter__") (by kernel_rfl) rfl (by decide +kernel) (by kernel_rfl)
theorem slot_setit_next : Slot "set_iterator" "__next__" "set_iterator.__next__" :=
  .of (owner := "set_iterator") (n := "__next__") (by rw [typeLookup_type, builtinLookup_eq_fast]; kernel_rfl) (by decide +kernel) (by decide +kernel) (by decide +kernel)
    (by first | exact .inl (by decide +kernel) | exact .inr (by decide +kernel)) (by rw [isSubtype_type]; kernel_rfl)
theorem entry_setit_next : entryFor table "set_iterator.__next__" = some Builtin.«set_iterator.__next__» := entryFor_of_tree (by kernel_rfl)
theorem args_setit_next (a : Value) : argsOk "set_iterator.__next__" ⟨[a], []⟩ := by unfold argsOk; kernel_rfl

noncomputable def byT (w : World) : Bool := w.params.followText "set-order"
noncomputable abbrev setIt (D : Addr) (slot i : Int) (n ep : Nat) : Obj := { cls := .type "set_iterator", data := .fields #[.int slot 0, .int i 0, .ref D, .int n 0, .int ep 0] }

section
variable {prog : Program} {w : World} {A : Around} {E : Value → Shared → Prop} {s : Shared}
theorem iter_set {D : Addr} {es : Array (Int × Value)} {ep : Nat} {t : SetTable} {Q : Value → Shared → Prop} (ho : s.heap.get? D = some (setO es ep t)) (hf : t.fits es.size = true) (hp : t.plain = true)
    (h : Q (.ref s.heap.objs.size) { s with heap := s.heap.push (setIt D 0 0 es.size ep) }) : wpAny (model prog w) A (pyIter (.ref D)) Q E s := by
  have hT : s.TypeIs (.ref D) "set" := ⟨_, ho, rfl⟩
  refine wpAny_pyIter_slot hT F.slot_set_iter (wpAny_call_entry F.slot_set_iter hT entry_set_iter ?_ (F.args_set_iter_1 _))
  unfold Builtin.«frozenset.__iter__» Builtin.Frozenset.slot0 slotArgs
  simp only [List.isEmpty_nil, Bool.not_true, Bool.false_eq_true, ↓reduceIte, bind_assoc, List.length_nil, bne_self_eq_false]
  unfold Builtin.Frozenset.addrOf Builtin.Frozenset.sizeOf
  refine wpAny_bind (wpAny_pure ?_)
  try dsimp only
  refine wpAny_bind (wpAny_pure ?_)
  refine wpAny_bind (wpAny_bind (wpAny_setEntries_of ho rfl hf (wpAny_pure ?_)))
  unfold setDrawn setsByText
  refine wpAny_bind (wpAny_bind (wpAny_setState_of ho rfl hf ?_))
  dsimp only
  refine wpAny_bind (wpAny_bind (wpAny_askSetting (wpAny_pure ?_)))
  refine wpAny_pure ?_
  refine wpAny_ite_split (fun hc => ?_) (fun _ => ?_)
  · have hc' : (!(w.params.followText "set-order") && (!t.plain && decide (es.size > 1))) = true := hc
    rw [hp] at hc'
    simp at hc'
  refine wpAny_bind (wpAny_pure ?_)
  refine wpAny_bind (wpAny_setEpoch_of ho rfl hf ?_)
  show wpAny _ _ (newFields "set_iterator" [rawInt 0, rawInt 0, .ref D, rawInt es.size, rawInt ep] >>= _) _ _ _
  refine wpAny_bind (wpAny_newObj_type (wpAny_pure ⟨_, rfl, "set_iterator", _, ⟨_, Heap.get?_push_size _ rfl, rfl⟩, slot_setit_next.lookup, h⟩))


noncomputable def setStep (w : World) (D : Addr) (es : Array (Int × Value)) (ep : Nat) (t : SetTable) (slot i : Nat) : Option (Value × Nat) :=
  if byT w = true then ((pickOrder (w.params.setOrder D ep) es)[i]?).map fun e => (e.2, slot)
  else match es[SetTable.below t.place slot]?, t.place[SetTable.below t.place slot]? with | some (_, x), some j => some (x, j + 1) | _, _ => none

theorem wp_setNext {D : Addr} {es : Array (Int × Value)} {ep slot i : Nat} {t : SetTable} {Q : Option (Value × Nat) → Shared → Prop} (ho : s.heap.get? D = some (setO es ep t))
    (hf : t.fits es.size = true) (hp : t.plain = true) (hled : t.led = !byT w) (h : Q (setStep w D es ep t slot i) s) : wpAny (model prog w) A (setNext D slot i ep) Q E s := by
  unfold setStep at h
  unfold setNext setsByText
  refine wpAny_bind (wpAny_setState_of ho rfl hf ?_)
  dsimp only
  refine wpAny_bind (wpAny_bind (wpAny_askSetting (wpAny_pure ?_)))
  refine wpAny_ite_split (fun hb => ?_) (fun hb => ?_)
  · have hb' : byT w = true := hb
    rw [if_pos hb'] at h
    refine wpAny_ite_split (fun hc => absurd hc (by simp)) (fun _ => ?_)
    unfold setWalk setsByText
    refine wpAny_bind (wpAny_bind (wpAny_setState_of ho rfl hf ?_))
    dsimp only
    refine wpAny_bind (wpAny_bind (wpAny_askSetting (wpAny_pure ?_)))
    refine wpAny_ite_split (fun _ => ?_) (fun q => absurd hb q)
    refine wpAny_bind (wpAny_askSetting (wpAny_pure ?_))
    exact wpAny_pure h
  · have hb' : ¬ byT w = true := hb
    rw [if_neg hb'] at h
    refine wpAny_ite_split (fun hc => ?_) (fun _ => ?_)
    · have hc' : (!t.plain && decide (es.size > 1)) = true := hc
      rw [hp] at hc'; simp at hc'
    refine wpAny_bind (wpAny_ite_split (c := (!t.led && !es.isEmpty) = true) (fun hc => ?_) (fun _ => wpAny_pure ?_))
    · rw [hled] at hc; simp at hc; exact absurd hc.1 hb'
    exact wpAny_pure h

theorem set_next_wp {I D : Addr} {es : Array (Int × Value)} {ep slot i : Nat} {t : SetTable} {Q : Option Value → Shared → Prop} (hI : s.heap.get? I = some (setIt D slot i es.size ep)) (ho : s.heap.get? D = some (setO es ep t))
    (hf : t.fits es.size = true) (hp : t.plain = true) (hled : t.led = !byT w)
    (h : wpAny (model prog w) A.in1 (match setStep w D es ep t slot i with
        | some (x, next) => do
          setField (Value.ref I) 0 (rawInt next)
          setField (Value.ref I) 1 (rawInt ((i : Int) + 1))
          ret x
        | none => do
          setField (Value.ref I) 2 Value.none
          raiseNew (← newExc (Value.type "StopIteration") []))
        (fun fin s' => ∃ v, fin = Fin.done (Flow.ret v) ∧ wpAny (model prog w) A (pure (some v)) Q E s')
        (fun e s' => wpAny (model prog w) A (do if (← isInstance e (Value.type "StopIteration")) = true then pure none else throw e) Q E s') s) :
    wpAny (model prog w) A (pyNext (.ref I)) Q E s := by
  have hT : s.TypeIs (.ref I) "set_iterator" := ⟨_, hI, rfl⟩
  unfold pyNext
  refine wpAny_bind (wpAny_attempt (wpAny_callSpecial?_slot (name := Str.ofString "__next__") hT slot_setit_next
    (wpAny_call_entry slot_setit_next hT entry_setit_next ?_ (args_setit_next _))))
  show wpAny _ _ (fieldsOf (.ref I) >>= _) _ _ s
  refine wpAny_bind (wpAny_fieldsOf hI rfl ?_)
  show wpAny _ _ (setEntries D >>= _) _ _ s
  refine wpAny_bind (wpAny_setEntries_of ho rfl hf ?_)
  show wpAny _ _ (if (((es.size : Nat) : Int) != ((es.size : Nat) : Int)) = true then _ else _) _ _ s
  rw [if_neg (by simp)]
  show wpAny _ _ (setNext D ((slot : Nat) : Int).toNat ((i : Nat) : Int).toNat ((ep : Nat) : Int).toNat >>= _) _ _ s
  simp only [Int.toNat_natCast]
  exact wpAny_bind (wp_setNext ho hf hp hled h)

theorem set_next_item {I D : Addr} {es : Array (Int × Value)} {ep slot i nx : Nat} {t : SetTable} {x : Value} {Q : Option Value → Shared → Prop} (hI : s.heap.get? I = some (setIt D slot i es.size ep)) (ho : s.heap.get? D = some (setO es ep t))
    (hf : t.fits es.size = true) (hp : t.plain = true) (hled : t.led = !byT w) (hx : setStep w D es ep t slot i = some (x, nx))
    (h : ∀ h', Heap.SameBut I s.heap h' → h'.get? I = some (setIt D nx (i + 1 : Nat) es.size ep) → Q (some x) { s with heap := h' }) : wpAny (model prog w) A (pyNext (.ref I)) Q E s := by
  refine set_next_wp hI ho hf hp hled ?_
  rw [hx]
  refine wpAny_bind (wpAny_setField_rec hI (by simp) fun h₁ hI₁ hs₁ => ?_)
  refine wpAny_bind (wpAny_setField_rec hI₁ (by simp) fun h₂ hI₂ hs₂ => ?_)
  exact wpAny_pure ⟨_, rfl, wpAny_pure (h h₂ (hs₁.trans hs₂) hI₂)⟩

theorem set_next_end {I D : Addr} {es : Array (Int × Value)} {ep slot i : Nat} {t : SetTable} {Q : Option Value → Shared → Prop} (hh : A.handled = none) (hI : s.heap.get? I = some (setIt D slot i es.size ep)) (ho : s.heap.get? D = some (setO es ep t))
    (hf : t.fits es.size = true) (hp : t.plain = true) (hled : t.led = !byT w) (hx : setStep w D es ep t slot i = none)
    (h : ∀ h', Heap.ExtBut I s.heap h' → Q none { s with heap := h' }) : wpAny (model prog w) A (pyNext (.ref I)) Q E s := by
  refine set_next_wp hI ho hf hp hled ?_
  rw [hx]
  refine wpAny_bind (wpAny_setField_rec hI (by simp) fun h₁ hI₁ hs₁ => ?_)
  refine wpAny_bind ?_
  simp only [newExc, newTuple]
  refine wpAny_bind (wpAny_newObj_type ?_ (by size_fits))
  refine wpAny_bind (m := firstArgMember _ _) (wpAny_of_eq (a := Value.none) (by first | rfl | (simp only [firstArgMember]; rfl)) ?_)
  refine wpAny_newObj_type ?_ (by size_fits)
  simp only [raiseNew]
  refine wpAny_bind (wpAny_handled ?_)
  first | rw [show A.in1.handled = none from hh] | rw [hh]
  refine wpAny_bind (wpAny_pure (wpAny_throw ?_))
  refine wpAny_bind (wpAny_isInstance (T := "StopIteration") (b := true) ⟨_, Heap.get?_push_size _ rfl, rfl⟩ isSubtype_stop ?_)
  exact wpAny_pure (h _ ((hs₁.extBut.push _).push _))
end
end Mine
end
section
open PySem PySem.Spec PySem.Calls PySem.W PyProof.Rows
namespace Mine
set_option maxRecDepth 100000
noncomputable def pB (b : Bool) : Nat := if b = true then 1 else 0
noncomputable abbrev oneB (led b : Bool) : Obj := setO #[(hB b, .bool b)] 1 (tb #[pB b] led)
noncomputable abbrev twoB (led : Bool) : Obj := setO #[(0, .bool false), (1, .bool true)] 2 (tb #[0, 1] led)
theorem setB_one {led b : Bool} {bs : List Bool} (h0 : bs ≠ []) (h : ∀ c ∈ bs, c = b) : setB led bs = oneB led b := by
  obtain ⟨x, r, rfl⟩ := List.exists_cons_of_ne_nil h0
  have hx := h x (List.Mem.head _)
  subst hx
  have ht : (x :: r).contains x = true := by simp
  have hf : (x :: r).contains (!x) = false := by
    cases q : (x :: r).contains (!x) with
    | false => rfl
    | true =>
      have := h _ (List.contains_iff_mem.mp q)
      cases x <;> cases this
  unfold setB
  cases x
  · rw [ht, show (false :: r).contains true = false from hf]; rfl
  · rw [ht, show (true :: r).contains false = false from hf]; rfl
theorem setB_two {led : Bool} {bs : List Bool} (h1 : true ∈ bs) (h2 : false ∈ bs) : setB led bs = twoB led := by
  unfold setB
  rw [List.contains_iff_mem.mpr h1, List.contains_iff_mem.mpr h2]

theorem pick_one {α : Type} (f : Nat → Nat) (x : α) : pickOrder f #[x] = #[x] := by
  show pickOrder.go f 1 0 [x] #[] = #[x]
  unfold pickOrder.go
  have e : f 0 % [x].length = 0 := Nat.mod_one _
  rw [e]
  rfl
theorem pick_two {α : Type} (f : Nat → Nat) (x y : α) : ∃ a b, pickOrder f #[x, y] = #[a, b] := by
  show ∃ a b, pickOrder.go f 2 0 [x, y] #[] = #[a, b]
  unfold pickOrder.go
  have e1 : ∀ (n : Nat) (z : α) (o : Array α), pickOrder.go f 1 n [z] o = o.push z := fun n z o => by
    unfold pickOrder.go
    have e : f n % [z].length = 0 := Nat.mod_one _
    rw [e]; rfl
  have e2 : f 0 % [x, y].length = 0 ∨ f 0 % [x, y].length = 1 := by
    have : f 0 % [x, y].length < 2 := Nat.mod_lt _ (Nat.zero_lt_succ 1)
    omega
  rcases e2 with e | e
  · rw [e]; exact ⟨x, y, e1 1 y #[x]⟩
  · rw [e]; exact ⟨y, x, e1 1 x #[y]⟩

section
variable {prog : Program} {w : World} {A : Around} {E : Value → Shared → Prop} {s : Shared}
theorem unpack_one {D : Addr} {b : Bool} {Q : List Value → Shared → Prop} (hh : A.handled = none) (ho : s.heap.get? D = some (oneB (!byT w) b))
    (hQ : ∀ h', s.heap.StaysIn h' → Q [.bool b] { s with heap := h' }) : wpAny (model prog w) A (unpackItems (.ref D) 1 none) Q E s := by
  have hT : s.TypeIs (.ref D) "set" := ⟨_, ho, rfl⟩
  have hlt : D ≠ s.heap.objs.size := Nat.ne_of_lt (Heap.lt_size ho)
  have hf : (tb #[pB b] (!byT w)).fits 1 = true := rfl
  unfold unpackItems
  refine wpAny_bind ?_
  unfold notIterableAtAll
  refine wpAny_bind (wpAny_specialOf hT F.slot_set_iter.lookup ?_)
  refine wpAny_pure ?_
  simp only [Bool.false_eq_true, if_false]
  refine wpAny_bind (wpAny_holding (iter_set ho hf rfl ?_))
  have ho' := Heap.get?_push_of_some (setIt D 0 0 1 1) ho
  have hI := Heap.get?_push_size s.heap (o := setIt D 0 0 1 1) rfl
  have key : ∃ nx, setStep w D #[(hB b, .bool b)] 1 (tb #[pB b] (!byT w)) 0 0 = some (.bool b, nx) ∧ setStep w D #[(hB b, .bool b)] 1 (tb #[pB b] (!byT w)) nx 1 = none := by
    unfold setStep
    rw [pick_one]
    cases hb : byT w
    · exact ⟨pB b + 1, by cases b <;> rfl, by cases b <;> rfl⟩
    · exact ⟨0, rfl, rfl⟩
  obtain ⟨nx, k1, k2⟩ := key
  refine wpAny_bind (wpAny_holding ?_)
  show wpAny _ _ (pyNext (.ref s.heap.objs.size) >>= _) _ E _
  refine wpAny_bind (set_next_item hI ho' hf rfl rfl k1 fun h₁ hs₁ hI₁ => ?_)
  have ho₁ := hs₁.extBut D _ hlt ho'
  refine wpAny_bind (wpAny_holding (wpAny_pure (wpAny_pure ?_)))
  rw [if_neg (by simp)]
  refine wpAny_bind (wpAny_holding (set_next_end hh hI₁ ho₁ hf rfl rfl k2 fun h₂ he₂ => ?_))
  simp only [Option.isSome_none, Bool.false_eq_true, if_false]
  refine wpAny_pure (hQ h₂ fun x o e => he₂ x o (Nat.ne_of_lt (Heap.lt_size e)) (hs₁.extBut x o (Nat.ne_of_lt (Heap.lt_size e)) (Heap.get?_push_of_some _ e)))

theorem unpack_two {D : Addr} {Q : List Value → Shared → Prop} (hh : A.handled = none) (ho : s.heap.get? D = some (twoB (!byT w)))
    (hE : ∀ h' tk e, Heap.NewExc s.heap h' e "ValueError" → E (.ref e) { s with heap := h', toks := tk }) : wpAny (model prog w) A (unpackItems (.ref D) 1 none) Q E s := by
  have hT : s.TypeIs (.ref D) "set" := ⟨_, ho, rfl⟩
  have hlt : D ≠ s.heap.objs.size := Nat.ne_of_lt (Heap.lt_size ho)
  have hf : (tb #[0, 1] (!byT w)).fits 2 = true := rfl
  unfold unpackItems
  refine wpAny_bind ?_
  unfold notIterableAtAll
  refine wpAny_bind (wpAny_specialOf hT F.slot_set_iter.lookup ?_)
  refine wpAny_pure ?_
  simp only [Bool.false_eq_true, if_false]
  refine wpAny_bind (wpAny_holding (iter_set ho hf rfl ?_))
  have ho' := Heap.get?_push_of_some (setIt D 0 0 2 2) ho
  have hI := Heap.get?_push_size s.heap (o := setIt D 0 0 2 2) rfl
  have key : ∃ x y nx ny, setStep w D #[(0, .bool false), (1, .bool true)] 2 (tb #[0, 1] (!byT w)) 0 0 = some (x, nx) ∧ setStep w D #[(0, .bool false), (1, .bool true)] 2 (tb #[0, 1] (!byT w)) nx 1 = some (y, ny) := by
    unfold setStep
    obtain ⟨a, b, e⟩ := pick_two (w.params.setOrder D 2) ((0 : Int), Value.bool false) (1, .bool true)
    rw [e]
    cases hb : byT w
    · exact ⟨.bool false, .bool true, 1, 2, rfl, rfl⟩
    · exact ⟨a.2, b.2, 0, 0, rfl, rfl⟩
  obtain ⟨x, y, nx, ny, k1, k2⟩ := key
  refine wpAny_bind (wpAny_holding ?_)
  show wpAny _ _ (pyNext (.ref s.heap.objs.size) >>= _) _ E _
  refine wpAny_bind (set_next_item hI ho' hf rfl rfl k1 fun h₁ hs₁ hI₁ => ?_)
  have ho₁ := hs₁.extBut D _ hlt ho'
  refine wpAny_bind (wpAny_holding (wpAny_pure (wpAny_pure ?_)))
  rw [if_neg (by simp)]
  refine wpAny_bind (wpAny_holding (set_next_item hI₁ ho₁ hf rfl rfl k2 fun h₂ hs₂ hI₂ => ?_))
  simp only [Option.isSome_some, if_true]
  refine wpAny_bind (wpAny_rule ?_)
  have up : ∀ b o, s.heap.get? b = some o → h₂.get? b = some o := fun b o e => hs₂.extBut b o (Nat.ne_of_lt (Heap.lt_size e)) (hs₁.extBut b o (Nat.ne_of_lt (Heap.lt_size e)) (Heap.get?_push_of_some _ e))
  refine wpAny_bind (raiseError_exc excClass_ValueError hh fun h' tk e hn => ?_)
  have hnew : s.heap.get? e = none := by
    cases q : s.heap.get? e with
    | none => rfl
    | some o =>
      have := up e o q
      rw [hn.new] at this; cases this
  exact hE h' tk e ⟨fun b o q => hn.keeps b o (up b o q), hnew, hn.there⟩

theorem assign_set {D : Addr} {env : Env} {e : PySem.Expr} {k : Nat} {pos : Pos} {Q : Unit → Shared → Prop} (hstar : (assignEach [e] env).findIdx? (·.1) = none) (hlen : (assignEach [e] env).length = 1)
    (h : wpAny (model prog w) A (unpackItems (.ref D) 1 none) (fun vs s' => wpAny (model prog w) A (assignInOrder ((assignEach [e] env).map (·.2)) vs) Q E s') E s) :
    wpAny (model prog w) A (assign (.Tuple [e] k pos) env (.ref D)) Q E s := by
  rw [assign_Tuple]
  refine wpAny_bind (wpAny_standAt ?_)
  unfold unpack
  rw [hlen, hstar]
  exact wpAny_bind (wpAny_holding h)
end
end Mine
end
section
open PySem PySem.Spec PySem.Calls PySem.W PyProof.Rows
namespace Mine
set_option maxRecDepth 100000
open PyProof.Rows.LCg

theorem compTurn_set1 (elt target iter : PySem.Expr) (scope : Scope) (pos : Pos) (it acc : Value) (env : Env) :
    compTurn (.SetComp elt [⟨target, iter, [], 0⟩] scope pos) 0 it acc env = (standAt iter.pos >>= fun _ => pyNext it >>= fun r => match r with
      | none => pure (.done .next)
      | some v => letOwnedTupleGo target it v >>= fun _ => assign target env v >>= fun _ =>
        (eval elt env >>= fun x => standAt elt.pos >>= fun _ => call (.builtin "set.add") [acc, x] >>= fun _ => pure ()) >>= fun _ =>
          again (.compLoop (.SetComp elt [⟨target, iter, [], 0⟩] scope pos) 0 it acc env)) := by rfl

section
variable {prog : Program} {w : World} {A : Around} {E : Value → Shared → Prop} {s : Shared} {R : Result → Shared → Prop}
theorem compLoop_set {elt target iter : PySem.Expr} {scope : Scope} {pos : Pos} {it acc : Value} {env : Env} (I : Nat → Shared → Prop)
    (turn : ∀ n s, I n s → wpAny (model prog w) A (pyNext it) (fun r s₁ => match r with
      | none => R (.ok .next) s₁
      | some v => wpAny (model prog w) A (assign target env v) (fun _ s₂ => wpAny (model prog w) A (eval elt env) (fun x s₃ =>
          wpAny (model prog w) A (call (.builtin "set.add") [acc, x]) (fun _ s₄ => ∃ m, m < n ∧ I m s₄) (notedBy (model prog w) A env fun e s' => R (.error e) s') s₃)
          (notedBy (model prog w) A env fun e s' => R (.error e) s') s₂) (notedBy (model prog w) A env fun e s' => R (.error e) s') s₁) (notedBy (model prog w) A env fun e s' => R (.error e) s') s)
    (n : Nat) (h : I n s) (ht : ∀ v, letOwnedTupleGo target it v = pure () := by intro _; rfl) :
    codeAny (model prog w) A (.compLoop (.SetComp elt [⟨target, iter, [], 0⟩] scope pos) 0 it acc env) R s := by
  refine codeAny_loop rfl I (fun n s hI => ?_) n h
  show wpAny _ _ ((compTurn (.SetComp elt [⟨target, iter, [], 0⟩] scope pos) 0 it acc env).onRaise (fun x => do noteFrame x env; theTreesLotGoes x)) _ _ s
  refine wpAny_noted ?_
  rw [compTurn_set1]
  refine wpAny_bind (wpAny_standAt (wpAny_bind (wpAny_mono (turn n s hI) (fun r s₁ h₁ => ?_) fun _ _ h' => h')))
  cases r with
  | none => exact wpAny_pure h₁
  | some v =>
    refine wpAny_bind (wpAny_of_eq (ht v) ?_)
    exact wpAny_bind (wpAny_mono h₁ (fun _ s₂ h₂ => wpAny_bind (wpAny_bind (wpAny_mono h₂ (fun x s₃ h₃ => wpAny_bind (wpAny_standAt (wpAny_bind (wpAny_mono h₃
      (fun _ s₄ h₄ => wpAny_pure (wpAny_pure ⟨rfl, h₄⟩)) fun _ _ h' => h')))) fun _ _ h' => h'))) fun _ _ h' => h')

theorem compStart_set {elt target iter ifs rest scope pos it acc env}
    (h0 : codeAny (model prog w) A (.compLoop (.SetComp elt (⟨target, iter, ifs, 0⟩ :: rest) scope pos) 0 it acc env) R s)
    (h : wpAny (model prog w) A (pyIter it) (fun it' s' => codeAny (model prog w) A (.compLoop (.SetComp elt (⟨target, iter, ifs, 0⟩ :: rest) scope pos) 0 it' acc env) R s')
      (notedBy (model prog w) A env fun x s' => R (.error x) s') s) :
    codeAny (model prog w) A (.compStart (.SetComp elt (⟨target, iter, ifs, 0⟩ :: rest) scope pos) 0 it acc env) R s := by
  refine codeAny_of_tree ?_
  show wpAny _ _ ((compStart (.SetComp elt (⟨target, iter, ifs, 0⟩ :: rest) scope pos) 0 it acc env).onRaise (fun x => do noteFrame x env; standAt theWindowsPlace)) _ _ s
  refine wpAny_notedAt ?_
  unfold compStart
  show wpAny _ _ (ask >>= _) _ _ s
  refine wpAny_bind (wpAny_askSetting (wpAny_ite ?_))
  split
  · first
      | exact wpAny_bind (wpAny_pure (wpAny_pure (And.intro rfl h0)))
      | exact wpAny_pure (And.intro rfl h0)
  · first
      | exact wpAny_bind (wpAny_rule (wpAny_bind (wpAny_standAt (wpAny_bind (wpAny_mono h (fun it' s' h' => wpAny_pure (And.intro rfl h')) fun _ _ x => x)))))
      | (refine wpAny_bind (wpAny_rule ?_); show wpAny _ _ (standAt iter.pos >>= _) _ _ s; exact wpAny_bind (wpAny_standAt (wpAny_bind (wpAny_mono h (fun it' s' h' => wpAny_pure (And.intro rfl h')) fun _ _ x => x))))

theorem SetComp_bools {env : Env} {h₀ : Heap} {L : Addr} {m : Str → Option Value} {elt iter : PySem.Expr} {x : Str} {px : Pos} {scope : Scope} {cl : List (Str × Addr)} {pos : Pos} {Q : Value → Shared → Prop} (f : Value → Bool)
    (hclos : closureFor scope env = pure cl) (hcell : ∀ y ∈ scope.names, y.2 ≠ .cell) (hkind : scope.kind = .function)
    (hnames : ∀ y ∈ scope.names, y.2 = .local → scope.names.lookup y.1 = some .local) (hx : scope.names.lookup x = some .local)
    (h : wpAny (model prog w) A (eval iter env) (fun xv s₁ => ∃ ax vs news, xv = .ref ax ∧ A.handled = none ∧ Fr h₀ L s₁.heap m ∧ News h₀ L s₁.heap news ∧ s₁.heap.IsTuple ax (List.toArray vs) ∧
      (∀ C (i : Nat) v s₃ m₃, vs[i]? = some v → Fr s₁.heap C s₃.heap m₃ → m₃ x = some v → wpAny (model prog w) A (eval elt (compEnvC scope cl C env)) (fun y s₄ => y = .bool (f v) ∧ Keeps s₃ s₄) NoE s₃) ∧
      (∀ D h' tk, Fr h₀ L h' m → News h₀ L h' ((D, setB (!byT w) (vs.map f)) :: news) → Q (.ref D) { s₁ with heap := h', toks := tk })) E s)
    (hs : ∀ x, foldedSetIterable iter env x = pure x := by intro _; rfl) :
    wpAny (model prog w) A (eval (.SetComp elt [⟨.Name x px, iter, [], 0⟩] scope pos) env) Q E s := by
  rw [arm_eval_SetComp]
  show wpAny _ _ (comprehension (.SetComp elt [⟨.Name x px, iter, [], 0⟩] scope pos) scope env _ (newSet (.type "set")) false (eval iter env) none) _ _ _
  refine wpAny_comprehension_free (use := none) rfl hs hclos hkind hnames (wpAny_mono h (fun xv s₁ h₁ => ?_) fun _ _ e => e)
  obtain ⟨ax, vs, news, rfl, hh, F, N, ht, he, hQ⟩ := h₁
  have hlt : ax < s₁.heap.objs.size := by obtain ⟨_, e, _⟩ := ht; exact Heap.lt_size e
  refine wpAny_pyIter_tuple ht ?_
  generalize hH1 : s₁.heap.push { cls := .type "tuple_iterator", data := .fields #[.ref ax, .int 0 0] } = H1
  have z1 : H1.objs.size = s₁.heap.objs.size + 1 := by rw [← hH1, Heap.size_push]
  unfold newSet setsByText
  refine wpAny_bind (wpAny_bind (wpAny_askSetting (wpAny_pure ?_)))
  dsimp only
  simp only [newObj]
  refine wpAny_bind (wpAny_alloc (wpAny_pure ?_))
  refine wpAny_newFunctionEnv hcell (by intro y hy; simp at hy) (fun h₁ hns₁ hsb₁ => ?_) hkind
  dsimp only at hns₁ hsb₁ ⊢
  have hset : ({ cls := .type "set", data := .set #[] 0 (.fresh 0 0 (!(model prog w).w.params.followText "set-order")) } : Obj) = setB (!byT w) [] := rfl
  generalize hH2 : H1.push _ = H2 at hns₁ hsb₁ ⊢
  have hH2' : H1.push (setB (!byT w) []) = H2 := hH2
  have z2 : H2.objs.size = s₁.heap.objs.size + 2 := by rw [← hH2', Heap.size_push, z1]
  have up1 : ∀ b o, s₁.heap.get? b = some o → H1.get? b = some o := fun b o e => by rw [← hH1]; exact Heap.get?_push_of_some _ e
  have up2 : ∀ b o, H1.get? b = some o → H2.get? b = some o := fun b o e => by rw [← hH2']; exact Heap.get?_push_of_some _ e
  have up3 : ∀ b o, b ≠ H2.objs.size → H2.get? b = some o → h₁.get? b = some o := fun b o hb e => hsb₁.extBut b o hb (Heap.get?_push_of_some _ e)
  have hI : H1.get? s₁.heap.objs.size = some { cls := .type "tuple_iterator", data := .fields #[.ref ax, .int 0 0] } := by rw [← hH1]; exact Heap.get?_push_size _ rfl
  have hD : H2.get? H1.objs.size = some (setB (!byT w) []) := by
    rw [← hH2']; refine Heap.get?_push_size _ ?_
    rfl
  have hIC : s₁.heap.objs.size ≠ H2.objs.size := by rw [z2]; exact Nat.ne_of_lt (Nat.lt_add_of_pos_right (by decide))
  have hDC : H1.objs.size ≠ H2.objs.size := by rw [z1, z2]; exact Nat.ne_of_lt (Nat.lt_succ_self _)
  have hID : s₁.heap.objs.size ≠ H1.objs.size := by rw [z1]; exact Nat.ne_of_lt (Nat.lt_succ_self _)
  have lt1 : ∀ b, b < s₁.heap.objs.size → b ≠ s₁.heap.objs.size ∧ b ≠ H1.objs.size ∧ b ≠ H2.objs.size := fun b hb => by
    refine ⟨Nat.ne_of_lt hb, ?_, ?_⟩
    · rw [z1]; exact Nat.ne_of_lt (Nat.lt_succ_of_lt hb)
    · rw [z2]; exact Nat.ne_of_lt (Nat.lt_succ_of_lt (Nat.lt_succ_of_lt hb))
  have old : ∀ b o, s₁.heap.get? b = some o → h₁.get? b = some o := fun b o e => up3 b o (lt1 b (Heap.lt_size e)).2.2 (up2 _ _ (up1 _ _ e))
  have fresh : ∀ a, s₁.heap.objs.size ≤ a → h₀.get? a = none := fun a ha => by
    cases e : h₀.get? a with
    | none => rfl
    | some o' => exact absurd (Heap.lt_size (F.keep _ _ e)) (Nat.not_lt.mpr ha)
  have hxk : (compEnvC scope cl H2.objs.size env).kindOf x = some .local := lookup_relabel_local hx
  have loop : ∀ s₃ : Shared, s₃ = { s₁ with heap := h₁, toks := s₁.toks + ([] : List (Str × Value)).length } →
      codeAny (model prog w) A (.compLoop (.SetComp elt [⟨.Name x px, iter, [], 0⟩] scope pos) 0 (.ref s₁.heap.objs.size) (.ref H1.objs.size) (compEnvC scope cl H2.objs.size env))
        (compPost (model prog w) A E none Q (.ref H1.objs.size) H2.objs.size) s₃ := by
    rintro s₃ rfl
    refine compLoop_set
      (fun k s' => ∃ h' tk i m', s' = { s₁ with heap := h', toks := tk } ∧ i ≤ vs.length ∧ k = vs.length + 1 - i ∧ h'.IsTupleIter s₁.heap.objs.size ax i ∧ h'.get? H1.objs.size = some (setB (!byT w) ((vs.map f).take i)) ∧ h'.Ns H2.objs.size m' ∧
        ∀ b o, s₁.heap.get? b = some o → h'.get? b = some o) ?_ (vs.length + 1)
      ⟨h₁, _, 0, _, rfl, Nat.zero_le _, rfl, ⟨_, up3 _ _ hIC (up2 _ _ hI), rfl, rfl⟩, by rw [List.take_zero]; exact up3 _ _ hDC hD, hns₁, old⟩
    rintro k s' ⟨h', tk, i, m', rfl, hi, rfl, hit, hset', hn, hk⟩
    have ht' : h'.IsTuple ax vs.toArray := ht.at fun o e => hk _ o e
    by_cases hlt' : i < vs.length
    · refine wpAny_pyNext_tuple_item hit ht' (x := vs[i]) (by simp [hlt']) fun h₂ hit₂ hs₂ => ?_
      refine wpAny_assign_Name (wpAny_storeName_local hxk (hn.at' fun o e => (hs₂.2 _ (Ne.symm hIC)).trans e) (fun h₃ hn₃ hs₃ => ?_) (by simp [compEnvC, relabel, hkind]))
      have k3 : ∀ b o, s₁.heap.get? b = some o → h₃.get? b = some o := fun b o e => hs₃.extBut b o (lt1 b (Heap.lt_size e)).2.2 ((hs₂.2 b (lt1 b (Heap.lt_size e)).1).trans (hk b o e))
      have hF : Fr s₁.heap H2.objs.size h₃ (fun z => if z = x then some vs[i] else m' z) := ⟨hn₃, k3, by rw [z2]; exact Nat.le_add_right _ 2⟩
      refine wpAny_mono (he _ i vs[i] _ _ (by simp [hlt']) hF (by simp)) (fun y s₄ hy => ?_) fun _ _ e => e.elim
      obtain ⟨rfl, h₄, tk₄, rfl, hk₄⟩ := hy
      have hset₄ : h₄.get? H1.objs.size = some (setB (!byT w) ((vs.map f).take i)) := hk₄ _ _ (hs₃.extBut _ _ hDC ((hs₂.2 _ (Ne.symm hID)).trans hset'))
      refine set_add_bool hset₄ fun h₅ hs₅ hset₅ => ?_
      refine ⟨vs.length + 1 - (i + 1), by omega, h₅, _, i + 1, _, rfl, hlt', rfl, ?_, ?_, (hn₃.keeps hk₄).at' fun o e => (hs₅.2 _ (Ne.symm hDC)).trans e, fun b o e => (hs₅.2 b (lt1 b (Heap.lt_size e)).2.1).trans (hk₄ _ _ (k3 _ _ e))⟩
      · exact ((hit₂.at fun o e => hs₃.extBut _ _ hIC e).at fun o e => hk₄ _ _ e).at fun o e => (hs₅.2 _ hID).trans e
      · rw [hset₅, List.take_add_one]
        simp [hlt']
    · obtain rfl : i = vs.length := Nat.le_antisymm hi (Nat.not_lt.mp hlt')
      refine wpAny_pyNext_tuple_end hh hit ht' (by simp) fun h₂ he₂ => ?_
      refine ⟨m', hn.at' fun o e => he₂ _ _ (Ne.symm hIC) e, fun h'' hs'' => hQ _ h'' tk ?_ ?_⟩
      · exact F.keeps fun b o e => hs''.extBut b o (lt1 b (Heap.lt_size e)).2.2 (he₂ b o (lt1 b (Heap.lt_size e)).1 (hk b o e))
      · intro p hp
        rcases List.mem_cons.mp hp with rfl | hp
        · refine ⟨hs''.extBut _ _ hDC (he₂ _ _ (Ne.symm hID) ?_), ?_, fresh _ (by rw [z1]; exact Nat.le_succ _)⟩
          · rw [hset']; rw [List.take_of_length_le (by simp)]
          · exact Ne.symm (lt1 L F.ns.lt).2.1
        · have q := N p hp
          exact ⟨hs''.extBut _ _ (lt1 _ (Heap.lt_size q.1)).2.2 (he₂ _ _ (lt1 _ (Heap.lt_size q.1)).1 (hk _ _ q.1)), q.2⟩
  refine compStart_set (loop _ rfl) (wpAny_pyIter_tupleiter ⟨_, up3 _ _ hIC (up2 _ _ hI), rfl, rfl⟩ (loop _ rfl))
end
end Mine
end
section
open PySem PySem.Spec PySem.Calls PySem.W PyProof.Rows
namespace Mine
set_option maxRecDepth 100000
open PyProof.Rows.LCg

section
variable {prog : Program} {w : World} {A : Around} {E : Value → Shared → Prop} {s : Shared} {env : Env} {h₀ : Heap} {L : Addr} {m : Str → Option Value}
/-- a comprehension's source: a tuple of the ledger -/
noncomputable def SrcT (prog : Program) (w : World) (A : Around) (h₀ : Heap) (L : Addr) (m : Str → Option Value) (env : Env) (elt : PySem.Expr) (x : Str) (scope : Scope) (cl : List (Str × Addr)) (Fin : Shared → List Value → List (Addr × Obj) → Prop) (xv : Value) (s₁ : Shared) : Prop :=
  ∃ ax vs news, xv = .ref ax ∧ A.handled = none ∧ Fr h₀ L s₁.heap m ∧ News h₀ L s₁.heap news ∧ (ax, tupObj vs) ∈ news ∧ vs.length ≤ sizeLine ∧
    ∀ s₂ : Shared, (∃ h, s₂ = { s₁ with heap := h }) → CompRest prog w A h₀ L m env elt x scope cl s₂ (fun nw => (ax, tupObj vs) ∈ nw) (fun i v => vs.toArray[i]? = some v) (Fin s₂) vs.length 0 [] news
theorem SrcT.ledger {elt : PySem.Expr} {x : Str} {scope : Scope} {cl : List (Str × Addr)} {Fin : Shared → List Value → List (Addr × Obj) → Prop} {ax : Addr} {vs : List Value} {news : List (Addr × Obj)} {s₁ : Shared}
    (hh : A.handled = none) (F : Fr h₀ L s₁.heap m) (N : News h₀ L s₁.heap news) (hm : (ax, tupObj vs) ∈ news) (hsz : vs.length ≤ sizeLine)
    (h : ∀ g, CompRest prog w A h₀ L m env elt x scope cl { s₁ with heap := g } (fun nw => (ax, tupObj vs) ∈ nw) (fun i v => vs.toArray[i]? = some v) (Fin { s₁ with heap := g }) vs.length 0 [] news) :
    SrcT prog w A h₀ L m env elt x scope cl Fin (.ref ax) s₁ := ⟨ax, vs, news, rfl, hh, F, N, hm, hsz, fun _ ⟨g, e⟩ => e ▸ h g⟩
theorem tup_st {ax I : Addr} {vs : List Value} : ∀ i (h h' : Heap) (o : Obj) (nw : List (Addr × Obj)), (h.IsTupleIter I ax i ∧ h.IsTuple ax vs.toArray) → h.get? I = some o → h'.get? I = some o → (∀ b o, h₀.get? b = some o → h'.get? b = some o) → News h₀ L h' nw → (ax, tupObj vs) ∈ nw → (h'.IsTupleIter I ax i ∧ h'.IsTuple ax vs.toArray) :=
  fun i h h' o nw st e e' k N S => ⟨by obtain ⟨o', q, r⟩ := st.1; rw [e] at q; cases q; exact ⟨o, e', r⟩, ⟨_, (N _ S).1, rfl, _, rfl⟩⟩

theorem Assign_ListComp_T {elt iter : PySem.Expr} {x y : Str} {px py : Pos} {scope : Scope} {cl : List (Str × Addr)} {pos spos : Pos} {Q : Flow → Shared → Prop} (F₀ : Fr h₀ L s.heap m) (hLe : env.locals = L)
    (hsw : swapsWith (.ListComp elt [⟨.Name x px, iter, [], 0⟩] scope pos) (some (.Name y py)) spos.line env = pure true)
    (hclos : closureFor scope env = pure cl) (hcell : ∀ z ∈ scope.names, z.2 ≠ .cell) (hkind : scope.kind = .function)
    (hnames : ∀ z ∈ scope.names, z.2 = .local → scope.names.lookup z.1 = some .local) (hx : scope.names.lookup x = some .local)
    (hy : env.kindOf y = some .local) (hp : (env.scope.kind == .class || (env.scope.kind == .module && env.locals != env.globals)) = false)
    (h : wpAny (model prog w) A (eval iter env) (SrcT prog w A h₀ L m env elt x scope cl (fun s₂ => FinA h₀ L m s₂ y Q)) E s)
    (hs : ∀ x, foldedSetIterable iter env x = pure x := by intro _; rfl) :
    wpAny (model prog w) A (exec (.Assign [.Name y py] (.ListComp elt [⟨.Name x px, iter, [], 0⟩] scope pos) spos) env) Q E s := by
  subst hLe
  rw [exec_Assign_Name_used _ _ _ _ hsw]
  refine wpAny_bind (wpAny_standAt (wpAny_bind ?_))
  show wpAny _ A (do let _ ← comprehension (.ListComp elt [⟨.Name x px, iter, [], 0⟩] scope pos) scope env _ (newList []) false (eval iter env) (some (assign (.Name y py) env))) _ _ s
  refine wpAny_bind (wpAny_mono (wpAny_comprehension_free (use := some (assign (.Name y py) env)) (Q := fun _ s' => Q .next s') rfl hs hclos hkind hnames
    (wpAny_mono h (fun xv s₁ h₁ => ?_) fun _ _ e => e)) (fun _ s' hq => wpAny_pure (wpAny_pure hq)) fun _ _ e => e)
  obtain ⟨ax, vs, news, rfl, hh, F, N, S, hsz, R⟩ := h₁
  have hl : s₁.heap.IsTuple ax vs.toArray := ⟨_, (N _ S).1, rfl, _, rfl⟩
  have hlt : ax < s₁.heap.objs.size := by obtain ⟨_, e, _⟩ := hl; exact Heap.lt_size e
  refine wpAny_pyIter_tuple hl ?_
  have up : ∀ b o, s₁.heap.get? b = some o → (s₁.heap.push { cls := .type "tuple_iterator", data := .fields #[.ref ax, .int 0 0] }).get? b = some o := fun b o e => Heap.get?_push_of_some _ e
  have W := Walks.tuple (prog := prog) (w := w) hh s₁.heap.objs.size ax (Nat.ne_of_lt hlt) vs.toArray
  rw [List.size_toArray] at W
  refine block_U (S := fun nw => (ax, tupObj vs) ∈ nw) W hsz (fun i h st => by obtain ⟨o, e, _⟩ := st.1; exact ⟨o, e⟩) tup_st hcell hkind hx ⟨⟨_, Heap.get?_push_size _ rfl, rfl, rfl⟩, hl.push _⟩ (fun b hb => ?_)
    (F.keeps up) (N.grown up) (Nat.ne_of_lt F.ns.lt) (next_is_new F) (fun p hp => Nat.ne_of_lt (Heap.lt_size (N p hp).1)) S (R _ ⟨_, rfl⟩) ?_
  · show b < (s₁.heap.push _).objs.size
    rw [Heap.size_push]
    rcases List.mem_cons.mp hb with rfl | hb
    · exact Nat.lt_succ_self _
    · rw [List.mem_singleton.mp hb]; exact Nat.lt_succ_of_lt hlt
  · intro D C h' tk m' ys news' F' N' o1 hn hC₀ hD₀ hCL hDL hCD offC fin
    show wpAny _ A (assign (.Name y py) env (.ref D)) _ _ _
    refine wpAny_assign_Name (wpAny_storeName_local hy F'.ns (fun h₂ hn₂ hs₂ => ?_) hp)
    have hL₀ : h₀.get? env.locals = none := Heap.get?_none_of_le F'.above
    have F₂ : Fr h₀ env.locals h₂ (fun z => if z = y then some (.ref D) else m z) := ⟨hn₂, fun b o e => hs₂.extBut b o (fun q => by rw [q, hL₀] at e; cases e) (F'.keep b o e), F'.above⟩
    refine ⟨m', hn.sameBut hs₂ hCL, fun h'' hs'' => fin D h'' _ (F₂.change hs'' hCL hC₀) (fun p hp => ?_) o1⟩
    have z : h₂.get? p.1 = some p.2 := hs₂.extBut _ _ (N' p hp).2.1 (N' p hp).1
    refine ⟨hs''.extBut _ _ ?_ z, (N' p hp).2⟩
    rcases List.mem_cons.mp hp with rfl | hp
    · exact Ne.symm hCD
    · exact offC p hp
end
end Mine
end
section
open PySem PySem.Spec PySem.Calls PySem.W PyProof.Rows
namespace Mine
set_option maxRecDepth 100000
open PyProof.Rows.LCg

theorem off1_of {D : Addr} : ∀ {l : List (Addr × Obj)}, (∀ p ∈ l, p.1 ≠ D) → Off1 D l
  | [], _ => trivial
  | _ :: _, h => ⟨h _ List.mem_cons_self, off1_of fun p hp => h p (List.mem_cons_of_mem _ hp)⟩

noncomputable def strQ (q : Str → Bool) : Value → Bool
  | .str c _ => q c
  | _ => false
theorem filter_vals (q : Str → Bool) : ∀ ps : List (Str × Tok), (strValues ps).filter (strQ q) = strValues (ps.filter fun p => q p.1)
  | [] => rfl
  | p :: r => by
    have ih := filter_vals q r
    show (Value.str p.1 p.2 :: strValues r).filter (strQ q) = _
    cases h : q p.1 with
    | true => rw [List.filter_cons_of_pos (by exact h), List.filter_cons_of_pos (by exact h), ih]; rfl
    | false => rw [List.filter_cons_of_neg (by show ¬ q p.1 = true; simp [h]), List.filter_cons_of_neg (by simp [h]), ih]
theorem paired_eq : ∀ {a b : List Value}, Paired (fun v y => y = v) a b → b = a
  | _, _, .nil => rfl
  | _, _, .cons h t => by rw [h, paired_eq t]

section
variable {prog : Program} {w : World} {A : Around} {E : Value → Shared → Prop} {s : Shared} {env : Env} {h₀ : Heap} {L : Addr} {m : Str → Option Value}
theorem ListComp_filter {iter test : PySem.Expr} {x : Str} {px pe : Pos} {scope : Scope} {cl : List (Str × Addr)} {pos : Pos} {Q : Value → Shared → Prop} (q : Str → Bool) (hd : (x == ("__debug__" : Str)) = false)
    (hclos : closureFor scope env = pure cl) (hcell : ∀ y ∈ scope.names, y.2 ≠ .cell) (hkind : scope.kind = .function)
    (hnames : ∀ y ∈ scope.names, y.2 = .local → scope.names.lookup y.1 = some .local) (hx : scope.names.lookup x = some .local)
    (h : wpAny (model prog w) A (eval iter env) (fun xv s₁ => ∃ l n news ps, xv = .ref l ∧ A.handled = none ∧ Fr h₀ L s₁.heap m ∧ News h₀ L s₁.heap news ∧ (l, listOf (strValues ps).toArray n) ∈ news ∧ ps.length ≤ sizeLine ∧
      (∀ C c tc s₃ m₃, (c, tc) ∈ ps → Fr s₁.heap C s₃.heap m₃ → m₃ x = some (.str c tc) → wpAny (model prog w) A (isTrue test (compEnvC scope cl C env) (eval test (compEnvC scope cl C env))) (fun ok s₄ => ok = q c ∧ Keeps s₃ s₄) NoE s₃) ∧
      (∀ D h' tk n', Fr h₀ L h' m → News h₀ L h' ((D, listOf (strValues (ps.filter fun p => q p.1)).toArray n') :: news) → Off1 D news → Q (.ref D) { s₁ with heap := h', toks := tk })) E s)
    (hs : ∀ x, foldedSetIterable iter env x = pure x := by intro _; rfl) :
    wpAny (model prog w) A (eval (.ListComp (.Name x pe) [⟨.Name x px, iter, [test], 0⟩] scope pos) env) Q E s := by
  refine wpAny_ListComp_free (strQ q) (fun v y => y = v) hclos hcell hkind hnames hx (wpAny_mono h (fun xv s₁ h₁ => ?_) fun _ _ e => e) hs
  obtain ⟨l, n, news, ps, rfl, hh, F, N, hm, hsz, ht, hQ⟩ := h₁
  have hl : s₁.heap.IsList l (strValues ps).toArray := ⟨_, (N _ hm).1, rfl, _, rfl⟩
  have hlt : l < s₁.heap.objs.size := Heap.lt_size (N _ hm).1
  have hxk : ∀ C, (compEnvC scope cl C env).kindOf x = some .local := fun C => lookup_relabel_local hx
  refine wpAny_pyIter_list hl ?_
  have W := Walks.list (prog := prog) (w := w) hh s₁.heap.objs.size l (Nat.ne_of_lt hlt) (strValues ps).toArray
  have ele : Ele prog w A env scope cl x [test] (.Name x pe) (fun i v => (strValues ps).toArray[i]? = some v) (strQ q) (fun v y => y = v) s₁.heap := by
    refine ⟨fun C i v s₃ m₃ hv F₃ hm₃ => ?_, fun C i v s₃ m₃ hv hp F₃ hm₃ => ?_⟩
    · rw [sv_get] at hv
      obtain ⟨p, hp, rfl⟩ := Option.map_eq_some_iff.mp hv
      exact tests_one (ht C p.1 p.2 s₃ m₃ (List.mem_of_getElem? hp) F₃ hm₃)
    · exact wpAny_Name (wpAny_loadName_local hkind (hxk C) F₃.ns hm₃ ⟨rfl, keeps_refl s₃⟩) hd
  have up : ∀ b o, s₁.heap.get? b = some o → (s₁.heap.push { cls := .type "list_iterator", data := .fields #[.ref l, .int 0 0] }).get? b = some o := fun b o e => Heap.get?_push_of_some _ e
  refine ⟨_, _, _, _, _, _, rfl, W, by rw [List.size_toArray, strValues_length]; exact hsz, ⟨⟨_, Heap.get?_push_size _ rfl, rfl, rfl⟩, hl.push _⟩, ?_, ele.quiet rfl, ?_⟩
  · intro b hb
    show b < (s₁.heap.push _).objs.size
    rw [Heap.size_push]
    rcases List.mem_cons.mp hb with rfl | hb
    · exact Nat.lt_succ_self _
    · rw [List.mem_singleton.mp hb]; exact Nat.lt_succ_of_lt hlt
  · intro D h' tk ys vs hD _ hpl hlen hP hF hk
    have e : vs = strValues ps := vs_eq (by simpa using hlen) (fun j v hj => by simpa using hP j v hj)
    rw [e, filter_vals] at hF
    have e2 := paired_eq hF
    have hI : ∀ b o, s₁.heap.get? b = some o → b ∉ [s₁.heap.objs.size] := fun b o e z => Nat.lt_irrefl _ ((List.mem_singleton.mp z) ▸ Heap.lt_size e)
    have k : ∀ b o, s₁.heap.get? b = some o → h'.get? b = some o := fun b o e => hk b o (hI b o e) (up b o e)
    obtain ⟨n', hn'⟩ := hpl
    have hnew : s₁.heap.get? D = none := by
      cases e : s₁.heap.get? D with
      | none => rfl
      | some o' => rw [up _ _ e] at hD; cases hD
    have hne : ∀ p ∈ news, p.1 ≠ D := fun p hp e => by have := (N p hp).1; rw [e, hnew] at this; cases this
    refine hQ D h' tk n' (F.keeps k) (fun p hp => ?_) (off1_of hne)
    rcases List.mem_cons.mp hp with rfl | hp
    · refine ⟨?_, ?_, ?_⟩
      · show h'.get? D = some (listOf (strValues _).toArray n')
        rw [← e2]; exact hn'
      · rintro rfl
        obtain ⟨_, _, _, e, _⟩ := F.ns
        rw [hnew] at e; cases e
      · cases e : h₀.get? D with
        | none => rfl
        | some o' => rw [F.keep _ _ e] at hnew; cases hnew
    · exact ⟨k _ _ (N p hp).1, (N p hp).2⟩

/-- for i, v in enumerate(a list) -/
theorem it_enum_lst {body orelse : List Stmt} {Q : Flow → Shared → Prop} {elts : List PySem.Expr} {kk : Nat} {pos : Pos} {l : Addr} {vs : List Value} {news : List (Addr × Obj)} (J : Nat → (Str → Option Value) → List (Addr × Obj) → Prop) (hh : A.handled = none)
    (hl : s.heap.IsList l vs.toArray) (hlL : l ≠ env.locals) (F : Fr h₀ env.locals s.heap m) (N : News h₀ env.locals s.heap news) (h0 : J 0 m news)
    (step : ∀ (i : Nat) v T t m₁ news₁ h₁ tk₁ own, vs[i]? = some v → IsTup h₁ T #[.int (i : Int) t, v] → J i m₁ news₁ → news₁.map (·.1) = news.map (·.1) → (∀ p ∈ own, p.1 = l ∨ p.1 ∉ news.map (·.1)) → Fr h₀ env.locals h₁ m₁ → News h₀ env.locals h₁ (news₁ ++ own) →
      wpAny (model prog w) A (assign (.Tuple elts kk pos) env (.ref T)) (fun _ s₂ => wpAny (model prog w) A (execs body env) (TEnd s h₀ env.locals own (fun m' nx => nx.map (·.1) = news.map (·.1) ∧ J (i + 1) m' nx) Q) NoE s₂) NoE { s with heap := h₁, toks := tk₁ })
    (done : ∀ h tk m' news', J vs.length m' news' → Fr h₀ env.locals h m' → News h₀ env.locals h news' → wpAny (model prog w) A (execs orelse env) Q NoE { s with heap := h, toks := tk }) :
    wpAny (model prog w) A (call (.type "enumerate") [.ref l]) (fun xv s₁ => wpAny (model prog w) A (pyIter xv) (fun it s₂ => codeAny (model prog w) A (.forLoop (.Tuple elts kk pos) it body orelse env) (fun r s' => match r with | .ok f => Q f s' | .error e => cameBackBy (model prog w) A env NoE e s') s₂) NoE s₁) NoE s := by
  obtain ⟨ol, hol, _⟩ := id hl
  have hlt : l < s.heap.objs.size := Heap.lt_size hol
  have hLs : env.locals < s.heap.objs.size := F.ns.lt
  refine call_enumerate_list hl fun h' hE hI hsz hk => ?_
  refine wpAny_pyIter_enum hE ?_
  have W : KTurns prog w A (.Tuple elts kk pos) (s.heap.objs.size + 1) _ _ _ _ _ _ := KTurns.ofWalksU (WalksT.enumerate (prog := prog) (w := w) (A := A) hh (s.heap.objs.size + 1) s.heap.objs.size l (Nat.succ_ne_self _) (ktu_ne 1 hlt) (Nat.ne_of_lt hlt) vs.toArray).toU
  refine for_J (s := { s with heap := h' }) (n := vs.toArray.size) W ?_ (fun b hb => ?_) (fun p hp hI => ?_) ⟨⟨.none, hE⟩, hI, hl.at fun o e => hk l o e⟩ (F.keeps hk) (N.grown hk) J h0 ?_ ?_
  · intro hI'
    have hb' : env.locals = s.heap.objs.size + 1 ∨ env.locals = s.heap.objs.size ∨ env.locals = l := by simpa using hI'
    rcases hb' with e | e | e
    · exact ktu_ne 1 hLs e
    · exact Nat.ne_of_lt hLs e
    · exact hlL e.symm
  · have hb' : b = s.heap.objs.size + 1 ∨ b = s.heap.objs.size := by simpa using hb
    rcases hb' with rfl | rfl
    · exact ktu_new F (Nat.le_add_right _ _)
    · exact ktu_new F (Nat.le_refl _)
  · have hb' : p.1 = s.heap.objs.size + 1 ∨ p.1 = s.heap.objs.size := by simpa using hI
    have hlp := Heap.lt_size (N p hp).1
    rcases hb' with e | e
    · exact ktu_ne 1 hlp e
    · exact Nat.ne_of_lt hlp e
  · rintro i v m₁ news₁ h₁ tk₁ own hi ⟨T, vals, rfl, ⟨t, x, hx, rfl⟩, hT⟩ hJ ha hown F₁ N₁
    refine step i x T t m₁ news₁ h₁ tk₁ own (by simpa using hx) hT hJ ha (fun p hp => ?_) F₁ N₁
    have hq : p.1 = s.heap.objs.size + 1 ∨ p.1 = s.heap.objs.size ∨ p.1 = l := by simpa using hown p hp
    rcases hq with e | e | e
    · refine .inr fun hq => ?_
      obtain ⟨q, hq, e'⟩ := List.mem_map.mp hq
      exact ktu_ne 1 (Heap.lt_size (N q hq).1) (e'.trans e)
    · refine .inr fun hq => ?_
      obtain ⟨q, hq, e'⟩ := List.mem_map.mp hq
      exact Nat.ne_of_lt (Heap.lt_size (N q hq).1) (e'.trans e)
    · exact .inl e
  · intro h tk m' news' hJ F' N'
    exact done h tk m' news' (by simpa using hJ) F' N'
end
end Mine
end
section
open PySem PySem.Spec PySem.Calls PySem.W PyProof.Rows
namespace Mine
theorem str_ext {x y : Str} (h : x.cps.toList = y.cps.toList) : x = y := by
  cases x; cases y
  simp only [Str.mk.injEq]
  exact Array.toList_inj.mp h
theorem ltS_total {x y : Str} (h : x ≠ y) : ltS x y = true ∨ ltS y x = true := by
  unfold ltS
  rcases Decidable.em (x.cps.toList < y.cps.toList) with q | q
  · exact .inl (decide_eq_true q)
  · rcases Decidable.em (y.cps.toList < x.cps.toList) with r | r
    · exact .inr (decide_eq_true r)
    · exact absurd (str_ext (List.le_antisymm (List.not_lt.mp r) (List.not_lt.mp q))) h
theorem ltS_neg {x y z : Str} (h : ltS x y = true) : ltS x z = true ∨ ltS z y = true := by
  unfold ltS at *
  have h' := of_decide_eq_true h
  rcases Decidable.em (x.cps.toList < z.cps.toList) with q | q
  · exact .inl (decide_eq_true q)
  · exact .inr (decide_eq_true (List.lt_of_le_of_lt (List.not_lt.mp q) h'))
theorem ltS_asymm {x y : Str} (h : ltS x y = true) : ltS y x = false := decide_eq_false (List.lt_asymm (of_decide_eq_true h))

theorem ltL_irrefl : ∀ a : List Str, ltL a a = false
  | [] => rfl
  | x :: r => by rw [ltL, if_pos (beq_self_eq_true x)]; exact ltL_irrefl r
theorem ltL_asymm : ∀ {a b : List Str}, ltL a b = true → ltL b a = false
  | [], [], h => by cases h
  | [], _ :: _, _ => rfl
  | _ :: _, [], h => by cases h
  | x :: xs, y :: ys, h => by
    rw [ltL] at h ⊢
    by_cases e : (x == y) = true
    · rw [if_pos e] at h
      have e' := eq_of_beq e
      rw [if_pos (by rw [e']; exact beq_self_eq_true y)]
      exact ltL_asymm h
    · rw [if_neg e] at h
      rw [if_neg (fun q => e (by rw [eq_of_beq q]; exact beq_self_eq_true x))]
      exact ltS_asymm h
theorem ltL_neg : ∀ (c a b : List Str), ltL c a = true → ltL c b = true ∨ ltL b a = true
  | [], [], _, h => by cases h
  | [], _ :: _, [], _ => .inr rfl
  | [], _ :: _, _ :: _, _ => .inl rfl
  | _ :: _, [], _, h => by cases h
  | _ :: _, _ :: _, [], _ => .inr rfl
  | x :: xs, y :: ys, z :: zs, h => by
    rw [ltL] at h
    rw [ltL, ltL]
    by_cases exy : x = y
    · subst exy
      rw [if_pos (beq_self_eq_true x)] at h
      by_cases exz : x = z
      · subst exz
        rw [if_pos (beq_self_eq_true x), if_pos (beq_self_eq_true x)]
        exact ltL_neg xs ys zs h
      · rw [if_neg (fun q => exz (eq_of_beq q)), if_neg (fun q => exz (eq_of_beq q).symm)]
        exact ltS_total exz
    · rw [if_neg (fun q => exy (eq_of_beq q))] at h
      by_cases exz : x = z
      · subst exz
        rw [if_pos (beq_self_eq_true x), if_neg (fun q => exy (eq_of_beq q))]
        exact .inr h
      · rw [if_neg (fun q => exz (eq_of_beq q))]
        by_cases eyz : z = y
        · subst eyz
          exact .inl h
        · rw [if_neg (fun q => eyz (eq_of_beq q))]
          exact ltS_neg h
/-- at most -/
noncomputable def leL (a b : List Str) : Prop := ltL b a = false
theorem leL_refl (a : List Str) : leL a a := ltL_irrefl a
theorem leL_trans {a b c : List Str} (h : leL a b) (h' : leL b c) : leL a c := by
  unfold leL at *
  cases e : ltL c a with
  | false => rfl
  | true =>
    rcases ltL_neg c a b e with q | q
    · rw [h'] at q; cases q
    · rw [h] at q; cases q
noncomputable def minStep (b x : List Str) : List Str := if ltL x b = true then x else b
noncomputable def maxStep (b x : List Str) : List Str := if ltL b x = true then x else b
theorem minStep_le (b x : List Str) : leL (minStep b x) b ∧ leL (minStep b x) x := by
  unfold minStep
  by_cases h : ltL x b = true
  · rw [if_pos h]; exact ⟨ltL_asymm h, leL_refl _⟩
  · rw [if_neg h]; exact ⟨leL_refl _, by simpa [leL] using h⟩
theorem maxStep_le (b x : List Str) : leL b (maxStep b x) ∧ leL x (maxStep b x) := by
  unfold maxStep
  by_cases h : ltL b x = true
  · rw [if_pos h]; exact ⟨ltL_asymm h, leL_refl _⟩
  · rw [if_neg h]; exact ⟨leL_refl _, by simpa [leL] using h⟩
theorem minFold_le : ∀ (r : List (List Str)) (b : List Str), leL (r.foldl minStep b) b ∧ ∀ x ∈ r, leL (r.foldl minStep b) x
  | [], b => ⟨leL_refl b, fun _ h => by cases h⟩
  | x :: r, b => by
    obtain ⟨h1, h2⟩ := minFold_le r (minStep b x)
    have h3 := minStep_le b x
    refine ⟨leL_trans h1 h3.1, fun z hz => ?_⟩
    rcases List.mem_cons.mp hz with rfl | hz
    · exact leL_trans h1 h3.2
    · exact h2 z hz
theorem maxFold_le : ∀ (r : List (List Str)) (b : List Str), leL b (r.foldl maxStep b) ∧ ∀ x ∈ r, leL x (r.foldl maxStep b)
  | [], b => ⟨leL_refl b, fun _ h => by cases h⟩
  | x :: r, b => by
    obtain ⟨h1, h2⟩ := maxFold_le r (maxStep b x)
    have h3 := maxStep_le b x
    refine ⟨leL_trans h3.1 h1, fun z hz => ?_⟩
    rcases List.mem_cons.mp hz with rfl | hz
    · exact leL_trans h3.2 h1
    · exact h2 z hz
theorem fold_lesser : ∀ (r : List LEnt) (b : LEnt), r.foldl lesser b ∈ b :: r ∧ (r.foldl lesser b).tx = (r.map LEnt.tx).foldl minStep b.tx
  | [], b => ⟨List.Mem.head _, rfl⟩
  | x :: r, b => by
    have e : (lesser b x).tx = minStep b.tx x.tx := by unfold lesser minStep; split <;> rfl
    have em : lesser b x = x ∨ lesser b x = b := by unfold lesser; split; exact .inl rfl; exact .inr rfl
    obtain ⟨h1, h2⟩ := fold_lesser r (lesser b x)
    simp only [List.foldl_cons, List.map_cons]
    rw [h2, e]
    refine ⟨?_, rfl⟩
    rcases List.mem_cons.mp h1 with q | q
    · rw [q]; rcases em with q | q <;> rw [q] <;> simp
    · simp [q]
theorem fold_greater : ∀ (r : List LEnt) (b : LEnt), r.foldl greater b ∈ b :: r ∧ (r.foldl greater b).tx = (r.map LEnt.tx).foldl maxStep b.tx
  | [], b => ⟨List.Mem.head _, rfl⟩
  | x :: r, b => by
    have e : (greater b x).tx = maxStep b.tx x.tx := by unfold greater maxStep; split <;> rfl
    have em : greater b x = x ∨ greater b x = b := by unfold greater; split; exact .inl rfl; exact .inr rfl
    obtain ⟨h1, h2⟩ := fold_greater r (greater b x)
    simp only [List.foldl_cons, List.map_cons]
    rw [h2, e]
    refine ⟨?_, rfl⟩
    rcases List.mem_cons.mp h1 with q | q
    · rw [q]; rcases em with q | q <;> rw [q] <;> simp
    · simp [q]
/-- the common head of two rows -/
noncomputable def cpre : List Str → List Str → List Str
  | x :: xs, y :: ys => if (x == y) = true then x :: cpre xs ys else []
  | _, _ => []
theorem cpre_all : ∀ (a b : List Str), a = b.take a.length → cpre a b = a
  | [], b, _ => by cases b <;> rfl
  | x :: xs, [], h => by simp at h
  | x :: xs, y :: ys, h => by
    simp only [List.length_cons, List.take_succ_cons, List.cons.injEq] at h
    rw [cpre, if_pos (by rw [h.1]; exact beq_self_eq_true y), cpre_all xs ys h.2]
theorem cpre_cut : ∀ (i : Nat) (a b : List Str) (x y : Str), a.take i = b.take i → a[i]? = some x → b[i]? = some y → x ≠ y → cpre a b = a.take i
  | 0, a, b, x, y, _, hx, hy, hne => by
    cases a with
    | nil => cases hx
    | cons u us => cases b with
      | nil => cases hy
      | cons v vs =>
        simp at hx hy
        subst hx hy
        rw [cpre, if_neg (fun q => hne (eq_of_beq q))]; rfl
  | i + 1, a, b, x, y, h, hx, hy, hne => by
    cases a with
    | nil => cases hx
    | cons u us => cases b with
      | nil => cases hy
      | cons v vs =>
        simp only [List.take_succ_cons, List.cons.injEq] at h ⊢
        rw [cpre, if_pos (by rw [h.1]; exact beq_self_eq_true v), cpre_cut i us vs x y h.2 (by simpa using hx) (by simpa using hy) hne]
/-- a row that is at most another one, and whose head is the other's, is no longer than it -/
theorem ltL_short : ∀ (i : Nat) (a b : List Str), a.take i = b.take i → i < a.length → ltL b a = false → i < b.length
  | 0, a, b, _, h, hl => by
    cases b with
    | nil => cases a with
      | nil => cases h
      | cons u us => cases hl
    | cons v vs => simp
  | i + 1, a, b, h, hlen, hl => by
    cases a with
    | nil => cases hlen
    | cons u us => cases b with
      | nil => simp at h
      | cons v vs =>
        simp only [List.take_succ_cons, List.cons.injEq] at h
        rw [ltL, if_pos (by rw [h.1]; exact beq_self_eq_true v)] at hl
        have := ltL_short i us vs h.2 (by simpa using hlen) hl
        simpa using this
end Mine
end
section
open PySem PySem.Spec PySem.Calls PySem.W PyProof.Rows
namespace Mine
set_option maxRecDepth 100000
variable {prog : Program} {w : World} {s : Shared} {mean : ExcName → Option Value} {mg mb : Str → Option Value}
set_option maxHeartbeats 4000000
theorem IsL_up {h h' : Heap} {l : Addr} {its : Array Value} (x : h.IsList l its) (k : h.StaysIn h') : h'.IsList l its := x.at fun o e => k _ o e
section
variable {A : Around} {E : Value → Shared → Prop} {s : Shared} {h₀ : Heap} {L l : Addr} {m : Str → Option Value} {news : List (Addr × Obj)} {vs : List Value} {Q : Value → Shared → Prop}
theorem tuple_map_S {fn : Value} {pre : Sem (List Value)} (hpre : pre = pure []) (hh : A.handled = none) (F : Fr h₀ L s.heap m) (N : News h₀ L s.heap news) (hl : s.heap.IsList l vs.toArray) (hn : vs.length ≤ sizeLine)
    (hc : ∀ (s' : Shared) (v : Value) (Q : Value → Shared → Prop), v ∈ vs → Fr h₀ L s'.heap m → News h₀ L s'.heap news → (∀ h' tk, s'.heap.StaysIn h' → Q v { s' with heap := h', toks := tk }) → wpAny (model prog w) A.in1.in1.in1.in1 (call fn [v]) Q (fun _ _ => False) s')
    (hQ : ∀ D h' tk, Fr h₀ L h' m → News h₀ L h' ((D, tupObj vs) :: news) → (∀ q ∈ news, q.1 < D) → Q (.ref D) { s with heap := h', toks := tk }) :
    wpAny (model prog w) A (call (.type "map") [fn, .ref l]) (fun v s₁ => wpAny (model prog w) A pre (fun vs s₂ => wpAny (model prog w) A (call (.type "tuple") (v :: vs)) Q E s₂) E s₁) E s := by
  subst hpre
  exact wpAny_mono (tuple_map_K (E := E) hh F N hl hn hc hQ) (fun v s' h => wpAny_pure h) fun _ _ e => e
theorem fspath_map {A₀ : Around} {base : Heap} {outer : List Env} {env : Env} {L : Addr} (hs : ∀ v ∈ vs, ∃ x t, v = Value.str x t) (O : Ok w mean mg mb h₀) (B : Below A₀ base outer h₀) (hA : A.frames = some (env :: outer)) (hf : env.frame = some L) (hk : env.scope.kind = .function) (hh : A.handled = none) (hd : A.depth ≤ 900) (hu : A.units ≤ 9000) :
    ∀ (s' : Shared) (v : Value) (Q : Value → Shared → Prop), v ∈ vs → Fr h₀ L s'.heap m → News h₀ L s'.heap news → (∀ h' tk, s'.heap.StaysIn h' → Q v { s' with heap := h', toks := tk }) → wpAny (model prog w) A (call (.ref 94) [v]) Q (fun _ _ => False) s' := by
  intro s' v Q hv F' N' hq
  obtain ⟨x, t, rfl⟩ := hs v hv
  exact use_meets (c_fspath (O.keeps F'.keep) _ _) B F' N' hA hf hk hh hd hu fun v h' tk' e st _ _ => by
    have e' : v = .str x t := e
    subst e'; exact hq h' tk' st
end


noncomputable def swV : Value → Bool
  | .str x _ => Txt.startswith x SL
  | _ => false
noncomputable def qF (c : Str) : Bool := if (c.length : Int) = 0 then false else c != dotS
section
variable {A : Around} {E : Value → Shared → Prop} {s : Shared} {env : Env} {h₀ : Heap} {L : Addr} {m : Str → Option Value}
noncomputable def SrcB (prog : Program) (w : World) (A : Around) (h₀ : Heap) (L : Addr) (m : Str → Option Value) (env : Env) (elt : PySem.Expr) (x : Str) (scope : Scope) (cl : List (Str × Addr)) (f : Value → Bool) (Q : Value → Shared → Prop) (xv : Value) (s₁ : Shared) : Prop :=
  ∃ ax vs news, xv = .ref ax ∧ A.handled = none ∧ Fr h₀ L s₁.heap m ∧ News h₀ L s₁.heap news ∧ s₁.heap.IsTuple ax (List.toArray vs) ∧
      (∀ C (i : Nat) v s₃ m₃, vs[i]? = some v → Fr s₁.heap C s₃.heap m₃ → m₃ x = some v → wpAny (model prog w) A (eval elt (compEnvC scope cl C env)) (fun y s₄ => y = .bool (f v) ∧ Keeps s₃ s₄) NoE s₃) ∧
      (∀ D h' tk, Fr h₀ L h' m → News h₀ L h' ((D, setB (!byT w) (vs.map f)) :: news) → Q (.ref D) { s₁ with heap := h', toks := tk })
theorem SetComp_B {elt iter : PySem.Expr} {x : Str} {px : Pos} {scope : Scope} {cl : List (Str × Addr)} {pos : Pos} {Q : Value → Shared → Prop} (F₀ : Fr h₀ L s.heap m) (f : Value → Bool)
    (hclos : closureFor scope env = pure cl) (hcell : ∀ y ∈ scope.names, y.2 ≠ .cell) (hkind : scope.kind = .function)
    (hnames : ∀ y ∈ scope.names, y.2 = .local → scope.names.lookup y.1 = some .local) (hx : scope.names.lookup x = some .local)
    (h : wpAny (model prog w) A (eval iter env) (SrcB prog w A h₀ L m env elt x scope cl f Q) E s)
    (hs : ∀ x, foldedSetIterable iter env x = pure x := by intro _; rfl) :
    wpAny (model prog w) A (eval (.SetComp elt [⟨.Name x px, iter, [], 0⟩] scope pos) env) Q E s := SetComp_bools f hclos hcell hkind hnames hx h hs
end

noncomputable def TOk (q : Str → Bool) (c : Str) (s₃ : Shared) (ok : Bool) (s₄ : Shared) : Prop := ok = q c ∧ Keeps s₃ s₄
theorem tok_t {c : Str} {s₃ : Shared} {k : Nat} (h : (c.length : Int) ≠ 0) (h1 : (c != dotS) = true) : TOk qF c s₃ true { s₃ with toks := k } := ⟨by rw [qF, if_neg h, h1], s₃.heap, k, rfl, fun _ _ e => e⟩
theorem tok_f {c : Str} {s₃ : Shared} {k : Nat} (h : (c.length : Int) ≠ 0) (h1 : (c != dotS) = false) : TOk qF c s₃ false { s₃ with toks := k } := ⟨by rw [qF, if_neg h, h1], s₃.heap, k, rfl, fun _ _ e => e⟩
theorem tok_0 {c : Str} {s₃ : Shared} {k : Nat} (h : (c.length : Int) = 0) : TOk qF c s₃ false { s₃ with toks := k } := ⟨by rw [qF, if_pos h], s₃.heap, k, rfl, fun _ _ e => e⟩
section
variable {A : Around} {E : Value → Shared → Prop} {s : Shared} {env : Env} {h₀ : Heap} {L : Addr} {m : Str → Option Value}
noncomputable def SrcF (prog : Program) (w : World) (A : Around) (h₀ : Heap) (L : Addr) (m : Str → Option Value) (env : Env) (test : PySem.Expr) (x : Str) (scope : Scope) (cl : List (Str × Addr)) (q : Str → Bool) (Q : Value → Shared → Prop) (xv : Value) (s₁ : Shared) : Prop :=
  ∃ l n news ps, xv = .ref l ∧ A.handled = none ∧ Fr h₀ L s₁.heap m ∧ News h₀ L s₁.heap news ∧ (l, listOf (strValues ps).toArray n) ∈ news ∧ ps.length ≤ sizeLine ∧
      (∀ C c tc s₃ m₃, (c, tc) ∈ ps → Fr s₁.heap C s₃.heap m₃ → m₃ x = some (.str c tc) → wpAny (model prog w) A (isTrue test (compEnvC scope cl C env) (eval test (compEnvC scope cl C env))) (TOk q c s₃) NoE s₃) ∧
      (∀ D h' tk n', Fr h₀ L h' m → News h₀ L h' ((D, listOf (strValues (ps.filter fun p => q p.1)).toArray n') :: news) → LCg.Off1 D news → Q (.ref D) { s₁ with heap := h', toks := tk })
theorem ListComp_F {iter test : PySem.Expr} {x : Str} {px pe : Pos} {scope : Scope} {cl : List (Str × Addr)} {pos : Pos} {Q : Value → Shared → Prop} (F₀ : Fr h₀ L s.heap m) (q : Str → Bool) (hd : (x == ("__debug__" : Str)) = false)
    (hclos : closureFor scope env = pure cl) (hcell : ∀ y ∈ scope.names, y.2 ≠ .cell) (hkind : scope.kind = .function)
    (hnames : ∀ y ∈ scope.names, y.2 = .local → scope.names.lookup y.1 = some .local) (hx : scope.names.lookup x = some .local)
    (h : wpAny (model prog w) A (eval iter env) (SrcF prog w A h₀ L m env test x scope cl q Q) E s)
    (hs : ∀ x, foldedSetIterable iter env x = pure x := by intro _; rfl) :
    wpAny (model prog w) A (eval (.ListComp (.Name x pe) [⟨.Name x px, iter, [test], 0⟩] scope pos) env) Q E s := ListComp_filter q hd hclos hcell hkind hnames hx h hs
end

theorem split_small {l : List (Str × Tok)} {x : Str} (e : l.map (·.1) = Txt.split x SL) (hx : x.length ≤ 1000) : l.length ≤ 1002 := by
  have e1 := congrArg List.length e
  have e2 := spl_weight x
  rw [List.length_map] at e1
  omega
theorem part_small {l : List (Str × Tok)} {x : Str} {c : Str} {tc : Tok} (e : l.map (·.1) = Txt.split x SL) (hx : x.length ≤ 1000) (h : (c, tc) ∈ l) : c.length ≤ 1000 :=
  Nat.le_trans (part_short (e ▸ List.mem_map.mpr ⟨_, h, rfl⟩)) hx

noncomputable def WT (e : LEnt) : Prop := (e.tx.map (·.length)).sum + e.2.1.length ≤ 1001
theorem sum_filter_le (q : Str → Bool) : ∀ l : List (Str × Tok), (((l.filter fun p => q p.1).map (·.1)).map (·.length)).sum + (l.filter fun p => q p.1).length ≤ ((l.map (·.1)).map (·.length)).sum + l.length
  | [] => Nat.le_refl _
  | p :: r => by
    have ih := sum_filter_le q r
    cases h : q p.1 with
    | true => rw [List.filter_cons_of_pos (by exact h)]; simp only [List.map_cons, List.sum_cons, List.length_cons] at *; omega
    | false => rw [List.filter_cons_of_neg (by simp [h])]; simp only [List.map_cons, List.sum_cons, List.length_cons] at *; omega
theorem wt_of {l : List (Str × Tok)} {x : Str} {a : Addr} {n : Nat} (q : Str → Bool) (e : l.map (·.1) = Txt.split x SL) (hx : x.length ≤ 1000) : WT (a, l.filter (fun p => q p.1), n) := by
  have h1 := sum_filter_le q l
  have h2 := spl_weight x
  rw [← e, List.length_map] at h2
  show (((l.filter fun p => q p.1).map (·.1)).map (·.length)).sum + (l.filter fun p => q p.1).length ≤ 1001
  omega
section
variable {A : Around} {E : Value → Shared → Prop} {s : Shared} {h₀ : Heap} {L ax : Addr} {m : Str → Option Value} {news : List (Addr × Obj)} {Q : Value → Shared → Prop} {b : LEnt} {r : List LEnt}
theorem min_led (hh : A.handled = none) (hu : A.in1.units < cLine) (F : Fr h₀ L s.heap m) (N : News h₀ L s.heap news) (hl : (ax, LCg.lst (entRefs (b :: r))) ∈ news) (he : ∀ e ∈ b :: r, (e.1, e.ob) ∈ news) (hw : ∀ e ∈ b :: r, WT e)
    (k : ∀ h' tk (e1 : LEnt), WT e1 → e1.tx = (r.map LEnt.tx).foldl minStep b.tx → Fr h₀ L h' m → News h₀ L h' ((e1.1, e1.ob) :: news) → Q (.ref e1.1) { s with heap := h', toks := tk }) : wpAny (model prog w) A (call (.builtin "min") [.ref ax]) Q E s := by
  refine call_min_ents hh hu ⟨_, N.get hl, rfl, _, rfl⟩ (fun e hm => N.get (he e hm)) fun h' tk st => ?_
  have q := fold_lesser r b
  exact k h' tk _ (hw _ q.1) q.2 (F.keeps st) fun p hp => by
    rcases List.mem_cons.mp hp with rfl | hp
    · exact N.keepsAll st _ (he _ q.1)
    · exact N.keepsAll st _ hp
theorem max_led (hh : A.handled = none) (hu : A.in1.units < cLine) (F : Fr h₀ L s.heap m) (N : News h₀ L s.heap news) (hl : (ax, LCg.lst (entRefs (b :: r))) ∈ news) (he : ∀ e ∈ b :: r, (e.1, e.ob) ∈ news) (hw : ∀ e ∈ b :: r, WT e)
    (k : ∀ h' tk (e1 : LEnt), WT e1 → e1.tx = (r.map LEnt.tx).foldl maxStep b.tx → Fr h₀ L h' m → News h₀ L h' ((e1.1, e1.ob) :: news) → Q (.ref e1.1) { s with heap := h', toks := tk }) : wpAny (model prog w) A (call (.builtin "max") [.ref ax]) Q E s := by
  refine call_max_ents hh hu ⟨_, N.get hl, rfl, _, rfl⟩ (fun e hm => N.get (he e hm)) fun h' tk st => ?_
  have q := fold_greater r b
  exact k h' tk _ (hw _ q.1) q.2 (F.keeps st) fun p hp => by
    rcases List.mem_cons.mp hp with rfl | hp
    · exact N.keepsAll st _ (he _ q.1)
    · exact N.keepsAll st _ hp
theorem item_ent {value slice : PySem.Expr} {l : Addr} {n i : Nat} {u ty : Tok} {y : Str} {p : List (Str × Tok)} (hl : s.heap.get? l = some (listOf (strValues p).toArray n)) (hq : p[i]? = some (y, ty)) (hz : p.length ≤ 10000) (h : Q (.str y ty) s)
    (hs : subscripted slice false (.ref l) (.int (i : Int) u) = operate [.ref l, .int (i : Int) u] (getItem (.ref l) (.int (i : Int) u)) := by with_unfolding_all rfl) :
    wpAny (model prog w) A (subscriptTail value slice (.ref l) (.int (i : Int) u)) Q E s := by
  have hi : i < p.length := by
    rcases Nat.lt_or_ge i p.length with q | q
    · exact q
    · rw [List.getElem?_eq_none q] at hq; cases hq
  have hL : s.heap.IsList l (strValues p).toArray := ⟨_, hl, rfl, _, rfl⟩
  exact tail_any hL.typeIs slot_list_getitem.lookup (wpAny_getItem_list hL (Int.natCast_nonneg i) (by omega) (by rw [Int.toNat_natCast, sv_get, hq]; rfl) h) hs
end
theorem two_form {m₁ m : Str → Option Value} {x y : Str} (hm : ∀ z, z ≠ x → z ≠ y → m₁ z = m z) : m₁ = fun z => if z = y then m₁ y else if z = x then m₁ x else m z := by
  funext z
  by_cases h1 : z = y
  · subst h1; rw [if_pos rfl]
  · by_cases h2 : z = x
    · subst h2; rw [if_neg h1, if_pos rfl]
    · rw [if_neg h1, if_neg h2]; exact hm z h2 h1
noncomputable def JE (p1 p2 : List (Str × Tok)) (m : Str → Option Value) (news : List (Addr × Obj)) (i : Nat) (m' : Str → Option Value) (nx : List (Addr × Obj)) : Prop :=
  nx = news ∧ (p1.map (·.1)).take i = (p2.map (·.1)).take i ∧ ∀ z, z ≠ Str.ofString "i" → z ≠ Str.ofString "c" → m' z = m z

section
variable {A : Around} {E : Value → Shared → Prop} {s : Shared} {h₀ : Heap} {L : Addr} {m : Str → Option Value} {news : List (Addr × Obj)} {Q : Value → Shared → Prop}
theorem slice_ent {value slice : PySem.Expr} {l : Addr} {n i : Nat} {u : Tok} {p : List (Str × Tok)} (F : Fr h₀ L s.heap m) (N : News h₀ L s.heap news) (hm : (l, listOf (strValues p).toArray n) ∈ news) (hz : p.length ≤ 10000)
    (h : ∀ D h', Fr h₀ L h' m → News h₀ L h' ((D, listOf (strValues (p.take i)).toArray 0) :: news) → Q (.ref D) { s with heap := h' })
    (hs : subscripted slice false (.ref l) (.ref s.heap.objs.size) = operate [.ref s.heap.objs.size, .ref l] (getItem (.ref l) (.ref s.heap.objs.size)) := by with_unfolding_all rfl)
    (ht : ∀ r, letTemporaryGo value (.ref l) r = pure () := by intro _; with_unfolding_all rfl) :
    wpAny (model prog w) A (subscriptTail value slice (.ref l) (.ref s.heap.objs.size)) Q E { s with heap := s.heap.push { cls := .type "slice", data := .fields #[.none, .int (i : Int) u, .none] } } := by
  have hL : s.heap.IsList l (strValues p).toArray := ⟨_, N.get hm, rfl, _, rfl⟩
  have e : sliceBounds none (some (i : Int)) none (strValues p).toArray.size = (((0 : Nat) : Int), ((min i (strValues p).toArray.size : Nat) : Int), 1) := by
    simp only [sliceBounds, Option.getD_none, show (1 : Int) > 0 by decide, if_true, if_neg (show ¬ ((i : Int) < 0) by omega)]
    congr 1
    congr 1
    omega
  refine kmk_slice_lit F N hL .none (.int _ _) (zs := strValues (p.take i)) ?_ (fun D h' F' N' _ => h D h' F' N') hs ht (by rw [List.size_toArray, strValues_length, sizeLine_eq]; omega)
  rw [kmk_pick_nat _ e]
  show ((strValues p).drop 0).take (min i (strValues p).toArray.size - 0) = _
  rw [List.drop_zero, Nat.sub_zero, List.size_toArray, kmk_take_min]
  simp [strValues, List.map_take]
end
end Mine
end
section
open PySem PySem.Spec PySem.Calls PySem.W PyProof.Rows
namespace Mine
set_option maxRecDepth 100000
open PyProof.Rows.LCg
section
variable {prog : Program} {w : World} {A : Around} {h₀ : Heap} {L : Addr} {m : Str → Option Value} {env : Env} {elt : PySem.Expr} {x : Str} {scope : Scope} {cl : List (Str × Addr)} {s : Shared} {S : List (Addr × Obj) → Prop} {P : Nat → Value → Prop} {Fin : List Value → List (Addr × Obj) → Prop}
/-- a comprehension of any length, by what holds between its turns -/
theorem CompRest_ind (I : Nat → List Value → List (Addr × Obj) → Prop) (n : Nat) (fin : ∀ ys news, I n ys news → Fin ys news)
    (step : ∀ i ys news, i < n → I i ys news → ∀ v J oI C oC D m₂ h tk (E' : Value → Shared → Prop), P i v → NsObj oC m₂ → m₂ x = some v → Fr h₀ L h m → News h₀ L h ((J, oI) :: (C, oC) :: (D, lst ys) :: news) → Off3 J C D news → ((@Ne Nat J C) ∧ (@Ne Nat J D) ∧ (@Ne Nat C D)) →
      wpAny (model prog w) A (eval elt (compEnvC scope cl C env)) (CompEnd h₀ L m { s with heap := h, toks := tk } J oI C oC D (lst ys) S (fun y news' => I (i + 1) (ys ++ [y]) news')) E' { s with heap := h, toks := tk }) :
    ∀ k i ys news, i + k = n → I i ys news → CompRest prog w A h₀ L m env elt x scope cl s S P Fin k i ys news := by
  intro k
  induction k with
  | zero =>
    intro i ys news hi hI
    have e : i = n := by omega
    subst e
    exact fin ys news hI
  | succ k ih =>
    intro i ys news hi hI
    refine CompRest.succ ?_
    intro v J oI C oC D m₂ h tk E' hv hC hx F N off ne
    refine wpAny_mono (step i ys news (by omega) hI v J oI C oC D m₂ h tk E' hv hC hx F N off ne) (fun y s₂ hy => ?_) fun _ _ e => e
    obtain ⟨h', tk', news', rfl, F', N', off', hS', r⟩ := hy
    exact ⟨h', tk', news', rfl, F', N', off', hS', ih (i + 1) (ys ++ [y]) news' (by omega) r⟩
theorem CompRest_all (I : Nat → List Value → List (Addr × Obj) → Prop) {n : Nat} {news : List (Addr × Obj)} (h0 : I 0 [] news) (fin : ∀ ys news, I n ys news → Fin ys news)
    (step : ∀ i ys news, i < n → I i ys news → ∀ v J oI C oC D m₂ h tk (E' : Value → Shared → Prop), P i v → NsObj oC m₂ → m₂ x = some v → Fr h₀ L h m → News h₀ L h ((J, oI) :: (C, oC) :: (D, lst ys) :: news) → Off3 J C D news → ((@Ne Nat J C) ∧ (@Ne Nat J D) ∧ (@Ne Nat C D)) →
      wpAny (model prog w) A (eval elt (compEnvC scope cl C env)) (CompEnd h₀ L m { s with heap := h, toks := tk } J oI C oC D (lst ys) S (fun y news' => I (i + 1) (ys ++ [y]) news')) E' { s with heap := h, toks := tk }) :
    CompRest prog w A h₀ L m env elt x scope cl s S P Fin n 0 [] news := CompRest_ind I n fin step n 0 [] news (Nat.zero_add n) h0
end

theorem Off3.sub {I C D : Addr} {l l' : List (Addr × Obj)} (o : Off3 I C D l) (h : ∀ p ∈ l', p ∈ l ∨ (p.1 ≠ I ∧ p.1 ≠ C ∧ p.1 ≠ D)) : Off3 I C D l' :=
  Off3.of fun p hp => (h p hp).elim (fun q => o.mem p q) id
theorem Off1.mem {D : Addr} : ∀ {l : List (Addr × Obj)}, Off1 D l → ∀ p ∈ l, p.1 ≠ D
  | [], _, _, h => nomatch h
  | _ :: _, x, p, h => by
    rcases List.mem_cons.mp h with rfl | h
    · exact x.1
    · exact Off1.mem x.2 p h

/-- the end of an element that makes one object T; what the ledger keeps is said anew -/
theorem cend_new {h₀ : Heap} {L I C D T : Addr} {m : Str → Option Value} {s₁ : Shared} {oI oC oD o : Obj} {S : List (Addr × Obj) → Prop} {rest' : Value → List (Addr × Obj) → Prop} {y : Value} {h' : Heap} {tk : Nat} {news news' : List (Addr × Obj)}
    (F : Fr h₀ L h' m) (N : News h₀ L h' ((T, o) :: (I, oI) :: (C, oC) :: (D, oD) :: news)) (off : Off3 I C D news) (hT : T ≠ I ∧ T ≠ C ∧ T ≠ D) (sub : ∀ p ∈ news', p = (T, o) ∨ p ∈ news) (hS : S news') (r : rest' y news') :
    CompEnd h₀ L m s₁ I oI C oC D oD S rest' y { s₁ with heap := h', toks := tk } := by
  refine CompEnd.intro F N news' (fun p hp => ?_) (Off3.of fun p hp => ?_) hS r
  · rcases List.mem_cons.mp hp with rfl | hp
    · exact List.Mem.tail _ (List.Mem.head _)
    rcases List.mem_cons.mp hp with rfl | hp
    · exact List.Mem.tail _ (List.Mem.tail _ (List.Mem.head _))
    rcases List.mem_cons.mp hp with rfl | hp
    · exact List.Mem.tail _ (List.Mem.tail _ (List.Mem.tail _ (List.Mem.head _)))
    rcases sub p hp with rfl | hp
    · exact List.Mem.head _
    · exact List.Mem.tail _ (List.Mem.tail _ (List.Mem.tail _ (List.Mem.tail _ hp)))
  · rcases sub p hp with rfl | hp
    · exact hT
    · exact off.mem p hp
end Mine
end
section
open PySem PySem.Spec PySem.Calls PySem.W PyProof.Rows
namespace Mine
set_option maxRecDepth 100000
theorem fill6 : PySem.Challenge.rw_pd0062_01.prog = PySem.Challenge.rw_pd0062_01.prog → hd.heap_39 = hd.heap_39 := by k_fill; intros; rfl
variable {prog : Program} {w : World} {s : Shared} {mean : ExcName → Option Value} {mg mb : Str → Option Value}
set_option maxHeartbeats 4000000
local macro_rules | `(tactic| walk_at "execs nil") => `(tactic| (k_here; refine wpAny_execs_nil ?_))
local macro_rules | `(tactic| walk_at "exec Try") => `(tactic| (k_here; refine try0 ?_))
local macro_rules | `(tactic| walk_at "call type:map") => `(tactic| (k_here; k_dflt (refine' tuple_map_S ?k1 ?k2 ?k3 ?k4 ?k5 ?k6 ?k7 ?_; (case k1 => exact rfl); (case k2 => exact rfl); (case k3 => k_asm); (case k4 => k_asm); (case k5 => exact IsL_up (by assumption) (Fr.keep (by assumption))); (case k6 => exact Nat.le_trans (by assumption) (by rw [sizeLine_eq]; decide)); (case k7 => exact fspath_map (by assumption) (by assumption) (by assumption) rfl rfl rfl rfl (Nat.le_of_ble_eq_true rfl) (Nat.le_of_ble_eq_true rfl)); k_whole); intro D' h' tk' F' N' l1; (try k_sweep)))
local macro_rules | `(tactic| walk_at "call builtin:str.split") => `(tactic| (k_here; (refine KSpl.split1 (by k_asm) (by k_asm) (by decide) ?_ (by rw [sizeLine_eq]; omega)); intro D' l' h' k' e' a' F' N' l1))
local macro_rules | `(tactic| walk_at "truthy ref") => `(tactic| (k_here; (with_reducible show wpAny _ _ (truthy (Value.ref _)) _ _ _); k_dflt (refine' ktl_truthyK ?N ?m ?z ?_; (case N => k_asm); (case m => k_mem); (case z => assumption); k_whole); (try simp only [List.isEmpty_cons, Bool.not_false])))
local macro_rules | `(tactic| lcg_src) => `(tactic| ((with_reducible show @Membership.mem _ _ _ _ _); k_mem))
local macro_rules | `(tactic| walk_at "exec Assign cons ListComp") => `(tactic| (k_here; (with_reducible show wpAny _ _ (exec (Stmt.Assign _ (Expr.ListComp (Expr.Call _ _ _ _) _ _ _) _) _) _ _ _); (rename News _ _ _ _ => lN'); (try dsimp only [List.cons_append, List.nil_append] at lN'); k_dflt (refine Assign_ListComp_T (F₀ := by k_asm) (by rfl) (by with_unfolding_all rfl) (by with_unfolding_all rfl) (by decide) (by rfl) (by decide) (by rfl) (by rfl) (by rfl) ?_)))
local macro_rules | `(tactic| walk_at "SrcT") => `(tactic| (k_here; k_dflt (refine SrcT.ledger (by rfl) (by k_asm) (by k_asm) (by k_mem) (Nat.le_of_ble_eq_true rfl) ?_); intro g'; lcg_lit))
local macro_rules | `(tactic| walk_at "eval SetComp") => `(tactic| (k_here; k_dflt (refine SetComp_B (by k_asm) swV (by with_unfolding_all rfl) (by decide) (by rfl) (by decide) (by rfl) ?_)))
local macro_rules | `(tactic| walk_at "eval Name") => `(tactic| (k_here; (with_reducible show wpAny _ _ (eval (Expr.Name _ _) (compEnvC _ _ _ _)) _ _ _); k_dflt (first | (refine sx_L (by assumption) (by assumption) (by assumption) ?_ (by rfl) (by rfl)) | (refine sx_C (by assumption) (by rfl) (by assumption) (by assumption) ?_ (by rfl) (by rfl)))))
local macro_rules | `(tactic| walk_at "eval ListComp") => `(tactic| (k_here; k_dflt (refine ListComp_F (by k_asm) qF (by decide) (by with_unfolding_all rfl) (by decide) (by rfl) (by decide) (by rfl) ?_)))
local macro_rules | `(tactic| walk_at "subscriptTail") => `(tactic| (k_here; (with_reducible show wpAny _ _ (subscriptTail _ _ (Value.ref _) (Value.int _ _)) _ _ _); k_dflt (refine item_ent (News.get (by k_asm) (by k_mem)) (by assumption) (by assumption) ?_)))
local macro_rules | `(tactic| walk_at "exec For Tuple Call cons nil") => `(tactic| (k_here; k_dflt (refine wpAny_For ?_)))
local macro_rules | `(tactic| walk_at "exec Assign cons ListComp") => `(tactic| (k_here; (with_reducible show wpAny _ _ (exec (Stmt.Assign _ (Expr.ListComp (Expr.ListComp _ _ _ _) _ _ _) _) _) _ _ _); k_dflt (refine LCg.Assign_ListComp_U (F₀ := by k_asm) (by rfl) (by with_unfolding_all rfl) (by with_unfolding_all rfl) (by decide) (by rfl) (by decide) (by rfl) (by rfl) (by rfl) ?_)))

section
variable {A : Around} {E : Value → Shared → Prop} {s : Shared} {h₀ : Heap} {L : Addr} {m : Str → Option Value} {news : List (Addr × Obj)} {Q : Value → Shared → Prop}
theorem item0_tup {value slice : PySem.Expr} {t : Addr} {u : Tok} {v : Value} {vs : List Value} (N : News h₀ L s.heap news) (hm : (t, tupObj (v :: vs)) ∈ news) (h : Q v s)
    (hs : subscripted slice false (.ref t) (.int 0 u) = operate [.ref t, .int 0 u] (getItem (.ref t) (.int 0 u)) := by with_unfolding_all rfl) (hg : ∀ r, letTemporaryGo value (.ref t) r = pure () := by intro _; with_unfolding_all rfl) :
    wpAny (model prog w) A (subscriptTail value slice (.ref t) (.int 0 u)) Q E s :=
  item_tuple (items := (v :: vs).toArray) ⟨_, N.get hm, rfl, _, rfl⟩ (by decide) (by decide) (StrLaws.seqIndex_nonneg (by decide) (by simp)) (by simp) h hs hg
end
local macro_rules | `(tactic| walk_at "subscriptTail") => `(tactic| (k_here; (with_reducible show wpAny _ _ (subscriptTail _ _ (Value.ref _) (Value.int 0 _)) _ _ _); k_dflt (refine item0_tup (by k_asm) (by k_mem) ?_)))

noncomputable def compsF (x : Str) : List Str := (Txt.split x SL).filter qF
theorem wt_take : ∀ (i : Nat) (l : List (Str × Tok)), (((l.take i).map (·.1)).map (·.length)).sum + (l.take i).length ≤ ((l.map (·.1)).map (·.length)).sum + l.length
  | 0, l => by simp
  | _ + 1, [] => by simp
  | i + 1, p :: r => by
    have ih := wt_take i r
    simp only [List.take_succ_cons, List.map_cons, List.sum_cons, List.length_cons] at *
    omega
theorem join_small {p : List (Str × Tok)} (h : ((p.map (·.1)).map (·.length)).sum + p.length ≤ 1001) : JoinOk (Str.ofString "/") (p.map (·.1)) = true ∧ (Txt.join (Str.ofString "/") (p.map (·.1))).length ≤ 1001 := by
  have e : (Txt.join (Str.ofString "/") (p.map (·.1))) = Str.join (Str.ofString "/") (p.map (·.1)) := StrLaws.glued_eq_join _ _
  have e1 := StrLaws.join_length_le (Str.ofString "/") (p.map (·.1))
  have e2 : (Str.ofString "/").length = 1 := rfl
  rw [e2, Nat.mul_one, List.length_map] at e1
  refine ⟨joinOk_of ?_, by rw [e]; omega⟩
  rw [e2, Nat.mul_one, List.length_map]
  omega
theorem add_small {x : Str} {n : Nat} {y : Str} (hx : x.length = n) (hy : y.length ≤ 1001) (hn : n ≤ 1001 := by decide) : x.length + y.length ≤ sizeLine := by rw [sizeLine_eq]; omega
theorem take_eq_succ {α : Type} {a b : List α} {i : Nat} {c : α} (h : a.take i = b.take i) (ha : a[i]? = some c) (hb : b[i]? = some c) : a.take (i + 1) = b.take (i + 1) := by
  rw [List.take_add_one, List.take_add_one, h, ha, hb]
theorem map_get {p : List (Str × Tok)} {i : Nat} {c : Str} {tc : Tok} (h : p[i]? = some (c, tc)) : (p.map (·.1))[i]? = some c := by simp [h]
theorem map_get_ne {p : List (Str × Tok)} {i : Nat} {c y : Str} {ty : Tok} (h : p[i]? = some (y, ty)) (hne : (c != y) = false) : (p.map (·.1))[i]? = some c := by
  have e : c = y := by simpa using hne
  rw [e]; exact map_get h
theorem cpre_done {p1 p2 : List (Str × Tok)} (h : (p1.map (·.1)).take (strValues p1).length = (p2.map (·.1)).take (strValues p1).length) : cpre (p1.map (·.1)) (p2.map (·.1)) = p1.map (·.1) := by
  rw [strValues_length, List.take_of_length_le (by simp)] at h
  exact cpre_all _ _ (by rw [List.length_map]; exact h)
theorem cpre_at {p1 p2 : List (Str × Tok)} {i : Nat} {c y : Str} {tc ty : Tok} (h : (p1.map (·.1)).take i = (p2.map (·.1)).take i) (h1 : p1[i]? = some (c, tc)) (h2 : p2[i]? = some (y, ty)) (hne : (c != y) = true) : cpre (p1.map (·.1)) (p2.map (·.1)) = (p1.take i).map (·.1) := by
  rw [cpre_cut i _ _ c y h (map_get h1) (map_get h2) (by simpa using hne), List.map_take]
noncomputable def cpOut (ab : Bool) (t : List Str) : Str := (if ab = true then SL else Str.ofString "") ++ Txt.join SL t
local macro_rules | `(tactic| walk_at "call builtin:str.join") => `(tactic| (k_here; k_dflt (refine' SC.join ?k1 ?k2 ?k3 ?_; (case k1 => exact ⟨_, News.get (by k_asm) (by k_mem), rfl, _, rfl⟩); (case k2 => exact rfl); (case k3 => assumption); k_whole); intro _ _))
local macro_rules | `(tactic| walk_at "binaryOp Add str str") => `(tactic| (k_here; (refine add_str ?_ (hsz := ?hz)); (case hz => exact add_small rfl (by assumption)); intro _ _))
local macro_rules | `(tactic| walk_at "subscriptTail") => `(tactic| (k_here; (with_reducible show wpAny _ _ (subscriptTail _ (Expr.Slice _ _ none _) (Value.ref _) (Value.ref _)) _ _ _); k_dflt (refine slice_ent (by k_asm) (by k_asm) (by k_mem) (by assumption) ?_); intro D' h' F' N'))
noncomputable def cpF (ab : Bool) (x0 : Str) (xs : List Str) : Str := cpOut ab (cpre ((xs.map compsF).foldl minStep (compsF x0)) ((xs.map compsF).foldl maxStep (compsF x0)))
noncomputable def IA (ps : List (Str × Tok)) (D0 c2 c1 : Addr) (oT o2 o1 : Obj) (i : Nat) (ys : List Value) (news : List (Addr × Obj)) : Prop :=
  ∃ ents rest, ys = entRefs ents ∧ news = (D0, oT) :: (c2, o2) :: (c1, o1) :: rest ∧ (∀ e ∈ ents, (e.1, e.ob) ∈ rest) ∧ ents.map LEnt.tx = (ps.take i).map fun p => Txt.split p.1 SL
theorem IA_next {ps : List (Str × Tok)} {D0 c2 c1 T : Addr} {oT o2 o1 : Obj} {i : Nat} {rest : List (Addr × Obj)} {ents : List LEnt} {l : List (Str × Tok)} {x : Str} {tx : Tok} (hmem : ∀ e ∈ ents, (e.1, e.ob) ∈ rest) (htx : ents.map LEnt.tx = (ps.take i).map fun p => Txt.split p.1 SL)
    (hp : ps[i]? = some (x, tx)) (he : l.map (·.1) = Txt.split x SL) : IA ps D0 c2 c1 oT o2 o1 (i + 1) (entRefs ents ++ [.ref T]) ((D0, oT) :: (c2, o2) :: (c1, o1) :: (T, listOf (strValues l).toArray 0) :: rest) := by
  refine ⟨ents ++ [(T, l, 0)], (T, listOf (strValues l).toArray 0) :: rest, by simp [entRefs], rfl, fun e h => ?_, ?_⟩
  · rcases List.mem_append.mp h with h | h
    · exact List.Mem.tail _ (hmem e h)
    · rw [List.mem_singleton.mp h]; exact List.Mem.head _
  · rw [List.map_append, htx, List.take_add_one, hp, List.map_append]
    show _ ++ [l.map (·.1)] = _ ++ [Txt.split x SL]
    rw [he]
noncomputable def IB (ps : List (Str × Tok)) (src : List LEnt) (D1 D0 c2 c1 : Addr) (oS oT o2 o1 : Obj) (i : Nat) (ys : List Value) (news : List (Addr × Obj)) : Prop :=
  ∃ ents rest, ys = entRefs ents ∧ news = (D1, oS) :: (D0, oT) :: (c2, o2) :: (c1, o1) :: rest ∧ (∀ e ∈ src, (e.1, e.ob) ∈ rest) ∧ (∀ e ∈ ents, (e.1, e.ob) ∈ rest) ∧ (∀ e ∈ ents, WT e) ∧ ents.map LEnt.tx = (ps.take i).map fun p => (Txt.split p.1 SL).filter qF
theorem filter_map1 (q : Str → Bool) : ∀ l : List (Str × Tok), (l.filter fun p => q p.1).map (·.1) = (l.map (·.1)).filter q
  | [] => rfl
  | p :: r => by
    have ih := filter_map1 q r
    cases h : q p.1 with
    | true => rw [List.filter_cons_of_pos (by exact h), List.map_cons, List.map_cons, List.filter_cons_of_pos (by exact h), ih]
    | false => rw [List.filter_cons_of_neg (by simp [h]), List.map_cons, List.filter_cons_of_neg (by simp [h]), ih]
theorem IB_next {ps : List (Str × Tok)} {src : List LEnt} {D1 D0 c2 c1 T : Addr} {oS oT o2 o1 : Obj} {i n : Nat} {rest : List (Addr × Obj)} {ents : List LEnt} {l : List (Str × Tok)} {x : Str} {tx : Tok} (hsrc : ∀ e ∈ src, (e.1, e.ob) ∈ rest) (hmem : ∀ e ∈ ents, (e.1, e.ob) ∈ rest) (hwt : ∀ e ∈ ents, WT e)
    (htx : ents.map LEnt.tx = (ps.take i).map fun p => (Txt.split p.1 SL).filter qF) (hp : ps[i]? = some (x, tx)) (he : l.map (·.1) = Txt.split x SL) (hx : x.length ≤ 1000) :
    IB ps src D1 D0 c2 c1 oS oT o2 o1 (i + 1) (entRefs ents ++ [.ref T]) ((D1, oS) :: (D0, oT) :: (c2, o2) :: (c1, o1) :: (T, listOf (strValues (l.filter fun p => qF p.1)).toArray n) :: rest) := by
  refine ⟨ents ++ [(T, l.filter (fun p => qF p.1), n)], (T, listOf (strValues (l.filter fun p => qF p.1)).toArray n) :: rest, by simp [entRefs], rfl, fun e h => List.Mem.tail _ (hsrc e h), fun e h => ?_, fun e h => ?_, ?_⟩
  · rcases List.mem_append.mp h with h | h
    · exact List.Mem.tail _ (hmem e h)
    · rw [List.mem_singleton.mp h]; exact List.Mem.head _
  · rcases List.mem_append.mp h with h | h
    · exact hwt e h
    · rw [List.mem_singleton.mp h]; exact wt_of qF he hx
  · rw [List.map_append, htx, List.take_add_one, hp, List.map_append]
    show _ ++ [(l.filter fun p => qF p.1).map (·.1)] = _ ++ [(Txt.split x SL).filter qF]
    rw [filter_map1, he]
theorem sub5 {α : Type} {a b c d t : α} {r : List α} : ∀ p ∈ a :: b :: c :: d :: t :: r, p = t ∨ p ∈ a :: b :: c :: d :: r := by
  intro p hp
  simp only [List.mem_cons] at *
  rcases hp with h | h | h | h | h | h <;> simp [h]
theorem src_at {ps : List (Str × Tok)} {ents : List LEnt} {i : Nat} {v : Value} (htx : ents.map LEnt.tx = ps.map fun p => Txt.split p.1 SL) (hv : (entRefs ents).toArray[i]? = some v) :
    ∃ e x tx, e ∈ ents ∧ v = .ref e.1 ∧ ps[i]? = some (x, tx) ∧ e.2.1.map (·.1) = Txt.split x SL := by
  have hv' : (ents[i]?).map (fun e => Value.ref e.1) = some v := by simpa [entRefs] using hv
  obtain ⟨e, he, rfl⟩ := Option.map_eq_some_iff.mp hv'
  have h1 : (ents.map LEnt.tx)[i]? = some e.tx := by simp [he]
  rw [htx] at h1
  have h2 : (ps[i]?).map (fun p => Txt.split p.1 SL) = some e.tx := by simpa using h1
  obtain ⟨p, hp, hq⟩ := Option.map_eq_some_iff.mp h2
  exact ⟨e, p.1, p.2, List.mem_of_getElem? he, rfl, hp, hq.symm⟩
theorem sub4 {α : Type} {a b c t : α} {r : List α} : ∀ p ∈ a :: b :: c :: t :: r, p = t ∨ p ∈ a :: b :: c :: r := by
  intro p hp
  simp only [List.mem_cons] at *
  rcases hp with h | h | h | h | h <;> simp [h]
theorem c_cp (O : Ok w mean mg mb s.heap) (l : Addr) (x0 : Str) (t0 : Tok) (r : List (Str × Tok)) (hl : s.heap.IsList l (Value.str x0 t0 :: strValues r).toArray) (hn : (Value.str x0 t0 :: strValues r).length ≤ 1000) (hs : ∀ v ∈ Value.str x0 t0 :: strValues r, ∃ x t, v = Value.str x t) (hx : ∀ p ∈ (x0, t0) :: r, p.1.length ≤ 1000) (ab : Bool) (hr : ∀ p ∈ (x0, t0) :: r, Txt.startswith p.1 SL = ab) : Meets 700 7000 prog w 141 [.ref l] s (fun v _ => ∃ t', v = .str (cpF ab x0 (r.map (·.1))) t') := by
  intro base outer gd Q E B hQ
  have X := O.X
  have T := O.T
  (k_dflt (refine' enterC0 (binds := [(Str.ofString "paths", .ref l)]) O ?k6 ?k7 ?k8 ?k9 ?kB ?kD ?_ ?c2 ?c3 ?c4; (case k6 => k_is); (case k7 => k_is); (case k8 => exact Nat.le_of_ble_eq_true rfl); (case k9 => exact BindsTo.of_eq rfl); (case kB => exact rfl); (case kD => decide +kernel); (case c2 => exact rfl); (case c3 => exact rfl); (case c4 => exact rfl)))
  intro L' h' tk' cells' F' N' Y'
  k_cells Y'
  (try dsimp only [List.cons_append, List.nil_append] at N')
  (try dsimp only)
  (with_reducible show wpAny _ _ _ _ _ _)
  k_fold
  repeat (first | (k_unfold; (try dsimp only)) | walk1 | (dsimp only; walk1) | (refine id ?_; k_unfold; (try dsimp only)))
  rename_i D0 _ _ _ _ _ _ _ _ _ osep _ _ hos _ ocur lF lN hoc
  refine SrcT.ledger rfl lF lN (List.Mem.head _) (Nat.le_trans hn (by rw [sizeLine_eq]; decide)) (fun g => ?_)
  refine CompRest_all (IA ((x0, t0) :: r) D0 (L' + 1 + 1) (L' + 1) _ _ _) ⟨[], [], rfl, rfl, (fun _ h => nomatch h), by simp⟩ ?_ ?_
  rotate_left
  · intro i ys news hi hI v J oI C oC D m₂ h tk2 E' hv hC hx2 F2 N2 off ne
    obtain ⟨ents, rest, rfl, rfl, hmem, htx⟩ := hI
    rw [show (Value.str x0 t0 :: strValues r) = strValues ((x0, t0) :: r) from rfl, sv_get] at hv
    obtain ⟨p, hp, rfl⟩ := Option.map_eq_some_iff.mp hv
    have hpl := hx p (List.mem_of_getElem? hp)
    obtain ⟨x, tx⟩ := p
    (try dsimp only)
    (try dsimp only at hpl)
    clear lF lN
    (with_reducible show wpAny _ _ _ _ _ _)
    k_fold
    repeat (first | (k_unfold; (try dsimp only)) | walk1 | (dsimp only; walk1) | (refine id ?_; k_unfold; (try dsimp only)))
    rename_i T l9 h9 k9 he ha F9 N9 l1
    refine cend_new F9 N9 off ⟨Nat.ne_of_gt (l1 _ (List.Mem.head _)), Nat.ne_of_gt (l1 _ (List.Mem.tail _ (List.Mem.head _))), Nat.ne_of_gt (l1 _ (List.Mem.tail _ (List.Mem.tail _ (List.Mem.head _))))⟩ sub4 (List.Mem.head _) (IA_next hmem htx hp he)
  · intro ys news hI
    obtain ⟨ents, rest, rfl, rfl, hmem, htx⟩ := hI
    intro D1 h10 tk10 F10 N10 o10
    clear lF lN
    replace htx : ents.map LEnt.tx = ((x0, t0) :: r).map fun p => Txt.split p.1 SL := by
      rw [List.take_of_length_le (by simp [strValues])] at htx; exact htx
    (try dsimp only)
    repeat (first | (k_unfold; (try dsimp only)) | walk1 | (dsimp only; walk1) | (refine id ?_; k_unfold; (try dsimp only)))
    refine ⟨_, Value.str x0 t0 :: strValues r, _, rfl, rfl, by k_asm, by k_asm, ⟨_, News.get (by k_asm) (List.Mem.tail _ (List.Mem.head _)), rfl, _, rfl⟩, ?_, ?_⟩
    · intro C i v s₃ m₃ hv F₃ hm₃
      obtain ⟨a, ta, rfl⟩ : ∃ a ta, v = .str a ta := hs v (List.mem_of_getElem? hv)
      have hS : Sx s₃.heap s₃.heap := Sx.refl _
      have hn := F₃.ns
      have hcell := F₃.keep _ _ (N10.get (List.Mem.tail _ (List.Mem.tail _ (List.Mem.tail _ (List.Mem.head _)))))
      (try dsimp only)
      (with_reducible show wpAny _ _ _ _ _ _)
      k_fold
      repeat (first | (k_unfold; (try dsimp only)) | walk1 | (dsimp only; walk1) | (refine id ?_; k_unfold; (try dsimp only)))
      exact keeps_refl s₃
    intro D9 h9 tk9 F9 N9
    (try dsimp only)
    have hset : h9.get? D9 = some (oneB (!byT w) ab) := (N9.get (List.Mem.head _)).trans (congrArg some (setB_one (by simp) (fun c hc => by
      obtain ⟨v, hv, rfl⟩ := List.mem_map.mp hc
      obtain ⟨p, hp, rfl⟩ := List.mem_map.mp (show v ∈ strValues ((x0, t0) :: r) from hv)
      exact hr p hp)))
    refine assign_set rfl rfl (unpack_one rfl hset fun h11 st => ?_)
    have F11 := F9.keeps st
    have N11 : News s.heap L' h11 _ := fun p hp => (N9.keepsAll st) p (List.Mem.tail _ hp)
    clear F9 N9 hset st F10 N10
    repeat (first | (k_unfold; (try dsimp only)) | walk1 | (dsimp only; walk1) | (refine id ?_; k_unfold; (try dsimp only)))
    (rename Fr _ _ _ _ => lF)
    (rename News _ _ _ _ => lN)
    refine LCg.CompSrc.ledger rfl lF lN (List.Mem.head _) (by simp only [List.size_toArray, entRefs, List.length_map]; have := congrArg List.length htx; simp only [List.length_map, List.length_cons] at this; rw [this, sizeLine_eq]; simp only [List.length_cons, strValues_length] at hn; omega) (fun g2 => ?_)
    refine CompRest_all (IB ((x0, t0) :: r) ents D1 D0 (L' + 1 + 1) (L' + 1) _ _ _ _) ⟨[], rest, rfl, rfl, hmem, (fun _ h => nomatch h), (fun _ h => nomatch h), by simp⟩ ?_ ?_
    rotate_left
    · intro i ys news hi hI v J oI C oC D m₂ h tk2 E' hv hC hx2 F2 N2 off ne
      obtain ⟨ents2, rest2, rfl, rfl, hsrc, hmem2, hwt2, htx2⟩ := hI
      obtain ⟨e, x, tx, he, rfl, hp, hsp⟩ := src_at htx hv
      obtain ⟨a9, p9, n9⟩ := e
      have hpl : x.length ≤ 1000 := hx _ (List.mem_of_getElem? hp)
      have hin := hsrc _ he
      (try dsimp only)
      clear lF lN
      (with_reducible show wpAny _ _ _ _ _ _)
      repeat (first | (k_unfold; (try dsimp only)) | walk1 | (dsimp only; walk1) | (refine id ?_; k_unfold; (try dsimp only)))
      refine ⟨a9, n9, _, p9, rfl, rfl, by k_asm, by k_asm, List.Mem.tail _ (List.Mem.tail _ (List.Mem.tail _ (List.Mem.tail _ (List.Mem.tail _ (List.Mem.tail _ (List.Mem.tail _ hin)))))), Nat.le_trans (split_small hsp hpl) (by rw [sizeLine_eq]; decide), ?_, ?_⟩
      · intro C3 c tc s₃ m₃ hc F₃ hm₃
        have hc' : c.length ≤ 1000 := part_small hsp hpl hc
        have hS : Sx s₃.heap s₃.heap := Sx.refl _
        have hn := F₃.ns
        (rename News _ _ _ _ => lN)
        have hcell := F₃.keep _ _ (lN.get (List.Mem.tail _ (List.Mem.tail _ (List.Mem.tail _ (List.Mem.tail _ (List.Mem.tail _ (List.Mem.head _)))))))
        (try dsimp only)
        (with_reducible show wpAny _ _ _ _ _ _)
        k_fold
        repeat' (first | (k_unfold; (try dsimp only)) | walk1 | (dsimp only; walk1))
        all_goals first | exact tok_t (by assumption) (by assumption) | exact tok_f (by assumption) (by assumption) | exact tok_0 (by assumption)
      · intro D11 h11 tk11 n11 F11 N11 o11
        (try dsimp only)
        exact cend_new F11 N11 off ⟨Ne.symm o11.1, Ne.symm o11.2.1, Ne.symm o11.2.2.1⟩ sub5 (Or.inr ⟨_, List.Mem.head _, rfl, _, rfl⟩) (IB_next hsrc hmem2 hwt2 htx2 hp hsp hpl)
    · intro ys news hI
      obtain ⟨ents2, rest2, rfl, rfl, hsrc, hmem2, hwt2, htx2⟩ := hI
      intro D2 h12 tk12 F12 N12 o12
      have hlen : r.length + 1 ≤ ents.length := by
        have := congrArg List.length htx
        simp only [List.length_map, List.length_cons] at this
        omega
      clear lF lN hsrc hmem htx o12
      replace htx2 : ents2.map LEnt.tx = ((x0, t0) :: r).map fun p => compsF p.1 := by
        rw [List.take_of_length_le (by simpa [entRefs, strValues] using hlen)] at htx2; exact htx2
      obtain ⟨b, r2, rfl⟩ : ∃ b r2, ents2 = b :: r2 := by
        cases ents2 with
        | nil => cases htx2
        | cons b r2 => exact ⟨b, r2, rfl⟩
      have hb1 : b.tx = compsF x0 := by injection htx2
      have hb2 : r2.map LEnt.tx = (r.map (·.1)).map compsF := by
        injection htx2 with _ q
        rw [q]; simp
      (try dsimp only)
      repeat (first | (k_unfold; (try dsimp only)) | walk1 | (dsimp only; walk1) | (refine id ?_; k_unfold; (try dsimp only)))
      (rename News _ _ _ _ => lN)
      (rename Fr _ _ _ _ => lF)
      refine min_led (b := b) (r := r2) rfl (Nat.le_of_ble_eq_true rfl) lF lN (List.Mem.head _) (fun e h => List.Mem.tail _ (List.Mem.tail _ (List.Mem.tail _ (List.Mem.tail _ (List.Mem.tail _ (hmem2 e h)))))) hwt2 ?_
      intro h20 tk20 e1 hw1 he1 F20 N20
      clear lF lN
      obtain ⟨a1, p1, n1⟩ := e1
      change News s.heap L' h20 ((a1, listOf (strValues p1).toArray n1) :: _) at N20
      (try dsimp only)
      repeat (first | (k_unfold; (try dsimp only)) | walk1 | (dsimp only; walk1) | (refine id ?_; k_unfold; (try dsimp only)))
      (rename News _ _ _ _ => lN)
      (rename Fr _ _ _ _ => lF)
      refine max_led (b := b) (r := r2) rfl (Nat.le_of_ble_eq_true rfl) lF lN (List.Mem.tail _ (List.Mem.head _)) (fun e h => List.Mem.tail _ (List.Mem.tail _ (List.Mem.tail _ (List.Mem.tail _ (List.Mem.tail _ (List.Mem.tail _ (hmem2 e h))))))) hwt2 ?_
      intro h21 tk21 e2 hw2 he2 F21 N21
      clear lF lN
      obtain ⟨a2, p2, n2⟩ := e2
      have N22 : News s.heap L' h21 [(a2, listOf (strValues p2).toArray n2), (a1, listOf (strValues p1).toArray n1), (L' + 1 + 1, ocur), (L' + 1, osep)] := fun p hp => N21 p (by simp only [List.mem_cons, List.not_mem_nil, or_false] at hp; rcases hp with rfl | rfl | rfl | rfl; exact List.Mem.head _; exact List.Mem.tail _ (List.Mem.head _); exact List.Mem.tail _ (List.Mem.tail _ (List.Mem.tail _ (List.Mem.tail _ (List.Mem.tail _ (List.Mem.head _))))); exact List.Mem.tail _ (List.Mem.tail _ (List.Mem.tail _ (List.Mem.tail _ (List.Mem.tail _ (List.Mem.tail _ (List.Mem.head _)))))))
      clear N21
      (try dsimp only)
      repeat (first | (k_unfold; (try dsimp only)) | walk1 | (dsimp only; walk1) | (refine id ?_; k_unfold; (try dsimp only)))
      (rename News _ _ _ _ => lN)
      (rename Fr _ _ _ _ => lF)
      have q1 : p1.map (·.1) = _ := he1
      have q2 : p2.map (·.1) = _ := he2
      have hle : ltL (p2.map (·.1)) (p1.map (·.1)) = false := by
        rw [q1, q2]
        exact leL_trans (minFold_le _ _).1 (maxFold_le _ _).1
      have hQ' : ∀ (h' : Heap) (tk' : Nat) (v : Value), s.heap.StaysIn h' → (∃ t', v = Value.str (cpOut ab (cpre (p1.map (·.1)) (p2.map (·.1)))) t') → Q v (Shared.mk h' s.gens s.drawn tk' s.os) := fun h' tk' v st e => hQ v h' tk' st (by rw [q1, q2, hb1, hb2] at e; exact e)
      clear q1 q2 hb1 hb2 htx2 hmem2 hwt2
      have hz1 : ((p1.map (·.1)).map (·.length)).sum + p1.length ≤ 1001 := hw1
      have hz0 : p1.length ≤ 10000 := by omega
      have hz2 : p2.length ≤ 10000 := by
        have : ((p2.map (·.1)).map (·.length)).sum + p2.length ≤ 1001 := hw2
        omega
      refine it_enum_lst (vs := strValues p1) (JE p1 p2 _ _) rfl ⟨_, lN.get (List.Mem.tail _ (List.Mem.head _)), rfl, _, rfl⟩ (lN _ (List.Mem.tail _ (List.Mem.head _))).2.1 lF lN ⟨rfl, by simp, fun _ _ _ => rfl⟩ ?_ ?_
      · intro i v T' t' m₁ news₁ h₁ tk₁ own hv hT' hJ ha hoff F₁ N₁
        obtain ⟨rfl, hpre, hm⟩ := hJ
        have hlt : i < p1.length := by
          rcases Nat.lt_or_ge i p1.length with q | q
          · exact q
          · rw [List.getElem?_eq_none (by simpa [strValues] using q)] at hv; cases hv
        obtain ⟨⟨c, tc⟩, hc⟩ : ∃ q, p1[i]? = some q := ⟨p1[i], by simp [hlt]⟩
        have hv' : v = .str c tc := by
          have : (strValues p1)[i]? = some (.str c tc) := by simp [strValues, hc]
          rw [this] at hv; exact (Option.some.inj hv).symm
        subst hv'
        have hlt2 : i < p2.length := by
          have := ltL_short i (p1.map (·.1)) (p2.map (·.1)) hpre (by simpa using hlt) hle
          simpa using this
        obtain ⟨⟨y2, ty2⟩, hy2⟩ : ∃ q, p2[i]? = some q := ⟨p2[i], by simp [hlt2]⟩
        rw [two_form hm] at F₁
        generalize m₁ (Str.ofString "c") = u1 at F₁
        generalize m₁ (Str.ofString "i") = u2 at F₁
        dsimp only [List.cons_append, List.nil_append] at N₁
        clear hm ha lF lN he1 he2 hw1 hw2
        change Fr s.heap L' h₁ _ at F₁
        change News s.heap L' h₁ _ at N₁
        have hj := join_small (p := p1.take i) (Nat.le_trans (wt_take i p1) hz1)
        obtain ⟨hj1, hj2⟩ := hj
        repeat' (first | (k_unfold; (try dsimp only)) | walk1 | (dsimp only; walk1) | (dsimp only; refine TEnd_brk ?_; dsimp only) | (refine TEnd_brk ?_; dsimp only))
        all_goals first
          | exact hQ' _ _ _ (Fr.keep (by assumption)) (str_end (by rw [cpre_at hpre hc hy2 (by assumption), cpOut, if_pos (by assumption)]))
          | exact hQ' _ _ _ (Fr.keep (by assumption)) (str_end (by rw [cpre_at hpre hc hy2 (by assumption), cpOut, if_neg (by simp [*])]))
          | exact TEnd_next (by assumption) (by assumption) (fun p hp => List.Mem.tail _ (List.Mem.tail _ (List.Mem.tail _ (List.Mem.tail _ hp)))) (fun p hp => by simp only [List.mem_cons, List.not_mem_nil, or_false] at hp; rcases hp with rfl | rfl | rfl | rfl <;> k_mem) ⟨rfl, rfl, take_eq_succ hpre (map_get hc) (map_get_ne hy2 (by assumption)), (by intro z z1 z2; simp only [if_neg z1, if_neg z2])⟩
         
      · intro h9 tk9 m9 news9 hJ F9 N9
        obtain ⟨rfl, hpre, hm⟩ := hJ
        rw [two_form hm] at F9
        generalize m9 (Str.ofString "c") = u1 at F9
        generalize m9 (Str.ofString "i") = u2 at F9
        clear hm lF lN he1 he2 hw1 hw2
        change Fr s.heap L' h9 _ at F9
        change News s.heap L' h9 _ at N9
        have hj := join_small hz1
        obtain ⟨hj1, hj2⟩ := hj
        repeat' (first | (k_unfold; (try dsimp only)) | walk1 | (dsimp only; walk1))
        all_goals first
          | exact hQ' _ _ _ (Fr.keep (by assumption)) (str_end (by rw [cpre_done hpre, cpOut, if_pos (by assumption)]))
          | exact hQ' _ _ _ (Fr.keep (by assumption)) (str_end (by rw [cpre_done hpre, cpOut, if_neg (by simp [*])]))
         


end Mine
end
section
open PySem PySem.Spec PySem.Calls PySem.W PyProof.Rows
namespace Mine
set_option maxRecDepth 100000
noncomputable def intValues (l : List (Int × Tok)) : List Value := l.map fun p => .int p.1 p.2
theorem intValues_length (a : List (Int × Tok)) : (intValues a).length = a.length := by simp [intValues]
theorem intValues_snoc (a : List (Int × Tok)) (p : Int × Tok) : intValues (a ++ [p]) = intValues a ++ [.int p.1 p.2] := by simp [intValues]
theorem intValues_drop (a : List (Int × Tok)) (k : Nat) : (intValues a).drop k = intValues (a.drop k) := by simp [intValues, List.map_drop]
theorem intValues_take (a : List (Int × Tok)) (k : Nat) : (intValues a).take k = intValues (a.take k) := by simp [intValues, List.map_take]
theorem strValues_drop (a : List (Str × Tok)) (k : Nat) : (strValues a).drop k = strValues (a.drop k) := by simp [strValues, List.map_drop]
theorem strValues_take (a : List (Str × Tok)) (k : Nat) : (strValues a).take k = strValues (a.take k) := by simp [strValues, List.map_take]
theorem ints_of {vs : List Value} {ns : List Int} (h : IntsAre vs ns) : ∃ ps, vs = intValues ps ∧ ps.map (·.1) = ns := by
  induction h with
  | nil => exact ⟨[], rfl, rfl⟩
  | cons n t _ ih =>
    obtain ⟨ps, h1, h2⟩ := ih
    exact ⟨(n, t) :: ps, by rw [h1]; rfl, by rw [← h2]; rfl⟩
theorem of_ints : ∀ ps : List (Int × Tok), IntsAre (intValues ps) (ps.map (·.1))
  | [] => .nil
  | p :: r => .cons p.1 p.2 (of_ints r)
section
variable {prog : Program} {w : World} {A : Around} {E : Value → Shared → Prop} {s : Shared} {h₀ : Heap} {L l : Addr} {m : Str → Option Value} {news : List (Addr × Obj)} {value slice : PySem.Expr} {Q : Value → Shared → Prop}
theorem md2 {Q : Value → Shared → Prop} {a c : Int} {t u : Tok} (hc : 0 < c) (h : ∀ t' k, Q (.int (a % c) t') { s with toks := k }) : wpAny (model prog w) A (binaryOp .Mod (.int a t) (.int c u)) Q E s := by
  refine mod_int' (by omega) ?_
  rw [Int.fmod_eq_emod_of_nonneg _ (by omega)]; exact h _ _
theorem fd2 {Q : Value → Shared → Prop} {a c : Int} {t u : Tok} (hc : 0 < c ∧ c < 1000000) (h : ∀ t' k, Q (.int (a / c) t') { s with toks := k }) : wpAny (model prog w) A (binaryOp .FloorDiv (.int a t) (.int c u)) Q E s := by
  refine floordiv_int (by omega) ?_ (Or.inl (PyProof.noPylong_small (by omega)))
  rw [Int.fdiv_eq_ediv_of_nonneg _ (by omega)]; exact h _ _
theorem item_vs {vs : List Value} {v : Value} {i : Int} {u : Tok} (hl : s.heap.IsList l vs.toArray) (h0 : 0 ≤ i) (hv : vs[i.toNat]? = some v) (hz : vs.length ≤ 100000) (h : Q v s)
    (hs : subscripted slice false (.ref l) (.int i u) = operate [.ref l, .int i u] (getItem (.ref l) (.int i u)) := by with_unfolding_all rfl) :
    wpAny (model prog w) A (subscriptTail value slice (.ref l) (.int i u)) Q E s := by
  have hi : i.toNat < vs.length := by
    rcases Nat.lt_or_ge i.toNat vs.length with q | q
    · exact q
    · rw [List.getElem?_eq_none q] at hv; cases hv
  exact tail_any hl.typeIs slot_list_getitem.lookup (wpAny_getItem_list hl h0 (by omega) (by simpa using hv) h) hs
theorem last_int {a : List (Int × Tok)} {y : Int} {ty u : Tok} {D : Addr} {n : Nat} (N : News h₀ L s.heap news) (hm : (D, listOf (intValues (a ++ [(y, ty)])).toArray n) ∈ news) (hz : a.length < 1000000) (h : Q (.int y ty) s)
    (hs : subscripted slice false (.ref D) (.int (-1) u) = operate [.ref D, .int (-1) u] (getItem (.ref D) (.int (-1) u)) := by with_unfolding_all rfl) :
    wpAny (model prog w) A (subscriptTail value slice (.ref D) (.int (-1) u)) Q E s := by
  have hl : s.heap.IsList D (intValues (a ++ [(y, ty)])).toArray := ⟨_, N.get hm, rfl, _, rfl⟩
  refine tail_any hl.typeIs slot_list_getitem.lookup (wpAny_getItem_list_neg hl ?_ ?_ ?_ ?_ h) hs
  · decide
  · simp [intValues]; omega
  · decide
  · have e : (-1 + ((intValues (a ++ [(y, ty)])).toArray.size : Int)).toNat = a.length := by simp [intValues]; omega
    rw [e, intValues_snoc]
    simp [intValues]
theorem pick_from (l : List Value) {x : Int} (h0 : 0 ≤ x) : kms_pick l (some x) none = l.drop x.toNat := by
  unfold kms_pick kms_lo kms_hi
  simp only [if_neg (show ¬ x < 0 by omega)]
  rw [kmk_drop_min, List.take_of_length_le (by rw [List.length_drop]; omega)]
theorem pick_to (l : List Value) {y : Int} (h0 : 0 ≤ y) : kms_pick l none (some y) = l.take y.toNat := by
  unfold kms_pick kms_lo kms_hi
  simp only [if_neg (show ¬ y < 0 by omega), List.drop_zero, Nat.sub_zero]
  exact kmk_take_min l _
theorem pick_all (l : List Value) : kms_pick l none none = l := by
  unfold kms_pick kms_lo kms_hi
  simp
theorem pick_mid (l : List Value) {x y : Int} (h0 : 0 ≤ x) (h1 : 0 ≤ y) : kms_pick l (some x) (some y) = (l.drop x.toNat).take (y.toNat - x.toNat) := by
  unfold kms_pick kms_lo kms_hi
  simp only [if_neg (show ¬ x < 0 by omega), if_neg (show ¬ y < 0 by omega)]
  rw [kmk_drop_min]
  rcases Nat.le_total x.toNat l.length with h | h
  · rw [Nat.min_eq_left h]
    rcases Nat.le_total y.toNat l.length with h2 | h2
    · rw [Nat.min_eq_left h2]
    · rw [Nat.min_eq_right h2, List.take_of_length_le (by rw [List.length_drop]; omega), List.take_of_length_le (by rw [List.length_drop]; omega)]
  · rw [List.drop_of_length_le h]; simp
theorem slice_any {items : Array Value} {vl vu : Value} {lo hi : Option Int} (F : Fr h₀ L s.heap m) (N : News h₀ L s.heap news) (hl : s.heap.IsList l items) (pl : IsPart vl lo) (pu : IsPart vu hi)
    (h : ∀ h', Fr h₀ L h' m → News h₀ L h' ((s.heap.objs.size + 1, listOf (slicePick items lo hi none) 0) :: news) → Q (.ref (s.heap.objs.size + 1)) { s with heap := h' })
    (hs : subscripted slice false (.ref l) (.ref s.heap.objs.size) = operate [.ref s.heap.objs.size, .ref l] (getItem (.ref l) (.ref s.heap.objs.size))) (hsz : items.size ≤ sizeLine) :
    wpAny (model prog w) A (subscriptTail value slice (.ref l) (.ref s.heap.objs.size)) Q E { s with heap := s.heap.push { cls := .type "slice", data := .fields #[vl, vu, .none] } } := by
  refine tail_any (Heap.IsList.typeIs (s := { s with heap := s.heap.push { cls := .type "slice", data := .fields #[vl, vu, .none] } }) (hl.push _)) list_getitem_lookup
    (wpAny_getItem_list_slice (hl.push _) (Heap.IsSliceOf.new ..) pl pu .none (by simp) ?_ hsz) hs
  have N1 := News.push (F.push { cls := .type "slice", data := .fields #[vl, vu, .none] }) (N.grown fun _ _ e => Heap.get?_push_of_some _ e) { cls := .type "list", data := .seq (slicePick items lo hi none) }
  rw [Heap.size_push] at N1
  show Q (.ref (s.heap.push _).objs.size) _
  rw [Heap.size_push]
  exact h _ ((F.push _).push _) N1
theorem slice_led {vs zs : List Value} {vl vu : Value} {lo hi : Option Int} (F : Fr h₀ L s.heap m) (N : News h₀ L s.heap news) (hl : s.heap.IsList l vs.toArray) (pl : IsPart vl lo) (pu : IsPart vu hi) (e : kms_pick vs lo hi = zs) (hz : vs.length ≤ 100000)
    (h : ∀ D h', Fr h₀ L h' m → News h₀ L h' ((D, listOf zs.toArray 0) :: news) → (∀ p ∈ news, p.1 < D) → Q (.ref D) { s with heap := h' })
    (hs : subscripted slice false (.ref l) (.ref s.heap.objs.size) = operate [.ref s.heap.objs.size, .ref l] (getItem (.ref l) (.ref s.heap.objs.size)) := by with_unfolding_all rfl) :
    wpAny (model prog w) A (subscriptTail value slice (.ref l) (.ref s.heap.objs.size)) Q E { s with heap := s.heap.push { cls := .type "slice", data := .fields #[vl, vu, .none] } } :=
  slice_any F N hl pl pu (fun h' F' N' => h _ h' F' (by rw [← e]; rw [kms_pick_eq] at N'; exact N') fun p hp => Nat.lt_succ_of_lt (Heap.lt_size (N p hp).1)) hs (by rw [List.size_toArray, sizeLine_eq]; omega)
theorem sl_from_L {vs : List Value} {n : Nat} {x : Int} {tx : Tok} (F : Fr h₀ L s.heap m) (N : News h₀ L s.heap news) (hm : (l, listOf vs.toArray n) ∈ news) (hz : vs.length ≤ 100000) (h0 : 0 ≤ x)
    (h : ∀ D h', Fr h₀ L h' m → News h₀ L h' ((D, listOf (vs.drop x.toNat).toArray 0) :: news) → (∀ p ∈ news, p.1 < D) → Q (.ref D) { s with heap := h' })
    (hs : subscripted slice false (.ref l) (.ref s.heap.objs.size) = operate [.ref s.heap.objs.size, .ref l] (getItem (.ref l) (.ref s.heap.objs.size)) := by with_unfolding_all rfl)
    : wpAny (model prog w) A (subscriptTail value slice (.ref l) (.ref s.heap.objs.size)) Q E { s with heap := s.heap.push { cls := .type "slice", data := .fields #[.int x tx, .none, .none] } } :=
  slice_led F N ⟨_, N.get hm, rfl, _, rfl⟩ (.int _ _) .none (pick_from _ h0) hz h hs
theorem sl_from_O {vs : List Value} {x : Int} {tx : Tok} (F : Fr h₀ L s.heap m) (N : News h₀ L s.heap news) (hl : s.heap.IsList l vs.toArray) (hz : vs.length ≤ 100000) (h0 : 0 ≤ x)
    (h : ∀ D h', Fr h₀ L h' m → News h₀ L h' ((D, listOf (vs.drop x.toNat).toArray 0) :: news) → (∀ p ∈ news, p.1 < D) → Q (.ref D) { s with heap := h' })
    (hs : subscripted slice false (.ref l) (.ref s.heap.objs.size) = operate [.ref s.heap.objs.size, .ref l] (getItem (.ref l) (.ref s.heap.objs.size)) := by with_unfolding_all rfl)
    : wpAny (model prog w) A (subscriptTail value slice (.ref l) (.ref s.heap.objs.size)) Q E { s with heap := s.heap.push { cls := .type "slice", data := .fields #[.int x tx, .none, .none] } } :=
  slice_led F N hl (.int _ _) .none (pick_from _ h0) hz h hs
theorem sl_to_L {vs : List Value} {n : Nat} {y : Int} {ty : Tok} (F : Fr h₀ L s.heap m) (N : News h₀ L s.heap news) (hm : (l, listOf vs.toArray n) ∈ news) (hz : vs.length ≤ 100000) (h0 : 0 ≤ y)
    (h : ∀ D h', Fr h₀ L h' m → News h₀ L h' ((D, listOf (vs.take y.toNat).toArray 0) :: news) → (∀ p ∈ news, p.1 < D) → Q (.ref D) { s with heap := h' })
    (hs : subscripted slice false (.ref l) (.ref s.heap.objs.size) = operate [.ref s.heap.objs.size, .ref l] (getItem (.ref l) (.ref s.heap.objs.size)) := by with_unfolding_all rfl)
    : wpAny (model prog w) A (subscriptTail value slice (.ref l) (.ref s.heap.objs.size)) Q E { s with heap := s.heap.push { cls := .type "slice", data := .fields #[.none, .int y ty, .none] } } :=
  slice_led F N ⟨_, N.get hm, rfl, _, rfl⟩ .none (.int _ _) (pick_to _ h0) hz h hs
theorem sl_to_O {vs : List Value} {y : Int} {ty : Tok} (F : Fr h₀ L s.heap m) (N : News h₀ L s.heap news) (hl : s.heap.IsList l vs.toArray) (hz : vs.length ≤ 100000) (h0 : 0 ≤ y)
    (h : ∀ D h', Fr h₀ L h' m → News h₀ L h' ((D, listOf (vs.take y.toNat).toArray 0) :: news) → (∀ p ∈ news, p.1 < D) → Q (.ref D) { s with heap := h' })
    (hs : subscripted slice false (.ref l) (.ref s.heap.objs.size) = operate [.ref s.heap.objs.size, .ref l] (getItem (.ref l) (.ref s.heap.objs.size)) := by with_unfolding_all rfl)
    : wpAny (model prog w) A (subscriptTail value slice (.ref l) (.ref s.heap.objs.size)) Q E { s with heap := s.heap.push { cls := .type "slice", data := .fields #[.none, .int y ty, .none] } } :=
  slice_led F N hl .none (.int _ _) (pick_to _ h0) hz h hs
theorem sl_mid_L {vs : List Value} {n : Nat} {x y : Int} {tx ty : Tok} (F : Fr h₀ L s.heap m) (N : News h₀ L s.heap news) (hm : (l, listOf vs.toArray n) ∈ news) (hz : vs.length ≤ 100000) (h0 : 0 ≤ x) (h1 : 0 ≤ y)
    (h : ∀ D h', Fr h₀ L h' m → News h₀ L h' ((D, listOf ((vs.drop x.toNat).take (y.toNat - x.toNat)).toArray 0) :: news) → (∀ p ∈ news, p.1 < D) → Q (.ref D) { s with heap := h' })
    (hs : subscripted slice false (.ref l) (.ref s.heap.objs.size) = operate [.ref s.heap.objs.size, .ref l] (getItem (.ref l) (.ref s.heap.objs.size)) := by with_unfolding_all rfl)
    : wpAny (model prog w) A (subscriptTail value slice (.ref l) (.ref s.heap.objs.size)) Q E { s with heap := s.heap.push { cls := .type "slice", data := .fields #[.int x tx, .int y ty, .none] } } :=
  slice_led F N ⟨_, N.get hm, rfl, _, rfl⟩ (.int _ _) (.int _ _) (pick_mid _ h0 h1) hz h hs
theorem sl_all_O {vs : List Value}  (F : Fr h₀ L s.heap m) (N : News h₀ L s.heap news) (hl : s.heap.IsList l vs.toArray) (hz : vs.length ≤ 100000)
    (h : ∀ D h', Fr h₀ L h' m → News h₀ L h' ((D, listOf (vs).toArray 0) :: news) → (∀ p ∈ news, p.1 < D) → Q (.ref D) { s with heap := h' })
    (hs : subscripted slice false (.ref l) (.ref s.heap.objs.size) = operate [.ref s.heap.objs.size, .ref l] (getItem (.ref l) (.ref s.heap.objs.size)) := by with_unfolding_all rfl)
    : wpAny (model prog w) A (subscriptTail value slice (.ref l) (.ref s.heap.objs.size)) Q E { s with heap := s.heap.push { cls := .type "slice", data := .fields #[.none, .none, .none] } } :=
  slice_led F N hl .none .none (pick_all _) hz h hs
end
end Mine
end
section
open PySem PySem.Spec PySem.Calls PySem.W PyProof.Rows
namespace Mine
set_option maxRecDepth 100000
open PyProof.Rows.LCg
/-- the end of an element that makes no object that is kept -/
theorem cend_same {h₀ : Heap} {L I C D : Addr} {m : Str → Option Value} {s₁ : Shared} {oI oC oD : Obj} {S : List (Addr × Obj) → Prop} {rest' : Value → List (Addr × Obj) → Prop} {y : Value} {h' : Heap} {tk : Nat} {news led : List (Addr × Obj)}
    (F : Fr h₀ L h' m) (N : News h₀ L h' led) (sub : ∀ p ∈ (I, oI) :: (C, oC) :: (D, oD) :: news, p ∈ led) (off : Off3 I C D news) (hS : S news) (r : rest' y news) :
    CompEnd h₀ L m s₁ I oI C oC D oD S rest' y { s₁ with heap := h', toks := tk } := CompEnd.intro F N news sub off hS r
noncomputable def IS (f : Nat → Str) (news₀ : List (Addr × Obj)) (i : Nat) (ys : List Value) (news : List (Addr × Obj)) : Prop :=
  news = news₀ ∧ ∃ ps, ys = strValues ps ∧ ps.map (·.1) = (List.range i).map f
theorem IS_next {f : Nat → Str} {news₀ : List (Addr × Obj)} {i : Nat} {ps : List (Str × Tok)} {x : Str} {t : Tok} (h : ps.map (·.1) = (List.range i).map f) (hx : x = f i) : IS f news₀ (i + 1) (strValues ps ++ [.str x t]) news₀ :=
  ⟨rfl, ps ++ [(x, t)], by simp [strValues], by rw [List.map_append, h, List.range_succ, List.map_append, hx]; rfl⟩
noncomputable def II (f : Nat → Int) (news₀ : List (Addr × Obj)) (i : Nat) (ys : List Value) (news : List (Addr × Obj)) : Prop :=
  news = news₀ ∧ ∃ ps, ys = intValues ps ∧ ps.map (·.1) = (List.range i).map f
theorem II_next {f : Nat → Int} {news₀ : List (Addr × Obj)} {i : Nat} {ps : List (Int × Tok)} {x : Int} {t : Tok} (h : ps.map (·.1) = (List.range i).map f) (hx : x = f i) : II f news₀ (i + 1) (intValues ps ++ [.int x t]) news₀ :=
  ⟨rfl, ps ++ [(x, t)], by simp [intValues], by rw [List.map_append, h, List.range_succ, List.map_append, hx]; rfl⟩
/-- the walk stops here -/
noncomputable def Hold (P : Prop) : Prop := P
theorem hold {P : Prop} (h : Hold P) : P := h
theorem unhold {P : Prop} (h : P) : Hold P := h
noncomputable def szs : List Int := [4096, 512, 64, 8, 1]
theorem szs_fact : ∀ {i : Nat} {a b c d e : Tok} {v : Value}, [Value.int 4096 a, .int 512 b, .int 64 c, .int 8 d, .int 1 e][i]? = some v → ∃ z t, v = .int z t ∧ 0 < z ∧ z < 1000000 ∧ z = szs.getD i 0 ∧ (z = 4096 ∨ z = 512 ∨ z = 64 ∨ z = 8 ∨ z = 1)
  | 0, _, _, _, _, _, _, h => ⟨4096, _, (Option.some.inj h).symm, by decide, by decide, rfl, by decide⟩
  | 1, _, _, _, _, _, _, h => ⟨512, _, (Option.some.inj h).symm, by decide, by decide, rfl, by decide⟩
  | 2, _, _, _, _, _, _, h => ⟨64, _, (Option.some.inj h).symm, by decide, by decide, rfl, by decide⟩
  | 3, _, _, _, _, _, _, h => ⟨8, _, (Option.some.inj h).symm, by decide, by decide, rfl, by decide⟩
  | 4, _, _, _, _, _, _, h => ⟨1, _, (Option.some.inj h).symm, by decide, by decide, rfl, by decide⟩
  | _ + 5, _, _, _, _, _, _, h => by cases h
theorem str5 {ps : List (Str × Tok)} {a b c d e : Str} (h : ps.map (·.1) = [a, b, c, d, e]) : ∃ ta tb tc td te, ps = [(a, ta), (b, tb), (c, tc), (d, td), (e, te)] := by
  match ps, h with
  | [p, q, r, s, t], h =>
    simp only [List.map_cons, List.map_nil, List.cons.injEq, and_true] at h
    obtain ⟨rfl, rfl, rfl, rfl, rfl⟩ := h
    exact ⟨p.2, q.2, r.2, s.2, t.2, rfl⟩
  | [], h => cases h
  | [_], h => cases h
  | [_, _], h => cases h
  | [_, _, _], h => cases h
  | [_, _, _, _], h => cases h
  | _ :: _ :: _ :: _ :: _ :: _ :: _, h => cases h
end Mine
end
section
open PySem PySem.Spec PySem.Calls PySem.W PyProof.Rows
namespace Mine
set_option maxRecDepth 100000
open PyProof.Rows.LCg
theorem canLayAllS : ∀ ns : List Str, (∀ x ∈ ns, PyData.strOk x = true) → PyData.canLayAll0 (ns.map PyData.str) = true
  | [], _ => rfl
  | x :: r, h => by simp [PyData.canLayAll0, PyData.canLay0, canLayAllS r (fun z hz => h z (List.Mem.tail _ hz)), h x (List.Mem.head _)]
theorem depthAllS : ∀ ns : List Str, PyData.depthAll (ns.map PyData.str) = 0
  | [] => rfl
  | _ :: r => by simp [PyData.depthAll, PyData.depth, depthAllS r]
theorem shapedS (ns : List Str) (h : ∀ x ∈ ns, PyData.strOk x = true) : SeqAt.shaped (.list (ns.map PyData.str)) = true := by
  simp [SeqAt.shaped, PyData.canLay0, PyData.depth, canLayAllS ns h, depthAllS]
/-- every sign is a sign -/
noncomputable def OkP (p : List (Str × Tok)) : Prop := ∀ x ∈ p.map (·.1), PyData.strOk x = true
theorem sameAllS : ∀ ns ms : List Str, PySem.Spec.sameAll (ns.map PyData.str) (ms.map PyData.str) = decide (ns = ms)
  | [], [] => by simp [PySem.Spec.sameAll]
  | [], _ :: _ => by simp [PySem.Spec.sameAll]
  | _ :: _, [] => by simp [PySem.Spec.sameAll]
  | a :: r, b :: t => by
    simp only [List.map_cons, PySem.Spec.sameAll, PySem.Spec.same, sameAllS r t]
    by_cases h : a = b <;> by_cases h' : r = t <;> simp [h, h']
theorem sameS (ns ms : List Str) : PySem.Spec.same (.list (ns.map PyData.str)) (.list (ms.map PyData.str)) = decide (ns = ms) := by
  simp only [PySem.Spec.same]; exact sameAllS ns ms
theorem carriedS : ∀ ps : List (Str × Tok), CarriedAll (strValues ps) ((ps.map (·.1)).map PyData.str)
  | [] => .nil
  | p :: r => .cons (.str _ p.2) (carriedS r)
section
variable {prog : Program} {w : World} {A : Around} {E : Value → Shared → Prop} {s : Shared} {a b : Addr} {p q : List (Str × Tok)} {Q : Value → Shared → Prop}
theorem eq_strs (hp : OkP p) (hq : OkP q) (ha : s.heap.IsList a (strValues p).toArray) (hb : s.heap.IsList b (strValues q).toArray) (hu : A.units + 64 < cLine) (h : Q (.bool (decide (p.map (·.1) = q.map (·.1)))) s) :
    wpAny (model prog w) A (compareOp .Eq (.ref a) (.ref b)) Q E s :=
  eq_dataH_same (reads_newData ha (carriedS p)) (reads_newData hb (carriedS q)) (shapedS _ hp) (shapedS _ hq) hu (SeqAt.noMix_of_shape (.list .str) rfl _ _ (list_map_has fun _ => rfl) (list_map_has fun _ => rfl)) (by rw [sameS]; exact h)
theorem ne_strs (hp : OkP p) (hq : OkP q) (ha : s.heap.IsList a (strValues p).toArray) (hb : s.heap.IsList b (strValues q).toArray) (hu : A.units + 64 < cLine) (h : Q (.bool (!decide (p.map (·.1) = q.map (·.1)))) s) :
    wpAny (model prog w) A (compareOp .NotEq (.ref a) (.ref b)) Q E s :=
  ne_dataH_same (reads_newData ha (carriedS p)) (reads_newData hb (carriedS q)) (shapedS _ hp) (shapedS _ hq) hu (SeqAt.noMix_of_shape (.list .str) rfl _ _ (list_map_has fun _ => rfl) (list_map_has fun _ => rfl)) (by rw [sameS]; exact h)
end
theorem rep_one (p : Str × Tok) : ∀ n : Nat, (List.replicate n [Value.str p.1 p.2]).flatten = strValues (List.replicate n p)
  | 0 => rfl
  | n + 1 => by
    rw [List.replicate_succ, List.flatten_cons, rep_one p n, List.replicate_succ]; rfl
section
variable {prog : Program} {w : World} {A : Around} {E : Value → Shared → Prop} {s : Shared} {h₀ : Heap} {L l : Addr} {m : Str → Option Value} {news : List (Addr × Obj)} {Q : Value → Shared → Prop}
theorem mul_one {y : Str} {ty u : Tok} {x : Int} {n : Nat} (F : Fr h₀ L s.heap m) (N : News h₀ L s.heap news) (hm : (l, listOf #[.str y ty] n) ∈ news) (h0 : 0 ≤ x) (h1 : x ≤ 100)
    (h : ∀ D h', Fr h₀ L h' m → News h₀ L h' ((D, listOf (strValues (List.replicate x.toNat (y, ty))).toArray 0) :: news) → (∀ p ∈ news, p.1 < D) → Q (.ref D) { s with heap := h' }) : wpAny (model prog w) A (binaryOp .Mult (.ref l) (.int x u)) Q E s := by
  refine KMa.mul (vs := [.str y ty]) F N ⟨_, N.get hm, rfl, _, rfl⟩ (by omega) (by omega) (by simp; omega) (rep_one (y, ty) x.toNat) h
theorem len_vs {vs : List Value} (hl : s.heap.IsList l vs.toArray) (hz : vs.length ≤ 100000) (h : ∀ t tk, Q (.int (vs.length : Nat) t) { s with toks := tk }) : wpAny (model prog w) A (call (.builtin "len") [.ref l]) Q E s := by
  refine len_list hl (by rw [List.size_toArray]; omega) ?_
  rw [List.size_toArray]; exact h _ _
end
noncomputable def intQ (q : Int → Bool) : Value → Bool
  | .int c _ => q c
  | _ => false
theorem filter_ints (q : Int → Bool) : ∀ ps : List (Int × Tok), (intValues ps).filter (intQ q) = intValues (ps.filter fun p => q p.1)
  | [] => rfl
  | p :: r => by
    have ih := filter_ints q r
    show (Value.int p.1 p.2 :: intValues r).filter (intQ q) = _
    cases h : q p.1 with
    | true => rw [List.filter_cons_of_pos (by exact h), List.filter_cons_of_pos (by exact h), ih]; rfl
    | false => rw [List.filter_cons_of_neg (by show ¬ q p.1 = true; simp [h]), List.filter_cons_of_neg (by simp [h]), ih]
theorem iv_get (a : List (Int × Tok)) (i : Nat) : (intValues a).toArray[i]? = (a[i]?).map fun p => Value.int p.1 p.2 := by simp [intValues]
noncomputable def KOk (b : Bool) (s₃ : Shared) (ok : Bool) (s₄ : Shared) : Prop := ok = b ∧ Keeps s₃ s₄
theorem KOk.intro {b ok : Bool} {s₃ : Shared} {k : Nat} (h : ok = b) : KOk b s₃ ok { s₃ with toks := k } := ⟨h, s₃.heap, k, rfl, fun _ _ e => e⟩
section
variable {prog : Program} {w : World} {A : Around} {E : Value → Shared → Prop} {s : Shared} {env : Env} {h₀ : Heap} {L : Addr} {m : Str → Option Value}
noncomputable def SrcI (prog : Program) (w : World) (A : Around) (h₀ : Heap) (L : Addr) (m : Str → Option Value) (env : Env) (test : PySem.Expr) (x : Str) (scope : Scope) (cl : List (Str × Addr)) (q : Int → Bool) (Q : Value → Shared → Prop) (xv : Value) (s₁ : Shared) : Prop :=
  ∃ l news ps, xv = .ref l ∧ A.handled = none ∧ Fr h₀ L s₁.heap m ∧ News h₀ L s₁.heap news ∧ (l, tupObj (intValues ps)) ∈ news ∧ ps.length ≤ sizeLine ∧
      (∀ C c tc s₃ m₃, (c, tc) ∈ ps → Fr s₁.heap C s₃.heap m₃ → m₃ x = some (.int c tc) → wpAny (model prog w) A (isTrue test (compEnvC scope cl C env) (eval test (compEnvC scope cl C env))) (KOk (q c) s₃) NoE s₃) ∧
      (∀ D h' tk n', Fr h₀ L h' m → News h₀ L h' ((D, listOf (intValues (ps.filter fun p => q p.1)).toArray n') :: news) → Off1 D news → Q (.ref D) { s₁ with heap := h', toks := tk })
theorem ListComp_filterI {iter test : PySem.Expr} {x : Str} {px pe : Pos} {scope : Scope} {cl : List (Str × Addr)} {pos : Pos} {Q : Value → Shared → Prop} (F₀ : Fr h₀ L s.heap m) (q : Int → Bool) (hd : (x == ("__debug__" : Str)) = false)
    (hclos : closureFor scope env = pure cl) (hcell : ∀ y ∈ scope.names, y.2 ≠ .cell) (hkind : scope.kind = .function)
    (hnames : ∀ y ∈ scope.names, y.2 = .local → scope.names.lookup y.1 = some .local) (hx : scope.names.lookup x = some .local)
    (h : wpAny (model prog w) A (eval iter env) (SrcI prog w A h₀ L m env test x scope cl q Q) E s)
    (hs : ∀ x, foldedSetIterable iter env x = pure x := by intro _; rfl) :
    wpAny (model prog w) A (eval (.ListComp (.Name x pe) [⟨.Name x px, iter, [test], 0⟩] scope pos) env) Q E s := by
  refine wpAny_ListComp_free (intQ q) (fun v y => y = v) hclos hcell hkind hnames hx (wpAny_mono h (fun xv s₁ h₁ => ?_) fun _ _ e => e) hs
  obtain ⟨l, news, ps, rfl, hh, F, N, hm, hsz, ht, hQ⟩ := h₁
  have hl : s₁.heap.IsTuple l (intValues ps).toArray := ⟨_, (N _ hm).1, rfl, _, rfl⟩
  have hlt : l < s₁.heap.objs.size := Heap.lt_size (N _ hm).1
  have hxk : ∀ C, (compEnvC scope cl C env).kindOf x = some .local := fun C => lookup_relabel_local hx
  refine wpAny_pyIter_tuple hl ?_
  have W := Walks.tuple (prog := prog) (w := w) hh s₁.heap.objs.size l (Nat.ne_of_lt hlt) (intValues ps).toArray
  have ele : Ele prog w A env scope cl x [test] (.Name x pe) (fun i v => (intValues ps).toArray[i]? = some v) (intQ q) (fun v y => y = v) s₁.heap := by
    refine ⟨fun C i v s₃ m₃ hv F₃ hm₃ => ?_, fun C i v s₃ m₃ hv hp F₃ hm₃ => ?_⟩
    · rw [iv_get] at hv
      obtain ⟨p, hp, rfl⟩ := Option.map_eq_some_iff.mp hv
      exact tests_one (ht C p.1 p.2 s₃ m₃ (List.mem_of_getElem? hp) F₃ hm₃)
    · exact wpAny_Name (wpAny_loadName_local hkind (hxk C) F₃.ns hm₃ ⟨rfl, keeps_refl s₃⟩) hd
  have up : ∀ b o, s₁.heap.get? b = some o → (s₁.heap.push { cls := .type "tuple_iterator", data := .fields #[.ref l, .int 0 0] }).get? b = some o := fun b o e => Heap.get?_push_of_some _ e
  refine ⟨_, _, _, _, _, _, rfl, W, by rw [List.size_toArray, intValues_length]; exact hsz, ⟨⟨_, Heap.get?_push_size _ rfl, rfl, rfl⟩, hl.push _⟩, ?_, ele.quiet rfl, ?_⟩
  · intro b hb
    show b < (s₁.heap.push _).objs.size
    rw [Heap.size_push]
    rcases List.mem_cons.mp hb with rfl | hb
    · exact Nat.lt_succ_self _
    · rw [List.mem_singleton.mp hb]; exact Nat.lt_succ_of_lt hlt
  · intro D h' tk ys vs hD _ hpl hlen hP hF hk
    have e : vs = intValues ps := vs_eq (by simpa using hlen) (fun j v hj => by simpa using hP j v hj)
    rw [e, filter_ints] at hF
    have e2 := paired_eq hF
    have hI : ∀ b o, s₁.heap.get? b = some o → b ∉ [s₁.heap.objs.size] := fun b o e z => Nat.lt_irrefl _ ((List.mem_singleton.mp z) ▸ Heap.lt_size e)
    have k : ∀ b o, s₁.heap.get? b = some o → h'.get? b = some o := fun b o e => hk b o (hI b o e) (up b o e)
    obtain ⟨n', hn'⟩ := hpl
    have hnew : s₁.heap.get? D = none := by
      cases e : s₁.heap.get? D with
      | none => rfl
      | some o' => rw [up _ _ e] at hD; cases hD
    have hne : ∀ p ∈ news, p.1 ≠ D := fun p hp e => by have := (N p hp).1; rw [e, hnew] at this; cases this
    refine hQ D h' tk n' (F.keeps k) (fun p hp => ?_) (off1_of hne)
    rcases List.mem_cons.mp hp with rfl | hp
    · refine ⟨?_, ?_, ?_⟩
      · show h'.get? D = some (listOf (intValues _).toArray n')
        rw [← e2]; exact hn'
      · rintro rfl
        obtain ⟨_, _, _, e, _⟩ := F.ns
        rw [hnew] at e; cases e
      · cases e : h₀.get? D with
        | none => rfl
        | some o' => rw [F.keep _ _ e] at hnew; cases hnew
    · exact ⟨k _ _ (N p hp).1, (N p hp).2⟩
end
/-- how deep the modes of a row go together: by signs and quotients -/
noncomputable def sgc (m : Int) : Str := Txt.item (Str.ofString "?pc?d?b?-?l?s???") (m / 4096)
noncomputable def DeepIs (ns : List Int) (k : Nat) : Prop :=
  (¬ (ns.map sgc = List.replicate ns.length (sgc (ns.headD 0))) ∧ k = 0) ∨
  (ns.map sgc = List.replicate ns.length (sgc (ns.headD 0)) ∧ ∃ lo hi, lo ∈ ns.map (· % 4096) ∧ (∀ a ∈ ns.map (· % 4096), lo ≤ a) ∧ hi ∈ ns.map (· % 4096) ∧ (∀ a ∈ ns.map (· % 4096), a ≤ hi) ∧ k = (szs.filter fun z => lo / z == hi / z).length)
end Mine
end
section
open PySem PySem.Spec PySem.Calls PySem.W PyProof.Rows
namespace Mine
set_option maxRecDepth 100000
theorem news_add {h₀ h h' : Heap} {L D : Addr} {m : Str → Option Value} {news : List (Addr × Obj)} {o : Obj} (F : Fr h₀ L h m) (N' : News h₀ L h' news) (hD : h'.get? D = some o) (hf : h.get? D = none) : News h₀ L h' ((D, o) :: news) := by
  intro p hp
  rcases List.mem_cons.mp hp with rfl | hp
  · refine ⟨hD, ?_, ?_⟩
    · rintro rfl
      obtain ⟨_, _, _, e, _⟩ := F.ns
      rw [hf] at e; cases e
    · cases e : h₀.get? D with
      | none => rfl
      | some o' => rw [F.keep _ _ e] at hf; cases hf
  · exact N' p hp
theorem range_size (a b : Int) (h0 : a ≤ b) : Builtin.Range.rangeSize a b 1 = ((b - a).toNat : Int) := rangeSize_nat a b
theorem range_small {a b : Int} (h0 : 0 ≤ a) (h1 : a ≤ 1000) (h2 : 0 ≤ b) (h3 : b ≤ 1000) : Builtin.Range.small a b 1 = true := by
  unfold Builtin.Range.small
  rw [rangeSize_nat]
  simp [Builtin.Range.rangeFitsLong]
  omega
section
variable {prog : Program} {w : World} {A : Around} {s : Shared} {env : Env} {h₀ : Heap} {x : Str} {px : Pos} {body orelse : List Stmt} {Q : Flow → Shared → Prop}
/-- a for loop over a range by ones, by what holds between its turns -/
theorem it_range {r : Addr} {a b : Int} {t u v : Tok} {n : Nat} {m : Str → Option Value} {news : List (Addr × Obj)} (J : Nat → (Str → Option Value) → List (Addr × Obj) → Prop) (hh : A.handled = none)
    (hr : IsRange s.heap r a b 1 t u v) (hsm : Builtin.Range.small a b 1 = true) (hn : Builtin.Range.rangeSize a b 1 = ((n : Nat) : Int)) (F : Fr h₀ env.locals s.heap m) (N : News h₀ env.locals s.heap news) (h0 : J 0 m news)
    (step : ∀ i t m₁ news₁ h₁ tk₁ own, i < n → J i m₁ news₁ → news₁.map (·.1) = news.map (·.1) → (∀ p ∈ own, p.1 ∉ news.map (·.1)) → Fr h₀ env.locals h₁ m₁ → News h₀ env.locals h₁ (news₁ ++ own) →
      wpAny (model prog w) A (assign (.Name x px) env (.int (a + (i : Nat)) t)) (fun _ s₂ => wpAny (model prog w) A (execs body env) (TEnd s h₀ env.locals own (fun m' nx => nx.map (·.1) = news.map (·.1) ∧ J (i + 1) m' nx) Q) NoE s₂) NoE { s with heap := h₁, toks := tk₁ })
    (done : ∀ h tk m' news', J n m' news' → Fr h₀ env.locals h m' → News h₀ env.locals h news' → wpAny (model prog w) A (execs orelse env) Q NoE { s with heap := h, toks := tk }) :
    wpAny (model prog w) A (pyIter (.ref r)) (fun it s₂ => codeAny (model prog w) A (.forLoop (.Name x px) it body orelse env) (fun r s' => match r with | .ok f => Q f s' | .error e => cameBackBy (model prog w) A env NoE e s') s₂) NoE s := by
  refine wpAny_pyIter_range hr hsm ?_
  have W : KTurns prog w A (.Name x px) s.heap.objs.size _ _ _ _ _ _ := KTurns.ofWalks (LCg.range_walks (I := s.heap.objs.size) hh a n) fun i v s Q E st q => (by unfold letOwnedTupleGo; exact wpAny_pure q)
  refine for_J (s := { s with heap := _ }) (n := n) W ?_ (fun b hb => ?_) (fun p hp hI => ?_) (by show IsRangeIter _ _ _ _ _; rw [hn]; simpa using Heap.get?_push_size _ rfl) (F.push _) (fun p hp => ⟨Heap.get?_push_of_some _ (N p hp).1, (N p hp).2⟩) J h0 ?_ done
  · intro hI
    rw [List.mem_singleton] at hI
    exact absurd F.ns.lt (hI ▸ Nat.lt_irrefl _)
  · rw [List.mem_singleton.mp hb]; exact next_is_new F
  · exact absurd (Heap.lt_size (N p hp).1) ((List.mem_singleton.mp hI) ▸ Nat.lt_irrefl _)
  · rintro i v m₁ news₁ h₁ tk₁ own hi ⟨t, rfl⟩ hJ ha hown F₁ N₁
    refine step i t m₁ news₁ h₁ tk₁ own hi hJ ha (fun p hp hq => ?_) F₁ N₁
    obtain ⟨q, hq, e'⟩ := List.mem_map.mp hq
    exact absurd (Heap.lt_size (N q hq).1) (by rw [e', List.mem_singleton.mp (hown p hp)]; exact Nat.lt_irrefl _)
end
end Mine
end
section
open PySem PySem.Spec PySem.Calls PySem.W PyProof.Rows
namespace Mine
set_option maxRecDepth 100000
open PyProof.Rows.LCg
/-- the end of an element in a comprehension whose own variable is a cell -/
noncomputable def CEnd (h₀ : Heap) (L : Addr) (m : Str → Option Value) (s₁ : Shared) (I : Addr) (oI : Obj) (C : Addr) (oC : Obj) (X : Addr) (oX : Obj) (D : Addr) (oD : Obj) (S : List (Addr × Obj) → Prop) (rest : Value → List (Addr × Obj) → Prop) (y : Value) (s₂ : Shared) : Prop :=
  ∃ h' tk news', s₂ = { s₁ with heap := h', toks := tk } ∧ Fr h₀ L h' m ∧ News h₀ L h' ((I, oI) :: (C, oC) :: (X, oX) :: (D, oD) :: news') ∧ (∀ p ∈ news', p.1 ≠ I ∧ p.1 ≠ C ∧ p.1 ≠ X ∧ p.1 ≠ D) ∧ S news' ∧ rest y news'
theorem CEnd.intro {h₀ : Heap} {L I C X D : Addr} {m : Str → Option Value} {s₁ : Shared} {oI oC oX oD : Obj} {S : List (Addr × Obj) → Prop} {rest : Value → List (Addr × Obj) → Prop} {y : Value} {h' : Heap} {tk : Nat} {all : List (Addr × Obj)}
    (F : Fr h₀ L h' m) (N : News h₀ L h' all) (news' : List (Addr × Obj)) (sub : ∀ p ∈ (I, oI) :: (C, oC) :: (X, oX) :: (D, oD) :: news', p ∈ all) (off : ∀ p ∈ news', p.1 ≠ I ∧ p.1 ≠ C ∧ p.1 ≠ X ∧ p.1 ≠ D) (hS : S news') (r : rest y news') :
    CEnd h₀ L m s₁ I oI C oC X oX D oD S rest y { s₁ with heap := h', toks := tk } := ⟨h', tk, news', rfl, F, fun p hp => N p (sub p hp), off, hS, r⟩
section
variable {prog : Program} {w : World} {A : Around} {E : Value → Shared → Prop} {s : Shared} {h₀ : Heap} {L : Addr} {m : Str → Option Value} {env : Env}
theorem block_X {elt iter : PySem.Expr} {x : Str} {px : Pos} {scope : Scope} {cl : List (Str × Addr)} {pos : Pos} {s₂ : Shared} {I : Addr} {fp : List Addr} {n : Nat} {P : Nat → Value → Prop} {St : Nat → Heap → Prop} {S : List (Addr × Obj) → Prop} {news : List (Addr × Obj)}
    (Inv : Nat → List Value → List (Addr × Obj) → Prop) {RR : Value → Addr → Result → Shared → Prop}
    (W : Walks prog w A I fp [I] n P St) (hsz : n ≤ sizeLine) (hIo : ∀ i h, St i h → ∃ o, h.get? I = some o)
    (hSt : ∀ i h h' o nw, St i h → h.get? I = some o → h'.get? I = some o → (∀ b o, h₀.get? b = some o → h'.get? b = some o) → News h₀ L h' nw → S nw → St i h')
    (hcf : ∀ k, cellsFrom k scope.names cl = (x, k) :: cl) (hpc : ∀ h, pushCells h scope.names = h.push { cls := .type "cell", data := .cell none })
    (hkind : scope.kind = .function) (hx : (relabel scope env).names.lookup x = some .cell) (hst : St 0 s₂.heap) (hfp : ∀ b ∈ fp, b < s₂.heap.objs.size)
    (F : Fr h₀ L s₂.heap m) (N : News h₀ L s₂.heap news) (hIL : L ≠ I) (hI₀ : h₀.get? I = none) (off : ∀ p ∈ news, p.1 ≠ I) (hS : S news) (hInv : Inv 0 [] news)
    (step : ∀ i ys news', i < n → Inv i ys news' → ∀ v oI C oC X oX D h tk (E' : Value → Shared → Prop), P i v → oX.data = .cell (some v) → Fr h₀ L h m → News h₀ L h ((I, oI) :: (C, oC) :: (X, oX) :: (D, lst ys) :: news') →
      (∀ p ∈ news', p.1 ≠ I ∧ p.1 ≠ C ∧ p.1 ≠ X ∧ p.1 ≠ D) → (@Ne Nat I C ∧ @Ne Nat I X ∧ @Ne Nat I D ∧ @Ne Nat C X ∧ @Ne Nat C D ∧ @Ne Nat X D) →
      wpAny (model prog w) A (eval elt (compEnvC scope ((x, X) :: cl) C env)) (CEnd h₀ L m { s₂ with heap := h, toks := tk } I oI C oC X oX D (lst ys) S (fun y news'' => Inv (i + 1) (ys ++ [y]) news'')) E' { s₂ with heap := h, toks := tk })
    (hRR : ∀ D C h tk m' ys news', Fr h₀ L h m → News h₀ L h ((D, lst ys) :: news') → Off1 D news' → h.Ns C m' → h₀.get? C = none → h₀.get? D = none → C ≠ L → D ≠ L → C ≠ D → (∀ p ∈ news', p.1 ≠ C) → Inv n ys news' → RR (.ref D) C (.ok .next) { s₂ with heap := h, toks := tk }) :
    wpAny (model prog w) A (newList []) (fun acc s₃ => wpAny (model prog w) A (newFunctionEnv scope env.globals cl [] env.qual none .none (some env)) (fun cenv s₄ =>
      codeAny (model prog w) A (.compStart (.ListComp elt [⟨.Name x px, iter, [], 0⟩] scope pos) 0 (.ref I) acc { cenv with scope := relabel scope env }) (RR acc cenv.locals) s₄) E s₃) E s₂ := by
  refine wpAny_newObj_type ?_
  simp only [newFunctionEnv, Option.isSome_some, if_true]
  refine wpAny_bind (wpAny_alloc ?_)
  refine wpAny_bind (wpAny_layCells _ (fun name kind cells => by cases hkc : kind == NameKind.cell <;> simp [hkc]) _ _ _ _ ?_)
  rw [hcf, hpc]
  refine wpAny_bind ?_
  rw [List.forIn_nil]
  refine wpAny_pure (wpAny_pure ?_)
  dsimp only
  generalize hH1 : s₂.heap.push { cls := .type "list", dict := none, data := .seq ([] : List Value).toArray } = H1
  generalize hH2 : H1.push { cls := .type "dict", data := .dict #[] } = H2
  generalize hH3 : H2.push { cls := .type "cell", data := .cell none } = H3
  have z1 : H1.objs.size = s₂.heap.objs.size + 1 := by rw [← hH1, Heap.size_push]
  have z2 : H2.objs.size = s₂.heap.objs.size + 2 := by rw [← hH2, Heap.size_push, z1]
  have hIf : I ∈ fp := W.sub I (List.mem_singleton.mpr rfl)
  have hIlt : I < s₂.heap.objs.size := hfp I hIf
  have hLlt : L < s₂.heap.objs.size := F.ns.lt
  have old : ∀ b o, s₂.heap.get? b = some o → H3.get? b = some o := fun b o e => by
    rw [← hH3]; refine Heap.get?_push_of_some _ ?_
    rw [← hH2]; refine Heap.get?_push_of_some _ ?_
    rw [← hH1]; exact Heap.get?_push_of_some _ e
  have gD : H3.get? s₂.heap.objs.size = some (lst []) := by
    rw [← hH3]; refine Heap.get?_push_of_some _ ?_
    rw [← hH2]; refine Heap.get?_push_of_some _ ?_
    rw [← hH1]; exact Heap.get?_push_size _ rfl
  have gC : H3.get? H1.objs.size = some { cls := .type "dict", data := .dict #[] } := by
    rw [← hH3]; refine Heap.get?_push_of_some _ ?_
    rw [← hH2]; exact Heap.get?_push_size _ rfl
  have gX : H3.get? H2.objs.size = some { cls := .type "cell", data := .cell none } := by
    rw [← hH3]; exact Heap.get?_push_size _ rfl
  generalize hD : s₂.heap.objs.size = D at *
  generalize hCC : H1.objs.size = C at *
  generalize hXX : H2.objs.size = X at *
  have fresh₀ : ∀ a, D ≤ a → h₀.get? a = none := fun a ha => by
    cases e : h₀.get? a with
    | none => rfl
    | some o' => exact absurd (Nat.lt_of_lt_of_le (Heap.lt_size (F.keep a o' e)) (hD ▸ ha)) (Nat.lt_irrefl _)
  have hD₀ := fresh₀ D (Nat.le_refl _)
  have hC₀ := fresh₀ C (by omega)
  have hX₀ := fresh₀ X (by omega)
  have ne1 : ∀ a b : Nat, a < b → ¬ (a = b) := fun a b h e => by omega
  have hDL : D ≠ L := fun e => ne1 L D hLlt e.symm
  have hCL : C ≠ L := fun e => ne1 L C (by rw [z1]; exact Nat.lt_succ_of_lt hLlt) e.symm
  have hXL : X ≠ L := fun e => ne1 L X (by rw [z2]; exact Nat.lt_succ_of_lt (Nat.lt_succ_of_lt hLlt)) e.symm
  have nIC : I ≠ C := ne1 I C (by rw [z1]; exact Nat.lt_succ_of_lt hIlt)
  have nIX : I ≠ X := ne1 I X (by rw [z2]; exact Nat.lt_succ_of_lt (Nat.lt_succ_of_lt hIlt))
  have nID : I ≠ D := ne1 I D hIlt
  have nCX : C ≠ X := ne1 C X (by rw [z1, z2]; exact Nat.lt_succ_self _)
  have nCD : C ≠ D := fun e => ne1 D C (by rw [z1]; exact Nat.lt_succ_self _) e.symm
  have nXD : X ≠ D := fun e => ne1 D X (by rw [z2]; exact Nat.lt_succ_of_lt (Nat.lt_succ_self _)) e.symm
  have ltN : ∀ p ∈ news, p.1 < D := fun p hp => hD ▸ Heap.lt_size (N p hp).1
  have hXf : X ∉ fp := fun q => ne1 X X (by have h : X < D := hfp _ q; rw [z2] at h; exact absurd h (Nat.not_lt.mpr (Nat.le_add_right _ _))) rfl
  have hCf : C ∉ fp := fun q => ne1 C C (by have h : C < D := hfp _ q; rw [z1] at h; exact absurd h (Nat.not_lt.mpr (Nat.le_add_right _ _))) rfl
  have hDf : D ∉ fp := fun q => ne1 D D (hfp _ q) rfl
  have hst₃ : St 0 H3 := W.frame _ _ _ hst fun b _ o e => old b o e
  have hkx : ∀ X C, (compEnvC scope ((x, X) :: cl) C env).kindOf x = some .cell := fun _ _ => hx
  have mt : ∀ b, (fun _ : Str => (none : Option Value)) b = none := fun _ => rfl
  have loop : codeAny (model prog w) A (.compLoop (.ListComp elt [⟨.Name x px, iter, [], 0⟩] scope pos) 0 (.ref I) (.ref D) (compEnvC scope ((x, X) :: cl) C env)) (RR (.ref D) C) { s₂ with heap := H3 } := by
    refine codeAny_compLoop_tests
      (fun k s' => ∃ h' tk i ys oC oX v₀ news', s' = { s₂ with heap := h', toks := tk } ∧ i ≤ n ∧ k = n + 1 - i ∧ ys.length = i ∧ St i h' ∧ Fr h₀ L h' m ∧ NsObj oC (fun _ => none) ∧ oX.data = .cell v₀ ∧
        News h₀ L h' ((C, oC) :: (X, oX) :: (D, lst ys) :: news') ∧ (∀ p ∈ news', p.1 ≠ I ∧ p.1 ≠ C ∧ p.1 ≠ X ∧ p.1 ≠ D) ∧ S news' ∧ Inv i ys news') ?_ (n + 1)
      ⟨H3, s₂.toks, 0, [], { cls := .type "dict", data := .dict #[] }, { cls := .type "cell", data := .cell none }, none, news, rfl, Nat.zero_le _, rfl, rfl, hst₃, F.keeps old, ⟨#[], 0, rfl, fun _ h => (by simp at h), fun _ => rfl⟩, rfl, fun p hp => ?_, fun p hp => ?_, hS, hInv⟩
    · rintro k s' ⟨h', tk, i, ys, oC, oX, v₀, news', rfl, hi, rfl, hyl, hst', F', hC', hX', N', off', hS', hI'⟩
      by_cases hlt : i < n
      · refine W.item i _ _ _ hlt hst' fun v h₂ tk₂ hPv hst₂ hk₂ => ?_
        have keepI : ∀ b o, b ≠ I → h'.get? b = some o → h₂.get? b = some o := fun b o hb e => hk₂ b o (by simpa using hb) e
        have N₂ : News h₀ L h₂ ((C, oC) :: (X, oX) :: (D, lst ys) :: news') := fun p hp => by
          refine ⟨keepI _ _ ?_ (N' p hp).1, (N' p hp).2⟩
          rcases List.mem_cons.mp hp with rfl | hp
          · exact Ne.symm nIC
          rcases List.mem_cons.mp hp with rfl | hp
          · exact Ne.symm nIX
          rcases List.mem_cons.mp hp with rfl | hp
          · exact Ne.symm nID
          · exact (off' p hp).1
        have F₂ : Fr h₀ L h₂ m := fr_but F' hk₂ hIL hI₀
        have gX₂ := (N₂ _ (List.Mem.tail _ (List.Mem.head _))).1
        refine wpAny_assign_Name (wpAny_storeName_cell hkind (hkx X C) (by simp [compEnvC]) ⟨oX, gX₂, hX'⟩ fun h₃ hcell₃ hs₃ => ?_)
        refine wpAny_tests_nil ?_
        simp only [if_true]
        obtain ⟨oX₃, gX₃, dX₃⟩ := hcell₃
        have hst₃ : St (i + 1) h₃ := W.frame _ _ _ hst₂ fun b hb o e => hs₃.extBut b o (fun q => hXf (by have q' : b = X := q; rw [← q']; exact hb)) e
        obtain ⟨oI, heI⟩ := hIo _ _ hst₃
        have F₃ : Fr h₀ L h₃ m := F₂.change hs₃ hXL hX₀
        have N₃ : News h₀ L h₃ ((I, oI) :: (C, oC) :: (X, oX₃) :: (D, lst ys) :: news') := fun p hp => by
          rcases List.mem_cons.mp hp with rfl | hp
          · exact ⟨heI, Ne.symm hIL, hI₀⟩
          rcases List.mem_cons.mp hp with rfl | hp
          · have z := N₂ _ (List.Mem.head _)
            exact ⟨hs₃.extBut _ _ nCX z.1, z.2⟩
          rcases List.mem_cons.mp hp with rfl | hp
          · exact ⟨gX₃, hXL, hX₀⟩
          rcases List.mem_cons.mp hp with rfl | hp
          · have z := N₂ _ (List.Mem.tail _ (List.Mem.tail _ (List.Mem.head _)))
            exact ⟨hs₃.extBut _ _ (Ne.symm nXD) z.1, z.2⟩
          · have z := N₂ _ (List.Mem.tail _ (List.Mem.tail _ (List.Mem.tail _ hp)))
            exact ⟨hs₃.extBut _ _ (off' p hp).2.2.1 z.1, z.2⟩
        refine wpAny_mono (step i ys news' hlt hI' v oI C oC X oX₃ D h₃ _ _ hPv dX₃ F₃ N₃ off' ⟨nIC, nIX, nID, nCX, nCD, nXD⟩) (fun y s₄ h₄ => ?_) fun _ _ e => e
        obtain ⟨h₄, tk₄, news₄, rfl, F₄, N₄, off₄, hS₄, R₄⟩ := h₄
        have zI := (N₄ _ (List.Mem.head _)).1
        have zD := (N₄ _ (List.Mem.tail _ (List.Mem.tail _ (List.Mem.tail _ (List.Mem.head _))))).1
        have N₄' : News h₀ L h₄ news₄ := fun p hp => N₄ p (List.Mem.tail _ (List.Mem.tail _ (List.Mem.tail _ (List.Mem.tail _ hp))))
        have hst₄ : St (i + 1) h₄ := hSt _ _ _ _ _ hst₃ heI zI F₄.keep N₄' hS₄
        refine append_at (hsz := by show ys.toArray.size ≤ sizeLine; rw [List.size_toArray, hyl]; exact Nat.le_trans hi hsz) zD fun h₅ hs₅ hD₅ => ?_
        refine ⟨n + 1 - (i + 1), by omega, h₅, tk₄, i + 1, ys ++ [y], oC, oX₃, _, news₄, rfl, hlt, rfl, by rw [List.length_append, List.length_singleton, hyl], W.frame _ _ _ hst₄ fun b hb o e => hs₅.extBut b o (fun q => hDf (by have q' : b = D := q; rw [← q']; exact hb)) e, F₄.change hs₅ hDL hD₀, hC', dX₃, fun p hp => ?_, off₄, hS₄, R₄⟩
        rcases List.mem_cons.mp hp with rfl | hp
        · have z := N₄ _ (List.Mem.tail _ (List.Mem.head _))
          exact ⟨hs₅.extBut _ _ nCD z.1, z.2⟩
        rcases List.mem_cons.mp hp with rfl | hp
        · have z := N₄ _ (List.Mem.tail _ (List.Mem.tail _ (List.Mem.head _)))
          exact ⟨hs₅.extBut _ _ nXD z.1, z.2⟩
        rcases List.mem_cons.mp hp with rfl | hp
        · exact ⟨hD₅.trans (congrArg some (lst_snoc ys y)), hDL, hD₀⟩
        · exact ⟨hs₅.extBut _ _ (off₄ p hp).2.2.2 (N₄' p hp).1, (N₄' p hp).2⟩
      · obtain rfl : i = n := Nat.le_antisymm hi (Nat.not_lt.mp hlt)
        refine W.done _ _ _ hst' fun h₂ tk₂ hk₂ => ?_
        have keepI : ∀ b o, b ≠ I → h'.get? b = some o → h₂.get? b = some o := fun b o hb e => hk₂ b o (by simpa using hb) e
        refine hRR _ _ h₂ tk₂ _ ys news' (fr_but F' hk₂ hIL hI₀) (fun p hp => ?_) ?_ (hC'.ns (keepI _ _ (Ne.symm nIC) (N' _ (List.Mem.head _)).1)) hC₀ hD₀ hCL hDL nCD (fun p hp => (off' p hp).2.1) hI'
        · rcases List.mem_cons.mp hp with rfl | hp
          · have z := N' _ (List.Mem.tail _ (List.Mem.tail _ (List.Mem.head _)))
            exact ⟨keepI _ _ (Ne.symm nID) z.1, z.2⟩
          · have z := N' _ (List.Mem.tail _ (List.Mem.tail _ (List.Mem.tail _ hp)))
            exact ⟨keepI _ _ (off' p hp).1 z.1, z.2⟩
        · exact off1_of fun p hp => (off' p hp).2.2.2
    · rcases List.mem_cons.mp hp with rfl | hp
      · exact ⟨gC, hCL, hC₀⟩
      rcases List.mem_cons.mp hp with rfl | hp
      · exact ⟨gX, hXL, hX₀⟩
      rcases List.mem_cons.mp hp with rfl | hp
      · exact ⟨gD, hDL, hD₀⟩
      · exact ⟨old _ _ (N p hp).1, (N p hp).2⟩
    · have := ltN p hp
      exact ⟨off p hp, ne1 _ _ (by rw [z1]; exact Nat.lt_succ_of_lt this), ne1 _ _ (by rw [z2]; exact Nat.lt_succ_of_lt (Nat.lt_succ_of_lt this)), ne1 _ _ this⟩
  exact codeAny_compStart_list loop (W.self 0 _ _ _ hst₃ loop)
theorem lst_st {ax I : Addr} {vs : List Value} {kk : Nat} : ∀ i (h h' : Heap) (o : Obj) (nw : List (Addr × Obj)), (h.IsListIter I ax i ∧ h.IsList ax vs.toArray) → h.get? I = some o → h'.get? I = some o → (∀ b o, h₀.get? b = some o → h'.get? b = some o) → News h₀ L h' nw → (ax, listOf vs.toArray kk) ∈ nw → (h'.IsListIter I ax i ∧ h'.IsList ax vs.toArray) :=
  fun i h h' o nw st e e' k N S => ⟨by obtain ⟨o', q, r⟩ := st.1; rw [e] at q; cases q; exact ⟨o, e', r⟩, ⟨_, (N _ S).1, rfl, _, rfl⟩⟩
noncomputable def SrcX (prog : Program) (w : World) (A : Around) (h₀ : Heap) (L : Addr) (m : Str → Option Value) (env : Env) (elt : PySem.Expr) (x : Str) (scope : Scope) (cl : List (Str × Addr)) (Fin : Shared → List Value → List (Addr × Obj) → Prop) (xv : Value) (s₁ : Shared) : Prop :=
  ∃ ax vs k news, xv = .ref ax ∧ A.handled = none ∧ Fr h₀ L s₁.heap m ∧ News h₀ L s₁.heap news ∧ (ax, listOf (List.toArray vs) k) ∈ news ∧ vs.length ≤ sizeLine ∧
    ∀ s₂ : Shared, (∃ h, s₂ = { s₁ with heap := h }) → ∃ Inv : Nat → List Value → List (Addr × Obj) → Prop, Inv 0 [] news ∧ (∀ ys news', Inv vs.length ys news' → Fin s₂ ys news') ∧
      ∀ i ys news', i < vs.length → Inv i ys news' → ∀ v I oI C oC X oX D h tk (E' : Value → Shared → Prop), vs[i]? = some v → oX.data = .cell (some v) → Fr h₀ L h m → News h₀ L h ((I, oI) :: (C, oC) :: (X, oX) :: (D, lst ys) :: news') →
      (∀ p ∈ news', p.1 ≠ I ∧ p.1 ≠ C ∧ p.1 ≠ X ∧ p.1 ≠ D) → (@Ne Nat I C ∧ @Ne Nat I X ∧ @Ne Nat I D ∧ @Ne Nat C X ∧ @Ne Nat C D ∧ @Ne Nat X D) →
      wpAny (model prog w) A (eval elt (compEnvC scope ((x, X) :: cl) C env)) (CEnd h₀ L m { s₂ with heap := h, toks := tk } I oI C oC X oX D (lst ys) (fun nw => (ax, listOf (List.toArray vs) k) ∈ nw) (fun y news'' => Inv (i + 1) (ys ++ [y]) news'')) E' { s₂ with heap := h, toks := tk }
theorem Assign_ListComp_X {elt iter : PySem.Expr} {x y : Str} {px py : Pos} {scope : Scope} {cl : List (Str × Addr)} {pos spos : Pos} {Q : Flow → Shared → Prop} (F₀ : Fr h₀ L s.heap m) (hLe : env.locals = L)
    (hsw : swapsWith (.ListComp elt [⟨.Name x px, iter, [], 0⟩] scope pos) (some (.Name y py)) spos.line env = pure true)
    (hclos : closureFor scope env = pure cl) (hcf : ∀ k, cellsFrom k scope.names cl = (x, k) :: cl) (hpc : ∀ h, pushCells h scope.names = h.push { cls := .type "cell", data := .cell none }) (hkind : scope.kind = .function)
    (hnames : ∀ z ∈ scope.names, z.2 = .local → scope.names.lookup z.1 = some .local) (hx : (relabel scope env).names.lookup x = some .cell)
    (hy : env.kindOf y = some .local) (hp : (env.scope.kind == .class || (env.scope.kind == .module && env.locals != env.globals)) = false)
    (h : wpAny (model prog w) A (eval iter env) (SrcX prog w A h₀ L m env elt x scope cl (fun s₂ => FinA h₀ L m s₂ y Q)) E s)
    (hs : ∀ x, foldedSetIterable iter env x = pure x := by intro _; rfl) :
    wpAny (model prog w) A (exec (.Assign [.Name y py] (.ListComp elt [⟨.Name x px, iter, [], 0⟩] scope pos) spos) env) Q E s := by
  subst hLe
  rw [exec_Assign_Name_used _ _ _ _ hsw]
  refine wpAny_bind (wpAny_standAt (wpAny_bind ?_))
  show wpAny _ A (do let _ ← comprehension (.ListComp elt [⟨.Name x px, iter, [], 0⟩] scope pos) scope env _ (newList []) false (eval iter env) (some (assign (.Name y py) env))) _ _ s
  refine wpAny_bind (wpAny_mono (wpAny_comprehension_free (use := some (assign (.Name y py) env)) (Q := fun _ s' => Q .next s') rfl hs hclos hkind hnames
    (wpAny_mono h (fun xv s₁ h₁ => ?_) fun _ _ e => e)) (fun _ s' hq => wpAny_pure (wpAny_pure hq)) fun _ _ e => e)
  obtain ⟨ax, vs, kk, news, rfl, hh, F, N, S, hsz, R⟩ := h₁
  have hl : s₁.heap.IsList ax vs.toArray := ⟨_, (N _ S).1, rfl, _, rfl⟩
  have hlt : ax < s₁.heap.objs.size := by obtain ⟨_, e, _⟩ := hl; exact Heap.lt_size e
  refine wpAny_pyIter_list hl ?_
  have up : ∀ b o, s₁.heap.get? b = some o → (s₁.heap.push { cls := .type "list_iterator", data := .fields #[.ref ax, .int 0 0] }).get? b = some o := fun b o e => Heap.get?_push_of_some _ e
  have W := Walks.list (prog := prog) (w := w) hh s₁.heap.objs.size ax (Nat.ne_of_lt hlt) vs.toArray
  rw [List.size_toArray] at W
  obtain ⟨Inv, I0, IF, IS⟩ := R { s₁ with heap := s₁.heap.push { cls := .type "list_iterator", data := .fields #[.ref ax, .int 0 0] } } ⟨_, rfl⟩
  refine block_X (S := fun nw => (ax, listOf vs.toArray kk) ∈ nw) Inv W hsz (fun i h st => by obtain ⟨o, e, _⟩ := st.1; exact ⟨o, e⟩)
    lst_st hcf hpc hkind hx ⟨⟨_, Heap.get?_push_size _ rfl, rfl, rfl⟩, hl.push _⟩ (fun b hb => ?_)
    (F.keeps up) (N.grown up) (Nat.ne_of_lt F.ns.lt) (next_is_new F) (fun p hp => Nat.ne_of_lt (Heap.lt_size (N p hp).1)) S I0 (fun i ys news' hi hI v oI C oC X oX D h tk E' hv => IS i ys news' hi hI v _ oI C oC X oX D h tk E' (by simpa using hv)) ?_
  · show b < (s₁.heap.push _).objs.size
    rw [Heap.size_push]
    rcases List.mem_cons.mp hb with rfl | hb
    · exact Nat.lt_succ_self _
    · rw [List.mem_singleton.mp hb]; exact Nat.lt_succ_of_lt hlt
  · intro D C h' tk m' ys news' F' N' o1 hn hC₀ hD₀ hCL hDL hCD offC fin
    show wpAny _ A (assign (.Name y py) env (.ref D)) _ _ _
    refine wpAny_assign_Name (wpAny_storeName_local hy F'.ns (fun h₂ hn₂ hs₂ => ?_) hp)
    have hL₀ : h₀.get? env.locals = none := Heap.get?_none_of_le F'.above
    have F₂ : Fr h₀ env.locals h₂ (fun z => if z = y then some (.ref D) else m z) := ⟨hn₂, fun b o e => hs₂.extBut b o (fun q => by rw [q, hL₀] at e; cases e) (F'.keep b o e), F'.above⟩
    refine ⟨m', hn.sameBut hs₂ hCL, fun h'' hs'' => IF _ _ fin D h'' _ (F₂.change hs'' hCL hC₀) (fun p hp => ?_) o1⟩
    have z : h₂.get? p.1 = some p.2 := hs₂.extBut _ _ (N' p hp).2.1 (N' p hp).1
    refine ⟨hs''.extBut _ _ ?_ z, (N' p hp).2⟩
    rcases List.mem_cons.mp hp with rfl | hp
    · exact Ne.symm hCD
    · exact offC p hp
theorem ListComp_TT {elt iter : PySem.Expr} {x : Str} {px : Pos} {scope : Scope} {cl : List (Str × Addr)} {pos : Pos} {Q : Value → Shared → Prop} (F₀ : Fr h₀ L s.heap m)
    (hclos : closureFor scope env = pure cl) (hcell : ∀ y ∈ scope.names, y.2 ≠ .cell) (hkind : scope.kind = .function)
    (hnames : ∀ y ∈ scope.names, y.2 = .local → scope.names.lookup y.1 = some .local) (hx : scope.names.lookup x = some .local)
    (h : wpAny (model prog w) A (eval iter env) (SrcT prog w A h₀ L m env elt x scope cl (fun s₂ => FinE h₀ L m s₂ Q)) E s)
    (hs : ∀ x, foldedSetIterable iter env x = pure x := by intro _; rfl) :
    wpAny (model prog w) A (eval (.ListComp elt [⟨.Name x px, iter, [], 0⟩] scope pos) env) Q E s := by
  rw [eval_ListComp]
  refine wpAny_comprehension_free (use := none) rfl hs hclos hkind hnames (wpAny_mono h (fun xv s₁ h₁ => ?_) fun _ _ e => e)
  obtain ⟨ax, vs, news, rfl, hh, F, N, S, hsz, R⟩ := h₁
  have hl : s₁.heap.IsTuple ax vs.toArray := ⟨_, (N _ S).1, rfl, _, rfl⟩
  have hlt : ax < s₁.heap.objs.size := by obtain ⟨_, e, _⟩ := hl; exact Heap.lt_size e
  refine wpAny_pyIter_tuple hl ?_
  have up : ∀ b o, s₁.heap.get? b = some o → (s₁.heap.push { cls := .type "tuple_iterator", data := .fields #[.ref ax, .int 0 0] }).get? b = some o := fun b o e => Heap.get?_push_of_some _ e
  have W := Walks.tuple (prog := prog) (w := w) hh s₁.heap.objs.size ax (Nat.ne_of_lt hlt) vs.toArray
  rw [List.size_toArray] at W
  refine block_U (S := fun nw => (ax, tupObj vs) ∈ nw) W hsz (fun i h st => by obtain ⟨o, e, _⟩ := st.1; exact ⟨o, e⟩) tup_st hcell hkind hx ⟨⟨_, Heap.get?_push_size _ rfl, rfl, rfl⟩, hl.push _⟩ (fun b hb => ?_)
    (F.keeps up) (N.grown up) (Nat.ne_of_lt F.ns.lt) (next_is_new F) (fun p hp => Nat.ne_of_lt (Heap.lt_size (N p hp).1)) S (R _ ⟨_, rfl⟩) ?_
  · show b < (s₁.heap.push _).objs.size
    rw [Heap.size_push]
    rcases List.mem_cons.mp hb with rfl | hb
    · exact Nat.lt_succ_self _
    · rw [List.mem_singleton.mp hb]; exact Nat.lt_succ_of_lt hlt
  · intro D C h tk m' ys news' F' N' o1 hn hC₀ hD₀ hCL hDL hCD offC fin
    refine ⟨m', hn, fun h'' hs'' => fin D h'' tk (F'.change hs'' hCL hC₀) (fun p hp => ?_) o1⟩
    refine ⟨hs''.extBut _ _ ?_ (N' p hp).1, (N' p hp).2⟩
    rcases List.mem_cons.mp hp with rfl | hp
    · exact Ne.symm hCD
    · exact offC p hp
end
noncomputable def namesF (m : Int) : List Str := szs.map fun z => sg (m - m % z)
noncomputable def IN (ts : List (Int × Tok)) (a b c : Addr × Obj) (i : Nat) (ys : List Value) (news : List (Addr × Obj)) : Prop :=
  ∃ ents rest, ys = entRefs ents ∧ news = a :: b :: c :: rest ∧ (∀ e ∈ ents, (e.1, e.ob) ∈ rest) ∧ ents.map LEnt.tx = (ts.take i).map fun p => namesF p.1
theorem IN_next {ts : List (Int × Tok)} {a b c : Addr × Obj} {i : Nat} {rest : List (Addr × Obj)} {ents : List LEnt} {qs : List (Str × Tok)} {x : Int} {tx : Tok} {T : Addr} {n : Nat} (hmem : ∀ e ∈ ents, (e.1, e.ob) ∈ rest) (htx : ents.map LEnt.tx = (ts.take i).map fun p => namesF p.1)
    (hp : ts[i]? = some (x, tx)) (he : qs.map (·.1) = namesF x) : IN ts a b c (i + 1) (entRefs ents ++ [.ref T]) (a :: b :: c :: (T, listOf (strValues qs).toArray n) :: rest) := by
  refine ⟨ents ++ [(T, qs, n)], (T, listOf (strValues qs).toArray n) :: rest, by simp [entRefs], rfl, fun e h => ?_, ?_⟩
  · rcases List.mem_append.mp h with h | h
    · exact List.Mem.tail _ (hmem e h)
    · rw [List.mem_singleton.mp h]; exact List.Mem.head _
  · rw [List.map_append, htx, List.take_add_one, hp, List.map_append]
    show _ ++ [qs.map (·.1)] = _ ++ [namesF x]
    rw [he]
theorem sub_md {x z : Int} (h0 : 0 ≤ x) (h1 : x < 65536) (hz : z = 4096 ∨ z = 512 ∨ z = 64 ∨ z = 8 ∨ z = 1) : 0 ≤ x - x % z ∧ x - x % z < 65536 := by
  rcases hz with rfl | rfl | rfl | rfl | rfl <;> omega
end Mine
end
section
open PySem PySem.Spec PySem.Calls PySem.W PyProof.Rows
namespace Mine
set_option maxRecDepth 100000
theorem fill8 : PySem.Challenge.rw_pd0062_01.prog = PySem.Challenge.rw_pd0062_01.prog → hd.heap_39 = hd.heap_39 := by k_fill; intros; rfl
variable {prog : Program} {w : World} {s : Shared} {mean : ExcName → Option Value} {mg mb : Str → Option Value}
set_option maxHeartbeats 4000000
local macro_rules | `(tactic| walk_at "execs cons") => `(tactic| (k_here; refine wpAny_execs_cons ?_; k_fold))
local macro_rules | `(tactic| walk_at "execs nil") => `(tactic| (k_here; refine wpAny_execs_nil ?_))

noncomputable def rowStep (m n : Int) : Int :=
  if n % 6 = 5 then n / 6 % 65536 * 40961 % 65536 else m - m % 8 ^ (n % 6).toNat + n / 6 % 65536 % 8 ^ (n % 6).toNat
noncomputable def rowAcc (acc : List Int) (n : Int) : List Int := acc ++ [rowStep (acc.getLastD 0) n]
noncomputable def rowF (ns : List Int) : List Int := (ns.foldl rowAcc [33188]).drop 1
theorem sz_cases (n : Int) (h : n % 6 ≠ 5) : (8 : Int) ^ (n % 6).toNat = 1 ∨ (8 : Int) ^ (n % 6).toNat = 8 ∨ (8 : Int) ^ (n % 6).toNat = 64 ∨ (8 : Int) ^ (n % 6).toNat = 512 ∨ (8 : Int) ^ (n % 6).toNat = 4096 := by
  have h1 : n % 6 = 0 ∨ n % 6 = 1 ∨ n % 6 = 2 ∨ n % 6 = 3 ∨ n % 6 = 4 := by omega
  rcases h1 with e | e | e | e | e <;> rw [e] <;> decide
theorem sz_pos (n : Int) : 0 < (8 : Int) ^ (n % 6).toNat := Int.pow_pos (by decide)
theorem rowStep_bound {m : Int} (n : Int) (h0 : 0 ≤ m) (h1 : m < 65536) : 0 ≤ rowStep m n ∧ rowStep m n < 65536 := by
  unfold rowStep
  split
  · omega
  · rename_i h
    rcases sz_cases n h with e | e | e | e | e <;> rw [e] <;> omega
theorem rowAcc_snoc {a0 : List (Int × Tok)} {y : Int} {ty : Tok} {n v : Int} (hv : v = rowStep y n) : ((a0 ++ [(y, ty)]).map (·.1)) ++ [v] = rowAcc ((a0 ++ [(y, ty)]).map (·.1)) n := by
  rw [rowAcc, hv]; simp
theorem row_five {y n : Int} (h : n % 6 = 5) : n / 6 % 65536 * 40961 % 65536 = rowStep y n := by rw [rowStep, if_pos h]
theorem row_else {y n : Int} (h : ¬ n % 6 = 5) : y - y % 8 ^ (n % 6).toNat + n / 6 % 65536 % 8 ^ (n % 6).toNat = rowStep y n := by rw [rowStep, if_neg h]
theorem foldl_stepI {ps : List (Int × Tok)} (g : List Int → Int → List Int) (a₀ : List Int) {i : Nat} {p : Int × Tok} (h : ps[i]? = some p) :
    ((ps.take (i + 1)).map (·.1)).foldl g a₀ = g (((ps.take i).map (·.1)).foldl g a₀) p.1 := by
  rw [List.take_add_one, h]
  simp only [Option.toList_some, List.map_append, List.map_cons, List.map_nil, List.foldl_append, List.foldl_cons, List.foldl_nil]
theorem three_form {m₁ m : Str → Option Value} {x y t : Str} (hm : ∀ z, z ≠ x → z ≠ y → z ≠ t → m₁ z = m z) : m₁ = fun z => if z = t then m₁ t else if z = y then m₁ y else if z = x then m₁ x else m z := by
  funext z
  by_cases h0 : z = t
  · subst h0; rw [if_pos rfl]
  · by_cases h1 : z = y
    · subst h1; rw [if_neg h0, if_pos rfl]
    · by_cases h2 : z = x
      · subst h2; rw [if_neg h0, if_neg h1, if_pos rfl]
      · rw [if_neg h0, if_neg h1, if_neg h2]; exact hm z h2 h1 h0
noncomputable def JR (ps : List (Int × Tok)) (R : Addr) (m : Str → Option Value) (i : Nat) (m' : Str → Option Value) (nx : List (Addr × Obj)) : Prop :=
  ∃ a0 y ty ep, nx = [(R, listOf (intValues (a0 ++ [(y, ty)])).toArray ep)] ∧ (a0 ++ [(y, ty)]).map (·.1) = ((ps.take i).map (·.1)).foldl rowAcc [33188] ∧ a0.length ≤ i ∧ 0 ≤ y ∧ y < 65536 ∧
    ∀ z, z ≠ Str.ofString "number" → z ≠ Str.ofString "rest" → z ≠ Str.ofString "size" → m' z = m z
theorem JR_next {ps : List (Int × Tok)} {R : Addr} {m : Str → Option Value} {i : Nat} {m' : Str → Option Value} {a0 : List (Int × Tok)} {y n v : Int} {ty tn tv : Tok} {ep : Nat} (hn : ps[i]? = some (n, tn)) (ha : (a0 ++ [(y, ty)]).map (·.1) = ((ps.take i).map (·.1)).foldl rowAcc [33188]) (hl : a0.length ≤ i) (h0 : 0 ≤ y) (h1 : y < 65536)
    (hv : v = rowStep y n) (hm : ∀ z, z ≠ Str.ofString "number" → z ≠ Str.ofString "rest" → z ≠ Str.ofString "size" → m' z = m z) : JR ps R m (i + 1) m' [(R, listOf (intValues (a0 ++ [(y, ty)] ++ [(v, tv)])).toArray ep)] := by
  have hb := rowStep_bound n h0 h1
  refine ⟨a0 ++ [(y, ty)], v, tv, ep, rfl, ?_, by simp; omega, hv ▸ hb.1, hv ▸ hb.2, hm⟩
  rw [foldl_stepI rowAcc _ hn, ← ha, List.map_append]
  exact rowAcc_snoc hv
theorem JR_end {ps : List (Int × Tok)} {R : Addr} {m : Str → Option Value} {i : Nat} {m' : Str → Option Value} {a0 : List (Int × Tok)} {y n v : Int} {ty tn tv : Tok} {ep : Nat} {s : Shared} {h₀ : Heap} {L : Addr} {own : List (Addr × Obj)} {Q : Flow → Shared → Prop} {h' : Heap} {tk' : Nat} {ad : List Addr}
    (F' : Fr h₀ L h' m') (N' : News h₀ L h' ((R, listOf ((intValues (a0 ++ [(y, ty)])).toArray.push (.int v tv)) ep) :: own)) (had : ad = [R])
    (hn : ps[i]? = some (n, tn)) (ha : (a0 ++ [(y, ty)]).map (·.1) = ((ps.take i).map (·.1)).foldl rowAcc [33188]) (hl : a0.length ≤ i) (h0 : 0 ≤ y) (h1 : y < 65536)
    (hv : v = rowStep y n) (hm : ∀ z, z ≠ Str.ofString "number" → z ≠ Str.ofString "rest" → z ≠ Str.ofString "size" → m' z = m z) : TEnd s h₀ L own (fun m' nx => nx.map (·.1) = ad ∧ JR ps R m (i + 1) m' nx) Q .next { s with heap := h', toks := tk' } := by
  refine TEnd_next F' N' (fun p hp => List.Mem.tail _ hp) (fun p hp => ?_) ⟨by rw [had]; rfl, JR_next (tv := tv) (ep := ep) hn ha hl h0 h1 hv hm⟩
  rw [List.mem_singleton.mp hp, intValues_snoc _ (v, tv), ← List.push_toArray]
  exact List.Mem.head _
local macro_rules | `(tactic| walk_at "binaryOp FloorDiv int int") => `(tactic| (k_here; refine fd (by decide) ?_; intro _ _))
local macro_rules | `(tactic| walk_at "binaryOp Mod int int") => `(tactic| (k_here; refine md2 (by first | decide | exact sz_pos _) ?_; intro _ _))
local macro_rules | `(tactic| walk_at "binaryOp Pow int int") => `(tactic| (k_here; refine pow_int_small (by omega) (by omega) (by decide) ?_))
local macro_rules | `(tactic| walk_at "binaryOp Mult int int") => `(tactic| (k_here; refine mul_int ?_ (IntMulOk.of_right (by decide))))
local macro_rules | `(tactic| walk_at "subscriptTail Name UnaryOp ref int") => `(tactic| (k_here; k_dflt (refine' last_int ?k1 ?k2 ?k3 ?_; (case k1 => k_asm); (case k2 => k_mem); (case k3 => assumption); k_whole)))
local macro_rules | `(tactic| walk_at "call builtin:list.append") => `(tactic| (k_here; k_dflt (refine' append_K ?k1 ?k2 ?k3 ?_ ?z; (case k1 => k_asm); (case k2 => k_asm); (case k3 => k_upd); (case z => (simp only [List.size_toArray, intValues_length, List.length_append, List.length_cons, List.length_nil, sizeLine_eq]; omega)); k_whole); intro h' F' N'; (try k_sweep)))
local macro_rules | `(tactic| walk_at "exec For Name Name cons nil") => `(tactic| (k_here; k_dflt (refine wpAny_For ?_)))
local macro_rules | `(tactic| walk_at "subscriptTail Name Slice ref ref") => `(tactic| (k_here; (with_reducible show wpAny _ _ (subscriptTail _ (Expr.Slice _ _ none _) (Value.ref _) (Value.ref _)) _ _ _); k_dflt (refine sl_from_L (by k_asm) (by k_asm) (by k_mem) (by assumption) (by decide) ?_); intro D' h' F' N' l1))
theorem c_row (O : Ok w mean mg mb s.heap) (l : Addr) (ps : List (Int × Tok)) (hl : s.heap.IsList l (intValues ps).toArray) (hn : ps.length ≤ 100) : Meets 900 9000 prog w 209 [.ref l] s (fun v h => ∃ D ts n, v = .ref D ∧ h.get? D = some (listOf (intValues ts).toArray n) ∧ s.heap.get? D = none ∧ ts.map (·.1) = rowF (ps.map (·.1))) := by
  intro base outer gd Q E B hQ
  have X := O.X
  have T := O.T
  (k_dflt (refine' enter0 (binds := [(Str.ofString "numbers", .ref l)]) O ?k6 ?k7 ?k8 ?k9 ?kB ?_ ?c2 ?c3 ?c4 ?c5; (case k6 => k_is); (case k7 => k_is); (case k8 => exact Nat.le_of_ble_eq_true rfl); (case k9 => exact BindsTo.of_eq rfl); (case kB => exact locs rfl); (case c2 => exact rfl); (case c3 => exact rfl); (case c4 => exact rfl); (case c5 => decide)))
  intro L' h' F' N'
  (try dsimp only)
  k_fold
  repeat (first | (k_unfold; (try dsimp only)) | walk1 | (dsimp only; walk1) | (refine id ?_; k_unfold; (try dsimp only)))
  (rename News _ _ _ _ => lN)
  (rename Fr _ _ _ _ => lF)
  rename_i R _ _ _
  change News s.heap L' _ [(R, listOf (intValues ([] ++ [(33188, _)])).toArray _)] at lN
  have hLl : l ≠ L' := fun e => by
    obtain ⟨o, ho, _⟩ := id hl
    exact absurd (Heap.lt_size ho) (by rw [e]; exact Nat.not_lt.mpr lF.above)
  have hRl : l ≠ R := fun e => by
    obtain ⟨o, ho, _⟩ := id hl
    have := (lN _ (List.Mem.head _)).2.2
    rw [← e, ho] at this; cases this
  refine it_list (vs := intValues ps) (JR ps R _) rfl (IsL_up hl lF.keep) hLl lF lN ⟨[], 33188, _, _, rfl, rfl, Nat.zero_le _, by decide, by decide, fun _ _ _ _ => rfl⟩ ?_ ?_
  · intro i v m₁ news₁ h₁ tk₁ own hv hJ ha hoff F₁ N₁
    obtain ⟨a0, y, ty, ep, rfl, hacc, hle, hy0, hy1, hm⟩ := hJ
    obtain ⟨⟨n, tn⟩, hn'⟩ : ∃ p, ps[i]? = some p := by
      rcases Nat.lt_or_ge i ps.length with q | q
      · exact ⟨ps[i], by simp [q]⟩
      · rw [List.getElem?_eq_none (by simpa [intValues] using q)] at hv; cases hv
    have hi : i < ps.length := by
      rcases Nat.lt_or_ge i ps.length with q | q
      · exact q
      · rw [List.getElem?_eq_none q] at hn'; cases hn'
    have hv' : v = .int n tn := by
      have : (intValues ps)[i]? = some (.int n tn) := by simp [intValues, hn']
      rw [this] at hv; exact (Option.some.inj hv).symm
    subst hv'
    have hoff' : OwnOff own [R] := by
      intro p hp b hb e
      have e' : p.1 = R := e.trans (List.mem_singleton.mp hb)
      rcases hoff p hp with h | h
      · exact absurd (h.symm.trans e') hRl
      · exact h (by simp [e'])
    rw [three_form hm] at F₁
    generalize m₁ (Str.ofString "number") = u1 at F₁
    generalize m₁ (Str.ofString "rest") = u2 at F₁
    generalize m₁ (Str.ofString "size") = u3 at F₁
    have hz : a0.length < 1000000 := by omega
    dsimp only [List.cons_append, List.nil_append] at N₁
    clear hm ha lF lN hoff hRl hLl hl hn
    change Fr s.heap L' h₁ _ at F₁
    change News s.heap L' h₁ _ at N₁
    repeat' (first | (k_unfold; (try dsimp only)) | walk1 | (dsimp only; walk1) | (refine id ?_; k_unfold; (try dsimp only)))
    all_goals first
      | exact JR_end (by assumption) (by assumption) rfl hn' hacc hle hy0 hy1 (by first | exact row_five (by assumption) | exact row_else (by assumption)) (by intro z z1 z2 z3; simp only [if_neg z1, if_neg z2, if_neg z3])
      
  · intro h9 tk9 m9 news9 hJ F9 N9
    obtain ⟨a0, y, ty, ep, rfl, hacc, hle, hy0, hy1, hm⟩ := hJ
    rw [three_form hm] at F9
    generalize m9 (Str.ofString "number") = u1 at F9
    generalize m9 (Str.ofString "rest") = u2 at F9
    generalize m9 (Str.ofString "size") = u3 at F9
    have hz : (intValues (a0 ++ [(y, ty)])).length ≤ 100000 := by
      rw [intValues_length] at *; simp; omega
    clear hm lF lN
    change Fr s.heap L' h9 _ at F9
    change News s.heap L' h9 _ at N9
    repeat' (first | (k_unfold; (try dsimp only)) | walk1 | (dsimp only; walk1) | (refine id ?_; k_unfold; (try dsimp only)))
    all_goals first
      | exact hQ _ _ _ (Fr.keep (by assumption)) ⟨_, (a0 ++ [(y, ty)]).drop 1, 0, rfl, by rw [← intValues_drop]; exact News.get (by assumption) (List.Mem.head _), (by (rename News _ _ _ _ => lN9); exact (lN9 _ (List.Mem.head _)).2.2), by rw [List.map_drop, hacc, rowF, List.take_of_length_le (by rw [intValues_length]; exact Nat.le_refl _)]⟩
     

end Mine
end
section
open PySem PySem.Spec PySem.Calls PySem.W PyProof.Rows
namespace Mine
set_option maxRecDepth 100000
theorem fill9 : PySem.Challenge.rw_pd0062_01.prog = PySem.Challenge.rw_pd0062_01.prog → hd.heap_39 = hd.heap_39 := by k_fill; intros; rfl
variable {prog : Program} {w : World} {s : Shared} {mean : ExcName → Option Value} {mg mb : Str → Option Value}
set_option maxHeartbeats 4000000
local macro_rules | `(tactic| walk_at "execs cons") => `(tactic| (k_here; refine wpAny_execs_cons ?_; k_fold))
local macro_rules | `(tactic| walk_at "execs nil") => `(tactic| (k_here; refine wpAny_execs_nil ?_))

theorem fmF_len (i : Int) : (fmF i).length = 10 := by
  have e : fmF i = Str.join (Str.ofString "") (segs i) := StrLaws.glued_eq_join _ _
  have h := segs_len i
  rw [e]
  revert h
  generalize segs i = l
  intro h
  obtain ⟨a, b, c, d, e, f, g, i, j, k, rfl⟩ : ∃ a b c d e f g i j k, l = [a, b, c, d, e, f, g, i, j, k] := by
    have hl := congrArg List.length h
    rw [List.length_map] at hl
    match l, hl with
    | a :: b :: c :: d :: e :: f :: g :: i :: j :: k :: [], _ => exact ⟨a, b, c, d, e, f, g, i, j, k, rfl⟩
  simp only [List.map_cons, List.map_nil, List.cons.injEq, and_true] at h
  have e2 : (Str.ofString "").length = 0 := by decide +kernel
  show (a ++ _ ++ (b ++ _ ++ (c ++ _ ++ (d ++ _ ++ (e ++ _ ++ (f ++ _ ++ (g ++ _ ++ (i ++ _ ++ (j ++ _ ++ k))))))))).length = 10
  simp only [Str.length_append, e2]
  omega
noncomputable def nm (m size : Int) : Str := fmF (m / 4096 * 4096 + m % 4096 / size * size)
theorem nm_len (m size : Int) : (nm m size).length = 10 := fmF_len _
noncomputable def wayNames (m : Int) : List Str := [nm m 4096, nm m 512, nm m 64, nm m 8, nm m 1]
noncomputable def rootW (m : Int) : Str := if (m / 4096 * 4096 == 40960) = true then Str.ofString "" else SL
noncomputable def wayF (m : Int) (b : Bool) : Str :=
  if b = true then joinF (rootW m ++ nm m 4096 ++ Str.ofString "//") [nm m 512, dotS, nm m 64, nm m 8 ++ Str.ofString "/.", nm m 1, Str.ofString ""]
  else joinF (rootW m) (wayNames m)
local macro_rules | `(tactic| walk_at "call ref") => `(tactic| (k_here; (with_reducible show wpAny _ _ (call (Value.ref 155) [Value.int _ _]) _ _ _); k_dflt (refine' use_meets (c_ifmt (Ok.keeps (by assumption) (Fr.keep (by assumption))) _ _ (by assumption) (by assumption)) ?k1 ?k2 ?k3 ?k4 ?k5 ?k6 ?k7 ?k8 ?k9 ?_; (case k1 => assumption); (case k2 => assumption); (case k3 => assumption); (case k4 => exact rfl); (case k5 => exact rfl); (case k6 => exact rfl); (case k7 => exact rfl); (case k8 => exact Nat.le_of_ble_eq_true rfl); (case k9 => exact Nat.le_of_ble_eq_true rfl); k_whole); intro v' h' tk' e' st' F' N'; obtain ⟨t', e'⟩ := e'; subst e'; (try k_sweep)))
local macro_rules | `(tactic| walk_at "call ref") => `(tactic| (k_here; (with_reducible show wpAny _ _ (call (Value.ref 148) [Value.int _ _]) _ _ _); k_dflt (refine' use_meets (c_imode (Ok.keeps (by assumption) (Fr.keep (by assumption))) _ _ (by assumption) (by assumption)) ?k1 ?k2 ?k3 ?k4 ?k5 ?k6 ?k7 ?k8 ?k9 ?_; (case k1 => assumption); (case k2 => assumption); (case k3 => assumption); (case k4 => exact rfl); (case k5 => exact rfl); (case k6 => exact rfl); (case k7 => exact rfl); (case k8 => exact Nat.le_of_ble_eq_true rfl); (case k9 => exact Nat.le_of_ble_eq_true rfl); k_whole); intro v' h' tk' e' st' F' N'; obtain ⟨t', e'⟩ := e'; subst e'; (try k_sweep)))
local macro_rules | `(tactic| walk_at "call ref") => `(tactic| (k_here; (with_reducible show wpAny _ _ (call (Value.ref 162) [Value.int _ _]) _ _ _); k_dflt (refine' use_meets (c_islnk (Ok.keeps (by assumption) (Fr.keep (by assumption))) _ _ (by assumption) (by assumption)) ?k1 ?k2 ?k3 ?k4 ?k5 ?k6 ?k7 ?k8 ?k9 ?_; (case k1 => assumption); (case k2 => assumption); (case k3 => assumption); (case k4 => exact rfl); (case k5 => exact rfl); (case k6 => exact rfl); (case k7 => exact rfl); (case k8 => exact Nat.le_of_ble_eq_true rfl); (case k9 => exact Nat.le_of_ble_eq_true rfl); k_whole); intro v' h' tk' e' st' F' N'; subst e'; (try k_sweep)))
local macro_rules | `(tactic| walk_at "call ref") => `(tactic| (k_here; (with_reducible show wpAny _ _ (call (Value.ref 202) [Value.int _ _]) _ _ _); k_dflt (refine' use_meets (c_filemode (Ok.keeps (by assumption) (Fr.keep (by assumption))) _ _ (by omega) (by omega)) ?k1 ?k2 ?k3 ?k4 ?k5 ?k6 ?k7 ?k8 ?k9 ?_; (case k1 => assumption); (case k2 => assumption); (case k3 => assumption); (case k4 => exact rfl); (case k5 => exact rfl); (case k6 => exact rfl); (case k7 => exact rfl); (case k8 => exact Nat.le_of_ble_eq_true rfl); (case k9 => exact Nat.le_of_ble_eq_true rfl); k_whole); intro v' h' tk' e' st' F' N'; obtain ⟨t', e'⟩ := e'; subst e'; (try k_sweep)))
local macro_rules | `(tactic| walk_at "binaryOp FloorDiv int int") => `(tactic| (k_here; refine fd2 (⟨by assumption, by assumption⟩) ?_; intro _ _))
local macro_rules | `(tactic| walk_at "binaryOp Mult int int") => `(tactic| (k_here; refine mul_int ?_ (IntMulOk.of_right (intBits_le_64 (by omega) (by omega)))))
theorem c_join6 (O : Ok w mean mg mb s.heap) (a : Str) (t : Tok) (b0 : Str) (t0 : Tok) (b1 : Str) (t1 : Tok) (b2 : Str) (t2 : Tok) (b3 : Str) (t3 : Tok) (b4 : Str) (t4 : Tok) (b5 : Str) (t5 : Tok) (hz : a.length + ((b0.length + 1) + (b1.length + 1) + (b2.length + 1) + (b3.length + 1) + (b4.length + 1) + (b5.length + 1)) ≤ 1000000) : Meets 800 8000 prog w 115 [.str a t, .str b0 t0, .str b1 t1, .str b2 t2, .str b3 t3, .str b4 t4, .str b5 t5] s (fun v _ => ∃ t', v = .str (joinF a [b0, b1, b2, b3, b4, b5]) t') :=
  c_join O a t [(b0, t0), (b1, t1), (b2, t2), (b3, t3), (b4, t4), (b5, t5)] (by simp only [List.map_cons, List.map_nil, List.sum_cons, List.sum_nil]; omega) (Nat.le_of_ble_eq_true rfl)
theorem c_join5 (O : Ok w mean mg mb s.heap) (a : Str) (t : Tok) (b0 : Str) (t0 : Tok) (b1 : Str) (t1 : Tok) (b2 : Str) (t2 : Tok) (b3 : Str) (t3 : Tok) (b4 : Str) (t4 : Tok) (hz : a.length + ((b0.length + 1) + (b1.length + 1) + (b2.length + 1) + (b3.length + 1) + (b4.length + 1)) ≤ 1000000) : Meets 800 8000 prog w 115 [.str a t, .str b0 t0, .str b1 t1, .str b2 t2, .str b3 t3, .str b4 t4] s (fun v _ => ∃ t', v = .str (joinF a [b0, b1, b2, b3, b4]) t') :=
  c_join O a t [(b0, t0), (b1, t1), (b2, t2), (b3, t3), (b4, t4)] (by simp only [List.map_cons, List.map_nil, List.sum_cons, List.sum_nil]; omega) (Nat.le_of_ble_eq_true rfl)
local macro_rules | `(tactic| walk_at "call ref") => `(tactic| (k_here; (with_reducible show wpAny _ _ (call (Value.ref 115) [Value.str _ _, Value.str _ _, Value.str _ _, Value.str _ _, Value.str _ _, Value.str _ _, Value.str _ _]) _ _ _); k_dflt (refine' use_meets (c_join6 (Ok.keeps (by assumption) (Fr.keep (by assumption))) _ _ _ _ _ _ _ _ _ _ _ _ _ _ (by simp only [Str.length_append, nm_len]; decide +kernel)) ?k1 ?k2 ?k3 ?k4 ?k5 ?k6 ?k7 ?k8 ?k9 ?_; (case k1 => assumption); (case k2 => assumption); (case k3 => assumption); (case k4 => exact rfl); (case k5 => exact rfl); (case k6 => exact rfl); (case k7 => exact rfl); (case k8 => exact Nat.le_of_ble_eq_true rfl); (case k9 => exact Nat.le_of_ble_eq_true rfl); k_whole); intro v' h' tk' e' st' F' N'; obtain ⟨t', e'⟩ := e'; subst e'; (try k_sweep)))
local macro_rules | `(tactic| walk_at "call ref") => `(tactic| (k_here; (with_reducible show wpAny _ _ (call (Value.ref 115) [Value.str _ _, Value.str _ _, Value.str _ _, Value.str _ _, Value.str _ _, Value.str _ _]) _ _ _); k_dflt (refine' use_meets (c_join5 (Ok.keeps (by assumption) (Fr.keep (by assumption))) _ _ _ _ _ _ _ _ _ _ _ _ (by simp only [Str.length_append, nm_len]; decide +kernel)) ?k1 ?k2 ?k3 ?k4 ?k5 ?k6 ?k7 ?k8 ?k9 ?_; (case k1 => assumption); (case k2 => assumption); (case k3 => assumption); (case k4 => exact rfl); (case k5 => exact rfl); (case k6 => exact rfl); (case k7 => exact rfl); (case k8 => exact Nat.le_of_ble_eq_true rfl); (case k9 => exact Nat.le_of_ble_eq_true rfl); k_whole); intro v' h' tk' e' st' F' N'; obtain ⟨t', e'⟩ := e'; subst e'; (try k_sweep)))

theorem root_t {m : Int} (h : ((m / 4096 * 4096 == 40960) == true) = true) : Str.ofString "" = rootW m := by rw [rootW, if_pos (by simpa using h)]
theorem root_f {m : Int} (h : ((m / 4096 * 4096 == 40960) == true) = false) : SL = rootW m := by rw [rootW, if_neg (by simpa using h)]
theorem way_crook {m : Int} {b : Bool} {r : Str} (h : r = rootW m) (hb : b = true) :
    joinF (r ++ nm m 4096 ++ Str.ofString "//") [nm m 512, dotS, nm m 64, nm m 8 ++ Str.ofString "/.", nm m 1, Str.ofString ""] = wayF m b := by
  unfold wayF
  rw [if_pos hb, h]
theorem way_plain {m : Int} {b : Bool} {r : Str} (h : r = rootW m) (hb : b = false) :
    joinF r [nm m 4096, nm m 512, nm m 64, nm m 8, nm m 1] = wayF m b := by
  unfold wayF
  rw [if_neg (by rw [hb]; decide), h, wayNames]
local macro_rules | `(tactic| walk_at "binaryOp Add str str") => `(tactic| (k_here; (refine add_str ?_ (hsz := ?hz)); (case hz => (simp only [Str.length_append, nm_len]; decide +kernel)); intro _ _))
local macro_rules | `(tactic| walk_at "subscriptTail") => `(tactic| (k_here; (with_reducible show wpAny _ _ (subscriptTail _ _ (Value.ref _) (Value.int _ _)) _ _ _); k_dflt (refine' item_vs ?l ?a ?b ?c ?_; (case l => exact ⟨_, News.get (by k_asm) (by k_mem), rfl, _, rfl⟩); (case a => decide); (case b => exact rfl); (case c => exact Nat.le_of_ble_eq_true rfl))))
local macro_rules | `(tactic| walk_at "exec Assign cons ListComp") => `(tactic| (k_here; (with_reducible show wpAny _ _ (exec (Stmt.Assign _ (Expr.ListComp (Expr.Call _ _ _ _) _ _ _) _) _) _ _ _); (rename News _ _ _ _ => lN'); (try dsimp only [List.cons_append, List.nil_append] at lN'); k_dflt (refine Assign_ListComp_T (F₀ := by k_asm) (by rfl) (by with_unfolding_all rfl) (by with_unfolding_all rfl) (by decide) (by rfl) (by decide) (by rfl) (by rfl) (by rfl) ?_)))
theorem c_way (O : Ok w mean mg mb s.heap) (m : Int) (tm : Tok) (b : Bool) (hm0 : 0 ≤ m) (hm1 : m < 65536) : Meets 700 7000 prog w 214 [.int m tm, .bool b] s (fun v _ => ∃ t', v = .str (wayF m b) t') := by
  intro base outer gd Q E B hQ
  have X := O.X
  have T := O.T
  (k_dflt (refine' enterC0 (binds := [(Str.ofString "mode", .int m tm), (Str.ofString "crooked", .bool b)]) O ?k6 ?k7 ?k8 ?k9 ?kB ?kD ?_ ?c2 ?c3 ?c4; (case k6 => k_is); (case k7 => k_is); (case k8 => exact Nat.le_of_ble_eq_true rfl); (case k9 => exact BindsTo.of_eq rfl); (case kB => exact rfl); (case kD => decide +kernel); (case c2 => exact rfl); (case c3 => exact rfl); (case c4 => exact rfl)))
  intro L' h' tk' cells' F' N' Y'
  k_cells Y'
  (try dsimp only [List.cons_append, List.nil_append] at N')
  (try dsimp only)
  (with_reducible show wpAny _ _ _ _ _ _)
  k_fold
  repeat (first | (k_unfold; (try dsimp only)) | walk1 | (dsimp only; walk1) | (refine id ?_; k_unfold; (try dsimp only)))
  (rename News _ _ _ _ => lN)
  (rename Fr _ _ _ _ => lF)
  refine SrcT.ledger (vs := [.int 4096 _, .int 512 _, .int 64 _, .int 8 _, .int 1 _]) rfl lF lN (List.Mem.head _) (Nat.le_of_ble_eq_true rfl) (fun g => ?_)
  refine CompRest_all (IS (fun k => nm m (szs.getD k 0)) _) ⟨rfl, [], rfl, rfl⟩ ?_ ?_
  rotate_left
  · intro i ys news hi hI v J oI C oC D m₂ h tk2 E' hv hC hx2 F2 N2 off ne
    obtain ⟨rfl, ps, rfl, hps⟩ := hI
    obtain ⟨size, tz, rfl, hz0, hz1, hz2, hz3⟩ := szs_fact (by simpa using hv)
    have hb : 0 ≤ m % 4096 / size * size ∧ m % 4096 / size * size ≤ m % 4096 := by
      refine ⟨Int.mul_nonneg (Int.ediv_nonneg (by omega) (by omega)) (by omega), ?_⟩
      exact Int.ediv_mul_le _ (by omega)
    have hb2 : m % 4096 < 4096 := by omega
    have hb3 : 0 ≤ m % 4096 := by omega
    (try dsimp only)
    clear lF lN hv hz3
    (with_reducible show wpAny _ _ _ _ _ _)
    k_fold
    repeat (first | (k_unfold; (try dsimp only)) | walk1 | (dsimp only; walk1) | (refine id ?_; k_unfold; (try dsimp only)))
    refine cend_same (by assumption) (by assumption) (fun p hp => hp) off (List.Mem.head _) (IS_next hps (by rw [hz2, nm]))
  · intro ys news hI
    obtain ⟨rfl, ps, rfl, hps⟩ := hI
    intro D1 h10 tk10 F10 N10 o10
    clear lF lN
    obtain ⟨ta, tb, tc, td, te, rfl⟩ := str5 (a := nm m 4096) (b := nm m 512) (c := nm m 64) (d := nm m 8) (e := nm m 1) hps
    clear hps
    change News s.heap L' h10 ((D1, LCg.lst [.str (nm m 4096) ta, .str (nm m 512) tb, .str (nm m 64) tc, .str (nm m 8) td, .str (nm m 1) te]) :: _) at N10
    (try dsimp only)
    repeat' (first | (k_unfold; (try dsimp only)) | walk1 | (dsimp only; walk1) | (refine id ?_; k_unfold; (try dsimp only)))
    all_goals first
      | (have hr := root_t (m := m) (by assumption); first | (have hb : b = true := (by assumption); exact hQ _ _ _ (Fr.keep (by assumption)) (str_end (way_crook hr hb))) | (have hb : b = false := (by assumption); exact hQ _ _ _ (Fr.keep (by assumption)) (str_end (way_plain hr hb))))
      | (have hr := root_f (m := m) (by assumption); first | (have hb : b = true := (by assumption); exact hQ _ _ _ (Fr.keep (by assumption)) (str_end (way_crook hr hb))) | (have hb : b = false := (by assumption); exact hQ _ _ _ (Fr.keep (by assumption)) (str_end (way_plain hr hb))))

end Mine
end
section
open PySem PySem.Spec PySem.Calls PySem.W PyProof.Rows
namespace Mine
set_option maxRecDepth 100000
theorem fill10 : PySem.Challenge.rw_pd0062_01.prog = PySem.Challenge.rw_pd0062_01.prog → hd.heap_39 = hd.heap_39 := by k_fill; intros; rfl
variable {prog : Program} {w : World} {s : Shared} {mean : ExcName → Option Value} {mg mb : Str → Option Value}
set_option maxHeartbeats 4000000
local macro_rules | `(tactic| walk_at "execs cons") => `(tactic| (k_here; refine wpAny_execs_cons ?_; k_fold))
local macro_rules | `(tactic| walk_at "execs nil") => `(tactic| (k_here; refine wpAny_execs_nil ?_))

theorem ok_item (x : Str) (i : Int) (h : PyData.strOk x = true) : PyData.strOk (Txt.item x i) = true := by
  unfold PyData.strOk at *
  rw [Array.all_eq_true] at h
  have key : ∀ c : Nat, c < 0x110000 → Array.all #[c] (fun x => decide (x < 0x110000)) = true := fun c hc => by simp [hc]
  refine key _ ?_
  simp only [Txt.charAt]
  cases e : seqIndex? i x.length with
  | none => exact (by decide : (0 : Nat) < 0x110000)
  | some j =>
    simp only [Option.bind_some]
    cases e2 : x.cps[j]? with
    | none => exact (by decide : (0 : Nat) < 0x110000)
    | some c =>
      have hj : j < x.cps.size := by
        rcases Nat.lt_or_ge j x.cps.size with q | q
        · exact q
        · rw [Array.getElem?_eq_none q] at e2; cases e2
      have := h j hj
      rw [Array.getElem?_eq_getElem hj] at e2
      cases e2
      simpa using this
theorem ok_sgc (m : Int) : PyData.strOk (sgc m) = true := ok_item _ _ (by decide +kernel)
theorem ok_signs {ps : List (Str × Tok)} {ns : List Int} (h : ps.map (·.1) = ns.map sgc) : OkP ps := by
  intro x hx
  rw [h] at hx
  obtain ⟨m, _, rfl⟩ := List.mem_map.mp hx
  exact ok_sgc m
theorem range_map {α : Type} (f : Int → α) (ns : List Int) : (List.range ns.length).map (fun k => f (ns.getD k 0)) = ns.map f := by
  apply List.ext_getElem?
  intro i
  by_cases h : i < ns.length
  · simp [h]
  · simp [h]
theorem deep_cond {x0 : Str} {t0 : Tok} {r : List (Str × Tok)} {ms : List Int} {k : Nat} (h : ((x0, t0) :: r).map (·.1) = ms.map sgc) (hk : k = ms.length) :
    (((x0, t0) :: r).map (·.1) = (List.replicate (k : Int).toNat (x0, t0)).map (·.1)) = (ms.map sgc = List.replicate ms.length (sgc (ms.headD 0))) := by
  subst hk
  have hx : x0 = sgc (ms.headD 0) := by
    cases ms with
    | nil => cases h
    | cons a b => injection h
  rw [h, Int.toNat_natCast, List.map_replicate, hx]
theorem filt_len (q : Int → Bool) : ∀ l : List (Int × Tok), (l.filter fun p => q p.1).length = ((l.map (·.1)).filter q).length
  | [] => rfl
  | p :: r => by
    have ih := filt_len q r
    cases h : q p.1 with
    | true => rw [List.filter_cons_of_pos (by exact h), List.map_cons, List.filter_cons_of_pos (by exact h), List.length_cons, List.length_cons, ih]
    | false => rw [List.filter_cons_of_neg (by simp [h]), List.map_cons, List.filter_cons_of_neg (by simp [h]), ih]
local macro_rules | `(tactic| walk_at "exec Assign cons ListComp") => `(tactic| (k_here; (with_reducible show wpAny _ _ (exec (Stmt.Assign _ (Expr.ListComp (Expr.Subscript _ _ _) _ _ _) _) _) _ _ _); (rename News _ _ _ _ => lN'); (try dsimp only [List.cons_append, List.nil_append] at lN'); k_dflt (refine LCg.Assign_ListComp_U (F₀ := by k_asm) (by rfl) (by with_unfolding_all rfl) (by with_unfolding_all rfl) (by decide) (by rfl) (by decide) (by rfl) (by rfl) (by rfl) ?_)))
local macro_rules | `(tactic| walk_at "eval ListComp") => `(tactic| (k_here; (with_reducible show wpAny _ _ (eval (Expr.ListComp (Expr.BinOp _ _ _ _) _ _ _) _) _ _ _); k_dflt (refine LCg.ListComp_U (by k_asm) (by with_unfolding_all rfl) (by decide) (by rfl) (by decide) (by rfl) ?_)))
local macro_rules | `(tactic| walk_at "CompSrc") => `(tactic| (k_here; refine hold ?_))
local macro_rules | `(tactic| walk_at "binaryOp FloorDiv int int") => `(tactic| (k_here; refine fd2 (⟨by first | decide | assumption, by first | decide | assumption⟩) ?_; intro _ _))
local macro_rules | `(tactic| walk_at "binaryOp Mod int int") => `(tactic| (k_here; refine md (by decide) ?_; intro _ _))
local macro_rules | `(tactic| walk_at "subscriptTail") => `(tactic| (k_here; (with_reducible show wpAny _ _ (subscriptTail _ _ (Value.str _ _) (Value.int _ _)) _ _ _); (refine itemAt (by kxi_len) (by omega) (by omega) (by decide) ?_); intro _ _))
local macro_rules | `(tactic| walk_at "subscriptTail") => `(tactic| (k_here; (with_reducible show wpAny _ _ (subscriptTail _ _ (Value.ref _) (Value.int _ _)) _ _ _); k_dflt (refine' item_vs ?l ?a ?b ?c ?_; (case l => exact ⟨_, News.get (by k_asm) (by k_mem), rfl, _, rfl⟩); (case a => decide); (case b => exact rfl); (case c => assumption))))
local macro_rules | `(tactic| walk_at "call builtin:len") => `(tactic| (k_here; (with_reducible show wpAny _ _ (call (Value.builtin "len") [Value.ref _]) _ _ _); k_dflt (refine' len_vs ?l ?c ?_; (case l => exact IsL_up (by assumption) (Fr.keep (by k_asm))); (case c => assumption); k_whole); intro _ _))
local macro_rules | `(tactic| walk_at "binaryOp Mult ref int") => `(tactic| (k_here; (with_reducible show wpAny _ _ (binaryOp Operator.Mult (Value.ref _) (Value.int _ _)) _ _ _); k_dflt (refine' mul_one ?F ?N ?m ?a ?b ?_; (case F => k_asm); (case N => k_asm); (case m => k_mem); (case a => omega); (case b => omega); k_whole); intro D' h' F' N' l1))
local macro_rules | `(tactic| walk_at "compareOp NotEq ref ref") => `(tactic| (k_here; (with_reducible show wpAny _ _ (compareOp CmpOp.NotEq (Value.ref _) (Value.ref _)) _ _ _); refine hold ?_))
local macro_rules | `(tactic| walk_at "eval Name") => `(tactic| (k_here; (with_reducible show wpAny _ _ (eval (Expr.Name _ _) (compEnvC _ _ _ _)) _ _ _); k_dflt (first | (refine sx_L (by assumption) (by assumption) (by assumption) ?_ (by rfl) (by rfl)) | (refine sx_C (by assumption) (by rfl) (by assumption) (by assumption) ?_ (by rfl) (by rfl)))))
local macro_rules | `(tactic| walk_at "eval ListComp") => `(tactic| (k_here; (with_reducible show wpAny _ _ (eval (Expr.ListComp (Expr.Name _ _) _ _ _) _) _ _ _); refine hold ?_))
local macro_rules | `(tactic| walk_at "call builtin:min") => `(tactic| (k_here; (with_unfolding_all refine' kso_min ?k1 ?k2 ?k3 ?k4 ?k5 ?k6 ?_; (case k1 => k_asm); (case k2 => k_asm); (case k3 => exact ⟨_, News.get (by k_asm) (by k_mem), rfl, _, rfl⟩); (case k4 => exact of_ints _); (case k5 => assumption); (case k6 => with_unfolding_all rfl); k_whole); intro h' M' t' k' F' N' a' b'; (try k_sweep)))
local macro_rules | `(tactic| walk_at "call builtin:max") => `(tactic| (k_here; (with_unfolding_all refine' kso_max ?k1 ?k2 ?k3 ?k4 ?k5 ?k6 ?_; (case k1 => k_asm); (case k2 => k_asm); (case k3 => exact ⟨_, News.get (by k_asm) (by k_mem), rfl, _, rfl⟩); (case k4 => exact of_ints _); (case k5 => assumption); (case k6 => with_unfolding_all rfl); k_whole); intro h' M' t' k' F' N' a' b'; (try k_sweep)))
theorem c_deep (O : Ok w mean mg mb s.heap) (l : Addr) (ns : List (Int × Tok)) (hl : s.heap.IsList l (intValues ns).toArray) (hn0 : 0 < ns.length) (hn : ns.length ≤ 100) (hb : ∀ p ∈ ns, 0 ≤ p.1 ∧ p.1 < 65536) : Meets 900 9000 prog w 226 [.ref l] s (fun v _ => ∃ (k : Nat) (t' : Tok), v = .int (k : Nat) t' ∧ DeepIs (ns.map (·.1)) k) := by
  intro base outer gd Q E B hQ
  have X := O.X
  have T := O.T
  (k_dflt (refine' enterC0 (binds := [(Str.ofString "row", .ref l)]) O ?k6 ?k7 ?k8 ?k9 ?kB ?kD ?_ ?c2 ?c3 ?c4; (case k6 => k_is); (case k7 => k_is); (case k8 => exact Nat.le_of_ble_eq_true rfl); (case k9 => exact BindsTo.of_eq rfl); (case kB => exact rfl); (case kD => decide +kernel); (case c2 => exact rfl); (case c3 => exact rfl); (case c4 => exact rfl)))
  intro L' h' tk' cells' F' N' Y'
  k_cells Y'
  (try dsimp only [List.cons_append, List.nil_append] at N')
  (try dsimp only)
  (with_reducible show wpAny _ _ _ _ _ _)
  k_fold
  repeat (first | (k_unfold; (try dsimp only)) | walk1 | (dsimp only; walk1) | (refine id ?_; k_unfold; (try dsimp only)))
  refine unhold ?_
  (rename News _ _ _ _ => lN)
  (rename Fr _ _ _ _ => lF)
  have hsz : (intValues ns).length ≤ 100000 := by rw [intValues_length]; omega
  refine LCg.CompSrc.base rfl lF lN hl (by rw [List.size_toArray, sizeLine_eq]; omega) (fun g => ?_)
  refine CompRest_all (IS (fun k => sgc ((ns.map (·.1)).getD k 0)) _) ⟨rfl, [], rfl, rfl⟩ ?_ ?_
  rotate_left
  · intro i ys news hi hI v J oI C oC D m₂ h tk2 E' hv hC hx2 F2 N2 off ne
    obtain ⟨rfl, ps, rfl, hps⟩ := hI
    rw [iv_get] at hv
    obtain ⟨p, hp, rfl⟩ := Option.map_eq_some_iff.mp hv
    obtain ⟨h0, h1⟩ := hb p (List.mem_of_getElem? hp)
    have hpk : (ns.map (·.1)).getD i 0 = p.1 := by simp [hp]
    obtain ⟨x, tx⟩ := p
    (try dsimp only)
    (try dsimp only at h0 h1 hpk)
    clear lF lN hv
    (with_reducible show wpAny _ _ _ _ _ _)
    k_fold
    repeat (first | (k_unfold; (try dsimp only)) | walk1 | (dsimp only; walk1) | (refine id ?_; k_unfold; (try dsimp only)))
    exact cend_same (by assumption) (by assumption) (fun p hp => hp) off (.inl hl) (IS_next hps (by rw [hpk, sgc]))
  · intro ys news hI
    obtain ⟨rfl, ps, rfl, hps⟩ := hI
    intro D1 h10 tk10 F10 N10 o10
    clear lF lN
    replace hps : ps.map (·.1) = (ns.map (·.1)).map sgc := by rw [hps, List.size_toArray, intValues_length, ← List.length_map (f := (·.1)), range_map]
    have hlen : ps.length = ns.length := by simpa using congrArg List.length hps
    have hok := ok_signs hps
    obtain ⟨⟨x0, t0⟩, r, rfl⟩ : ∃ p r, ps = p :: r := by
      cases ps with
      | nil => simp at hlen; omega
      | cons p r => exact ⟨p, r, rfl⟩
    change News s.heap L' h10 ((D1, LCg.lst (Value.str x0 t0 :: strValues r)) :: _) at N10
    have hsz2 : (Value.str x0 t0 :: strValues r).length ≤ 100000 := by show (strValues ((x0, t0) :: r)).length ≤ _; rw [strValues_length]; omega
    have hlI := intValues_length ns
    have hok2 : OkP (List.replicate ((intValues ns).length : Int).toNat (x0, t0)) := by
      intro z hz
      obtain ⟨p, hp, rfl⟩ := List.mem_map.mp hz
      rw [(List.mem_replicate.mp hp).2]
      exact hok x0 (List.Mem.head _)
    (try dsimp only)
    repeat (first | (k_unfold; (try dsimp only)) | walk1 | (dsimp only; walk1) | (refine id ?_; k_unfold; (try dsimp only)))
    refine unhold ?_
    (rename News _ _ _ _ => lN)
    (rename Fr _ _ _ _ => lF)
    refine ne_strs (p := (x0, t0) :: r) (q := List.replicate _ (x0, t0)) hok hok2 ⟨_, lN.get (List.Mem.tail _ (List.Mem.tail _ (List.Mem.head _))), rfl, _, rfl⟩ ⟨_, lN.get (List.Mem.head _), rfl, _, rfl⟩ (Nat.le_of_ble_eq_true rfl) ?_
    have hcond := deep_cond hps (show (intValues ns).length = (ns.map (·.1)).length by rw [hlI, List.length_map])
    repeat' (first | (k_unfold; (try dsimp only)) | walk1 | (dsimp only; walk1) | (refine id ?_; k_unfold; (try dsimp only)))
    rotate_left
    · exact hQ _ _ _ (Fr.keep (by assumption)) ⟨0, _, rfl, .inl ⟨fun q => absurd (hcond.mpr q) (by assumption), rfl⟩⟩
    have hsame := hcond.mp (by assumption)
    clear hcond hok hok2 hsz2 hps
    refine unhold ?_
    refine LCg.CompSrc.base rfl lF lN hl (by rw [List.size_toArray, sizeLine_eq]; omega) (fun g => ?_)
    refine CompRest_all (II (fun k => (ns.map (·.1)).getD k 0 % 4096) _) ⟨rfl, [], rfl, rfl⟩ ?_ ?_
    rotate_left
    · intro i ys news hi hI v J oI C oC D m₂ h tk2 E' hv hC hx2 F2 N2 off ne
      obtain ⟨rfl, ps, rfl, hps⟩ := hI
      rw [iv_get] at hv
      obtain ⟨p, hp, rfl⟩ := Option.map_eq_some_iff.mp hv
      have hpk : (ns.map (·.1)).getD i 0 = p.1 := by simp [hp]
      obtain ⟨x, tx⟩ := p
      (try dsimp only)
      (try dsimp only at hpk)
      clear lF lN hv
      (with_reducible show wpAny _ _ _ _ _ _)
      k_fold
      repeat (first | (k_unfold; (try dsimp only)) | walk1 | (dsimp only; walk1) | (refine id ?_; k_unfold; (try dsimp only)))
      exact cend_same (by assumption) (by assumption) (fun p hp => hp) off (.inl hl) (II_next hps (by rw [hpk]))
    intro ys news hI
    obtain ⟨rfl, ps, rfl, hps⟩ := hI
    intro D2 h20 tk20 F20 N20 o20
    clear lF lN
    replace hps : ps.map (·.1) = (ns.map (·.1)).map (· % 4096) := by rw [hps, List.size_toArray, intValues_length, ← List.length_map (f := (·.1))]; exact range_map (fun z => z % 4096) _
    have hpl : 0 < (ps.map (·.1)).length := by rw [hps]; simpa using hn0
    (try dsimp only)
    repeat (first | (k_unfold; (try dsimp only)) | walk1 | (dsimp only; walk1) | (refine id ?_; k_unfold; (try dsimp only)))
    rename_i h21 lo tlo k21 F21 N21 hlo1 hlo2
    have N22 : News s.heap L' h21 [(L' + 1 + 1, _), (L' + 1, _)] := fun p hp => N21 p (List.Mem.tail _ (List.Mem.tail _ (List.Mem.tail _ (List.Mem.tail _ hp))))
    clear N21 o20
    repeat (first | (k_unfold; (try dsimp only)) | walk1 | (dsimp only; walk1) | (refine id ?_; k_unfold; (try dsimp only)))
    refine unhold ?_
    (rename News _ _ _ _ => lN)
    (rename Fr _ _ _ _ => lF)
    refine LCg.CompSrc.base rfl lF lN hl (by rw [List.size_toArray, sizeLine_eq]; omega) (fun g => ?_)
    refine CompRest_all (II (fun k => (ns.map (·.1)).getD k 0 % 4096) _) ⟨rfl, [], rfl, rfl⟩ ?_ ?_
    rotate_left
    · intro i ys news hi hI v J oI C oC D m₂ h tk2 E' hv hC hx2 F2 N2 off ne
      obtain ⟨rfl, ps, rfl, hps⟩ := hI
      rw [iv_get] at hv
      obtain ⟨p, hp, rfl⟩ := Option.map_eq_some_iff.mp hv
      have hpk : (ns.map (·.1)).getD i 0 = p.1 := by simp [hp]
      obtain ⟨x, tx⟩ := p
      (try dsimp only)
      (try dsimp only at hpk)
      clear lF lN hv
      (with_reducible show wpAny _ _ _ _ _ _)
      k_fold
      repeat (first | (k_unfold; (try dsimp only)) | walk1 | (dsimp only; walk1) | (refine id ?_; k_unfold; (try dsimp only)))
      exact cend_same (by assumption) (by assumption) (fun p hp => hp) off (.inl hl) (II_next hps (by rw [hpk]))
    intro ys news hI
    obtain ⟨rfl, ps2, rfl, hps2⟩ := hI
    intro D3 h30 tk30 F30 N30 o30
    clear lF lN
    replace hps2 : ps2.map (·.1) = (ns.map (·.1)).map (· % 4096) := by rw [hps2, List.size_toArray, intValues_length, ← List.length_map (f := (·.1))]; exact range_map (fun z => z % 4096) _
    have hpl2 : 0 < (ps2.map (·.1)).length := by rw [hps2]; simpa using hn0
    (try dsimp only)
    repeat (first | (k_unfold; (try dsimp only)) | walk1 | (dsimp only; walk1) | (refine id ?_; k_unfold; (try dsimp only)))
    rename_i hi thi k31 F31 N31 hhi1 hhi2 h32 oH F32 N32 dH
    refine unhold ?_
    refine ListComp_filterI F32 (fun z => lo / z == hi / z) (by decide) (by with_unfolding_all rfl) (by decide) (by rfl) (by decide) (by rfl) ?_
    repeat (first | (k_unfold; (try dsimp only)) | walk1 | (dsimp only; walk1) | (refine id ?_; k_unfold; (try dsimp only)))
    rename_i D4 h40 F40 N40 l40
    refine ⟨_, _, [(4096, _), (512, _), (64, _), (8, _), (1, _)], rfl, rfl, F40, N40, List.Mem.head _, Nat.le_of_ble_eq_true rfl, ?_, ?_⟩
    · intro C c tc s₃ m₃ hc F₃ hm₃
      have hc2 : 0 < c ∧ c < 1000000 := by
        simp only [List.mem_cons, Prod.mk.injEq, List.not_mem_nil, or_false] at hc
        omega
      obtain ⟨hc0, hc1⟩ := hc2
      have hS : Sx s₃.heap s₃.heap := Sx.refl _
      have hn' := F₃.ns
      have hcH := F₃.keep _ _ (N40.get (List.Mem.tail _ (List.Mem.tail _ (List.Mem.head _))))
      have hcL := F₃.keep _ _ (N40.get (List.Mem.tail _ (List.Mem.tail _ (List.Mem.tail _ (List.Mem.head _)))))
      (try dsimp only)
      (with_reducible show wpAny _ _ _ _ _ _)
      k_fold
      repeat (first | (k_unfold; (try dsimp only)) | walk1 | (dsimp only; walk1) | (refine id ?_; k_unfold; (try dsimp only)))
      exact KOk.intro rfl
    · intro D5 h50 tk50 n50 F50 N50 o50
      clear F40 N40
      (try dsimp only)
      repeat (first | (k_unfold; (try dsimp only)) | walk1 | (dsimp only; walk1) | (refine id ?_; k_unfold; (try dsimp only)))
      refine len_vs (vs := intValues _) ⟨_, N50.get (List.Mem.head _), rfl, _, rfl⟩ ?_ ?_
      · rw [intValues_length]
        exact Nat.le_trans (List.length_filter_le _ _) (Nat.le_of_ble_eq_true rfl)
      · intro t9 tk9
        refine hQ _ _ _ F50.keep ⟨_, _, rfl, .inr ⟨hsame, lo, hi, hps ▸ hlo1, hps ▸ hlo2, hps2 ▸ hhi1, hps2 ▸ hhi2, ?_⟩⟩
        rw [intValues_length]; exact filt_len (fun z => lo / z == hi / z) _

end Mine
end
section
open PySem PySem.Spec PySem.Calls PySem.W PyProof.Rows
namespace Mine
set_option maxRecDepth 100000
theorem fill11 : PySem.Challenge.rw_pd0062_01.prog = PySem.Challenge.rw_pd0062_01.prog → hd.heap_39 = hd.heap_39 := by k_fill; intros; rfl
variable {prog : Program} {w : World} {s : Shared} {mean : ExcName → Option Value} {mg mb : Str → Option Value}
set_option maxHeartbeats 4000000
local macro_rules | `(tactic| walk_at "execs cons") => `(tactic| (k_here; refine wpAny_execs_cons ?_; k_fold))
local macro_rules | `(tactic| walk_at "execs nil") => `(tactic| (k_here; refine wpAny_execs_nil ?_))
local macro_rules | `(tactic| walk_at "exec Try") => `(tactic| (k_here; refine try0 ?_))
local macro_rules | `(tactic| walk_at "subscriptTail Name Slice ref ref") => `(tactic| (k_here; (with_reducible show wpAny _ _ (subscriptTail _ (Expr.Slice _ _ none _) (Value.ref _) (Value.ref _)) _ _ _); k_dflt (refine sl_all_O (vs := Value.str _ _ :: strValues _) (by k_asm) (by k_asm) (IsL_up (by assumption) (Fr.keep (by k_asm))) (by assumption) ?_); intro D' h' F' N' l1))
local macro_rules | `(tactic| walk_at "call ref") => `(tactic| (k_here; (with_reducible show wpAny _ _ (call (Value.ref 141) _) _ _ _); refine hold ?_))
local macro_rules | `(tactic| walk_at "compareOp Eq ref ref") => `(tactic| (k_here; (with_reducible show wpAny _ _ (compareOp CmpOp.Eq (Value.ref _) (Value.ref _)) _ _ _); refine hold ?_))
theorem c_common (O : Ok w mean mg mb s.heap) (l : Addr) (x0 : Str) (t0 : Tok) (r : List (Str × Tok)) (hl : s.heap.IsList l (Value.str x0 t0 :: strValues r).toArray) (hn : (Value.str x0 t0 :: strValues r).length ≤ 1000) (hs : ∀ v ∈ Value.str x0 t0 :: strValues r, ∃ x t, v = Value.str x t) (hx : ∀ p ∈ (x0, t0) :: r, p.1.length ≤ 1000) (ab : Bool) (hr : ∀ p ∈ (x0, t0) :: r, Txt.startswith p.1 SL = ab) (hok : OkP ((x0, t0) :: r)) : Meets 600 6000 prog w 233 [.ref l] s (fun v _ => ∃ t', v = .str (cpF ab x0 (r.map (·.1))) t') := by
  intro base outer gd Q E B hQ
  have X := O.X
  have T := O.T
  (k_dflt (refine' enter0 (binds := [(Str.ofString "ways", .ref l)]) O ?k6 ?k7 ?k8 ?k9 ?kB ?_ ?c2 ?c3 ?c4 ?c5; (case k6 => k_is); (case k7 => k_is); (case k8 => exact Nat.le_of_ble_eq_true rfl); (case k9 => exact BindsTo.of_eq rfl); (case kB => exact locs rfl); (case c2 => exact rfl); (case c3 => exact rfl); (case c4 => exact rfl); (case c5 => decide)))
  intro L' h' F' N'
  (try dsimp only)
  k_fold
  have hsz : (Value.str x0 t0 :: strValues r).length ≤ 100000 := by omega
  repeat (first | (k_unfold; (try dsimp only)) | walk1 | (dsimp only; walk1) | (refine id ?_; k_unfold; (try dsimp only)))
  refine unhold ?_
  (rename News _ _ _ _ => lN)
  (rename Fr _ _ _ _ => lF)
  refine' use_meets (c_cp ?kO l x0 t0 r ?kl hn hs hx ab hr) B ?k2 ?k3 ?k4 ?k5 ?k6 ?k7 ?k8 ?k9 ?_
  case kO => exact O.keeps lF.keep
  case kl => exact IsL_up hl lF.keep
  case k2 => exact lF
  case k3 => exact lN
  case k4 => rfl
  case k5 => rfl
  case k6 => rfl
  case k7 => rfl
  case k8 => exact Nat.le_of_ble_eq_true rfl
  case k9 => exact Nat.le_of_ble_eq_true rfl
  intro v h10 tk10 hv st10 F10 N10
  obtain ⟨t9, rfl⟩ := hv
  clear lF lN
  repeat (first | (k_unfold; (try dsimp only)) | walk1 | (dsimp only; walk1) | (refine id ?_; k_unfold; (try dsimp only)))
  refine unhold ?_
  (rename News _ _ _ _ => lN)
  (rename Fr _ _ _ _ => lF)
  refine eq_strs (p := (x0, t0) :: r) (q := (x0, t0) :: r) hok hok (IsL_up hl lF.keep) ⟨_, lN.get (List.Mem.head _), rfl, _, rfl⟩ (Nat.le_of_ble_eq_true rfl) ?_
  rw [decide_eq_true rfl]
  repeat (first | (k_unfold; (try dsimp only)) | walk1 | (dsimp only; walk1) | (refine id ?_; k_unfold; (try dsimp only)))
  exact hQ _ _ _ (Fr.keep (by assumption)) ⟨_, rfl⟩

end Mine
end
section
open PySem PySem.Spec PySem.Calls PySem.W PyProof.Rows
namespace Mine
set_option maxRecDepth 100000
theorem fill12 : PySem.Challenge.rw_pd0062_01.prog = PySem.Challenge.rw_pd0062_01.prog → hd.heap_39 = hd.heap_39 := by k_fill; intros; rfl
variable {prog : Program} {w : World} {s : Shared} {mean : ExcName → Option Value} {mg mb : Str → Option Value}
set_option maxHeartbeats 4000000
local macro_rules | `(tactic| walk_at "execs cons") => `(tactic| (k_here; refine wpAny_execs_cons ?_; k_fold))
local macro_rules | `(tactic| walk_at "execs nil") => `(tactic| (k_here; refine wpAny_execs_nil ?_))

theorem dirF_len (x : Str) : (dirF x).length ≤ x.length := by
  have h : (headF x).length ≤ x.length := PyProof.Txt.length_slice_le x none _
  unfold dirF
  split
  · exact h
  · split
    · exact Nat.le_trans (len_rstripChars _ _) h
    · exact h
theorem dirs_len : ∀ (l : List Str) (x : Str), (l.foldl (fun a _ => dirF a) x).length ≤ x.length
  | [], _ => Nat.le_refl _
  | _ :: r, x => Nat.le_trans (dirs_len r (dirF x)) (dirF_len x)
/-- what the two ways of a pair must give -/
structure LedH (start goal plain : Str) (below : List Str) (ab : Bool) : Prop where
  nl : (normF start).length ≤ 1000
  u1 : below.foldl (fun a _ => dirF a) (normF start) = cpF ab start [goal]
  w : start.length + ((List.replicate below.length dotdotS ++ below).map fun p => p.length + 1).sum ≤ 800000
  j0 : ¬ ((joinF start (List.replicate below.length dotdotS ++ below)).length : Int) = 0
  j : normF (joinF start (List.replicate below.length dotdotS ++ below)) = plain
local macro_rules | `(tactic| walk_at "newList") => `(tactic| (k_here; k_dflt (refine' newList_K ?F ?N ?_ ?z; (case F => k_asm); (case N => k_asm); (case z => exact Nat.le_of_ble_eq_true rfl); k_whole); intro l' h' F' N' l1))
local macro_rules | `(tactic| walk_at "exec For Name Name cons nil") => `(tactic| (k_here; k_dflt (refine wpAny_For ?_)))
local macro_rules | `(tactic| walk_at "call builtin:len") => `(tactic| (k_here; (with_reducible show wpAny _ _ (call (Value.builtin "len") [Value.ref _]) _ _ _); k_dflt (refine' len_vs ?l ?c ?_; (case l => exact IsL_up (by assumption) (Fr.keep (by k_asm))); (case c => assumption); k_whole); intro _ _))
local macro_rules | `(tactic| walk_at "binaryOp Mult ref int") => `(tactic| (k_here; (with_reducible show wpAny _ _ (binaryOp Operator.Mult (Value.ref _) (Value.int _ _)) _ _ _); k_dflt (refine' mul_one ?F ?N ?m ?a ?b ?_; (case F => k_asm); (case N => k_asm); (case m => k_mem); (case a => omega); (case b => omega); k_whole); intro D' h' F' N' l1))
local macro_rules | `(tactic| walk_at "binaryOp Add ref ref") => `(tactic| (k_here; (with_reducible show wpAny _ _ (binaryOp _ (Value.ref _) (Value.ref _)) _ _ _); refine hold ?_))
local macro_rules | `(tactic| walk_at "StarOf ref") => `(tactic| (k_here; refine hold ?_))
local macro_rules | `(tactic| walk_at "call ref") => `(tactic| (k_here; (with_reducible show wpAny _ _ (call (Value.ref 141) _) _ _ _); refine hold ?_))
local macro_rules | `(tactic| walk_at "call ref") => `(tactic| (k_here; (with_reducible show wpAny _ _ (call (Value.ref 115) _) _ _ _); refine hold ?_))
local macro_rules | `(tactic| walk_at "call ref") => `(tactic| (k_here; (with_reducible show wpAny _ _ (call (Value.ref 136) [Value.str _ _]) _ _ _); k_dflt (refine' use_meets (c_normpath (Ok.keeps (by assumption) (Fr.keep (by assumption))) _ _ (by assumption) (by assumption)) ?k1 ?k2 ?k3 ?k4 ?k5 ?k6 ?k7 ?k8 ?k9 ?_; (case k1 => assumption); (case k2 => assumption); (case k3 => assumption); (case k4 => exact rfl); (case k5 => exact rfl); (case k6 => exact rfl); (case k7 => exact rfl); (case k8 => exact Nat.le_of_ble_eq_true rfl); (case k9 => exact Nat.le_of_ble_eq_true rfl); k_whole); intro v' h' tk' e' st' F' N'; obtain ⟨t', e'⟩ := e'; subst e'; (try k_sweep)))
local macro_rules | `(tactic| walk_at "call ref") => `(tactic| (k_here; (with_reducible show wpAny _ _ (call (Value.ref 129) [Value.str _ _]) _ _ _); k_dflt (refine' use_meets (c_dirname (Ok.keeps (by assumption) (Fr.keep (by assumption))) _ _ (by assumption)) ?k1 ?k2 ?k3 ?k4 ?k5 ?k6 ?k7 ?k8 ?k9 ?_; (case k1 => assumption); (case k2 => assumption); (case k3 => assumption); (case k4 => exact rfl); (case k5 => exact rfl); (case k6 => exact rfl); (case k7 => exact rfl); (case k8 => exact Nat.le_of_ble_eq_true rfl); (case k9 => exact Nat.le_of_ble_eq_true rfl); k_whole); intro v' h' tk' e' st' F' N'; obtain ⟨t', e'⟩ := e'; subst e'; (try k_sweep)))
theorem c_led (O : Ok w mean mg mb s.heap) (start goal plain : Str) (ts tg tp : Tok) (l : Addr) (below : List (Str × Tok)) (ab : Bool) (hl : s.heap.IsList l (strValues below).toArray) (hn : below.length ≤ 100) (hs0 : ¬ (start.length : Int) = 0) (hs1 : start.length ≤ 1000) (hg1 : goal.length ≤ 1000) (ha : Txt.startswith start SL = ab) (hb : Txt.startswith goal SL = ab) (H : LedH start goal plain (below.map (·.1)) ab) : Meets 600 6000 prog w 240 [.str start ts, .str goal tg, .str plain tp, .ref l] s (fun v _ => v = .bool true) := by
  intro base outer gd Q E B hQ
  have X := O.X
  have T := O.T
  (k_dflt (refine' enter0 (binds := [(Str.ofString "start", .str start ts), (Str.ofString "goal", .str goal tg), (Str.ofString "plain", .str plain tp), (Str.ofString "below", .ref l)]) O ?k6 ?k7 ?k8 ?k9 ?kB ?_ ?c2 ?c3 ?c4 ?c5; (case k6 => k_is); (case k7 => k_is); (case k8 => exact Nat.le_of_ble_eq_true rfl); (case k9 => exact BindsTo.of_eq rfl); (case kB => exact locs rfl); (case c2 => exact rfl); (case c3 => exact rfl); (case c4 => exact rfl); (case c5 => decide)))
  intro L' h' F' N'
  (try dsimp only)
  k_fold
  have hst : start.length ≤ 900000 := by omega
  have hlI := strValues_length below
  have hsz : (strValues below).length ≤ 100000 := by rw [strValues_length]; omega
  repeat (first | (k_unfold; (try dsimp only)) | walk1 | (dsimp only; walk1) | (refine id ?_; k_unfold; (try dsimp only)))
  (rename News _ _ _ _ => lN)
  (rename Fr _ _ _ _ => lF)
  have hLl : l ≠ L' := fun e => by
    obtain ⟨o, ho, _⟩ := id hl
    exact absurd (Heap.lt_size ho) (by rw [e]; exact Nat.not_lt.mpr lF.above)
  refine acc_lst (y := Str.ofString "up") (ps := below) (fun a _ => dirF a) rfl rfl rfl (IsL_up hl lF.keep) hLl lF lN rfl ?_ ?_
  · intro i b tb c tc h1 tk1 own hb hc F1 N1
    have hcl : c.length ≤ 1048576 := by
      rw [hc]
      exact Nat.le_trans (dirs_len _ _) (Nat.le_trans H.nl (by decide))
    clear lF lN hc hb
    simp only [List.nil_append] at N1
    repeat (first | (k_unfold; (try dsimp only)) | walk1 | (dsimp only; walk1) | (refine id ?_; k_unfold; (try dsimp only)))
    exact AEnd.intro (by assumption) (by assumption) (fun p hp => hp) rfl rfl (by intro z h1 h2; simp [h1, h2])
  · intro h1 tk1 u1 t1 F1 N1
    clear lF lN
    change Fr s.heap L' h1 _ at F1
    change News s.heap L' h1 _ at N1
    rw [H.u1] at F1
    repeat (first | (k_unfold; (try dsimp only)) | walk1 | (dsimp only; walk1) | (refine id ?_; k_unfold; (try dsimp only)))
    refine unhold ?_
    (rename News _ _ _ _ => lN)
    (rename Fr _ _ _ _ => lF)
    refine' use_meets (c_cp ?kO _ start ts [(goal, tg)] ?kl ?kn ?ks ?kx ab ?kr) B ?k2 ?k3 ?k4 ?k5 ?k6 ?k7 ?k8 ?k9 ?_
    case kO => exact O.keeps lF.keep
    case kl => exact ⟨_, lN.get (List.Mem.head _), rfl, _, rfl⟩
    case kn => exact Nat.le_of_ble_eq_true rfl
    case ks =>
      intro v hv
      rcases List.mem_cons.mp hv with rfl | hv
      · exact ⟨_, _, rfl⟩
      · rw [List.mem_singleton.mp hv]; exact ⟨_, _, rfl⟩
    case kx =>
      intro p hp
      rcases List.mem_cons.mp hp with rfl | hp
      · exact hs1
      · rw [List.mem_singleton.mp hp]; exact hg1
    case kr =>
      intro p hp
      rcases List.mem_cons.mp hp with rfl | hp
      · exact ha
      · rw [List.mem_singleton.mp hp]; exact hb
    case k2 => exact lF
    case k3 => exact lN
    case k4 => rfl
    case k5 => rfl
    case k6 => rfl
    case k7 => rfl
    case k8 => exact Nat.le_of_ble_eq_true rfl
    case k9 => exact Nat.le_of_ble_eq_true rfl
    intro v h10 tk10 hv st10 F10 N10
    obtain ⟨t9, rfl⟩ := hv
    change News s.heap L' h10 _ at N10
    change Fr s.heap L' h10 _ at F10
    clear lF lN
    (try dsimp only [List.map_cons, List.map_nil])
    repeat' (first | (k_unfold; (try dsimp only)) | walk1 | (dsimp only; walk1) | (refine id ?_; k_unfold; (try dsimp only)))
    · rename_i hbad
      simp at hbad
    refine unhold ?_
    (rename News _ _ _ _ => lN)
    (rename Fr _ _ _ _ => lF)
    have hjw : ((start.length + (((List.replicate ((strValues below).length : Int).toNat (dotdotS, tk10)) ++ below).map fun p => p.1.length + 1).sum)) ≤ 800000 := by
      have q := H.w
      rw [List.length_map] at q
      rw [hlI, Int.toNat_natCast]
      simpa [List.map_append, List.map_replicate, Function.comp_def] using q
    have hjn : ((List.replicate ((strValues below).length : Int).toNat (dotdotS, tk10)) ++ below).length ≤ 1000 := by
      rw [hlI, Int.toNat_natCast]; simp; omega
    have hje : ((List.replicate ((strValues below).length : Int).toNat (dotdotS, tk10)) ++ below).map (·.1) = List.replicate (below.map (·.1)).length dotdotS ++ below.map (·.1) := by
      rw [hlI, Int.toNat_natCast, List.map_append, List.map_replicate, List.length_map]
    have hjj := joinF_len (((List.replicate ((strValues below).length : Int).toNat (dotdotS, tk10)) ++ below).map (·.1)) start
    have hjl : (joinF start (List.replicate (below.map (·.1)).length dotdotS ++ below.map (·.1))).length ≤ 900000 := by
      rw [← hje]
      refine Nat.le_trans hjj ?_
      rw [List.map_map]
      exact Nat.le_trans hjw (by decide)
    have hj0 := H.j0
    have hj := H.j
    refine kmk_add_lit (zs := strValues ((List.replicate ((strValues below).length : Int).toNat (dotdotS, tk10)) ++ below)) (its := (strValues (List.replicate ((strValues below).length : Int).toNat (dotdotS, tk10))).toArray) (its2 := (strValues below).toArray) lF lN ⟨_, lN.get (List.Mem.head _), rfl, _, rfl⟩ (hl.at fun o e => lF.keep _ o e) (by simp [strValues]) ?_ (by simp only [List.toList_toArray, strValues_length, List.length_append] at *; rw [sizeLine_eq]; omega)
    intro D20 h20 F20 N20 l20
    clear lF lN
    (try dsimp only)
    refine unhold ?_
    refine star_seq F20 N20 (List.Mem.head _) rfl rfl (.inl rfl) (List.toList_toArray) (by rw [List.size_toArray, strValues_length, sizeLine_eq]; omega) ?_
    intro h21 F21 N21
    clear F20 N20
    (try dsimp only)
    repeat (first | (k_unfold; (try dsimp only)) | walk1 | (dsimp only; walk1) | (refine id ?_; k_unfold; (try dsimp only)))
    refine unhold ?_
    (rename News _ _ _ _ => lN)
    (rename Fr _ _ _ _ => lF)
    rw [List.append_nil]
    refine' use_meets (c_join ?kO start ts ((List.replicate ((strValues below).length : Int).toNat (dotdotS, tk10)) ++ below) ?kz ?kn) B ?k2 ?k3 ?k4 ?k5 ?k6 ?k7 ?k8 ?k9 ?_
    case kO => exact O.keeps lF.keep
    case kz => exact Nat.le_trans hjw (by decide)
    case kn => exact hjn
    case k2 => exact lF
    case k3 => exact lN
    case k4 => rfl
    case k5 => rfl
    case k6 => rfl
    case k7 => rfl
    case k8 => exact Nat.le_of_ble_eq_true rfl
    case k9 => exact Nat.le_of_ble_eq_true rfl
    intro v h30 tk30 hv st30 F30 N30
    obtain ⟨t30, rfl⟩ := hv
    rw [hje]
    clear lF lN hjw hjn hje hjj
    generalize joinF start (List.replicate (below.map (·.1)).length dotdotS ++ below.map (·.1)) = jx at hjl hj0 hj
    subst hj
    (try dsimp only)
    repeat' (first | (k_unfold; (try dsimp only)) | walk1 | (dsimp only; walk1) | (refine id ?_; k_unfold; (try dsimp only)))
    exact hQ _ _ _ (Fr.keep (by assumption)) (congrArg Value.bool (beq_self_eq_true _))

end Mine
end
section
open PySem PySem.Spec PySem.Calls PySem.W PyProof.Rows Builtin Builtin.Str
namespace Mine
noncomputable abbrev tl (x : Str) : List Nat := x.cps.toList
theorem tl_app (a b : Str) : tl (a ++ b) = tl a ++ tl b := by show (a.cps ++ b.cps).toList = _; simp
theorem tl_SL : tl SL = [47] := by decide +kernel
theorem tl_inj {a b : Str} (h : tl a = tl b) : a = b := str_ext h
theorem tl_len (a : Str) : (tl a).length = a.length := by show a.cps.toList.length = a.cps.size; simp
theorem SL_eq : SL = ⟨#[47]⟩ := tl_inj (by rw [tl_SL])
theorem map_tl_inj : ∀ {a b : List Str}, a.map tl = b.map tl → a = b
  | [], [], _ => rfl
  | [], _ :: _, h => by cases h
  | _ :: _, [], h => by cases h
  | x :: xs, y :: ys, h => by
    rw [List.map_cons, List.map_cons] at h
    injection h with h1 h2
    rw [tl_inj h1, map_tl_inj h2]
noncomputable def cut : List Nat → List (List Nat)
  | [] => [[]]
  | c :: r => if c = 47 then [] :: cut r else match cut r with | [] => [[c]] | p :: ps => (c :: p) :: ps
theorem cut_ne : ∀ l, ∃ p ps, cut l = p :: ps
  | [] => ⟨[], [], rfl⟩
  | c :: r => by
    obtain ⟨p, ps, e⟩ := cut_ne r
    rw [cut]
    split
    · exact ⟨[], cut r, rfl⟩
    · rw [e]; exact ⟨c :: p, ps, rfl⟩
theorem cut_free : ∀ l, 47 ∉ l → cut l = [l]
  | [], _ => rfl
  | c :: r, h => by
    rw [cut, if_neg (fun e => h (by rw [e]; exact List.Mem.head _)), cut_free r (fun q => h (List.Mem.tail _ q))]
theorem cut_app : ∀ a b, cut (a ++ 47 :: b) = cut a ++ cut b
  | [], b => by
    show cut (47 :: b) = [] :: cut b
    simp [cut]
  | c :: r, b => by
    have ih := cut_app r b
    obtain ⟨p, ps, e⟩ := cut_ne r
    rw [List.cons_append, cut, cut]
    by_cases h : c = 47
    · rw [if_pos h, if_pos h, ih]; rfl
    · rw [if_neg h, if_neg h, ih, e]; rfl
theorem cut_join : ∀ (p : Str) (ps : List Str), (∀ q ∈ p :: ps, 47 ∉ tl q) → cut (tl (Str.join SL (p :: ps))) = (p :: ps).map tl
  | p, [], h => by
    show cut (tl p) = [tl p]
    exact cut_free _ (h p (List.Mem.head _))
  | p, q :: r, h => by
    have ih := cut_join q r (fun z hz => h z (List.Mem.tail _ hz))
    show cut (tl (p ++ SL ++ Str.join SL (q :: r))) = _
    rw [tl_app, tl_app, tl_SL, List.append_assoc, List.singleton_append, cut_app, cut_free _ (h p (List.Mem.head _)), ih]
    rfl
theorem split_ne (x : Str) : ∃ p ps, Txt.split x SL = p :: ps := by
  unfold Txt.split
  split
  · exact ⟨_, _, rfl⟩
  · split
    · exact ⟨_, _, rfl⟩
    · rw [StrLaws.partsBetween_eq]; exact StrLaws.partsFrom_ne _ _ _ _
theorem split_cut (x : Str) : (Txt.split x SL).map tl = cut (tl x) := by
  obtain ⟨p, ps, e⟩ := split_ne x
  have h1 := StrLaws.join_split x SL
  have h2 : ∀ q ∈ Txt.split x SL, 47 ∉ tl q := by rw [SL_eq]; exact StrLaws.split_free x 47
  rw [e] at h1 h2 ⊢
  rw [← cut_join p ps h2, h1]
theorem split_sep (a b : Str) : Txt.split (a ++ SL ++ b) SL = Txt.split a SL ++ Txt.split b SL := by
  apply map_tl_inj
  rw [List.map_append, split_cut, split_cut, split_cut, tl_app, tl_app, tl_SL, List.append_assoc, List.singleton_append, cut_app]
theorem split_one {x : Str} (h : 47 ∉ tl x) : Txt.split x SL = [x] := by
  apply map_tl_inj
  rw [split_cut, cut_free _ h]; rfl
/-- the names of a way -/
noncomputable abbrev cmp (x : Str) : List Str := (Txt.split x SL).filter qF
theorem cmp_sep (a b : Str) : cmp (a ++ SL ++ b) = cmp a ++ cmp b := by unfold cmp; rw [split_sep, List.filter_append]
theorem cmp_one {x : Str} (h : 47 ∉ tl x) : cmp x = if qF x = true then [x] else [] := by
  unfold cmp; rw [split_one h]; cases e : qF x <;> simp [e]
theorem len_zero {x : Str} (h : (x.length : Int) = 0) : x = Str.ofString "" := by
  have h1 : (tl x).length = 0 := by rw [tl_len]; omega
  exact tl_inj (by rw [List.length_eq_zero_iff.mp h1]; decide +kernel)
theorem tl_e : tl (Str.ofString "") = [] := by decide +kernel
theorem cmp_e : cmp (Str.ofString "") = [] := by rw [cmp_one (by rw [tl_e]; simp)]; rfl
theorem sw_iff (x : Str) : Txt.startswith x SL = true ↔ (tl x).head? = some 47 := by
  unfold Txt.startswith
  rw [StrLaws.subAt_eq]
  have h1 : SL.length = 1 := SL_len
  rw [h1, show SL.cps.toList = [47] from tl_SL, List.drop_zero, ← tl_len]
  show (decide (0 + 1 ≤ (tl x).length) && (List.take 1 (tl x) == [47])) = true ↔ _
  generalize tl x = l
  cases l with
  | nil => simp
  | cons c r => simp
theorem ew_iff (x : Str) : Txt.endswith x SL = true ↔ ∃ p, x = p ++ SL := by
  unfold Txt.endswith
  rw [StrLaws.subAt_eq]
  have h1 : SL.length = 1 := SL_len
  rw [h1, show SL.cps.toList = [47] from tl_SL]
  constructor
  · intro h
    simp only [Bool.and_eq_true, decide_eq_true_eq, beq_iff_eq] at h
    obtain ⟨h2, h3⟩ := h
    refine ⟨⟨((tl x).take (x.length - 1)).toArray⟩, tl_inj ?_⟩
    rw [tl_app, tl_SL]
    have e := List.take_append_drop (x.length - 1) (tl x)
    have e2 : (tl x).drop (x.length - 1) = [47] := by
      rw [← h3, List.take_of_length_le]
      rw [List.length_drop, tl_len]; omega
    rw [e2] at e
    show tl x = (tl x).take (x.length - 1) ++ [47]
    exact e.symm
  · rintro ⟨p, rfl⟩
    have e : (p ++ SL).length = p.length + 1 := by rw [Str.length_append, h1]
    simp only [Bool.and_eq_true, decide_eq_true_eq, beq_iff_eq]
    refine ⟨by omega, ?_⟩
    show ((tl (p ++ SL)).drop _).take 1 = [47]
    rw [e, tl_app, tl_SL, show p.length + 1 - 1 = (tl p).length by rw [tl_len]; omega, List.drop_left]
    rfl
theorem sw_false {b : Str} (h : (tl b).head? ≠ some 47) : Txt.startswith b SL ≠ true := fun q => h ((sw_iff b).mp q)
theorem cmp_joinStep {path b : Str} (h : (tl b).head? ≠ some 47) : cmp (joinStep path b) = cmp path ++ cmp b := by
  unfold joinStep
  rw [if_neg (sw_false h)]
  split
  · rename_i e; rw [len_zero e, cmp_e]; rfl
  · split
    · rename_i e
      obtain ⟨p, rfl⟩ := (ew_iff path).mp e
      rw [cmp_sep]
      have : cmp (p ++ SL) = cmp p := by
        have := cmp_sep p (Str.ofString "")
        rw [cmp_e, List.append_nil] at this
        rw [← this]; congr 1
      rw [this]
    · have := cmp_sep path b
      rw [← this]; congr 1
      exact tl_inj (by simp [tl_app])
theorem cmp_joinF : ∀ (ps : List Str) (a : Str), (∀ p ∈ ps, (tl p).head? ≠ some 47) → cmp (joinF a ps) = cmp a ++ (ps.map cmp).flatten
  | [], a, _ => by simp [joinF]
  | p :: r, a, h => by
    show cmp (joinF (joinStep a p) r) = _
    rw [cmp_joinF r _ (fun q hq => h q (List.Mem.tail _ hq)), cmp_joinStep (h p (List.Mem.head _))]
    simp
/-- the head of a way: a root and one sign, or a sign -/
noncomputable def Rt (ab : Bool) (x : Str) : Prop := ∃ c r, c ≠ 47 ∧ tl x = (if ab = true then [47] else []) ++ c :: r
theorem Rt.app {ab : Bool} {x : Str} (h : Rt ab x) (y : Str) : Rt ab (x ++ y) := by
  obtain ⟨c, r, h1, h2⟩ := h
  exact ⟨c, r ++ tl y, h1, by rw [tl_app, h2]; simp⟩
theorem Rt.pos {ab : Bool} {x : Str} (h : Rt ab x) : ¬ (x.length : Int) = 0 := by
  obtain ⟨c, r, _, h2⟩ := h
  have := congrArg List.length h2
  rw [tl_len] at this
  simp at this
  omega
theorem Rt.step {ab : Bool} {x b : Str} (h : Rt ab x) (hb : (tl b).head? ≠ some 47) : Rt ab (joinStep x b) := by
  unfold joinStep
  rw [if_neg (sw_false hb), if_neg h.pos]
  split
  · exact h.app b
  · exact h.app _
theorem Rt.join {ab : Bool} : ∀ (ps : List Str) {x : Str}, Rt ab x → (∀ p ∈ ps, (tl p).head? ≠ some 47) → Rt ab (joinF x ps)
  | [], _, h, _ => h
  | p :: r, x, h, hp => Rt.join r (x := joinStep x p) (h.step (hp p (List.Mem.head _))) (fun q hq => hp q (List.Mem.tail _ hq))
theorem Rt.sw {ab : Bool} {x : Str} (h : Rt ab x) : Txt.startswith x SL = ab := by
  obtain ⟨c, r, h1, h2⟩ := h
  cases ab with
  | true => exact (sw_iff x).mpr (by rw [h2]; rfl)
  | false =>
    cases e : Txt.startswith x SL with
    | false => rfl
    | true =>
      have := (sw_iff x).mp e
      rw [h2] at this
      simp at this
      exact absurd this h1
theorem slice_eq (x : Str) (l u : Option Int) : Txt.slice x l u = StrLaws.sliceText x l u := rfl
theorem slice_to {x : Str} {j : Nat} (h : j ≤ x.length) : tl (Txt.slice x none (some (j : Int))) = (tl x).take j := by
  rw [slice_eq, StrLaws.sliceText_to ⟨by omega, by show (j : Int) ≤ ((tl x).length : Nat); rw [tl_len]; omega⟩]
  simp
theorem slice_from {x : Str} {j : Nat} (h : j ≤ x.length) : tl (Txt.slice x (some (j : Int)) none) = (tl x).drop j := by
  rw [slice_eq, StrLaws.sliceText_from ⟨by omega, by show (j : Int) ≤ ((tl x).length : Nat); rw [tl_len]; omega⟩]
  show (((tl x).drop j).take (((tl x).length : Int) - (j : Int)).toNat) = _
  exact List.take_of_length_le (by rw [List.length_drop]; omega)
theorem slice_mid {x : Str} {i j : Nat} (h0 : i ≤ j) (h : j ≤ x.length) : tl (Txt.slice x (some (i : Int)) (some (j : Int))) = ((tl x).drop i).take (j - i) := by
  rw [slice_eq, StrLaws.sliceText_nat x h0 h]
theorem rootF_true {x : Str} (h : Rt true x) : (rootF x).1 = SL ∧ tl (rootF x).2 = (tl x).drop 1 := by
  obtain ⟨c, r, h1, h2⟩ := h
  simp only [if_true, List.singleton_append] at h2
  have hl : x.length = r.length + 2 := by rw [← tl_len, h2]; rfl
  have e1 : Txt.slice x none (some 1) = SL := tl_inj (by rw [tl_SL, show (1 : Int) = ((1 : Nat) : Int) from rfl, slice_to (by omega), h2]; rfl)
  have e2 : (Txt.slice x (some 1) (some 2) != SL) = true := by
    rw [bne_iff_ne]
    intro q
    have q2 := congrArg tl q
    rw [tl_SL, show (1 : Int) = ((1 : Nat) : Int) from rfl, show (2 : Int) = ((2 : Nat) : Int) from rfl, slice_mid (by omega) (by omega), h2] at q2
    simp at q2
    exact h1 q2
  unfold rootF
  rw [if_neg (by rw [e1]; simp), if_pos e2]
  refine ⟨rfl, ?_⟩
  show tl (Txt.slice x (some 1) none) = _
  rw [show (1 : Int) = ((1 : Nat) : Int) from rfl, slice_from (by omega)]
theorem rootF_false {x : Str} (h : Rt false x) : rootF x = (Str.ofString "", x) := by
  obtain ⟨c, r, h1, h2⟩ := h
  rw [if_neg (by decide), List.nil_append] at h2
  have hl : x.length = r.length + 1 := by rw [← tl_len, h2]; rfl
  have e2 : (Txt.slice x none (some 1) != SL) = true := by
    rw [bne_iff_ne]
    intro q
    have q2 := congrArg tl q
    rw [tl_SL, show (1 : Int) = ((1 : Nat) : Int) from rfl, slice_to (by omega), h2] at q2
    simp at q2
    exact h1 q2
  unfold rootF
  rw [if_pos e2]
noncomputable abbrev rot (ab : Bool) : Str := if ab = true then SL else Str.ofString ""
theorem rootF_1 {ab : Bool} {x : Str} (h : Rt ab x) : (rootF x).1 = rot ab := by
  cases ab with
  | true => exact (rootF_true h).1
  | false => rw [rootF_false h]; rfl
theorem rootF_2 {ab : Bool} {x : Str} (h : Rt ab x) : cmp (rootF x).2 = cmp x := by
  cases ab with
  | true =>
    have h2 := (rootF_true h).2
    obtain ⟨c, r, _, h3⟩ := h
    have : x = Str.ofString "" ++ SL ++ (rootF x).2 := tl_inj (by rw [tl_app, tl_app, tl_e, tl_SL, h2, h3]; rfl)
    have h4 := cmp_sep (Str.ofString "") (rootF x).2
    rw [← this, cmp_e, List.nil_append] at h4
    exact h4.symm
  | false => rw [rootF_false h]
theorem normStep_skip {r : Str} {acc : List Str} {c : Str} (h : qF c = false) : normStep r acc c = acc := by
  unfold qF at h
  unfold normStep
  by_cases h0 : (c.length : Int) = 0
  · rw [if_pos h0]
  · rw [if_neg h0] at h
    rw [if_neg h0, if_pos (by simpa using h)]
theorem norm_filter (r : Str) : ∀ (l acc : List Str), l.foldl (normStep r) acc = (l.filter qF).foldl (normStep r) acc
  | [], _ => rfl
  | c :: l, acc => by
    cases h : qF c with
    | true => rw [List.filter_cons_of_pos h]; exact norm_filter r l _
    | false => rw [List.filter_cons_of_neg (by simp [h]), List.foldl_cons, normStep_skip h]; exact norm_filter r l _
theorem normF_eq {ab : Bool} {x : Str} (h : Rt ab x) (hne : ¬ ((rot ab ++ Str.join SL ((cmp x).foldl (normStep (rot ab)) [])).length : Int) = 0) : normF x = rot ab ++ Str.join SL ((cmp x).foldl (normStep (rot ab)) []) := by
  unfold normF
  rw [rootF_1 h, norm_filter]
  show (if _ then _ else _) = _
  rw [show (Txt.split (rootF x).2 SL).filter qF = cmp x from rootF_2 h, show Txt.join SL ((cmp x).foldl (normStep (rot ab)) []) = Str.join SL ((cmp x).foldl (normStep (rot ab)) []) from StrLaws.glued_eq_join _ _]
  show (if ((rot ab ++ Str.join SL ((cmp x).foldl (normStep (rot ab)) [])).length : Int) = 0 then dotS else rot ab ++ Str.join SL ((cmp x).foldl (normStep (rot ab)) [])) = _
  rw [if_neg hne]
/-- a name -/
structure Nm (c : Str) : Prop where
  len : c.length = 10
  s : 47 ∉ tl c
  d : 46 ∉ tl c
theorem Nm.q {c : Str} (h : Nm c) : qF c = true := by
  unfold qF
  rw [if_neg (by rw [h.len]; decide), bne_iff_ne]
  rintro rfl
  exact h.d (by decide +kernel)
theorem Nm.cmp {c : Str} (h : Nm c) : cmp c = [c] := by rw [cmp_one h.s, if_pos h.q]
theorem Nm.head {c : Str} (h : Nm c) : (tl c).head? ≠ some 47 := fun q => h.s (List.mem_of_mem_head? q)
theorem Nm.pos {c : Str} (h : Nm c) : ¬ (c.length : Int) = 0 := by rw [h.len]; decide
theorem Nm.rt {c : Str} (h : Nm c) : Rt false c := by
  have h1 := h.len
  rw [← tl_len] at h1
  cases e : tl c with
  | nil => rw [e] at h1; cases h1
  | cons d r => exact ⟨d, r, fun q => h.s (by rw [e, q]; exact List.Mem.head _), by rw [e]; rfl⟩
theorem Nm.rt1 {ab : Bool} {c : Str} (h : Nm c) : Rt ab (rot ab ++ c) := by
  obtain ⟨d, r, h1, h2⟩ := h.rt
  refine ⟨d, r, h1, ?_⟩
  rw [tl_app, h2]
  cases ab with
  | true => rw [show tl (rot true) = [47] from tl_SL]; rfl
  | false => rw [show tl (rot false) = [] from tl_e]; rfl
theorem Nm.dd {c : Str} (h : Nm c) : (c != dotdotS) = true := by
  rw [bne_iff_ne]; rintro rfl; exact h.d (by decide +kernel)
theorem Nm.dot {c : Str} (h : Nm c) : (c == dotS) = false := by
  rw [beq_eq_false_iff_ne]; rintro rfl; exact h.d (by decide +kernel)
theorem fold_names (r : Str) : ∀ (l acc : List Str), (∀ c ∈ l, Nm c) → l.foldl (normStep r) acc = acc ++ l
  | [], acc, _ => by simp
  | c :: l, acc, h => by
    have hc := h c (List.Mem.head _)
    rw [List.foldl_cons, ns_app hc.pos hc.dot hc.dd, fold_names r l _ (fun q hq => h q (List.Mem.tail _ hq)), List.append_assoc]; rfl
theorem dd_facts : (dotdotS.length : Int) ≠ 0 ∧ (dotdotS == dotS) = false ∧ (dotdotS != dotdotS) = false ∧ cmp dotdotS = [dotdotS] ∧ (tl dotdotS).head? ≠ some 47 := by
  refine ⟨by decide +kernel, by decide +kernel, by decide +kernel, ?_, by decide +kernel⟩
  rw [cmp_one (by decide +kernel)]; decide +kernel
theorem fold_dd (r : Str) : ∀ (k : Nat) (acc : List Str), (∀ c ∈ acc, Nm c) → k ≤ acc.length → (List.replicate k dotdotS).foldl (normStep r) acc = acc.take (acc.length - k)
  | 0, acc, _, _ => by simp
  | k + 1, acc, h, hk => by
    rcases List.eq_nil_or_concat acc with rfl | ⟨a, y, rfl⟩
    · simp at hk
    · rw [List.concat_eq_append] at *
      have hy : (y == dotdotS) = false := by
        have := (h y (by simp)).dd
        simpa [bne] using this
      rw [List.replicate_succ, List.foldl_cons, ns_pop dd_facts.1 dd_facts.2.1 dd_facts.2.2.1 hy, fold_dd r k a (fun c hc => h c (by simp [hc])) (by simp at hk; omega)]
      rw [List.length_append, List.length_singleton, List.take_append_of_le_length (by omega)]
      congr 1
      omega
theorem join_pos : ∀ {l : List Str}, (∀ c ∈ l, Nm c) → l ≠ [] → 10 ≤ (Str.join SL l).length
  | [x], h, _ => by show 10 ≤ x.length; rw [(h x (List.Mem.head _)).len]; exact Nat.le_refl _
  | x :: y :: r, h, _ => by
    show 10 ≤ (x ++ SL ++ Str.join SL (y :: r)).length
    rw [Str.length_append, Str.length_append, (h x (List.Mem.head _)).len]; omega
theorem normF_names {ab : Bool} {x : Str} {l : List Str} (h : Rt ab x) (hc : (cmp x).foldl (normStep (rot ab)) [] = l) (hl : ∀ c ∈ l, Nm c) (hne : l ≠ []) : normF x = rot ab ++ Str.join SL l := by
  rw [normF_eq h, hc]
  rw [hc, Str.length_append]
  have := join_pos hl hne
  omega
end Mine
end
section
open PySem PySem.Spec PySem.Calls PySem.W PyProof.Rows
namespace Mine
theorem rowAcc_len : ∀ (ns acc : List Int), (ns.foldl rowAcc acc).length = acc.length + ns.length
  | [], acc => by simp
  | n :: r, acc => by rw [List.foldl_cons, rowAcc_len r]; simp [rowAcc]; omega
theorem rowF_len (ns : List Int) : (rowF ns).length = ns.length := by
  rw [rowF, List.length_drop, rowAcc_len]; simp
theorem getLastD_mem : ∀ (b : List Int) (a : Int), (a :: b).getLastD 0 ∈ a :: b
  | [], a => List.Mem.head _
  | c :: r, a => by
    have := getLastD_mem r c
    exact List.Mem.tail _ this
noncomputable def In16 (l : List Int) : Prop := ∀ x ∈ l, 0 ≤ x ∧ x < 65536
theorem rowAcc_in : ∀ (ns acc : List Int), In16 acc → In16 (ns.foldl rowAcc acc)
  | [], _, h => h
  | n :: r, acc, h => by
    refine rowAcc_in r _ ?_
    intro x hx
    rw [rowAcc] at hx
    rcases List.mem_append.mp hx with hx | hx
    · exact h x hx
    · rw [List.mem_singleton.mp hx]
      have hl : 0 ≤ acc.getLastD 0 ∧ acc.getLastD 0 < 65536 := by
        cases acc with
        | nil => exact ⟨by decide, by decide⟩
        | cons a b => exact h _ (getLastD_mem b a)
      exact rowStep_bound n hl.1 hl.2
theorem rowF_in (ns : List Int) : In16 (rowF ns) := by
  intro x hx
  exact rowAcc_in ns [33188] (by intro y hy; rw [List.mem_singleton.mp hy]; decide) x (List.mem_of_mem_drop hx)
end Mine
end
section
open PySem PySem.Spec PySem.Calls PySem.W PyProof.Rows
namespace Mine
set_option maxRecDepth 100000
noncomputable abbrev fr (l : List Env) : List Addr := l.filterMap (·.frame)
/-- an exception that flies over the frames l; what stood in G, beyond these frames, stands -/
structure FlyE (base G : Heap) (l : List Env) (e : Addr) (X : String) (h : Heap) : Prop where
  ex : ∃ B a0, base.StaysIn B ∧ (∀ b o, G.get? b = some o → b ∉ fr l → B.get? b = some o) ∧ Heap.FlyingW B l e (.type X) a0 h
  up : G.UpToSlots h
structure HeldE (base G : Heap) (l : List Env) (L e : Addr) (X : String) (h : Heap) : Prop where
  ex : ∃ B a0, base.StaysIn B ∧ (∀ b o, G.get? b = some o → b ∉ fr l → B.get? b = some o) ∧ Heap.HeldW B l e (.type X) a0 L h
  up : G.UpToSlots h
section
variable {M : Model} {A : Around} {E : Value → Shared → Prop} {s' : Shared} {base G g : Heap} {env : Env} {outer l : List Env} {L e : Addr} {X : String} {Q : Unit → Shared → Prop}
theorem note_fly (hfr : A.frames = some (env :: outer)) (hf : env.frame = some L) (R : FlyE base G (env :: outer) e X s'.heap)
    (k : ∀ h', HeldE base G (env :: outer) L e X h' → Q () { s' with heap := h' }) : wpAny M A (noteFrame (.ref e) env) Q E s' := by
  obtain ⟨⟨B, a0, h1, h2, h3⟩, hu⟩ := R
  exact wpAny_looks_onW hfr hf h3 fun h' hh hs => k h' ⟨⟨B, a0, h1, h2, hh⟩, hu.trans hs⟩
theorem note_held (hf : env.frame = some L) (R : HeldE base G l L e X s'.heap) (k : Q () s') : wpAny M A (noteFrame (.ref e) env) Q E s' := by
  obtain ⟨⟨B, a0, h1, h2, h3⟩, hu⟩ := R
  exact wpAny_noteFrame_againW hf h3.2.2.2 k
theorem land_held (R : HeldE base G l L e X s'.heap) (k : ∀ h', FlyE base G l e X h' → Q () { s' with heap := h' }) : wpAny M A (setFlight (.ref e) none) Q E s' := by
  obtain ⟨⟨B, a0, h1, h2, h3⟩, hu⟩ := R
  exact wpAny_landsW h3 fun h' hh hs => k h' ⟨⟨B, a0, h1, h2, hh⟩, hu.trans hs⟩
theorem land_fly (R : FlyE base G l e X s'.heap) (k : ∀ h', FlyE base G l e X h' → Q () { s' with heap := h' }) : wpAny M A (setFlight (.ref e) none) Q E s' := by
  obtain ⟨⟨B, a0, h1, h2, h3⟩, hu⟩ := R
  exact lands_againW h3 fun h' hh hs => k h' ⟨⟨B, a0, h1, h2, hh⟩, hu.trans hs⟩
theorem flight_at {B : Heap} {cls a0 fl : Value} (f1 : B.StaysIn s'.heap) (f2 : B.get? e = none) (f3 : s'.heap.FunFrames B l) (f4 : s'.heap.TracedAtW B e cls a0 fl)
    (k : ∀ h', Heap.HeldW B l e cls a0 L h' → s'.heap.UpToSlots h' → Q () { s' with heap := h' }) : wpAny M A (setFlight (.ref e) (some L)) Q E s' := by
  obtain ⟨oe, vs, T, oT, ts, he, hcls, hd, h1, hnT, hTe, hT, hdT, h3⟩ := f4
  have hsz3 : 3 < ts.size := (Array.getElem?_eq_some_iff.mp h3).1
  have other : ∀ b, b ≠ T → (s'.heap.update T (Obj.mapFields (·.setIfInBounds 3 ((some L).elim Value.none fun f => rawInt f)))).get? b = s'.heap.get? b :=
    fun b hb => Heap.get?_update_other _ _ (Ne.symm hb)
  have apart : ∀ b o, s'.heap.get? b = some o → (∀ vs, o.data ≠ .fields vs) → b ≠ T := fun b o hb hnf q => by
    rw [q, hT] at hb
    injection hb with hb
    exact hnf ts (hb ▸ hdT)
  have keepB : B.StaysIn (s'.heap.update T (Obj.mapFields (·.setIfInBounds 3 ((some L).elim Value.none fun f => rawInt f)))) := fun b o hb => by
    rw [other b (fun q => by rw [q, hnT] at hb; cases hb)]; exact f1 b o hb
  unfold setFlight
  refine wpAny_bind (wpAny_field he hd h1 ?_)
  rw [if_pos (show (Value.ref T != Value.none) = true from by simp)]
  refine wpAny_setField hT hdT hsz3 (k _ ⟨keepB, f2, f3.of_keeps fun b o hb hnf => ⟨o, by rw [other b (apart b o hb hnf)]; exact hb, rfl⟩, ?_⟩ fun b o hb hnf => ⟨o.slots, by rw [other b (apart b o hb hnf)]; exact hb⟩)
  exact ⟨oe, vs, T, _, _, by rw [other e (Ne.symm hTe)]; exact he, hcls, hd, h1, hnT, hTe, Heap.get?_update_self _ hT (Obj.isFreed_of_fields (Obj.data_mapFields hdT _)), Obj.data_mapFields hdT _, by simp [hsz3]⟩
theorem came_back (hf : env.frame = some L) (R : HeldE base G l L e X s'.heap) (k : ∀ h', HeldE base G l L e X h' → E (.ref e) { s' with heap := h' }) : cameBackBy M A env E (.ref e) s' := by
  obtain ⟨⟨B, a0, h1, h2, h3⟩, hu⟩ := R
  obtain ⟨f1, f2, f3, f4⟩ := h3
  obtain ⟨oe, vs, T, oT, ts, he, hcls, hd, hv1, _⟩ := id f4
  unfold cameBackBy
  refine wpAny_bind (wpAny_field he hd hv1 ?_)
  rw [if_neg (show ¬ ((Value.ref T == Value.none) = true) from by simp), hf]
  first
    | exact flight_at f1 f2 f3 f4 fun h' hh hs => k h' ⟨⟨B, a0, h1, h2, hh⟩, hu.trans hs⟩
    | exact wpAny_bind (wpAny_pure (flight_at f1 f2 f3 f4 fun h' hh hs => k h' ⟨⟨B, a0, h1, h2, hh⟩, hu.trans hs⟩))
theorem pass_nil {Q : Flow → Shared → Prop} (hf : env.frame = some L) (R : FlyE base G l e X s'.heap) (k : ∀ h', HeldE base G l L e X h' → E (.ref e) { s' with heap := h' }) : wpAny M A (handleBy (.ref e) env []) Q E s' := by
  obtain ⟨⟨B, a0, h1, h2, h3⟩, hu⟩ := R
  obtain ⟨f1, f2, f3, f4⟩ := h3
  obtain ⟨oe, vs, T, oT, ts, he, hcls, hd, hv1, _⟩ := id f4
  refine wpAny_handleBy_nil ?_
  unfold PySem.passOn
  refine wpAny_bind (wpAny_field he hd hv1 ?_)
  rw [if_neg (show ¬ ((Value.ref T == Value.none) = true) from by simp), hf]
  first
    | exact wpAny_bind (wpAny_pure (wpAny_bind (flight_at f1 f2 f3 f4.at fun h' hh hs => wpAny_throw (k h' ⟨⟨B, a0, h1, h2, hh⟩, hu.trans hs⟩))))
    | exact wpAny_bind (flight_at f1 f2 f3 f4.at fun h' hh hs => wpAny_throw (k h' ⟨⟨B, a0, h1, h2, hh⟩, hu.trans hs⟩))
theorem leave_held {G' : Heap} (hf : env.frame = some L) (R : HeldE base G (env :: outer) L e X s'.heap) (hG : ∀ b o, G'.get? b = some o → b ∉ fr outer → b ≠ L ∧ G.get? b = some o) (hU : G'.UpToSlots G)
    (k : ∀ h', FlyE base G' outer e X h' → Q () { s' with heap := h' }) : wpAny M A (leaving env (.ref e)) Q E s' := by
  unfold leaving
  refine wpAny_bind (note_held hf R ?_)
  refine land_held R fun h' R' => ?_
  obtain ⟨⟨B, a0, h1, h2, h3⟩, hu⟩ := R'
  obtain ⟨k1, k2, ⟨_, _, k3⟩, k4⟩ := h3
  refine k h' ⟨⟨B, a0, h1, fun b o hb hn => ?_, k1, k2, k3, k4⟩, hU.trans hu⟩
  obtain ⟨q1, q2⟩ := hG b o hb hn
  refine h2 b o q2 fun hm => ?_
  rw [fr, List.filterMap_cons, hf] at hm
  rcases List.mem_cons.mp hm with q | q
  · exact q1 q
  · exact hn q
theorem ground {A₀ : Around} {h : Heap} {m : Str → Option Value} {news : List (Addr × Obj)} (K : Below A₀ base outer g) (F : Fr g L G m) (N : News g L G news) (hf : env.frame = some L) (R : FlyE base G (env :: outer) e X h) :
    ∃ g', KtsTurn (fr outer) g g' ∧ Fr g' L h m ∧ News g' L h news ∧ Below A₀ base outer g' := by
  obtain ⟨⟨B, a0, h1, h2, h3⟩, hu⟩ := R
  have efr : fr (env :: outer) = L :: fr outer := by rw [fr, List.filterMap_cons, hf]
  obtain ⟨g', T, F', K'⟩ := kts_ground (name := Str.ofString "") (scope := env.scope) (a := 0) (cd := .none) (B := B) K F (fun b o hb hn => h2 b o hb (by rw [efr]; exact hn)) h3.1 hu
  refine ⟨g', T, F', fun q hq => ⟨h3.1 _ _ (h2 _ _ (N q hq).1 ?_), (N q hq).2.1, T.none_ _ (N q hq).2.2⟩, K'⟩
  rw [efr]
  intro hm
  rcases List.mem_cons.mp hm with z | z
  · exact (N q hq).2.1 z
  · obtain ⟨_, o, ho, _⟩ := K.frames.mem z
    rw [(N q hq).2.2] at ho; cases ho
theorem FlyE.ty (R : FlyE base G l e X s'.heap) : s'.TypeIs (.ref e) X := by
  obtain ⟨⟨B, a0, h1, h2, h3⟩, hu⟩ := R
  obtain ⟨ob, hob, hobc⟩ := h3.there
  exact ⟨ob, hob, hobc⟩
end
end Mine
end
section
open PySem PySem.Spec PySem.Calls PySem.W PyProof.Rows
namespace Mine
set_option maxRecDepth 100000
/-- the exception knows of no one ahead of it -/
noncomputable def Ctx0 (e : Addr) (h : Heap) : Prop := ∃ oe vs, h.get? e = some oe ∧ oe.data = .fields vs ∧ vs[2]? = some Value.none
section
variable {M : Model} {A : Around} {E : Value → Shared → Prop} {s' : Shared} {base G g : Heap} {env : Env} {outer l : List Env} {L e : Addr} {X : String} {Q : Unit → Shared → Prop}
theorem note_newOf (hfr : A.frames = some (env :: outer)) (hf : env.frame = some L) (hfun : G.FunFrames base (env :: outer)) (st : base.StaysIn G) (hx : Heap.NewExcOf G s'.heap e X)
    (k : ∀ h', HeldE base G (env :: outer) L e X h' → (Ctx0 e s'.heap → Ctx0 e h') → Q () { s' with heap := h' }) : wpAny M A (noteFrame (.ref e) env) Q E s' := by
  obtain ⟨ob, vs, he, hcls, hd, hv1⟩ := hx.there
  have hin : ∀ v ∈ env :: outer, ∀ a, v.frame = some a → a ∈ fr (env :: outer) := fun v hv a ha => List.mem_filterMap.mpr ⟨v, hv, ha⟩
  have hkb : ∀ b o, (hideAll G (fr (env :: outer))).get? b = some o → s'.heap.get? b = some o := fun b o hb => hx.keeps b o (of_hideAll _ hb)
  have hl : s'.heap.FunFrames (hideAll G (fr (env :: outer))) (env :: outer) := (funFrames_hide hfun hin).of_keeps fun b o hb _ => ⟨o, hx.keeps b o hb, rfl⟩
  have stB : base.StaysIn (hideAll G (fr (env :: outer))) := fun b o q => hideAll_get _ (st b o q) fun hm => by
    rw [(hfun.mem hm).1] at q; cases q
  have hen : (hideAll G (fr (env :: outer))).get? e = none := by
    cases q : (hideAll G (fr (env :: outer))).get? e with
    | none => rfl
    | some o => have := of_hideAll _ q; rw [hx.new] at this; cases this
  have hsz : 1 < vs.size := (Array.getElem?_eq_some_iff.mp hv1).1
  have hv0 : vs[0]? = some vs[0] := Array.getElem?_eq_getElem _
  unfold noteFrame
  simp only [hf]
  refine wpAny_bind (wpAny_field he hd (x := .none) hv1 ?_)
  rw [if_neg (by decide)]
  have hene : e ∉ fr (env :: outer) := fun hm => by
    obtain ⟨_, o, ho, hnf⟩ := hl.mem hm
    rw [he] at ho
    exact hnf vs (Option.some.inj ho ▸ hd)
  refine wpAny_bind (wpAny_frameOf_fun hfr hl hf fun h₁ hs₁ => ?_)
  refine wpAny_bind (wpAny_entryPlaceOf fun pl hpl => ?_)
  unfold EntryCells.newEntry newFields
  refine wpAny_bind (wpAny_newObj_type ?_ (hpl.sizeOk5 _ _ _ _ _))
  have he₁ : h₁.get? e = some ob := (hs₁.2.1 e hene).trans he
  have kb₁ : ∀ b o, (hideAll G (fr (env :: outer))).get? b = some o → h₁.get? b = some o := fun b o hb => (hs₁.2.1 b fun hm => by rw [(hl.mem hm).1] at hb; cases hb).trans (hkb b o hb)
  generalize hT : ({ cls := .type "traceback", dict := none, data := .fields ([Value.none, .ref L, .none, rawInt L, .none] ++ (if pl.isEmpty then List.replicate 6 Value.none else pl)).toArray } : Obj) = oT
  have he₂ := Heap.get?_push_of_some (h := h₁) oT he₁
  refine wpAny_setField he₂ hd hsz ?_
  have hTe : h₁.objs.size ≠ e := Nat.ne_of_gt (Heap.lt_size he₁)
  have hd₃ := Obj.data_mapFields hd (·.setIfInBounds 1 (Value.ref h₁.objs.size))
  have he₃ := Heap.get?_update_self (Obj.mapFields (·.setIfInBounds 1 (Value.ref h₁.objs.size))) he₂ (Obj.isFreed_of_fields hd₃)
  have hT₃ := (Heap.get?_update_other (h₁.push oT) (Obj.mapFields (·.setIfInBounds 1 (Value.ref h₁.objs.size))) (Ne.symm hTe)).trans (Heap.get?_push_size h₁ (o := oT) (by rw [← hT]; rfl))
  have keep : ∀ b o, b ≠ e → h₁.get? b = some o → ((h₁.push oT).update e (Obj.mapFields (·.setIfInBounds 1 (Value.ref h₁.objs.size)))).get? b = some o := fun b o hbe hb => by
    rw [Heap.get?_update_other _ _ (Ne.symm hbe)]
    exact Heap.get?_push_of_some _ hb
  have apart : ∀ b o, s'.heap.get? b = some o → (∀ vs, o.data ≠ .fields vs) → b ≠ e := fun b o hb hnf q => by
    rw [q, he] at hb
    exact hnf vs (Option.some.inj hb ▸ hd)
  have hup : s'.heap.UpToSlots ((h₁.push oT).update e (Obj.mapFields (·.setIfInBounds 1 (Value.ref h₁.objs.size)))) := fun b o hb hnf => by
    obtain ⟨sl, hs⟩ := hs₁.2.2 b o hb
    exact ⟨sl, keep b _ (apart b o hb hnf) hs⟩
  refine k _ ⟨⟨_, vs[0], stB, fun b o hb hn => hideAll_get _ hb hn, ⟨fun b o hb => keep b o (fun q => by rw [q, hen] at hb; cases hb) (kb₁ b o hb), hen, hl.of_keeps fun b o hb hnf => ?_, ?_⟩⟩, (Heap.UpToSlots.of_keeps hx.keeps).trans hup⟩ ?_
  · obtain ⟨sl, hs⟩ := hs₁.2.2 b o hb
    exact ⟨_, keep b _ (apart b o hb hnf) hs, rfl⟩
  · refine ⟨_, _, h₁.objs.size, oT, _, he₃, ⟨(Obj.cls_mapFields _ _).trans hcls, by rw [Array.getElem?_setIfInBounds_ne (by decide)]; exact hv0⟩, hd₃, by simp [hsz], ?_, hTe, hT₃, by rw [← hT], by first | (simp; done) | (rcases hpl with rfl | ⟨_, _, _, _, _, _, _, rfl⟩ <;> simp)⟩
    cases q : (hideAll G (fr (env :: outer))).get? h₁.objs.size with
    | none => rfl
    | some o => exact absurd (Heap.lt_size (kb₁ _ _ q)) (Nat.lt_irrefl _)
  · rintro ⟨oe, ws, q1, q2, q3⟩
    rw [he] at q1
    obtain rfl := Option.some.inj q1
    rw [hd] at q2
    injection q2 with q2
    subst q2
    exact ⟨_, _, he₃, hd₃, by rw [Array.getElem?_setIfInBounds_ne (by decide)]; exact q3⟩
theorem flight_ctx {B : Heap} {cls a0 fl : Value} (f1 : B.StaysIn s'.heap) (f2 : B.get? e = none) (f3 : s'.heap.FunFrames B l) (f4 : s'.heap.TracedAtW B e cls a0 fl)
    (k : ∀ h', Heap.FlyingW B l e cls a0 h' → s'.heap.UpToSlots h' → h'.get? e = s'.heap.get? e → Q () { s' with heap := h' }) : wpAny M A (setFlight (.ref e) none) Q E s' := by
  obtain ⟨oe, vs, T, oT, ts, he, hcls, hd, h1, hnT, hTe, hT, hdT, h3⟩ := f4
  have hsz3 : 3 < ts.size := (Array.getElem?_eq_some_iff.mp h3).1
  have other : ∀ b, b ≠ T → (s'.heap.update T (Obj.mapFields (·.setIfInBounds 3 ((none : Option Addr).elim Value.none fun f => rawInt f)))).get? b = s'.heap.get? b :=
    fun b hb => Heap.get?_update_other _ _ (Ne.symm hb)
  have apart : ∀ b o, s'.heap.get? b = some o → (∀ vs, o.data ≠ .fields vs) → b ≠ T := fun b o hb hnf q => by
    rw [q, hT] at hb
    injection hb with hb
    exact hnf ts (hb ▸ hdT)
  have keepB : B.StaysIn (s'.heap.update T (Obj.mapFields (·.setIfInBounds 3 ((none : Option Addr).elim Value.none fun f => rawInt f)))) := fun b o hb => by
    rw [other b (fun q => by rw [q, hnT] at hb; cases hb)]; exact f1 b o hb
  unfold setFlight
  refine wpAny_bind (wpAny_field he hd h1 ?_)
  rw [if_pos (show (Value.ref T != Value.none) = true from by simp)]
  refine wpAny_setField hT hdT hsz3 (k _ ⟨keepB, f2, f3.of_keeps fun b o hb hnf => ⟨o, by rw [other b (apart b o hb hnf)]; exact hb, rfl⟩, ?_⟩ (fun b o hb hnf => ⟨o.slots, by rw [other b (apart b o hb hnf)]; exact hb⟩) (other e (Ne.symm hTe)))
  exact ⟨oe, vs, T, _, _, by rw [other e (Ne.symm hTe)]; exact he, hcls, hd, h1, hnT, hTe, Heap.get?_update_self _ hT (Obj.isFreed_of_fields (Obj.data_mapFields hdT _)), Obj.data_mapFields hdT _, by simp [hsz3]⟩
theorem Ctx0.of {h h' : Heap} (c : Ctx0 e h) (q : h'.get? e = h.get? e) : Ctx0 e h' := by
  obtain ⟨oe, vs, h1, h2⟩ := c
  exact ⟨oe, vs, q.trans h1, h2⟩
theorem Ctx0.keeps {h h' : Heap} (c : Ctx0 e h) (k : ∀ b o, h.get? b = some o → h'.get? b = some o) : Ctx0 e h' := by
  obtain ⟨oe, vs, h1, h2⟩ := c
  exact ⟨oe, vs, k _ _ h1, h2⟩
theorem land_heldC (R : HeldE base G l L e X s'.heap) (c : Ctx0 e s'.heap) (k : ∀ h', FlyE base G l e X h' → Ctx0 e h' → Q () { s' with heap := h' }) : wpAny M A (setFlight (.ref e) none) Q E s' := by
  obtain ⟨⟨B, a0, h1, h2, f1, f2, f3, f4⟩, hu⟩ := R
  exact flight_ctx f1 f2 f3 f4 fun h' hh hs q => k h' ⟨⟨B, a0, h1, h2, hh⟩, hu.trans hs⟩ (c.of q)
theorem land_flyC (R : FlyE base G l e X s'.heap) (c : Ctx0 e s'.heap) (k : ∀ h', FlyE base G l e X h' → Ctx0 e h' → Q () { s' with heap := h' }) : wpAny M A (setFlight (.ref e) none) Q E s' := by
  obtain ⟨⟨B, a0, h1, h2, f1, f2, f3, f4⟩, hu⟩ := R
  exact flight_ctx f1 f2 f3 f4.at fun h' hh hs q => k h' ⟨⟨B, a0, h1, h2, hh⟩, hu.trans hs⟩ (c.of q)
theorem ctx_new {h h' : Heap} (hx : Heap.NewExc h h' e X) : Ctx0 e h' := by
  obtain ⟨ob, t, he, _, hd⟩ := hx.there
  exact ⟨ob, _, he, hd, rfl⟩
end
end Mine
end
section
open PySem PySem.Spec PySem.Calls PySem.W PyProof.Rows
namespace Mine
set_option maxRecDepth 100000
theorem entry_unchain : entryFor table "proto.unchain" = some Builtin.«proto.unchain» := entryFor_of_tree (by kernel_rfl)
section
variable {prog : Program} {w : World} {A : Around} {E : Value → Shared → Prop} {s : Shared} {env : Env}
theorem unchain_none {e e1 : Addr} {slow : Value} {Q : Value → Shared → Prop} (c : Ctx0 e1 s.heap) (h : Q .none s) :
    wpAny (model prog w) A (runValue (.builtin "proto.unchain" ⟨[.ref e, .ref e1, slow, .bool false], []⟩)) Q E s := by
  obtain ⟨oe, vs, h1, h2, h3⟩ := c
  refine wpAny_runValue (codeAny_builtin entry_unchain ?_)
  show wpAny _ _ (do
    let context ← field (.ref e1) 2
    if context == .none then return ← ret .none
    if context == .ref e then
      rule "raise.context-cycle-cut"
      setField (.ref e1) 2 .none
      return ← ret .none
    if context == slow then rule "raise.context-old-cycle"; return ← ret .none
    let slow ← if false then field slow 2 else pure slow
    again (.builtin "proto.unchain" ⟨[.ref e, context, slow, .bool !false], []⟩)) _ _ s
  refine wpAny_bind (wpAny_field h1 h2 h3 ?_)
  rw [if_pos (by rfl)]
  unfold ret
  first
    | exact wpAny_pure h
    | exact wpAny_bind (wpAny_pure (wpAny_pure h))
/-- a new error, raised «from None» in the handler of another one -/
theorem raise_from {cls newId initId : String} (F : ExcCallFacts cls newId initId) (G : ExcRaiseFacts cls) {x : Str} {np cpos pos p2 : Pos} {kk : Nat} {args : List PySem.Expr} {Q : Flow → Shared → Prop} {e1 : Addr}
    (hh : A.handled = some (.ref e1)) (hplain : (backTo cpos (starEach args env)).any (·.1) = false)
    (h : wpAny (model prog w) A (eval (.Name x np) env) (fun f s₁ => f = .type cls ∧ wpAny (model prog w) A (evalArgs (.type cls) true (backTo cpos (starEach args env)) [])
      (fun a s₂ => a.kw = [] ∧ a.pos.length ≤ sizeLine ∧ Ctx0 e1 s₂.heap ∧ ∀ h' e, Heap.NewExcOf s₂.heap h' e cls → E (.ref e) { s₂ with heap := h' }) E s₁) E s) :
    wpAny (model prog w) A (exec (.Raise (some (.Call (.Name x np) args [] cpos)) (some (.Constant .none kk p2)) pos) env) Q E s := by
  have hcall : wpAny (model prog w) A (eval (.Call (.Name x np) args [] cpos) env) (fun v s₁ => ∃ e t h₂, v = .ref e ∧ s₁.heap.get? e = some { cls := .type cls, data := .fields #[.ref t, .none, .none, .none, .bool false, .none] } ∧ h₂.get? e = none ∧ (∀ b o, h₂.get? b = some o → s₁.heap.get? b = some o) ∧ Ctx0 e1 h₂ ∧
      ∀ h' e, Heap.NewExcOf h₂ h' e cls → E (.ref e) { s₁ with heap := h' }) E s := by
    refine wpAny_Call_ofName (wpAny_mono h (fun f s₁ h₁ => ?_) fun _ _ x => x)
    obtain ⟨rfl, h₁⟩ := h₁
    refine callWith_excType hplain (wpAny_mono h₁ (fun a s₂ h₂ => ?_) fun _ _ x => x)
    obtain ⟨apos, akw⟩ := a
    obtain ⟨hkw, hlen, hc, h₂⟩ := h₂
    obtain rfl : akw = [] := hkw
    obtain ⟨hp, g, d, tk, os⟩ := s₂
    refine wpAny_call_exc F (hrest := hlen) fun h' e hm => ?_
    obtain ⟨t, ht, _, _⟩ := hm.there
    exact ⟨e, t, hp, rfl, ht, hm.new, hm.keeps, hc, h₂⟩
  rw [arm_exec_Raise]
  show wpAny (model prog w) A (do standAt pos; raiseStmt env (some (do let v ← eval (.Call (.Name x np) args [] cpos) env; standAt pos; pure v)) (some (do let v ← eval (.Constant .none kk p2) env; standAt pos; pure v))) Q E s
  refine wpAny_bind (wpAny_standAt ?_)
  unfold raiseStmt
  refine wpAny_bind (wpAny_bind (wpAny_mono hcall (fun v s₁ h₁ => ?_) fun _ _ x => x))
  obtain ⟨e, t, h₂, rfl, he, hnew, hk, hc, hE⟩ := h₁
  refine wpAny_bind (wpAny_standAt (wpAny_pure ?_))
  refine wpAny_bind ?_
  dsimp only
  refine wpAny_holding ?_
  refine wpAny_bind (wpAny_Constant_none ?_)
  refine wpAny_bind (wpAny_standAt (wpAny_pure ?_))
  refine wpAny_bind (wpAny_pure ?_)
  have hsub := G.isExc
  have hmeta := G.plainMeta
  obtain ⟨hp, g, d, tk, os⟩ := s₁
  have hexc : ∀ (msg : String) (Q' : Value → Shared → Prop), Q' (.ref e) ⟨hp, g, d, tk, os⟩ → wpAny (model prog w) A (excFromValue (.ref e) msg) Q' E ⟨hp, g, d, tk, os⟩ := by
    intro msg Q' hq
    unfold excFromValue
    repeat (first | exact hq | refine wpAny_loadPart he ?_ | wp_step)
  refine wpAny_bind (wpAny_holding (hexc _ _ ?_))
  clear hexc
  dsimp only
  rw [if_pos (by rfl)]
  refine wpAny_bind (wpAny_pure ?_)
  refine wpAny_bind (wpAny_setField he rfl (show 3 < 6 by decide) ?_)
  have hne : e ≠ e1 := by
    rintro rfl
    obtain ⟨_, _, q, _⟩ := hc
    rw [hnew] at q; cases q
  have he1 : (hp.update e (Obj.mapFields (·.setIfInBounds 3 Value.none))).get? e = some { cls := .type cls, data := .fields #[.ref t, .none, .none, .none, .bool false, .none] } := Heap.get?_update_self _ he rfl
  have k1 : ∀ b o, h₂.get? b = some o → (hp.update e (Obj.mapFields (·.setIfInBounds 3 Value.none))).get? b = some o := fun b o q => by
    rw [Heap.get?_update_other _ _ (fun z => by rw [← z, hnew] at q; cases q)]; exact hk b o q
  generalize hp.update e (Obj.mapFields (·.setIfInBounds 3 Value.none)) = hp1 at *
  refine wpAny_bind (wpAny_setField he1 rfl (show 4 < 6 by decide) ?_)
  have he2 : (hp1.update e (Obj.mapFields (·.setIfInBounds 4 (Value.bool true)))).get? e = some { cls := .type cls, data := .fields #[.ref t, .none, .none, .none, .bool true, .none] } := Heap.get?_update_self _ he1 rfl
  have k2 : ∀ b o, h₂.get? b = some o → (hp1.update e (Obj.mapFields (·.setIfInBounds 4 (Value.bool true)))).get? b = some o := fun b o q => by
    rw [Heap.get?_update_other _ _ (fun z => by rw [← z, hnew] at q; cases q)]; exact k1 b o q
  dsimp only
  generalize hp1.update e (Obj.mapFields (·.setIfInBounds 4 (Value.bool true))) = hp2 at *
  clear he he1 k1 hk hcall h
  have hty : ∀ (Q' : Bool → Shared → Prop), Q' false ⟨hp2, g, d, tk, os⟩ → wpAny (model prog w) A (isType (.ref e)) Q' E ⟨hp2, g, d, tk, os⟩ := by
    intro Q' hq
    repeat (first | exact hq | refine wpAny_loadPart he2 ?_ | wp_step)
  refine wpAny_bind (hty _ ?_)
  clear hty
  rw [if_neg (by decide)]
  have hri : ∀ (Q' : Value → Shared → Prop), Q' (.ref e) ⟨hp2, g, d, tk, os⟩ → wpAny (model prog w) A (raisedInstance (.ref e)) Q' E ⟨hp2, g, d, tk, os⟩ := by
    intro Q' hq
    unfold raisedInstance
    repeat (first | exact hq | refine wpAny_loadPart he2 ?_ | wp_step)
  refine wpAny_bind (hri _ ?_)
  clear hri
  refine wpAny_bind ?_
  unfold setFlight
  refine wpAny_bind (wpAny_field he2 rfl (x := .none) rfl ?_)
  rw [if_neg (by decide)]
  refine wpAny_pure ?_
  unfold raiseNew
  refine wpAny_bind (wpAny_handled ?_)
  rw [hh]
  dsimp only
  rw [if_pos (show (Value.ref e1 != Value.ref e) = true by
    rw [bne_iff_ne]; intro z; injection z with z; exact hne z.symm)]
  refine wpAny_bind (wpAny_holding (unchain_none (hc.keeps k2) ?_))
  refine wpAny_bind ?_
  show wpAny _ _ (setField (.ref e) 2 (.ref e1)) _ _ _
  refine wpAny_setField he2 rfl (show 2 < 6 by decide) ?_
  refine wpAny_throw (hE _ e ⟨fun b o q => ?_, hnew, _, _, Heap.get?_update_self _ he2 rfl, rfl, rfl, rfl⟩)
  rw [Heap.get?_update_other _ _ (fun z => by rw [← z, hnew] at q; cases q)]; exact k2 b o q
end
end Mine
end
section
open PySem PySem.Spec PySem.Calls PySem.W PyProof.Rows
namespace Mine
set_option maxRecDepth 100000
theorem fill14 : PySem.Challenge.rw_pd0062_01.prog = PySem.Challenge.rw_pd0062_01.prog → hd.heap_39 = hd.heap_39 := by k_fill; intros; rfl
variable {prog : Program} {w : World} {s : Shared} {mean : ExcName → Option Value} {mg mb : Str → Option Value}
set_option maxHeartbeats 4000000
local macro_rules | `(tactic| walk_at "execs nil") => `(tactic| (k_here; refine wpAny_execs_nil ?_))
local macro_rules | `(tactic| walk_at "call type:map") => `(tactic| (k_here; k_dflt (refine' tuple_map_S ?k1 ?k2 ?k3 ?k4 ?k5 ?k6 ?k7 ?_; (case k1 => exact rfl); (case k2 => exact rfl); (case k3 => k_asm); (case k4 => k_asm); (case k5 => exact IsL_up (by assumption) (Fr.keep (by assumption))); (case k6 => exact Nat.le_trans (by assumption) (by rw [sizeLine_eq]; decide)); (case k7 => exact fspath_map (by assumption) (by assumption) (by assumption) rfl rfl rfl rfl (Nat.le_of_ble_eq_true rfl) (Nat.le_of_ble_eq_true rfl)); k_whole); intro D' h' tk' F' N' l1; (try k_sweep)))
local macro_rules | `(tactic| walk_at "call builtin:str.split") => `(tactic| (k_here; (refine KSpl.split1 (by k_asm) (by k_asm) (by decide) ?_ (by rw [sizeLine_eq]; omega)); intro D' l' h' k' e' a' F' N' l1))
local macro_rules | `(tactic| walk_at "truthy ref") => `(tactic| (k_here; (with_reducible show wpAny _ _ (truthy (Value.ref _)) _ _ _); k_dflt (refine' ktl_truthyK ?N ?m ?z ?_; (case N => k_asm); (case m => k_mem); (case z => assumption); k_whole); (try simp only [List.isEmpty_cons, Bool.not_false])))
local macro_rules | `(tactic| lcg_src) => `(tactic| ((with_reducible show @Membership.mem _ _ _ _ _); k_mem))
local macro_rules | `(tactic| walk_at "exec Assign cons ListComp") => `(tactic| (k_here; (with_reducible show wpAny _ _ (exec (Stmt.Assign _ (Expr.ListComp (Expr.Call _ _ _ _) _ _ _) _) _) _ _ _); (rename News _ _ _ _ => lN'); (try dsimp only [List.cons_append, List.nil_append] at lN'); k_dflt (refine Assign_ListComp_T (F₀ := by k_asm) (by rfl) (by with_unfolding_all rfl) (by with_unfolding_all rfl) (by decide) (by rfl) (by decide) (by rfl) (by rfl) (by rfl) ?_)))
local macro_rules | `(tactic| walk_at "SrcT") => `(tactic| (k_here; k_dflt (refine SrcT.ledger (by rfl) (by k_asm) (by k_asm) (by k_mem) (Nat.le_of_ble_eq_true rfl) ?_); intro g'; lcg_lit))
local macro_rules | `(tactic| walk_at "eval SetComp") => `(tactic| (k_here; k_dflt (refine SetComp_B (by k_asm) swV (by with_unfolding_all rfl) (by decide) (by rfl) (by decide) (by rfl) ?_)))
local macro_rules | `(tactic| walk_at "eval Name") => `(tactic| (k_here; (with_reducible show wpAny _ _ (eval (Expr.Name _ _) (compEnvC _ _ _ _)) _ _ _); k_dflt (first | (refine sx_L (by assumption) (by assumption) (by assumption) ?_ (by rfl) (by rfl)) | (refine sx_C (by assumption) (by rfl) (by assumption) (by assumption) ?_ (by rfl) (by rfl)))))
local macro_rules | `(tactic| walk_at "eval ListComp") => `(tactic| (k_here; k_dflt (refine ListComp_F (by k_asm) qF (by decide) (by with_unfolding_all rfl) (by decide) (by rfl) (by decide) (by rfl) ?_)))
local macro_rules | `(tactic| walk_at "subscriptTail") => `(tactic| (k_here; (with_reducible show wpAny _ _ (subscriptTail _ _ (Value.ref _) (Value.int _ _)) _ _ _); k_dflt (refine item_ent (News.get (by k_asm) (by k_mem)) (by assumption) (by assumption) ?_)))
local macro_rules | `(tactic| walk_at "exec For Tuple Call cons nil") => `(tactic| (k_here; k_dflt (refine wpAny_For ?_)))
local macro_rules | `(tactic| walk_at "exec Assign cons ListComp") => `(tactic| (k_here; (with_reducible show wpAny _ _ (exec (Stmt.Assign _ (Expr.ListComp (Expr.ListComp _ _ _ _) _ _ _) _) _) _ _ _); k_dflt (refine LCg.Assign_ListComp_U (F₀ := by k_asm) (by rfl) (by with_unfolding_all rfl) (by with_unfolding_all rfl) (by decide) (by rfl) (by decide) (by rfl) (by rfl) (by rfl) ?_)))
local macro_rules | `(tactic| walk_at "subscriptTail") => `(tactic| (k_here; (with_reducible show wpAny _ _ (subscriptTail _ _ (Value.ref _) (Value.int 0 _)) _ _ _); k_dflt (refine item0_tup (by k_asm) (by k_mem) ?_)))
local macro_rules | `(tactic| walk_at "call builtin:str.join") => `(tactic| (k_here; k_dflt (refine' SC.join ?k1 ?k2 ?k3 ?_; (case k1 => exact ⟨_, News.get (by k_asm) (by k_mem), rfl, _, rfl⟩); (case k2 => exact rfl); (case k3 => assumption); k_whole); intro _ _))
local macro_rules | `(tactic| walk_at "binaryOp Add str str") => `(tactic| (k_here; (refine add_str ?_ (hsz := ?hz)); (case hz => exact add_small rfl (by assumption)); intro _ _))
local macro_rules | `(tactic| walk_at "subscriptTail") => `(tactic| (k_here; (with_reducible show wpAny _ _ (subscriptTail _ (Expr.Slice _ _ none _) (Value.ref _) (Value.ref _)) _ _ _); k_dflt (refine slice_ent (by k_asm) (by k_asm) (by k_mem) (by assumption) ?_); intro D' h' F' N'))

section
variable {A : Around} {env : Env} {E : Value → Shared → Prop}
theorem tryE {body orelse : List Stmt} {h₀ : ExceptHandler} {hs : List ExceptHandler} {pos : Pos} {Q : Flow → Shared → Prop}
    (h : ∀ Eb : Value → Shared → Prop, (∀ e s₁, wpAny (model prog w) A (noteFrame e env) (fun _ s₂ => wpAny (model prog w) A (setFlight e none) (fun _ s₃ => wpAny (model prog w) A (handleBy e env (h₀ :: hs)) Q E s₃) E s₂) E s₁ → Eb e s₁) →
      wpAny (model prog w) A (execs body env) (fun f s₁ => match f with | .next => wpAny (model prog w) A (execs orelse env) Q E s₁ | f => Q f s₁) Eb s) :
    wpAny (model prog w) A (exec (.Try body (h₀ :: hs) orelse [] pos) env) Q E s := wpAny_Try_except (h _ fun _ _ x => x)
theorem absE {α : Type} {M : Model} {t : Sem α} {Q : α → Shared → Prop} (h : ∀ Eb : Value → Shared → Prop, (∀ e s₁, E e s₁ → Eb e s₁) → wpAny M A t Q Eb s) : wpAny M A t Q E s := h E fun _ _ x => x
theorem enterCR {Q : Value → Shared → Prop} {name qual : Str} {params : Arguments} {body : List Stmt} {scope : Scope}
    {dV kV doc pm cdv ct oc : Value} {an od : Option Addr} {osl : Array (Option Value)} {f : Addr} {vs : List Value} {binds : List (Str × Value)}
    (O : Ok w mean mg mb s.heap)
    (ho : (hd.heap_39 w.params).lookup f = some ⟨oc, od, .func (fnOf name qual params body scope dV kV doc pm an cdv ct), osl⟩) (hcd : codeIn (hd.heap_39 w.params) cdv qual = true) (hroom : A.depth < recursionLimit)
    (hbind : BindsTo s (fnOf name qual params body scope dV kV doc pm an cdv ct) ⟨vs, []⟩ binds) (hkind : (binds.all fun y => scope.names.lookup y.1 == some .local || scope.names.lookup y.1 == some .cell) = true)
    (hnd : ((cellsFrom 0 scope.names []).map (·.1)).Nodup)
    (h : ∀ L' h₁ tk cells Eb, Fr s.heap L' h₁ (bindL (envOfC qual scope L' f cdv).kindOf binds fun _ => none) → News s.heap L' h₁ cells →
      CellsAre (bindC (envOfC qual scope L' f cdv).kindOf binds fun _ => none) (cellsFrom (L' + 1) scope.names []) cells →
      (∀ e s', wpAny (model prog w) (A.deeper (envOfC qual scope L' f cdv)) (leaving (envOfC qual scope L' f cdv) e) (fun _ s'' => E e s'') (fun e' s'' => E e' s'') s' → Eb e s') →
      wpAny (model prog w) (A.deeper (envOfC qual scope L' f cdv)) (execs body (envOfC qual scope L' f cdv))
        (fun fl s' => Q (match fl with | .ret v => v | _ => .none) s') Eb { s with heap := h₁, toks := tk })
    (hco : scope.isCoroutine = false) (hgen : scope.isGenerator = false) (hk : scope.kind = .function) : wpAny (model prog w) A (call (.ref f) vs) Q E s :=
  wpAny_call (enterC O ho hcd hroom hbind hkind hnd (fun L' h₁ tk cells F N Y => h L' h₁ tk cells _ F N Y fun _ _ x => x) hco hgen hk)
end
theorem evalArgs_of {M : Model} {A : Around} {E : Value → Shared → Prop} {env : Env} {f : Value} {pos : Pos} {e : PySem.Expr} {rest : List PySem.Expr} {Q : Args → Shared → Prop} (h : wpAny M A (spliced (backTo pos (starEach (e :: rest) env))) (fun vs s' => Q ⟨vs, []⟩ s') E s)
    (he : starEach (e :: rest) env = (false, eval e env) :: starEach rest env) : wpAny M A (evalArgs f true (backTo pos (starEach (e :: rest) env)) []) Q E s := by
  rw [he] at h ⊢
  exact evalArgs_plain h
theorem boot_attr : bootBuiltins "AttributeError" = some (.type "AttributeError") := by decide +kernel
theorem isExc_attr : isSubtype (.type "AttributeError") (.type "BaseException") = pure true := by rw [isSubtype_type]; kernel_rfl
theorem notTuple_attr : isSubtype (.type ((Manifest.find? "AttributeError").elim "type" fun x => x.metatype)) (.type "tuple") = pure false := by
  rw [show ((Manifest.find? "AttributeError").elim "type" fun x => x.metatype) = "type" from by kernel_rfl, isSubtype_type]; kernel_rfl
local macro_rules | `(tactic| boot_fact) => `(tactic| exact boot_attr)
theorem FlyE.keeps {base G h h' : Heap} {l : List Env} {e : Addr} {X : String} (R : FlyE base G l e X h) (k : ∀ b o, h.get? b = some o → h'.get? b = some o) : FlyE base G l e X h' := by
  obtain ⟨⟨B, a0, h1, h2, h3⟩, hu⟩ := R
  exact ⟨⟨B, a0, h1, h2, flying_keeps h3 k⟩, hu.trans (Heap.UpToSlots.of_keeps k)⟩
theorem c_cp_raise {base : Heap} (OB : Ok w mean mg mb base) (O : Ok w mean mg mb s.heap) (l : Addr) (x0 : Str) (t0 : Tok) (r : List (Str × Tok)) (hl : s.heap.IsList l (Value.str x0 t0 :: strValues r).toArray) (hn : (Value.str x0 t0 :: strValues r).length ≤ 1000) (hs : ∀ v ∈ Value.str x0 t0 :: strValues r, ∃ x t, v = Value.str x t) (hx : ∀ p ∈ (x0, t0) :: r, p.1.length ≤ 1000)
    (h1 : ∃ p ∈ (x0, t0) :: r, Txt.startswith p.1 SL = true) (h2 : ∃ p ∈ (x0, t0) :: r, Txt.startswith p.1 SL = false) {outer : List Env} {gd : Option (List Code)} {Q E : Value → Shared → Prop} (B : Below (Ar 700 7000 gd outer) base outer s.heap)
    (hE : ∀ e h' tk', FlyE base s.heap outer e "ValueError" h' → E (.ref e) { s with heap := h', toks := tk' }) : wpAny (model prog w) (Ar 700 7000 gd outer) (call (.ref 141) [.ref l]) Q E s := by
  have X := O.X
  have T := O.T
  (k_dflt (refine' enterCR (binds := [(Str.ofString "paths", .ref l)]) O ?k6 ?k7 ?k8 ?k9 ?kB ?kD ?_ ?c2 ?c3 ?c4; (case k6 => k_is); (case k7 => k_is); (case k8 => exact Nat.le_of_ble_eq_true rfl); (case k9 => exact BindsTo.of_eq rfl); (case kB => exact rfl); (case kD => decide +kernel); (case c2 => exact rfl); (case c3 => exact rfl); (case c4 => exact rfl)))
  intro L' h' tk' cells' Ebody F' N' Y' hLv
  generalize hBE : Ebody = Eb0 at *
  k_cells Y'
  (try dsimp only [List.cons_append, List.nil_append] at N')
  (try dsimp only)
  (with_reducible show wpAny _ _ _ _ _ _)
  k_fold
  repeat (first | (k_unfold; (try dsimp only)) | walk1 | (dsimp only; walk1) | (refine id ?_; k_unfold; (try dsimp only)))
  refine tryE ?_
  intro Eb1 hEb1
  repeat (first | (k_unfold; (try dsimp only)) | walk1 | (dsimp only; walk1) | (refine id ?_; k_unfold; (try dsimp only)))
  rename_i D0 _ _ _ _ _ _ _ _ _ osep _ _ hos _ ocur lF lN hoc
  refine SrcT.ledger rfl lF lN (List.Mem.head _) (Nat.le_trans hn (by rw [sizeLine_eq]; decide)) (fun g => ?_)
  refine CompRest_all (IA ((x0, t0) :: r) D0 (L' + 1 + 1) (L' + 1) _ _ _) ⟨[], [], rfl, rfl, (fun _ h => nomatch h), by simp⟩ ?_ ?_
  rotate_left
  · intro i ys news hi hI v J oI C oC D m₂ h tk2 E' hv hC hx2 F2 N2 off ne
    obtain ⟨ents, rest, rfl, rfl, hmem, htx⟩ := hI
    rw [show (Value.str x0 t0 :: strValues r) = strValues ((x0, t0) :: r) from rfl, sv_get] at hv
    obtain ⟨p, hp, rfl⟩ := Option.map_eq_some_iff.mp hv
    have hpl := hx p (List.mem_of_getElem? hp)
    obtain ⟨x, tx⟩ := p
    (try dsimp only)
    (try dsimp only at hpl)
    clear lF lN
    (with_reducible show wpAny _ _ _ _ _ _)
    k_fold
    repeat (first | (k_unfold; (try dsimp only)) | walk1 | (dsimp only; walk1) | (refine id ?_; k_unfold; (try dsimp only)))
    rename_i T l9 h9 k9 he ha F9 N9 l1
    refine cend_new F9 N9 off ⟨Nat.ne_of_gt (l1 _ (List.Mem.head _)), Nat.ne_of_gt (l1 _ (List.Mem.tail _ (List.Mem.head _))), Nat.ne_of_gt (l1 _ (List.Mem.tail _ (List.Mem.tail _ (List.Mem.head _))))⟩ sub4 (List.Mem.head _) (IA_next hmem htx hp he)
  · intro ys news hI
    obtain ⟨ents, rest, rfl, rfl, hmem, htx⟩ := hI
    intro D1 h10 tk10 F10 N10 o10
    clear lF lN
    replace htx : ents.map LEnt.tx = ((x0, t0) :: r).map fun p => Txt.split p.1 SL := by
      rw [List.take_of_length_le (by simp [strValues])] at htx; exact htx
    (try dsimp only)
    repeat (first | (k_unfold; (try dsimp only)) | walk1 | (dsimp only; walk1) | (refine id ?_; k_unfold; (try dsimp only)))
    refine tryE ?_
    intro Eb2 hEb2
    repeat (first | (k_unfold; (try dsimp only)) | walk1 | (dsimp only; walk1) | (refine id ?_; k_unfold; (try dsimp only)))
    refine ⟨_, Value.str x0 t0 :: strValues r, _, rfl, rfl, by k_asm, by k_asm, ⟨_, News.get (by k_asm) (List.Mem.tail _ (List.Mem.head _)), rfl, _, rfl⟩, ?_, ?_⟩
    · intro C i v s₃ m₃ hv F₃ hm₃
      obtain ⟨a, ta, rfl⟩ : ∃ a ta, v = .str a ta := hs v (List.mem_of_getElem? hv)
      have hS : Sx s₃.heap s₃.heap := Sx.refl _
      have hn := F₃.ns
      have hcell := F₃.keep _ _ (N10.get (List.Mem.tail _ (List.Mem.tail _ (List.Mem.tail _ (List.Mem.head _)))))
      (try dsimp only)
      (with_reducible show wpAny _ _ _ _ _ _)
      k_fold
      repeat (first | (k_unfold; (try dsimp only)) | walk1 | (dsimp only; walk1) | (refine id ?_; k_unfold; (try dsimp only)))
      exact keeps_refl s₃
    intro D9 h9 tk9 F9 N9
    (try dsimp only)
    have hset : h9.get? D9 = some (twoB (!byT w)) := (N9.get (List.Mem.head _)).trans (congrArg some (setB_two (by
      obtain ⟨p, hp, hq⟩ := h1
      exact List.mem_map.mpr ⟨.str p.1 p.2, (show Value.str p.1 p.2 ∈ strValues ((x0, t0) :: r) from List.mem_map.mpr ⟨p, hp, rfl⟩), hq⟩) (by
      obtain ⟨p, hp, hq⟩ := h2
      exact List.mem_map.mpr ⟨.str p.1 p.2, (show Value.str p.1 p.2 ∈ strValues ((x0, t0) :: r) from List.mem_map.mpr ⟨p, hp, rfl⟩), hq⟩)))
    refine assign_set rfl rfl (unpack_two rfl hset fun h11 tk11 e1 hx1 => ?_)
    refine hEb2 _ _ ?_
    refine note_newOf (base := base) (Around.frames_deeper B.stack) (by rfl) (pushX B F9 (by rfl) (by rfl)).frames (fun b o q => F9.keep b o (B.stays b o q)) hx1.of ?_
    intro h12 R12 c12
    replace c12 := c12 (ctx_new hx1)
    refine land_heldC R12 c12 ?_
    intro h13 R13 c13
    obtain ⟨g5, T5, F5, N5, K5⟩ := ground B F9 (News.nil (h₀ := s.heap)) (by rfl) R13
    have O5 : Ok w mean mg mb g5 := OB.keeps K5.stays
    have X5 := O5.X
    have P5 := O5.T
    refine wpAny_handleBy_builtin (X := "ValueError") (T := "ValueError") (b := true) F.isExc_ValueError F.notTuple_ValueError (by rw [isSubtype_type]; kernel_rfl) ?_
    clear F10 N10 K5 hset
    (first | walk1 | (dsimp only; walk1))
    refine ⟨rfl, R13.ty (s' := ⟨h13, _, _, _, _⟩), ?_⟩
    (try dsimp only)
    refine land_flyC R13 c13 ?_
    intro h14 R14 c14
    clear X5 P5 O5 F5 N5 T5 g5
    obtain ⟨g6, T6, F6, N6, K6⟩ := ground B F9 (News.nil (h₀ := s.heap)) (by rfl) R14
    have O6 : Ok w mean mg mb g6 := OB.keeps K6.stays
    have X6 := O6.X
    have P6 := O6.T
    clear F9 N9
    refine absE ?_
    intro Eb3 hEb3
    repeat (first | (k_unfold; (try dsimp only)) | walk1 | (dsimp only; walk1) | (refine id ?_; k_unfold; (try dsimp only)))
    refine raise_from F.excCall_ValueError F.excRaise_ValueError (by rfl) (by rfl) ?_
    (first | walk1 | (dsimp only; walk1))
    refine ⟨rfl, ?_⟩
    refine evalArgs_of ?_ (by rfl)
    refine wpAny_items_cons ?_
    refine wpAny_Constant_str ?_
    refine wpAny_items_nil ?_
    refine ⟨rfl, Nat.le_of_ble_eq_true rfl, c14, ?_⟩
    intro h16 e2 hx2
    refine hEb3 _ _ ?_
    refine note_newOf (base := base) (outer := outer) (Around.frames_deeper B.stack) (by rfl) (pushX K6 F6 (by rfl) (by rfl)).frames (fun b o q => F6.keep b o (K6.stays b o q)) hx2 ?_
    intro h17 R17 _
    refine came_back (by rfl) R17 ?_
    intro h18 R18
    refine hEb1 _ _ ?_
    refine note_held (by rfl) R18 ?_
    refine land_held R18 ?_
    intro h19 R19
    obtain ⟨g7, T7, F7, N7, K7⟩ := ground K6 F6 (News.nil (h₀ := g6)) (by rfl) R19
    have O7 : Ok w mean mg mb g7 := OB.keeps K7.stays
    have X7 := O7.X
    have P7 := O7.T
    have sub1 : isSubtype (.type "ValueError") (.type "TypeError") = pure false := by rw [isSubtype_type]; kernel_rfl
    have sub2 : isSubtype (.type "ValueError") (.type "AttributeError") = pure false := by rw [isSubtype_type]; kernel_rfl
    refine wpAny_handleBy_tup2 (X := "ValueError") (T1 := "TypeError") (T2 := "AttributeError") (b1 := false) (b2 := false) F.isExc_TypeError F.notTuple_TypeError isExc_attr notTuple_attr sub1 sub2 ?_
    refine wpAny_Tuple ?_
    refine wpAny_items_cons ?_
    (first | walk1 | (dsimp only; walk1))
    refine wpAny_items_cons ?_
    (first | walk1 | (dsimp only; walk1))
    refine wpAny_items_nil ⟨Nat.le_of_ble_eq_true rfl, ?_⟩
    have kp : ∀ b o, h19.get? b = some o → (h19.push { cls := .type "tuple", data := .seq [Value.type "TypeError", Value.type "AttributeError"].toArray }).get? b = some o := fun _ _ z => Heap.get?_push_of_some _ z
    have R20 := R19.keeps kp
    refine ⟨_, rfl, ⟨_, Heap.get?_push_size h19 rfl, rfl, _, rfl⟩, R20.ty (s' := ⟨_, _, _, _, _⟩), ?_⟩
    rw [if_neg (by decide)]
    refine pass_nil (by rfl) R20 ?_
    intro h21 R21
    refine hLv _ _ ?_
    refine leave_held (G' := s.heap) (by rfl) R21 (fun b o q nm => ⟨fun z => ?_, F6.keep _ _ (T6.other b o q nm)⟩) (fun b o q _ => ?_) ?_
    · have := T6.other b o q nm
      rw [z, kts_self F6] at this
      cases this
    · obtain ⟨sl, hs⟩ := T6.up q
      exact ⟨sl, F6.keep _ _ hs⟩
    intro h22 R22
    exact hE _ _ _ R22
end Mine
end
section
open PySem PySem.Spec PySem.Calls PySem.W PyProof.Rows
namespace Mine
set_option maxRecDepth 100000
theorem fill15 : PySem.Challenge.rw_pd0062_01.prog = PySem.Challenge.rw_pd0062_01.prog → hd.heap_39 = hd.heap_39 := by k_fill; intros; rfl
variable {prog : Program} {w : World} {s : Shared} {mean : ExcName → Option Value} {mg mb : Str → Option Value}
set_option maxHeartbeats 4000000
local macro_rules | `(tactic| walk_at "execs cons") => `(tactic| (k_here; refine wpAny_execs_cons ?_; k_fold))
local macro_rules | `(tactic| walk_at "execs nil") => `(tactic| (k_here; refine wpAny_execs_nil ?_))
local macro_rules | `(tactic| walk_at "subscriptTail Name Slice ref ref") => `(tactic| (k_here; (with_reducible show wpAny _ _ (subscriptTail _ (Expr.Slice _ _ none _) (Value.ref _) (Value.ref _)) _ _ _); k_dflt (refine sl_all_O (vs := Value.str _ _ :: strValues _) (by k_asm) (by k_asm) (IsL_up (by assumption) (Fr.keep (by k_asm))) (by assumption) ?_); intro D' h' F' N' l1))
local macro_rules | `(tactic| walk_at "call ref") => `(tactic| (k_here; (with_reducible show wpAny _ _ (call (Value.ref 141) _) _ _ _); refine hold ?_))
local macro_rules | `(tactic| walk_at "compareOp Eq ref ref") => `(tactic| (k_here; (with_reducible show wpAny _ _ (compareOp CmpOp.Eq (Value.ref _) (Value.ref _)) _ _ _); refine hold ?_))
local macro_rules | `(tactic| walk_at "exec Try") => `(tactic| (k_here; refine hold ?_))
theorem nm_val {A : Around} {E : Value → Shared → Prop} {s : Shared} {h₀ : Heap} {L a : Addr} {m : Str → Option Value} {cn : Str} {cs : Scope} {ccd : Value} {pos : Pos} {Q : Value → Shared → Prop} (F : Fr h₀ L s.heap m) (X : (hd.heap_39 w.params).In h₀) (T : Top hd.view_39 lz mean mg mb h₀) (h : Q (.type "ValueError") s)
    (hk : cs.kind = .function := by rfl) (hx : (envOf cn cs L a ccd).kindOf "ValueError" = some .globalImplicit := by rfl) : wpAny (model prog w) A (eval (.Name "ValueError" pos) (envOf cn cs L a ccd)) Q E s := by
  exact name_B F X (topRead_of T) (by k_is) Boot.«ValueError» (by decide) h hk hx
theorem c_common_mixed {base : Heap} (OB : Ok w mean mg mb base) (O : Ok w mean mg mb s.heap) (l : Addr) (x0 : Str) (t0 : Tok) (r : List (Str × Tok)) (hl : s.heap.IsList l (Value.str x0 t0 :: strValues r).toArray) (hn : (Value.str x0 t0 :: strValues r).length ≤ 1000) (hs : ∀ v ∈ Value.str x0 t0 :: strValues r, ∃ x t, v = Value.str x t) (hx : ∀ p ∈ (x0, t0) :: r, p.1.length ≤ 1000)
    (h1 : ∃ p ∈ (x0, t0) :: r, Txt.startswith p.1 SL = true) (h2 : ∃ p ∈ (x0, t0) :: r, Txt.startswith p.1 SL = false) (hok : OkP ((x0, t0) :: r)) {outer : List Env} {gd : Option (List Code)} {Q E : Value → Shared → Prop} (B : Below (Ar 600 6000 gd outer) base outer s.heap) (hlo : l ∉ fr outer)
    (hQ : ∀ h' tk' t', (∀ b o, s.heap.get? b = some o → b ∉ fr outer → h'.get? b = some o) → s.heap.UpToSlots h' → Q (.str (Str.ofString "refused") t') { s with heap := h', toks := tk' }) : wpAny (model prog w) (Ar 600 6000 gd outer) (call (.ref 233) [.ref l]) Q E s := by
  have X := O.X
  have T := O.T
  (k_dflt (refine' enter0 (binds := [(Str.ofString "ways", .ref l)]) O ?k6 ?k7 ?k8 ?k9 ?kB ?_ ?c2 ?c3 ?c4 ?c5; (case k6 => k_is); (case k7 => k_is); (case k8 => exact Nat.le_of_ble_eq_true rfl); (case k9 => exact BindsTo.of_eq rfl); (case kB => exact locs rfl); (case c2 => exact rfl); (case c3 => exact rfl); (case c4 => exact rfl); (case c5 => decide)))
  intro L' h' F' N'
  (try dsimp only)
  k_fold
  have hsz : (Value.str x0 t0 :: strValues r).length ≤ 100000 := by omega
  repeat (first | (k_unfold; (try dsimp only)) | walk1 | (dsimp only; walk1) | (refine id ?_; k_unfold; (try dsimp only)))
  refine unhold ?_
  refine tryE ?_
  intro Eb hEb
  repeat (first | (k_unfold; (try dsimp only)) | walk1 | (dsimp only; walk1) | (refine id ?_; k_unfold; (try dsimp only)))
  refine unhold ?_
  (rename News _ _ _ _ => lN)
  (rename Fr _ _ _ _ => lF)
  refine ar_le (d := 700) (u := 7000) (by rfl) (Around.frames_deeper B.stack) (Nat.le_of_ble_eq_true rfl) (Nat.le_of_ble_eq_true rfl) ?_
  refine' c_cp_raise (gd := _) (outer := _) OB ?kO l x0 t0 r ?kl hn hs hx h1 h2 ?kB ?_
  case kO => exact O.keeps lF.keep
  case kl => exact IsL_up hl lF.keep
  case kB => exact below_at (pushX B lF (by rfl) (by rfl))
  intro e h10 tk10 R10
  refine hEb _ _ ?_
  refine note_fly (Around.frames_deeper B.stack) (by rfl) R10 ?_
  intro h11 R11
  refine land_held R11 ?_
  intro h12 R12
  obtain ⟨g5, T5, F5, N5, K5⟩ := ground B lF lN (by rfl) R12
  have O5 : Ok w mean mg mb g5 := OB.keeps K5.stays
  have X5 := O5.X
  have P5 := O5.T
  have lF2 := lF
  have lN2 := lN
  clear lF lN
  refine wpAny_handleBy_builtin (X := "ValueError") (T := "ValueError") (b := true) F.isExc_ValueError F.notTuple_ValueError (by rw [isSubtype_type]; kernel_rfl) ?_
  refine nm_val F5 X5 P5 ?_
  refine ⟨rfl, R12.ty (s' := ⟨h12, _, _, _, _⟩), ?_⟩
  (try dsimp only)
  refine land_fly R12 ?_
  intro h13 R13
  clear X5 P5 O5 F5 N5 T5 K5 g5
  obtain ⟨g6, T6, F6, N6, K6⟩ := ground B lF2 lN2 (by rfl) R13
  have O6 : Ok w mean mg mb g6 := OB.keeps K6.stays
  have X6 := O6.X
  have P6 := O6.T
  clear lF2 lN2
  refine absE ?_
  intro Eb3 _
  have hl6 : g6.IsList l (Value.str x0 t0 :: strValues r).toArray := by
    obtain ⟨o, ho, rr⟩ := hl
    exact ⟨o, T6.other l o ho hlo, rr⟩
  repeat (first | (k_unfold; (try dsimp only)) | walk1 | (dsimp only; walk1) | (refine id ?_; k_unfold; (try dsimp only)))
  refine unhold ?_
  (rename News _ _ _ _ => lN)
  (rename Fr _ _ _ _ => lF)
  refine eq_strs (p := (x0, t0) :: r) (q := (x0, t0) :: r) hok hok (IsL_up hl6 lF.keep) ⟨_, lN.get (List.Mem.head _), rfl, _, rfl⟩ (Nat.le_of_ble_eq_true rfl) ?_
  rw [decide_eq_true rfl]
  repeat (first | (k_unfold; (try dsimp only)) | walk1 | (dsimp only; walk1) | (refine id ?_; k_unfold; (try dsimp only)))
  have stays : ∀ {h9 : Heap} {m9 : Str → Option Value}, Fr g6 L' h9 m9 → (∀ b o, s.heap.get? b = some o → b ∉ fr outer → h9.get? b = some o) ∧ s.heap.UpToSlots h9 := fun F9 => ⟨fun b o q nm => F9.keep b o (T6.other b o q nm), fun b o q _ => by
    obtain ⟨sl, hs⟩ := T6.up q
    exact ⟨sl, F9.keep _ _ hs⟩⟩
  have st := stays (by assumption)
  exact hQ _ _ _ st.1 st.2
end Mine
end
section
open PySem PySem.Spec PySem.Calls PySem.W PyProof.Rows
namespace Mine
set_option maxRecDepth 100000
noncomputable def comL : List Str → Str
  | [] => Str.ofString ""
  | x :: xs => if (∀ p ∈ x :: xs, Txt.startswith p SL = Txt.startswith x SL) then cpF (Txt.startswith x SL) x xs else Str.ofString "refused"
theorem use_common {prog : Program} {w : World} {mean : ExcName → Option Value} {mg mb : Str → Option Value} {A₀ A : Around} {h₀ : Heap} {env : Env} {L : Addr} {m : Str → Option Value} {news : List (Addr × Obj)} {s : Shared} {l : Addr} {n : Nat} {p : List (Str × Tok)} {Q E : Value → Shared → Prop}
    (B : Below A₀ h₀ [] h₀) (O : Ok w mean mg mb h₀) (F : Fr h₀ L s.heap m) (N : News h₀ L s.heap news) (hA : A.frames = some [env]) (hf : env.frame = some L) (hk : env.scope.kind = .function) (hh : A.handled = none) (hd : A.depth ≤ 600) (hu : A.units ≤ 6000)
    (hm : (l, listOf (strValues p).toArray n) ∈ news) (h0 : p ≠ []) (hn : p.length ≤ 900) (hx : ∀ q ∈ p, q.1.length ≤ 1000) (hok : OkP p)
    (h : ∀ h' tk' t', Fr h₀ L h' m → News h₀ L h' news → Q (.str (comL (p.map (·.1))) t') { s with heap := h', toks := tk' }) : wpAny (model prog w) A (call (.ref 233) [.ref l]) Q E s := by
  obtain ⟨⟨x0, t0⟩, r, rfl⟩ : ∃ q r, p = q :: r := by
    cases p with
    | nil => exact absurd rfl h0
    | cons q r => exact ⟨q, r, rfl⟩
  by_cases hc : ∀ q ∈ x0 :: r.map (·.1), Txt.startswith q SL = Txt.startswith x0 SL
  · refine use_meets (c_common (O.keeps F.keep) l x0 t0 r ⟨_, N.get hm, rfl, _, rfl⟩ (by show (strValues ((x0, t0) :: r)).length ≤ _; rw [strValues_length]; omega) ?_ hx (Txt.startswith x0 SL) ?_ hok) B F N hA hf hk hh hd hu ?_
    · intro v hv
      obtain ⟨q, _, rfl⟩ := List.mem_map.mp (show v ∈ strValues ((x0, t0) :: r) from hv)
      exact ⟨_, _, rfl⟩
    · intro q hq
      exact hc q.1 (by
        rcases List.mem_cons.mp hq with rfl | hq
        · exact List.Mem.head _
        · exact List.Mem.tail _ (List.mem_map.mpr ⟨q, hq, rfl⟩))
    · intro v h' tk' hv st F' N'
      obtain ⟨t', rfl⟩ := hv
      have e : comL (((x0, t0) :: r).map (·.1)) = cpF (Txt.startswith x0 SL) x0 (r.map (·.1)) := by
        show (if _ then _ else _) = _
        rw [if_pos hc]
      rw [← e]
      exact h h' tk' t' F' N'
  · have hx2 : ∃ q ∈ (x0, t0) :: r, ¬ Txt.startswith q.1 SL = Txt.startswith x0 SL := by
      apply Classical.byContradiction
      intro hno
      apply hc
      intro q hq
      apply Classical.byContradiction
      intro hne
      rcases List.mem_cons.mp hq with rfl | hq
      · exact hne rfl
      · obtain ⟨p, hp, rfl⟩ := List.mem_map.mp hq
        exact hno ⟨p, List.Mem.tail _ hp, hne⟩
    obtain ⟨q, hq, hne⟩ := hx2
    have h12 : (∃ p ∈ (x0, t0) :: r, Txt.startswith p.1 SL = true) ∧ (∃ p ∈ (x0, t0) :: r, Txt.startswith p.1 SL = false) := by
      cases e1 : Txt.startswith x0 SL with
      | true =>
        refine ⟨⟨(x0, t0), List.Mem.head _, e1⟩, ⟨q, hq, ?_⟩⟩
        rw [e1] at hne
        cases e2 : Txt.startswith q.1 SL with
        | true => exact absurd e2 hne
        | false => rfl
      | false =>
        refine ⟨⟨q, hq, ?_⟩, ⟨(x0, t0), List.Mem.head _, e1⟩⟩
        rw [e1] at hne
        cases e2 : Txt.startswith q.1 SL with
        | true => rfl
        | false => exact absurd e2 hne
    have efr : fr [env] = [L] := by rw [fr, List.filterMap_cons, hf]; rfl
    refine ar_le hh hA hd hu ?_
    refine' c_common_mixed (gd := _) (outer := _) O ?kO l x0 t0 r ?kl ?kn ?ks hx h12.1 h12.2 hok ?kB ?ko ?_
    case kO => exact O.keeps F.keep
    case kl => exact ⟨_, N.get hm, rfl, _, rfl⟩
    case kn => show (strValues ((x0, t0) :: r)).length ≤ _; rw [strValues_length]; omega
    case ks =>
      intro v hv
      obtain ⟨q, _, rfl⟩ := List.mem_map.mp (show v ∈ strValues ((x0, t0) :: r) from hv)
      exact ⟨_, _, rfl⟩
    case kB => exact below_at (pushX B F hf hk)
    case ko =>
      rw [efr]
      intro hm'
      exact (N _ hm).2.1 (List.mem_singleton.mp hm')
    intro h' tk' t' st up
    have e : comL (((x0, t0) :: r).map (·.1)) = Str.ofString "refused" := by
      show (if _ then _ else _) = _
      rw [if_neg hc]
    rw [← e]
    rw [efr] at st
    refine h h' tk' t' ⟨up.ns F.ns, fun b o q => st b o (F.keep b o q) fun hm' => ?_, F.above⟩ fun p hp => ⟨st p.1 p.2 (N p hp).1 fun hm' => (N p hp).2.1 (List.mem_singleton.mp hm'), (N p hp).2.1, (N p hp).2.2⟩
    rw [List.mem_singleton.mp hm', kts_self F] at q
    cases q
end Mine
end
section
namespace Mine
theorem ar_dd {a z k : Int} (hz : 0 < z) : a / z / k = a / (z * k) := by
  rw [Int.ediv_ediv, if_neg (fun h => Int.lt_asymm hz h.1), Int.sub_zero]
theorem ar_div {a z k : Int} (hz : 0 < z) : (a - a % z) / (z * k) = a / (z * k) := by
  have e : a - a % z = z * (a / z) := by have := Int.mul_ediv_add_emod a z; omega
  rw [e, Int.mul_ediv_mul_of_pos _ _ hz, ar_dd hz]
theorem ar_mod {a z k : Int} (hz : 0 < z) : (a - a % z) % (z * k) = z * (a / z % k) := by
  have e : a - a % z = z * (a / z) := by have := Int.mul_ediv_add_emod a z; omega
  rw [e, Int.mul_emod_mul_of_pos _ _ hz]
theorem ar_low {a z k : Int} (hz : 0 < z) : a % (z * k) / z = a / z % k := by
  rw [Int.emod_def a (z * k), Int.mul_assoc, Int.sub_eq_add_neg, ← Int.mul_neg, Int.add_mul_ediv_left _ _ (Int.ne_of_gt hz), ← ar_dd hz, Int.emod_def, Int.sub_eq_add_neg]
theorem nat_A (n a b c : Nat) : n / a % (b * c) / b = n / (a * b) % c := by rw [Nat.mod_mul_right_div_self, Nat.div_div_eq_div_mul]
theorem nat_B (n a b c : Nat) : n / a % (b * (c * 2)) / b % 2 = n / (a * b) % 2 := by
  rw [Nat.mod_mul_right_div_self, Nat.mod_mod_of_dvd _ ⟨c, Nat.mul_comm c 2⟩, Nat.div_div_eq_div_mul]
theorem nat_C (n a c : Nat) : n / a % (c * 2) % 2 = n / a % 2 := Nat.mod_mod_of_dvd _ ⟨c, Nat.mul_comm c 2⟩
theorem eq_div {lo hi p q z : Int} (hz : 0 < z) (h : lo / z = hi / z) (h1 : lo ≤ p ∧ p ≤ hi) (h2 : lo ≤ q ∧ q ≤ hi) : p / z = q / z := by
  have a1 := Int.ediv_le_ediv hz h1.1
  have a2 := Int.ediv_le_ediv hz h1.2
  have a3 := Int.ediv_le_ediv hz h2.1
  have a4 := Int.ediv_le_ediv hz h2.2
  omega
theorem ne_div {lo hi z k : Int} (hz : 0 < z) (h : ¬ lo / (z * k) = hi / (z * k)) : ¬ lo / z = hi / z := fun e => h (by rw [← ar_dd hz, ← ar_dd hz, e])
/-- a division of 4096 by one of the sizes -/
theorem sz_fac {z : Int} (hz : z = 4096 ∨ z = 512 ∨ z = 64 ∨ z = 8 ∨ z = 1) : 0 < z ∧ ∃ k, z * k = 4096 := by
  rcases hz with rfl | rfl | rfl | rfl | rfl
  · exact ⟨by decide, 1, rfl⟩
  · exact ⟨by decide, 8, rfl⟩
  · exact ⟨by decide, 64, rfl⟩
  · exact ⟨by decide, 512, rfl⟩
  · exact ⟨by decide, 4096, rfl⟩
theorem ar_4096 {a b z : Int} (hz : z = 4096 ∨ z = 512 ∨ z = 64 ∨ z = 8 ∨ z = 1) : (a - a % z) / 4096 = a / 4096 ∧ ((a - a % z) % 4096 = (b - b % z) % 4096 ↔ a % 4096 / z = b % 4096 / z) := by
  obtain ⟨h0, k, hk⟩ := sz_fac hz
  rw [← hk]
  refine ⟨ar_div h0, ?_⟩
  rw [ar_mod h0, ar_mod h0, ar_low h0, ar_low h0]
  exact ⟨fun h => Int.eq_of_mul_eq_mul_left (Int.ne_of_gt h0) h, fun h => by rw [h]⟩
theorem ar_bound {a z : Int} (h0 : 0 ≤ a) (hz : 0 < z) : 0 ≤ a - a % z ∧ a - a % z ≤ a := by
  have h1 := Int.emod_nonneg a (Int.ne_of_gt hz)
  have e := Int.mul_ediv_add_emod a z
  have h2 : 0 ≤ z * (a / z) := Int.mul_nonneg (Int.le_of_lt hz) (Int.ediv_nonneg h0 (Int.le_of_lt hz))
  omega
theorem ar_split {u z k : Int} (hz : 0 < z) : u % (z * k) = z * (u / z % k) + u % z := by
  have e1 := Int.mul_ediv_add_emod u z
  have e3 := Int.mul_ediv_add_emod u (z * k)
  rw [Int.emod_def (u / z) k, Int.mul_sub, ar_dd hz, ← Int.mul_assoc]
  omega
theorem bits3 (q : Int) : q % 8 = 4 * (q / 4 % 2) + (2 * (q / 2 % 2) + q % 2) := by
  have h1 : q % 8 = 4 * (q / 4 % 2) + q % 4 := ar_split (u := q) (z := 4) (k := 2) (by decide)
  have h2 : q % 4 = 2 * (q / 2 % 2) + q % 2 := ar_split (u := q) (z := 2) (k := 2) (by decide)
  rw [h1, h2]
theorem bits_eq {q q' : Int} (h1 : q / 4 = q' / 4) (h2 : q / 2 % 2 = q' / 2 % 2) (h3 : q % 2 = q' % 2) : q = q' := by
  have e : ∀ q : Int, q = 4 * (q / 4) + (2 * (q / 2 % 2) + q % 2) := fun q => by
    have h2 : q % 4 = 2 * (q / 2 % 2) + q % 2 := ar_split (u := q) (z := 2) (k := 2) (by decide)
    rw [← h2]; exact (Int.mul_ediv_add_emod q 4).symm
  rw [e q, e q', h1, h2, h3]
theorem low_eq {u v : Int} (h1 : u / 512 % 8 = v / 512 % 8) (h2 : u / 64 % 8 = v / 64 % 8) (h3 : u / 8 % 8 = v / 8 % 8) (h4 : u % 8 = v % 8) : u % 4096 = v % 4096 := by
  have e : ∀ u : Int, u % 4096 = 512 * (u / 512 % 8) + (64 * (u / 64 % 8) + (8 * (u / 8 % 8) + u % 8)) := fun u => by
    have a1 : u % 4096 = 512 * (u / 512 % 8) + u % 512 := ar_split (u := u) (z := 512) (k := 8) (by decide)
    have a2 : u % 512 = 64 * (u / 64 % 8) + u % 64 := ar_split (u := u) (z := 64) (k := 8) (by decide)
    have a3 : u % 64 = 8 * (u / 8 % 8) + u % 8 := ar_split (u := u) (z := 8) (k := 8) (by decide)
    rw [a1, a2, a3]
  rw [e u, e v, h1, h2, h3, h4]
theorem ar_of {u v z k : Int} (hz : 0 < z) (hd : z * k ∣ 4096) (h : u % 4096 = v % 4096) : u / z % k = v / z % k := by
  rw [← ar_low hz, ← ar_low hz, ← Int.emod_emod_of_dvd u hd, ← Int.emod_emod_of_dvd v hd, h]
end Mine
end
section
open PySem PySem.Spec PySem.Calls PySem.W PyProof.Rows Builtin Builtin.Str
namespace Mine
theorem bit_one {i : Int} (h0 : 0 ≤ i) (k : Nat) (b : Int) (hb : b = ((2 ^ k : Nat) : Int)) : (Builtin.bitAnd i b = b) ↔ i.toNat / 2 ^ k % 2 = 1 := by
  obtain ⟨n, rfl⟩ := Int.eq_ofNat_of_zero_le h0
  subst hb
  have e : Builtin.bitAnd (n : Int) ((2 ^ k : Nat) : Int) = ((n &&& 2 ^ k : Nat) : Int) := by rfl
  rw [e, Int.toNat_natCast]
  have key : (n &&& 2 ^ k = 2 ^ k) ↔ n.testBit k = true := by
    constructor
    · intro h
      have h1 := congrArg (fun x => Nat.testBit x k) h
      simp [Nat.testBit_and, Nat.testBit_two_pow] at h1
      exact h1
    · intro h1
      apply Nat.eq_of_testBit_eq
      intro j
      simp only [Nat.testBit_and, Nat.testBit_two_pow]
      by_cases ja : k = j
      · subst ja; simp [h1]
      · simp [ja]
  rw [Nat.testBit_eq_decide_div_mod_eq] at key
  simp only [decide_eq_true_eq] at key
  rw [← key]
  exact ⟨fun h => Int.ofNat.inj h, fun h => by rw [h]⟩
theorem bit_two {i : Int} (h0 : 0 ≤ i) (a b : Nat) (c : Int) (hc : c = ((2 ^ a ||| 2 ^ b : Nat) : Int)) (hab : a ≠ b) : (Builtin.bitAnd i c = c) ↔ (i.toNat / 2 ^ a % 2 = 1 ∧ i.toNat / 2 ^ b % 2 = 1) := by
  obtain ⟨n, rfl⟩ := Int.eq_ofNat_of_zero_le h0
  subst hc
  have e : Builtin.bitAnd (n : Int) ((2 ^ a ||| 2 ^ b : Nat) : Int) = ((n &&& (2 ^ a ||| 2 ^ b) : Nat) : Int) := by rfl
  rw [e, Int.toNat_natCast]
  have key : (n &&& (2 ^ a ||| 2 ^ b) = 2 ^ a ||| 2 ^ b) ↔ (n.testBit a = true ∧ n.testBit b = true) := by
    constructor
    · intro h
      have h1 := congrArg (fun x => Nat.testBit x a) h
      have h2 := congrArg (fun x => Nat.testBit x b) h
      simp [Nat.testBit_and, Nat.testBit_or, Nat.testBit_two_pow] at h1 h2
      exact ⟨h1, h2⟩
    · rintro ⟨h1, h2⟩
      apply Nat.eq_of_testBit_eq
      intro j
      simp only [Nat.testBit_and, Nat.testBit_or, Nat.testBit_two_pow]
      by_cases ja : a = j
      · subst ja; simp [h1]
      · by_cases jb : b = j
        · subst jb; simp [h2]
        · simp [ja, jb]
  rw [Nat.testBit_eq_decide_div_mod_eq, Nat.testBit_eq_decide_div_mod_eq] at key
  simp only [decide_eq_true_eq] at key
  rw [← key]
  exact ⟨fun h => Int.ofNat.inj h, fun h => by rw [h]⟩
theorem seg1_r {i : Int} (h0 : 0 ≤ i) (k : Nat) (b j : Int) (hb : b = ((2 ^ k : Nat) : Int)) (hj : j = ((i.toNat / 2 ^ k % 2 : Nat) : Int)) : seg1 i b (Str.ofString "r") = Txt.item (Str.ofString "-r") j := by
  rw [seg1, hj]
  rcases Nat.mod_two_eq_zero_or_one (i.toNat / 2 ^ k) with h | h
  · rw [if_neg (by rw [bit_one h0 k b hb]; omega), h]; decide +kernel
  · rw [if_pos (by rw [bit_one h0 k b hb]; exact h), h]; decide +kernel
theorem seg1_w {i : Int} (h0 : 0 ≤ i) (k : Nat) (b j : Int) (hb : b = ((2 ^ k : Nat) : Int)) (hj : j = ((i.toNat / 2 ^ k % 2 : Nat) : Int)) : seg1 i b (Str.ofString "w") = Txt.item (Str.ofString "-w") j := by
  rw [seg1, hj]
  rcases Nat.mod_two_eq_zero_or_one (i.toNat / 2 ^ k) with h | h
  · rw [if_neg (by rw [bit_one h0 k b hb]; omega), h]; decide +kernel
  · rw [if_pos (by rw [bit_one h0 k b hb]; exact h), h]; decide +kernel
theorem seg3_x {i : Int} (h0 : 0 ≤ i) (a b : Nat) (c d e j : Int) (hc : c = ((2 ^ a ||| 2 ^ b : Nat) : Int)) (hd : d = ((2 ^ a : Nat) : Int)) (he : e = ((2 ^ b : Nat) : Int)) (hab : a ≠ b)
    (hj : j = ((2 * (i.toNat / 2 ^ a % 2) + i.toNat / 2 ^ b % 2 : Nat) : Int)) : seg3 i c d e (Str.ofString "s") (Str.ofString "S") (Str.ofString "x") = Txt.item (Str.ofString "-xSs") j := by
  rw [seg3, hj]
  have k1 := bit_two h0 a b c hc hab
  have k2 := bit_one h0 a d hd
  have k3 := bit_one h0 b e he
  rcases Nat.mod_two_eq_zero_or_one (i.toNat / 2 ^ a) with h | h <;> rcases Nat.mod_two_eq_zero_or_one (i.toNat / 2 ^ b) with h' | h' <;> rw [h, h'] at k1 <;> rw [h] at k2 <;> rw [h'] at k3 <;> rw [h, h']
  · rw [if_neg (by rw [k1]; decide), if_neg (by rw [k2]; decide), if_neg (by rw [k3]; decide)]; decide +kernel
  · rw [if_neg (by rw [k1]; decide), if_neg (by rw [k2]; decide), if_pos (k3.mpr rfl)]; decide +kernel
  · rw [if_neg (by rw [k1]; decide), if_pos (k2.mpr rfl)]; decide +kernel
  · rw [if_pos (k1.mpr ⟨rfl, rfl⟩)]; decide +kernel
theorem seg3_t {i : Int} (h0 : 0 ≤ i) (a b : Nat) (c d e j : Int) (hc : c = ((2 ^ a ||| 2 ^ b : Nat) : Int)) (hd : d = ((2 ^ a : Nat) : Int)) (he : e = ((2 ^ b : Nat) : Int)) (hab : a ≠ b)
    (hj : j = ((2 * (i.toNat / 2 ^ a % 2) + i.toNat / 2 ^ b % 2 : Nat) : Int)) : seg3 i c d e (Str.ofString "t") (Str.ofString "T") (Str.ofString "x") = Txt.item (Str.ofString "-xTt") j := by
  rw [seg3, hj]
  have k1 := bit_two h0 a b c hc hab
  have k2 := bit_one h0 a d hd
  have k3 := bit_one h0 b e he
  rcases Nat.mod_two_eq_zero_or_one (i.toNat / 2 ^ a) with h | h <;> rcases Nat.mod_two_eq_zero_or_one (i.toNat / 2 ^ b) with h' | h' <;> rw [h, h'] at k1 <;> rw [h] at k2 <;> rw [h'] at k3 <;> rw [h, h']
  · rw [if_neg (by rw [k1]; decide), if_neg (by rw [k2]; decide), if_neg (by rw [k3]; decide)]; decide +kernel
  · rw [if_neg (by rw [k1]; decide), if_neg (by rw [k2]; decide), if_pos (k3.mpr rfl)]; decide +kernel
  · rw [if_neg (by rw [k1]; decide), if_pos (k2.mpr rfl)]; decide +kernel
  · rw [if_pos (k1.mpr ⟨rfl, rfl⟩)]; decide +kernel
theorem seg0_item {i : Int} (h0 : 0 ≤ i) (h1 : i < 65536) : seg0 i = sgc i := by
  obtain ⟨q, hq⟩ := Int.eq_ofNat_of_zero_le (Int.ediv_nonneg h0 (show (0 : Int) ≤ 4096 by decide))
  have hq' : q < 16 := by
    have : i / 4096 < 16 := Int.ediv_lt_of_lt_mul (by decide) h1
    rw [hq] at this
    exact Int.ofNat_lt.mp this
  unfold seg0 sgc
  rw [hq]
  clear hq h0 h1
  revert q
  decide +kernel
theorem e_app (a : Str) : a ++ Str.ofString "" = a := tl_inj (by rw [tl_app, tl_e, List.append_nil])
theorem app_as (a b c : Str) : a ++ b ++ c = a ++ (b ++ c) := tl_inj (by simp [tl_app])
set_option maxRecDepth 100000 in
theorem fm_sg {i : Int} (h0 : 0 ≤ i) (h1 : i < 65536) : fmF i = sg i := by
  have e : fmF i = Str.join (Str.ofString "") (segs i) := StrLaws.glued_eq_join _ _
  rw [e, segs, seg0_item h0 h1]
  clear e h1
  obtain ⟨n, rfl⟩ := Int.eq_ofNat_of_zero_le h0
  have a1 : (n : Int) / 64 % 8 / 4 = (((n : Int).toNat / 2 ^ 8 % 2 : Nat) : Int) := by rw [Int.toNat_natCast]; exact_mod_cast (show n / 64 % 8 / 4 = n / 2 ^ 8 % 2 from nat_A n 64 4 2)
  have b1 : (n : Int) / 64 % 8 / 2 % 2 = (((n : Int).toNat / 2 ^ 7 % 2 : Nat) : Int) := by rw [Int.toNat_natCast]; exact_mod_cast (show n / 64 % 8 / 2 % 2 = n / 2 ^ 7 % 2 from nat_B n 64 2 2)
  have c1 : 2 * ((n : Int) / 2048 % 2) + (n : Int) / 64 % 8 % 2 = ((2 * ((n : Int).toNat / 2 ^ 11 % 2) + (n : Int).toNat / 2 ^ 6 % 2 : Nat) : Int) := by
    rw [Int.toNat_natCast]; exact_mod_cast (show 2 * (n / 2048 % 2) + n / 64 % 8 % 2 = 2 * (n / 2 ^ 11 % 2) + n / 2 ^ 6 % 2 from congrArg (2 * (n / 2048 % 2) + ·) (nat_C n 64 4))
  have a2 : (n : Int) / 8 % 8 / 4 = (((n : Int).toNat / 2 ^ 5 % 2 : Nat) : Int) := by rw [Int.toNat_natCast]; exact_mod_cast (show n / 8 % 8 / 4 = n / 2 ^ 5 % 2 from nat_A n 8 4 2)
  have b2 : (n : Int) / 8 % 8 / 2 % 2 = (((n : Int).toNat / 2 ^ 4 % 2 : Nat) : Int) := by rw [Int.toNat_natCast]; exact_mod_cast (show n / 8 % 8 / 2 % 2 = n / 2 ^ 4 % 2 from nat_B n 8 2 2)
  have c2 : 2 * ((n : Int) / 1024 % 2) + (n : Int) / 8 % 8 % 2 = ((2 * ((n : Int).toNat / 2 ^ 10 % 2) + (n : Int).toNat / 2 ^ 3 % 2 : Nat) : Int) := by
    rw [Int.toNat_natCast]; exact_mod_cast (show 2 * (n / 1024 % 2) + n / 8 % 8 % 2 = 2 * (n / 2 ^ 10 % 2) + n / 2 ^ 3 % 2 from congrArg (2 * (n / 1024 % 2) + ·) (nat_C n 8 4))
  have a3 : (n : Int) / 1 % 8 / 4 = (((n : Int).toNat / 2 ^ 2 % 2 : Nat) : Int) := by rw [Int.toNat_natCast]; exact_mod_cast (show n / 1 % 8 / 4 = n / 2 ^ 2 % 2 from nat_A n 1 4 2)
  have b3 : (n : Int) / 1 % 8 / 2 % 2 = (((n : Int).toNat / 2 ^ 1 % 2 : Nat) : Int) := by rw [Int.toNat_natCast]; exact_mod_cast (show n / 1 % 8 / 2 % 2 = n / 2 ^ 1 % 2 from nat_B n 1 2 2)
  have c3 : 2 * ((n : Int) / 512 % 2) + (n : Int) / 1 % 8 % 2 = ((2 * ((n : Int).toNat / 2 ^ 9 % 2) + (n : Int).toNat / 2 ^ 0 % 2 : Nat) : Int) := by
    rw [Int.toNat_natCast]; exact_mod_cast (show 2 * (n / 512 % 2) + n / 1 % 8 % 2 = 2 * (n / 2 ^ 9 % 2) + n / 2 ^ 0 % 2 from congrArg (2 * (n / 512 % 2) + ·) (nat_C n 1 4))
  rw [seg1_r h0 8 256 _ rfl a1, seg1_w h0 7 128 _ rfl b1, seg3_x h0 11 6 2112 2048 64 _ rfl rfl rfl (by decide) c1,
    seg1_r h0 5 32 _ rfl a2, seg1_w h0 4 16 _ rfl b2, seg3_x h0 10 3 1032 1024 8 _ rfl rfl rfl (by decide) c2,
    seg1_r h0 2 4 _ rfl a3, seg1_w h0 1 2 _ rfl b3, seg3_t h0 9 0 513 512 1 _ rfl rfl rfl (by decide) c3]
  simp only [Str.join, e_app]
  simp only [sg, sgc, app_as]
end Mine
end
section
open PySem PySem.Spec PySem.Calls PySem.W PyProof.Rows Builtin Builtin.Str
namespace Mine
noncomputable def rootD (m : Int) : Str := if m / 4096 = 10 then Str.ofString "" else SL
noncomputable def abD (m : Int) : Bool := !(m / 4096 == 10)
theorem rootD_rot (m : Int) : rootD m = rot (abD m) := by
  unfold rootD abD
  by_cases h : m / 4096 = 10
  · rw [if_pos h]; simp [h]
  · rw [if_neg h]; simp [h]
theorem rootW_D {m : Int} : rootW m = rootD m := by
  unfold rootW rootD
  by_cases h : m / 4096 = 10
  · rw [if_pos h, if_pos (by rw [h]; rfl)]
  · rw [if_neg h, if_neg (by rw [beq_iff_eq]; omega)]
theorem nm_sg {m z : Int} (h0 : 0 ≤ m) (h1 : m < 65536) (hz : z = 4096 ∨ z = 512 ∨ z = 64 ∨ z = 8 ∨ z = 1) : nm m z = sg (m - m % z) := by
  have e : m / 4096 * 4096 + m % 4096 / z * z = m - m % z := by
    obtain ⟨hz0, k, hk⟩ := sz_fac hz
    have e1 : m % 4096 = z * (m / z % k) + m % z := by rw [← hk]; exact ar_split hz0
    have e2 : m % 4096 / z = m / z % k := by rw [← hk]; exact ar_low hz0
    have e3 := Int.mul_ediv_add_emod m 4096
    rw [e2, Int.mul_comm (m / z % k) z]
    omega
  have b : 0 ≤ m - m % z ∧ m - m % z < 65536 := ⟨(ar_bound h0 (sz_fac hz).1).1, Int.lt_of_le_of_lt (ar_bound h0 (sz_fac hz).1).2 h1⟩
  rw [nm, e, fm_sg b.1 b.2]
theorem item_in (S : Str) (i : Int) {c : Nat} (h : c ∈ tl (Txt.item S i)) : c = 0 ∨ c ∈ tl S := by
  have h' : c ∈ [(Txt.charAt S i).getD 0] := h
  rw [List.mem_singleton] at h'
  subst h'
  unfold Txt.charAt
  cases e : seqIndex? i S.length with
  | none => exact .inl rfl
  | some j =>
    simp only [Option.bind_some]
    cases e2 : S.cps[j]? with
    | none => exact .inl rfl
    | some d =>
      refine .inr ?_
      simp only [Option.getD_some]
      have : d ∈ S.cps := Array.mem_of_getElem? e2
      exact Array.mem_toList_iff.mpr this
noncomputable def Fr2 (x : Str) : Prop := 47 ∉ tl x ∧ 46 ∉ tl x
theorem fr_item (S : Str) (i : Int) (h1 : 47 ∉ tl S) (h2 : 46 ∉ tl S) : Fr2 (Txt.item S i) := by
  constructor
  · intro q
    rcases item_in S i q with h | h
    · cases h
    · exact h1 h
  · intro q
    rcases item_in S i q with h | h
    · cases h
    · exact h2 h
theorem Fr2.app {x y : Str} (h : Fr2 x) (h' : Fr2 y) : Fr2 (x ++ y) := by
  constructor
  · rw [tl_app]; intro q; rcases List.mem_append.mp q with q | q; exact h.1 q; exact h'.1 q
  · rw [tl_app]; intro q; rcases List.mem_append.mp q with q | q; exact h.2 q; exact h'.2 q
theorem sg_len (m : Int) : (sg m).length = 10 := by
  unfold sg
  simp only [Str.length_append, len_item]
theorem nm_name (v : Int) : Nm (sg v) := by
  have a1 : ∀ i, Fr2 (Txt.item (Str.ofString "?pc?d?b?-?l?s???") i) := fun i => fr_item _ i (by decide +kernel) (by decide +kernel)
  have a2 : ∀ i, Fr2 (Txt.item (Str.ofString "-r") i) := fun i => fr_item _ i (by decide +kernel) (by decide +kernel)
  have a3 : ∀ i, Fr2 (Txt.item (Str.ofString "-w") i) := fun i => fr_item _ i (by decide +kernel) (by decide +kernel)
  have a4 : ∀ i, Fr2 (Txt.item (Str.ofString "-xSs") i) := fun i => fr_item _ i (by decide +kernel) (by decide +kernel)
  have a5 : ∀ i, Fr2 (Txt.item (Str.ofString "-xTt") i) := fun i => fr_item _ i (by decide +kernel) (by decide +kernel)
  have f : Fr2 (sg v) := by
    unfold sg
    exact ((((((a1 _).app ((a2 _).app (a3 _))).app (a4 _)).app ((a2 _).app (a3 _))).app (a4 _)).app ((a2 _).app (a3 _))).app (a5 _)
  exact ⟨sg_len v, f.1, f.2⟩
theorem names_nm (m : Int) : ∀ c ∈ namesF m, Nm c := by
  intro c hc
  obtain ⟨z, _, rfl⟩ := List.mem_map.mp hc
  exact nm_name _
theorem ok_app {x y : Str} (h : PyData.strOk x = true) (h' : PyData.strOk y = true) : PyData.strOk (x ++ y) = true := by
  unfold PyData.strOk at *
  show (x.cps ++ y.cps).all _ = true
  rw [Array.all_append, h, h']; rfl
theorem ok_sg (v : Int) : PyData.strOk (sg v) = true := by
  have a1 : ∀ i, PyData.strOk (Txt.item (Str.ofString "?pc?d?b?-?l?s???") i) = true := fun i => ok_item _ i (by decide +kernel)
  have a2 : ∀ i, PyData.strOk (Txt.item (Str.ofString "-r") i) = true := fun i => ok_item _ i (by decide +kernel)
  have a3 : ∀ i, PyData.strOk (Txt.item (Str.ofString "-w") i) = true := fun i => ok_item _ i (by decide +kernel)
  have a4 : ∀ i, PyData.strOk (Txt.item (Str.ofString "-xSs") i) = true := fun i => ok_item _ i (by decide +kernel)
  have a5 : ∀ i, PyData.strOk (Txt.item (Str.ofString "-xTt") i) = true := fun i => ok_item _ i (by decide +kernel)
  unfold sg
  exact ok_app (ok_app (ok_app (ok_app (ok_app (ok_app (a1 _) (ok_app (a2 _) (a3 _))) (a4 _)) (ok_app (a2 _) (a3 _))) (a4 _)) (ok_app (a2 _) (a3 _))) (a5 _)
theorem two_inj {S : Str} (hS : Txt.item S 0 ≠ Txt.item S 1) {a b : Int} (ha : a = 0 ∨ a = 1) (hb : b = 0 ∨ b = 1) (h : Txt.item S a = Txt.item S b) : a = b := by
  rcases ha with rfl | rfl <;> rcases hb with rfl | rfl <;> first | rfl | exact absurd h hS | exact absurd h.symm hS
theorem four_inj {S : Str} (h01 : Txt.item S 0 ≠ Txt.item S 1) (h02 : Txt.item S 0 ≠ Txt.item S 2) (h03 : Txt.item S 0 ≠ Txt.item S 3) (h12 : Txt.item S 1 ≠ Txt.item S 2) (h13 : Txt.item S 1 ≠ Txt.item S 3) (h23 : Txt.item S 2 ≠ Txt.item S 3)
    {a b : Int} (ha : a = 0 ∨ a = 1 ∨ a = 2 ∨ a = 3) (hb : b = 0 ∨ b = 1 ∨ b = 2 ∨ b = 3) (h : Txt.item S a = Txt.item S b) : a = b := by
  rcases ha with rfl | rfl | rfl | rfl <;> rcases hb with rfl | rfl | rfl | rfl <;> first | rfl | exact absurd h (by assumption) | exact absurd h.symm (by assumption)
theorem app_inj {a b c d : Str} (hl : a.length = c.length) (h : a ++ b = c ++ d) : a = c ∧ b = d := by
  have h' := congrArg tl h
  rw [tl_app, tl_app] at h'
  obtain ⟨h1, h2⟩ := List.append_inj h' (by rw [tl_len, tl_len]; exact hl)
  exact ⟨tl_inj h1, tl_inj h2⟩
theorem bit01 (q : Int) : q % 2 = 0 ∨ q % 2 = 1 := by omega
theorem oct01 (q : Int) : q % 8 / 4 = 0 ∨ q % 8 / 4 = 1 := by omega
theorem quad (p q : Int) : 2 * (p % 2) + q % 2 = 0 ∨ 2 * (p % 2) + q % 2 = 1 ∨ 2 * (p % 2) + q % 2 = 2 ∨ 2 * (p % 2) + q % 2 = 3 := by
  rcases bit01 p with h | h <;> rcases bit01 q with h' | h' <;> rw [h, h'] <;> decide
theorem split2 {p q p' q' : Int} (h : 2 * (p % 2) + q % 2 = 2 * (p' % 2) + q' % 2) : p % 2 = p' % 2 ∧ q % 2 = q' % 2 := by
  rcases bit01 p with h1 | h1 <;> rcases bit01 q with h2 | h2 <;> rcases bit01 p' with h3 | h3 <;> rcases bit01 q' with h4 | h4 <;> rw [h1, h2, h3, h4] at h <;> rw [h1, h2, h3, h4] <;> revert h <;> decide
theorem sg_inj {u v : Int} (h : sg u = sg v) : sgc u = sgc v ∧ u % 4096 = v % 4096 := by
  unfold sg at h
  have L : ∀ (S T : Str) (i j : Int), (Txt.item S i).length = (Txt.item T j).length := fun _ _ _ _ => rfl
  obtain ⟨h, h9⟩ := app_inj (by simp only [Str.length_append, len_item]) h
  obtain ⟨h, h8⟩ := app_inj (by simp only [Str.length_append, len_item]) h
  obtain ⟨h, h7⟩ := app_inj (by simp only [Str.length_append, len_item]) h
  obtain ⟨h, h6⟩ := app_inj (by simp only [Str.length_append, len_item]) h
  obtain ⟨h, h5⟩ := app_inj (by simp only [Str.length_append, len_item]) h
  obtain ⟨h, h4⟩ := app_inj (by simp only [Str.length_append, len_item]) h
  obtain ⟨r1, w1⟩ := app_inj (by rfl) h4
  obtain ⟨r2, w2⟩ := app_inj (by rfl) h6
  obtain ⟨r3, w3⟩ := app_inj (by rfl) h8
  refine ⟨h, ?_⟩
  have nr : Txt.item (Str.ofString "-r") 0 ≠ Txt.item (Str.ofString "-r") 1 := by decide +kernel
  have nw : Txt.item (Str.ofString "-w") 0 ≠ Txt.item (Str.ofString "-w") 1 := by decide +kernel
  have e1 := two_inj nr (oct01 _) (oct01 _) r1
  have e2 := two_inj nw (bit01 _) (bit01 _) w1
  have e3 := two_inj nr (oct01 _) (oct01 _) r2
  have e4 := two_inj nw (bit01 _) (bit01 _) w2
  have e5 := two_inj nr (oct01 _) (oct01 _) r3
  have e6 := two_inj nw (bit01 _) (bit01 _) w3
  obtain ⟨f1, f2⟩ := split2 (four_inj (S := Str.ofString "-xSs") (by decide +kernel) (by decide +kernel) (by decide +kernel) (by decide +kernel) (by decide +kernel) (by decide +kernel) (quad _ _) (quad _ _) h5)
  obtain ⟨f3, f4⟩ := split2 (four_inj (S := Str.ofString "-xSs") (by decide +kernel) (by decide +kernel) (by decide +kernel) (by decide +kernel) (by decide +kernel) (by decide +kernel) (quad _ _) (quad _ _) h7)
  obtain ⟨f5, f6⟩ := split2 (four_inj (S := Str.ofString "-xTt") (by decide +kernel) (by decide +kernel) (by decide +kernel) (by decide +kernel) (by decide +kernel) (by decide +kernel) (quad _ _) (quad _ _) h9)
  have g1 : u / 64 % 8 = v / 64 % 8 := bits_eq e1 e2 f2
  have g2 : u / 8 % 8 = v / 8 % 8 := bits_eq e3 e4 f4
  have g3 : u / 1 % 8 = v / 1 % 8 := bits_eq e5 e6 f6
  rw [Int.ediv_one, Int.ediv_one] at g3
  have d : ∀ u : Int, u / 2048 = u / 512 / 4 ∧ u / 1024 = u / 512 / 2 := fun u => ⟨(ar_dd (z := 512) (k := 4) (by decide)).symm, (ar_dd (z := 512) (k := 2) (by decide)).symm⟩
  rw [(d u).1, (d v).1] at f1
  rw [(d u).2, (d v).2] at f3
  refine low_eq ?_ g1 g2 g3
  rw [bits3 (u / 512), bits3 (v / 512), f1, f3, f5]
theorem sg_eq {u v : Int} (h1 : sgc u = sgc v) (h2 : u % 4096 = v % 4096) : sg u = sg v := by
  have h1' : Txt.item (Str.ofString "?pc?d?b?-?l?s???") (u / 4096) = Txt.item (Str.ofString "?pc?d?b?-?l?s???") (v / 4096) := h1
  unfold sg
  rw [h1', ar_of (z := 64) (k := 8) (by decide) (by decide) h2, ar_of (z := 8) (k := 8) (by decide) (by decide) h2, ar_of (z := 1) (k := 8) (by decide) (by decide) h2, ar_of (z := 2048) (k := 2) (by decide) (by decide) h2, ar_of (z := 1024) (k := 2) (by decide) (by decide) h2, ar_of (z := 512) (k := 2) (by decide) (by decide) h2]
theorem name_iff {a b z : Int} (hz : z = 4096 ∨ z = 512 ∨ z = 64 ∨ z = 8 ∨ z = 1) : sg (a - a % z) = sg (b - b % z) ↔ sgc a = sgc b ∧ a % 4096 / z = b % 4096 / z := by
  have s1 : ∀ a : Int, sgc (a - a % z) = sgc a := by
    intro a
    unfold sgc
    rw [(ar_4096 (a := a) (b := a) hz).1]
  constructor
  · intro h
    obtain ⟨h1, h2⟩ := sg_inj h
    rw [s1, s1] at h1
    exact ⟨h1, (ar_4096 hz).2.mp h2⟩
  · rintro ⟨h1, h2⟩
    exact sg_eq (by rw [s1, s1]; exact h1) ((ar_4096 hz).2.mpr h2)
end Mine
end
section
open PySem PySem.Spec PySem.Calls PySem.W PyProof.Rows Builtin Builtin.Str
namespace Mine
noncomputable abbrev NN (a z : Int) : Str := sg (a - a % z)
theorem at5 (a : Int) : (namesF a)[0]? = some (NN a 4096) ∧ (namesF a)[1]? = some (NN a 512) ∧ (namesF a)[2]? = some (NN a 64) ∧ (namesF a)[3]? = some (NN a 8) ∧ (namesF a)[4]? = some (NN a 1) := ⟨rfl, rfl, rfl, rfl, rfl⟩
theorem names5 (a : Int) : namesF a = [NN a 4096, NN a 512, NN a 64, NN a 8, NN a 1] := rfl
set_option maxHeartbeats 4000000 in
theorem deep_facts {ns : List Int} {d : Nat} (h : DeepIs ns d) : d ≤ 5 ∧ (∀ a ∈ ns, ∀ b ∈ ns, (namesF a).take d = (namesF b).take d) ∧ (d < 5 → ∃ a ∈ ns, ∃ b ∈ ns, (namesF a)[d]? ≠ (namesF b)[d]?) ∨ ns = [] := by
  cases ns with
  | nil => exact .inr rfl
  | cons n0 r =>
  refine .inl ?_
  rcases h with ⟨hne, rfl⟩ | ⟨hsame, lo, hi, hlo, hlo2, hhi, hhi2, hd⟩
  · refine ⟨Nat.zero_le 5, fun a _ b _ => (by rw [List.take_zero, List.take_zero]), fun _ => ?_⟩
    have : ∃ a ∈ n0 :: r, sgc a ≠ sgc n0 := by
      apply Classical.byContradiction
      intro hc
      apply hne
      apply List.eq_replicate_iff.mpr
      refine ⟨by simp, fun y hy => ?_⟩
      obtain ⟨a, ha, rfl⟩ := List.mem_map.mp hy
      apply Classical.byContradiction
      intro q
      exact hc ⟨a, ha, q⟩
    obtain ⟨a, ha, hq⟩ := this
    refine ⟨a, ha, n0, List.Mem.head _, fun q => hq ?_⟩
    have q' : NN a 4096 = NN n0 4096 := by
      rw [(at5 a).1, (at5 n0).1] at q
      exact Option.some.inj q
    exact ((name_iff (by decide)).mp q').1
  · have hs : ∀ a ∈ n0 :: r, ∀ b ∈ n0 :: r, sgc a = sgc b := by
      have h' := (List.eq_replicate_iff.mp hsame).2
      intro a ha b hb
      rw [h' _ (List.mem_map.mpr ⟨a, ha, rfl⟩), h' _ (List.mem_map.mpr ⟨b, hb, rfl⟩)]
    have bd : ∀ a ∈ n0 :: r, lo ≤ a % 4096 ∧ a % 4096 ≤ hi := fun a ha => ⟨hlo2 _ (List.mem_map.mpr ⟨a, ha, rfl⟩), hhi2 _ (List.mem_map.mpr ⟨a, ha, rfl⟩)⟩
    obtain ⟨al, hal, ela⟩ := List.mem_map.mp hlo
    obtain ⟨ah, hah, eha⟩ := List.mem_map.mp hhi
    have key1 : ∀ z : Int, (z = 4096 ∨ z = 512 ∨ z = 64 ∨ z = 8 ∨ z = 1) → lo / z = hi / z → ∀ a ∈ n0 :: r, ∀ b ∈ n0 :: r, NN a z = NN b z := by
      intro z hz e a ha b hb
      refine (name_iff hz).mpr ⟨hs a ha b hb, ?_⟩
      have h1 := bd a ha
      have h2 := bd b hb
      exact eq_div (sz_fac hz).1 e h1 h2
    have key2 : ∀ z : Int, (z = 4096 ∨ z = 512 ∨ z = 64 ∨ z = 8 ∨ z = 1) → ¬ lo / z = hi / z → ∃ a ∈ n0 :: r, ∃ b ∈ n0 :: r, NN a z ≠ NN b z := by
      intro z hz e
      refine ⟨al, hal, ah, hah, fun q => e ?_⟩
      have := ((name_iff hz).mp q).2
      rw [← ela, ← eha]; exact this
    have lim : 0 ≤ lo ∧ hi < 4096 ∧ lo ≤ hi := by
      have := bd al hal
      omega
    have c4 : lo / 4096 = hi / 4096 := by rw [Int.ediv_eq_zero_of_lt lim.1 (Int.lt_of_le_of_lt lim.2.2 lim.2.1), Int.ediv_eq_zero_of_lt (Int.le_trans lim.1 lim.2.2) lim.2.1]
    have k4 := key1 4096 (by decide) c4
    have fin : ∀ (z : Int) (j : Nat) (hz : z = 4096 ∨ z = 512 ∨ z = 64 ∨ z = 8 ∨ z = 1), (∀ a, (namesF a)[j]? = some (NN a z)) → ¬ lo / z = hi / z → ∃ a ∈ n0 :: r, ∃ b ∈ n0 :: r, (namesF a)[j]? ≠ (namesF b)[j]? := by
      intro z j hz hj e
      obtain ⟨a, ha, b, hb, hn⟩ := key2 z hz e
      exact ⟨a, ha, b, hb, by rw [hj, hj]; exact fun q => hn (Option.some.inj q)⟩
    by_cases c3 : lo / 512 = hi / 512
    · have k3 := key1 512 (by decide) c3
      by_cases c2 : lo / 64 = hi / 64
      · have k2 := key1 64 (by decide) c2
        by_cases c1 : lo / 8 = hi / 8
        · have k1 := key1 8 (by decide) c1
          by_cases c0 : lo / 1 = hi / 1
          · have k0 := key1 1 (by decide) c0
            have : d = 5 := by rw [hd]; simp only [szs, List.filter_cons, List.filter_nil, c4, c3, c2, c1, c0, beq_self_eq_true, if_true]; rfl
            subst this
            refine ⟨by decide, fun a ha b hb => ?_, fun h => absurd h (by decide)⟩
            rw [names5, names5, k4 a ha b hb, k3 a ha b hb, k2 a ha b hb, k1 a ha b hb, k0 a ha b hb]
          · have : d = 4 := by rw [hd]; simp only [szs, List.filter_cons, List.filter_nil, c4, c3, c2, c1, beq_self_eq_true, if_true, beq_iff_eq, c0, if_false]; rfl
            subst this
            refine ⟨by decide, fun a ha b hb => ?_, fun _ => fin 1 4 (by decide) (fun a => (at5 a).2.2.2.2) c0⟩
            show [NN a 4096, NN a 512, NN a 64, NN a 8] = [NN b 4096, NN b 512, NN b 64, NN b 8]
            rw [k4 a ha b hb, k3 a ha b hb, k2 a ha b hb, k1 a ha b hb]
        · have c0 : ¬ lo / 1 = hi / 1 := ne_div (k := 8) (by decide) c1
          have : d = 3 := by rw [hd]; simp only [szs, List.filter_cons, List.filter_nil, c4, c3, c2, beq_self_eq_true, if_true, beq_iff_eq, c1, c0, if_false]; rfl
          subst this
          refine ⟨by decide, fun a ha b hb => ?_, fun _ => fin 8 3 (by decide) (fun a => (at5 a).2.2.2.1) c1⟩
          show [NN a 4096, NN a 512, NN a 64] = [NN b 4096, NN b 512, NN b 64]
          rw [k4 a ha b hb, k3 a ha b hb, k2 a ha b hb]
      · have c1 : ¬ lo / 8 = hi / 8 := ne_div (k := 8) (by decide) c2
        have c0 : ¬ lo / 1 = hi / 1 := ne_div (k := 8) (by decide) c1
        have : d = 2 := by rw [hd]; simp only [szs, List.filter_cons, List.filter_nil, c4, c3, beq_self_eq_true, if_true, beq_iff_eq, c2, c1, c0, if_false]; rfl
        subst this
        refine ⟨by decide, fun a ha b hb => ?_, fun _ => fin 64 2 (by decide) (fun a => (at5 a).2.2.1) c2⟩
        show [NN a 4096, NN a 512] = [NN b 4096, NN b 512]
        rw [k4 a ha b hb, k3 a ha b hb]
    · have c2 : ¬ lo / 64 = hi / 64 := ne_div (k := 8) (by decide) c3
      have c1 : ¬ lo / 8 = hi / 8 := ne_div (k := 8) (by decide) c2
      have c0 : ¬ lo / 1 = hi / 1 := ne_div (k := 8) (by decide) c1
      have : d = 1 := by rw [hd]; simp only [szs, List.filter_cons, List.filter_nil, c4, beq_self_eq_true, if_true, beq_iff_eq, c3, c2, c1, c0, if_false]; rfl
      subst this
      refine ⟨by decide, fun a ha b hb => ?_, fun _ => fin 512 1 (by decide) (fun a => (at5 a).2.1) c3⟩
      show [NN a 4096] = [NN b 4096]
      rw [k4 a ha b hb]
theorem minFold_mem : ∀ (r : List (List Str)) (b : List Str), r.foldl minStep b ∈ b :: r
  | [], b => List.Mem.head _
  | x :: r, b => by
    have h := minFold_mem r (minStep b x)
    have em : minStep b x = x ∨ minStep b x = b := by unfold minStep; split; exact .inl rfl; exact .inr rfl
    rcases List.mem_cons.mp h with q | q
    · rw [List.foldl_cons, q]; rcases em with q | q <;> rw [q] <;> simp
    · exact List.Mem.tail _ (List.Mem.tail _ q)
theorem maxFold_mem : ∀ (r : List (List Str)) (b : List Str), r.foldl maxStep b ∈ b :: r
  | [], b => List.Mem.head _
  | x :: r, b => by
    have h := maxFold_mem r (maxStep b x)
    have em : maxStep b x = x ∨ maxStep b x = b := by unfold maxStep; split; exact .inl rfl; exact .inr rfl
    rcases List.mem_cons.mp h with q | q
    · rw [List.foldl_cons, q]; rcases em with q | q <;> rw [q] <;> simp
    · exact List.Mem.tail _ (List.Mem.tail _ q)
theorem squeeze : ∀ (n : Nat) (a r b : List Str), leL a r → leL r b → a.take n = b.take n → n ≤ a.length → n ≤ r.length → n ≤ b.length → r.take n = a.take n
  | 0, _, _, _, _, _, _, _, _, _ => rfl
  | n + 1, [], _, _, _, _, _, h, _, _ => by cases h
  | n + 1, _ :: _, [], _, _, _, _, _, h, _ => by cases h
  | n + 1, _ :: _, _ :: _, [], _, _, _, _, _, h => by cases h
  | n + 1, u :: a, v :: r, u' :: b, h1, h2, ht, ha, hr, hb => by
    simp only [List.take_succ_cons, List.cons.injEq] at ht ⊢
    obtain ⟨rfl, ht⟩ := ht
    unfold leL at h1 h2
    rw [ltL] at h1 h2
    by_cases e : v = u
    · subst e
      rw [if_pos (beq_self_eq_true v)] at h1 h2
      exact ⟨rfl, squeeze n a r b h1 h2 ht (Nat.le_of_succ_le_succ ha) (Nat.le_of_succ_le_succ hr) (Nat.le_of_succ_le_succ hb)⟩
    · rw [if_neg (fun q => e (eq_of_beq q))] at h1
      rw [if_neg (fun q => e (eq_of_beq q).symm)] at h2
      rcases ltS_total e with q | q
      · rw [q] at h1; cases h1
      · rw [q] at h2; cases h2
theorem cpre_rows {x : List Str} {xs : List (List Str)} {d : Nat} (hlen : ∀ r ∈ x :: xs, r.length = 5) (hd : d ≤ 5) (ht : ∀ a ∈ x :: xs, ∀ b ∈ x :: xs, a.take d = b.take d)
    (hx : d < 5 → ∃ a ∈ x :: xs, ∃ b ∈ x :: xs, a[d]? ≠ b[d]?) : cpre (xs.foldl minStep x) (xs.foldl maxStep x) = x.take d := by
  have m1 := minFold_mem xs x
  have m2 := maxFold_mem xs x
  have l1 := minFold_le xs x
  have l2 := maxFold_le xs x
  generalize xs.foldl minStep x = mn at *
  generalize xs.foldl maxStep x = mx at *
  have le1 : ∀ r ∈ x :: xs, leL mn r := fun r hr => by
    rcases List.mem_cons.mp hr with rfl | hr
    · exact l1.1
    · exact l1.2 r hr
  have le2 : ∀ r ∈ x :: xs, leL r mx := fun r hr => by
    rcases List.mem_cons.mp hr with rfl | hr
    · exact l2.1
    · exact l2.2 r hr
  have e0 := ht mn m1 mx m2
  have e1 := ht mn m1 x (List.Mem.head _)
  rcases Nat.lt_or_ge d 5 with h | h
  · obtain ⟨a, ha, b, hb, hne⟩ := hx h
    have n1 := hlen mn m1
    have n2 := hlen mx m2
    have g1 : mn[d]? = some (mn[d]'(by omega)) := by simp [n1, h]
    have g2 : mx[d]? = some (mx[d]'(by omega)) := by simp [n2, h]
    rw [← e1]
    refine cpre_cut d mn mx _ _ e0 g1 g2 (fun q => hne ?_)
    have e2 : mn.take (d + 1) = mx.take (d + 1) := by rw [List.take_add_one, List.take_add_one, e0, g1, g2, q]
    have sq : ∀ r ∈ x :: xs, r.take (d + 1) = mn.take (d + 1) := fun r hr => squeeze (d + 1) mn r mx (le1 r hr) (le2 r hr) e2 (by omega) (by rw [hlen r hr]; omega) (by omega)
    have i1 : ∀ r : List Str, r[d]? = (r.take (d + 1))[d]? := fun r => by rw [List.getElem?_take_of_lt (Nat.lt_succ_self d)]
    rw [i1 a, i1 b, sq a ha, sq b hb]
  · have hd5 : d = 5 := Nat.le_antisymm hd h
    subst hd5
    have t : ∀ r ∈ x :: xs, r.take 5 = r := fun r hr => List.take_of_length_le (by rw [hlen r hr]; exact Nat.le_refl _)
    rw [t mn m1, t mx m2] at e0
    rw [← e1, t mn m1, ← e0]
    exact cpre_all mn mn (by rw [List.take_length])
end Mine
end
section
open PySem PySem.Spec PySem.Calls PySem.W PyProof.Rows Builtin Builtin.Str
namespace Mine
noncomputable def NotSl (p : Str) : Prop := (tl p).head? ≠ some 47
theorem sl_start (n : Str) : SL ++ n = Str.ofString "" ++ SL ++ n := tl_inj (by rw [tl_app, tl_app, tl_app, tl_e]; rfl)
theorem cmp_rot {ab : Bool} {n : Str} (h : Nm n) : cmp (rot ab ++ n) = [n] := by
  cases ab with
  | true =>
    show cmp (SL ++ n) = _
    rw [sl_start, cmp_sep, cmp_e, h.cmp]; rfl
  | false =>
    have e : rot false ++ n = n := tl_inj (by rw [tl_app, show tl (rot false) = [] from tl_e]; rfl)
    rw [e, h.cmp]
theorem join_rot {ab : Bool} {n : Str} (h : Nm n) : joinStep (rot ab) n = rot ab ++ n := by
  unfold joinStep
  rw [if_neg (sw_false h.head)]
  cases ab with
  | true =>
    have e1 : ¬ ((rot true).length : Int) = 0 := by decide +kernel
    have e2 : Txt.endswith (rot true) SL = true := by decide +kernel
    rw [if_neg e1, if_pos e2]
  | false =>
    have e1 : ((rot false).length : Int) = 0 := by decide +kernel
    rw [if_pos e1]
    exact tl_inj (by rw [tl_app, show tl (rot false) = [] from tl_e]; rfl)
theorem Nm.ns {n : Str} (h : Nm n) : NotSl n := h.head
theorem Nm.ns_app {n y : Str} (h : Nm n) : NotSl (n ++ y) := by
  unfold NotSl
  rw [tl_app]
  have h1 := h.len
  have h2 := h.ns
  unfold NotSl at h2
  rw [← tl_len] at h1
  cases e : tl n with
  | nil => rw [e] at h1; cases h1
  | cons c r => rw [e] at h2; exact h2
theorem cmp_dot : cmp dotS = [] := by rw [cmp_one (by decide +kernel)]; decide +kernel
theorem cmp_SL : cmp SL = [] := by
  have : SL = Str.ofString "" ++ SL ++ Str.ofString "" := by decide +kernel
  rw [this, cmp_sep, cmp_e]; rfl
structure WayOk (ab : Bool) (ns : List Str) (x : Str) : Prop where
  c : cmp x = ns
  rt : Rt ab x
  len : x.length ≤ 1000
  ok : PyData.strOk x = true
theorem ok_step {a b : Str} (ha : PyData.strOk a = true) (hb : PyData.strOk b = true) : PyData.strOk (joinStep a b) = true := by
  unfold joinStep
  split
  · exact hb
  · split
    · exact hb
    · split
      · exact ok_app ha hb
      · exact ok_app ha (ok_app (by decide +kernel) hb)
theorem ok_joinF : ∀ (ps : List Str) (a : Str), PyData.strOk a = true → (∀ p ∈ ps, PyData.strOk p = true) → PyData.strOk (joinF a ps) = true
  | [], _, h, _ => h
  | p :: r, a, h, hp => ok_joinF r (joinStep a p) (ok_step h (hp p (List.Mem.head _))) (fun q hq => hp q (List.Mem.tail _ hq))
theorem ok_rot (ab : Bool) : PyData.strOk (rot ab) = true := by cases ab <;> decide +kernel
theorem rot_len (ab : Bool) : (rot ab).length ≤ 1 := by cases ab <;> decide +kernel
theorem way_straight {ab : Bool} {a b c d e : Str} (ha : Nm a) (hb : Nm b) (hc : Nm c) (hd : Nm d) (he : Nm e) (oa : PyData.strOk a = true) (ob : PyData.strOk b = true) (oc : PyData.strOk c = true) (od : PyData.strOk d = true) (oe : PyData.strOk e = true) :
    WayOk ab [a, b, c, d, e] (joinF (rot ab) [a, b, c, d, e]) := by
  have e0 : joinF (rot ab) [a, b, c, d, e] = joinF (rot ab ++ a) [b, c, d, e] := by
    show joinF (joinStep (rot ab) a) [b, c, d, e] = _
    rw [join_rot ha]
  have hh : ∀ p ∈ [b, c, d, e], (tl p).head? ≠ some 47 := by
    intro p hp
    simp only [List.mem_cons, List.not_mem_nil, or_false] at hp
    rcases hp with rfl | rfl | rfl | rfl
    · exact hb.head
    · exact hc.head
    · exact hd.head
    · exact he.head
  refine ⟨?_, ?_, ?_, ?_⟩
  · rw [e0, cmp_joinF _ _ hh, cmp_rot ha]
    simp only [List.map_cons, List.map_nil, hb.cmp, hc.cmp, hd.cmp, he.cmp]; rfl
  · rw [e0]; exact Rt.join _ ha.rt1 hh
  · have := joinF_len [a, b, c, d, e] (rot ab)
    have := rot_len ab
    simp only [List.map_cons, List.map_nil, List.sum_cons, List.sum_nil, ha.len, hb.len, hc.len, hd.len, he.len] at *
    omega
  · refine ok_joinF _ _ (ok_rot ab) ?_
    intro p hp
    simp only [List.mem_cons, List.not_mem_nil, or_false] at hp
    rcases hp with rfl | rfl | rfl | rfl | rfl <;> assumption
theorem way_crooked {ab : Bool} {a b c d e : Str} (ha : Nm a) (hb : Nm b) (hc : Nm c) (hd : Nm d) (he : Nm e) (oa : PyData.strOk a = true) (ob : PyData.strOk b = true) (oc : PyData.strOk c = true) (od : PyData.strOk d = true) (oe : PyData.strOk e = true) :
    WayOk ab [a, b, c, d, e] (joinF (rot ab ++ a ++ Str.ofString "//") [b, dotS, c, d ++ Str.ofString "/.", e, Str.ofString ""]) := by
  have hh : ∀ p ∈ [b, dotS, c, d ++ Str.ofString "/.", e, Str.ofString ""], (tl p).head? ≠ some 47 := by
    intro p hp
    simp only [List.mem_cons, List.not_mem_nil, or_false] at hp
    rcases hp with rfl | rfl | rfl | rfl | rfl | rfl
    · exact hb.head
    · decide +kernel
    · exact hc.head
    · exact hd.ns_app
    · exact he.head
    · rw [tl_e]; exact fun q => nomatch q
  have l2 : (Str.ofString "//").length = 2 := by decide +kernel
  have l3 : (Str.ofString "/.").length = 2 := by decide +kernel
  have l4 : (Str.ofString "").length = 0 := by decide +kernel
  have l5 : dotS.length = 1 := by decide +kernel
  refine ⟨?_, ?_, ?_, ?_⟩
  · rw [cmp_joinF _ _ hh]
    have e1 : rot ab ++ a ++ Str.ofString "//" = (rot ab ++ a) ++ SL ++ SL := tl_inj (by
      rw [tl_app, tl_app, tl_app, tl_app, tl_app, tl_SL, show tl (Str.ofString "//") = [47, 47] by decide +kernel]; simp)
    have e2 : d ++ Str.ofString "/." = d ++ SL ++ dotS := tl_inj (by
      rw [tl_app, tl_app, tl_app, tl_SL, show tl (Str.ofString "/.") = [47, 46] by decide +kernel, show tl dotS = [46] by decide +kernel]; simp)
    rw [e1, cmp_sep, cmp_SL, cmp_rot ha]
    simp only [List.map_cons, List.map_nil, hb.cmp, hc.cmp, he.cmp, cmp_dot, cmp_e, e2, cmp_sep, hd.cmp]; rfl
  · exact Rt.join _ (ha.rt1.app _) hh
  · have := joinF_len [b, dotS, c, d ++ Str.ofString "/.", e, Str.ofString ""] (rot ab ++ a ++ Str.ofString "//")
    have := rot_len ab
    simp only [List.map_cons, List.map_nil, List.sum_cons, List.sum_nil, Str.length_append, ha.len, hb.len, hc.len, hd.len, he.len, l2, l3, l4, l5] at *
    omega
  · refine ok_joinF _ _ (ok_app (ok_app (ok_rot ab) oa) (by decide +kernel)) ?_
    intro p hp
    simp only [List.mem_cons, List.not_mem_nil, or_false] at hp
    rcases hp with rfl | rfl | rfl | rfl | rfl | rfl
    · assumption
    · decide +kernel
    · assumption
    · exact ok_app od (by decide +kernel)
    · assumption
    · decide +kernel
theorem way_ok {m : Int} (h0 : 0 ≤ m) (h1 : m < 65536) (b : Bool) : WayOk (abD m) (namesF m) (wayF m b) := by
  have e1 : nm m 4096 = NN m 4096 := nm_sg h0 h1 (by decide)
  have e2 : nm m 512 = NN m 512 := nm_sg h0 h1 (by decide)
  have e3 : nm m 64 = NN m 64 := nm_sg h0 h1 (by decide)
  have e4 : nm m 8 = NN m 8 := nm_sg h0 h1 (by decide)
  have e5 : nm m 1 = NN m 1 := nm_sg h0 h1 (by decide)
  have er : rootW m = rot (abD m) := by rw [rootW_D, rootD_rot]
  unfold wayF wayNames
  rw [e1, e2, e3, e4, e5, er, names5]
  have n1 : ∀ z, Nm (NN m z) := fun z => nm_name _
  have o1 : ∀ z, PyData.strOk (NN m z) = true := fun z => ok_sg _
  cases b with
  | true => rw [if_pos rfl]; exact way_crooked (n1 _) (n1 _) (n1 _) (n1 _) (n1 _) (o1 _) (o1 _) (o1 _) (o1 _) (o1 _)
  | false => rw [if_neg (by decide)]; exact way_straight (n1 _) (n1 _) (n1 _) (n1 _) (n1 _) (o1 _) (o1 _) (o1 _) (o1 _) (o1 _)
/-- a way of a sign and a manner -/
noncomputable abbrev wp (p : Int × Bool) : Str := wayF p.1 p.2
noncomputable abbrev B16 (ps : List (Int × Bool)) : Prop := ∀ p ∈ ps, 0 ≤ p.1 ∧ p.1 < 65536
theorem rootD_ab {x y : Int} : rootD x = rootD y ↔ abD x = abD y := by
  rw [rootD_rot, rootD_rot]
  constructor
  · intro h
    cases e : abD x <;> cases e2 : abD y <;> rw [e, e2] at h
    · have := congrArg Str.length h
      revert this; decide +kernel
    · have := congrArg Str.length h
      revert this; decide +kernel
  · intro h; rw [h]
theorem names_flen (x : Int) : (namesF x).length = 5 := rfl
theorem com_same {p0 : Int × Bool} {r : List (Int × Bool)} {d : Nat} (hb : B16 (p0 :: r)) (hr : ∀ p ∈ r, rootD p.1 = rootD p0.1) (hd : DeepIs ((p0 :: r).map (·.1)) d) :
    comL ((p0 :: r).map wp) = rootD p0.1 ++ Txt.join (Str.ofString "/") ((namesF p0.1).take d) := by
  have wo : ∀ p ∈ p0 :: r, WayOk (abD p.1) (namesF p.1) (wp p) := fun p hp => way_ok (hb p hp).1 (hb p hp).2 _
  have hab : ∀ p ∈ p0 :: r, abD p.1 = abD p0.1 := by
    intro p hp
    rcases List.mem_cons.mp hp with rfl | hp
    · rfl
    · exact rootD_ab.mp (hr p hp)
  have hsw : ∀ p ∈ p0 :: r, Txt.startswith (wp p) SL = abD p0.1 := fun p hp => by rw [(wo p hp).rt.sw]; exact hab p hp
  have h0 := hsw p0 (List.Mem.head _)
  have hcs : ∀ p ∈ p0 :: r, compsF (wp p) = namesF p.1 := fun p hp => (wo p hp).c
  have hm : (r.map wp).map compsF = r.map fun p => namesF p.1 := by
    rw [List.map_map]
    exact List.map_congr_left fun p hp => hcs p (List.Mem.tail _ hp)
  rw [List.map_cons]
  show (if _ then _ else _) = _
  rw [if_pos (by
    intro q hq
    rw [h0]
    rcases List.mem_cons.mp hq with rfl | hq
    · exact h0
    · obtain ⟨p, hp, rfl⟩ := List.mem_map.mp hq
      exact hsw p (List.Mem.tail _ hp)), h0]
  unfold cpF
  rw [hm, hcs p0 (List.Mem.head _)]
  have df := deep_facts hd
  rcases df with ⟨hd5, heq, hne⟩ | h
  · rw [cpre_rows (d := d) ?_ hd5 ?_ ?_]
    · unfold cpOut
      rw [rootD_rot]
    · intro y hy
      rcases List.mem_cons.mp hy with rfl | hy
      · rfl
      · obtain ⟨p, _, rfl⟩ := List.mem_map.mp hy
        rfl
    · have key : ∀ y ∈ namesF p0.1 :: (r.map fun p => namesF p.1), ∃ a ∈ (p0 :: r).map (·.1), y = namesF a := by
        intro y hy
        rcases List.mem_cons.mp hy with rfl | hy
        · exact ⟨_, List.Mem.head _, rfl⟩
        · obtain ⟨p, hp, rfl⟩ := List.mem_map.mp hy
          exact ⟨_, List.mem_map.mpr ⟨p, List.Mem.tail _ hp, rfl⟩, rfl⟩
      intro a ha b hb
      obtain ⟨a', h1, rfl⟩ := key a ha
      obtain ⟨b', h2, rfl⟩ := key b hb
      exact heq _ h1 _ h2
    · intro hlt
      have key : ∀ a ∈ (p0 :: r).map (·.1), namesF a ∈ namesF p0.1 :: (r.map fun p => namesF p.1) := by
        intro a ha
        obtain ⟨p, hp, rfl⟩ := List.mem_map.mp ha
        rcases List.mem_cons.mp hp with rfl | hp
        · exact List.Mem.head _
        · exact List.Mem.tail _ (List.mem_map.mpr ⟨p, hp, rfl⟩)
      obtain ⟨a, ha, b, hb, h⟩ := hne hlt
      exact ⟨_, key a ha, _, key b hb, h⟩
  · cases h
theorem com_mixed {p0 : Int × Bool} {r : List (Int × Bool)} (hb : B16 (p0 :: r)) (hr : ¬ ∀ p ∈ r, rootD p.1 = rootD p0.1) :
    comL ((p0 :: r).map wp) = Str.ofString "refused" := by
  have wo : ∀ p ∈ p0 :: r, WayOk (abD p.1) (namesF p.1) (wp p) := fun p hp => way_ok (hb p hp).1 (hb p hp).2 _
  rw [List.map_cons]
  show (if _ then _ else _) = _
  rw [if_neg]
  intro q
  apply hr
  intro p hp
  have := q (wp p) (List.Mem.tail _ (List.mem_map.mpr ⟨p, hp, rfl⟩))
  rw [(wo p (List.Mem.tail _ hp)).rt.sw, (wo p0 (List.Mem.head _)).rt.sw] at this
  exact rootD_ab.mpr this
end Mine
end
section
open PySem PySem.Spec PySem.Calls PySem.W PyProof.Rows Builtin Builtin.Str
namespace Mine
theorem at_iff (x : Str) (i : Nat) : StrLaws.At x SL x.length i ↔ (tl x)[i]? = some 47 := by
  unfold StrLaws.At
  rw [StrLaws.subAt_eq]
  have h1 : SL.length = 1 := SL_len
  rw [h1, show SL.cps.toList = [47] from tl_SL, ← tl_len]
  show (i + 1 ≤ (tl x).length ∧ (((tl x).drop i).take 1 == [47]) = true) ↔ _
  generalize tl x = l
  rw [beq_iff_eq]
  constructor
  · rintro ⟨_, h3⟩
    have : ((l.drop i).take 1)[0]? = some 47 := by rw [h3]; rfl
    simpa [List.getElem?_take, List.getElem?_drop] using this
  · intro h
    obtain ⟨hl, he⟩ := List.getElem?_eq_some_iff.mp h
    have hd : l.drop i = 47 :: l.drop (i + 1) := by rw [List.drop_eq_getElem_cons hl, he]
    exact ⟨hl, by rw [hd]; rfl⟩
theorem rfind_mid {p c : Str} (h : 47 ∉ tl c) : Txt.rfind (p ++ SL ++ c) SL = (p.length : Int) := by
  have ht : tl (p ++ SL ++ c) = tl p ++ 47 :: tl c := by rw [tl_app, tl_app, tl_SL]; simp
  unfold Txt.rfind
  rcases StrLaws.last_spec (p ++ SL ++ c) SL with ⟨_, hn⟩ | ⟨i, he, ha, hn⟩
  · exact absurd ((at_iff _ p.length).mpr (by rw [ht, ← tl_len]; simp)) (hn _)
  · rw [he]
    rw [at_iff, ht] at ha
    have h1 : ¬ i < p.length := fun hlt => hn p.length hlt ((at_iff _ _).mpr (by rw [ht, ← tl_len]; simp))
    have h2 : ¬ p.length < i := by
      intro hlt
      rw [← tl_len] at hlt
      rw [List.getElem?_append_right (by omega)] at ha
      obtain ⟨j, hj⟩ : ∃ j, i - (tl p).length = j + 1 := ⟨i - (tl p).length - 1, by omega⟩
      rw [hj, List.getElem?_cons_succ] at ha
      exact h (List.mem_of_getElem? ha)
    show (i : Int) = _
    omega
theorem rfind_none {c : Str} (h : 47 ∉ tl c) : Txt.rfind c SL = -1 := by
  unfold Txt.rfind
  rcases StrLaws.last_spec c SL with ⟨he, _⟩ | ⟨i, he, ha, hn⟩
  · rw [he]
  · rw [at_iff] at ha
    exact absurd (List.mem_of_getElem? ha) h
theorem head_mid {p c : Str} (h : 47 ∉ tl c) : headF (p ++ SL ++ c) = p ++ SL := by
  unfold headF
  rw [rfind_mid h]
  apply tl_inj
  rw [show (p.length : Int) + 1 = ((p.length + 1 : Nat) : Int) by omega, slice_to (by rw [Str.length_append, Str.length_append, SL_len]; omega), tl_app]
  rw [List.take_append_of_le_length (by rw [tl_len, Str.length_append, SL_len]; omega), List.take_of_length_le (by rw [tl_len, Str.length_append, SL_len]; omega)]
theorem head_none {c : Str} (h : 47 ∉ tl c) : headF c = Str.ofString "" := by
  unfold headF
  rw [rfind_none h]
  apply tl_inj
  rw [show (-1 : Int) + 1 = ((0 : Nat) : Int) from rfl, slice_to (Nat.zero_le _), tl_e, List.take_zero]
theorem rstrip_one {p : Str} (h : (tl p).getLast? ≠ some 47) : Txt.rstripChars (p ++ SL) SL = p := by
  unfold Txt.rstripChars
  rw [PyProof.Rows.stripBy_eq]
  have h0 : stripLo SL.cps.contains false (p ++ SL) = 0 := rfl
  have h1 : stripHi SL.cps.contains true (p ++ SL) 0 = p.length := by
    unfold stripHi
    rw [if_pos rfl]
    show (p ++ SL).length - ((((tl (p ++ SL)).drop 0).reverse.takeWhile SL.cps.contains).length) = _
    have e : ((tl (p ++ SL)).drop 0).reverse = 47 :: (tl p).reverse := by rw [tl_app, tl_SL]; simp
    have e2 : SL.cps.contains 47 = true := by decide +kernel
    have e3 : (tl p).reverse.takeWhile SL.cps.contains = [] := by
      rw [← List.head?_reverse] at h
      cases hr : (tl p).reverse with
      | nil => rfl
      | cons c r =>
        rw [hr] at h
        have hc : c ≠ 47 := fun q => h (by rw [q]; rfl)
        have : SL.cps.contains c = false := by
          rw [show SL.cps = #[47] from by rw [SL_eq]]
          simp [hc]
        rw [List.takeWhile_cons, this]; rfl
    rw [e, List.takeWhile_cons, e2, if_pos rfl, e3, Str.length_append, SL_len]
    rfl
  rw [h0, h1]
  apply tl_inj
  show (((p ++ SL).cps.extract 0 p.length)).toList = _
  rw [Array.toList_extract]
  show (List.take (p.length - 0) (List.drop 0 (tl (p ++ SL)))) = _
  rw [tl_app, List.drop_zero, Nat.sub_zero, ← tl_len, List.take_left]
theorem mul_eq (n : Nat) : ∀ c ∈ tl (Txt.mul SL n), c = 47 := by
  unfold Txt.mul
  split
  · intro c hc
    have : tl Str.empty = [] := by decide +kernel
    rw [this] at hc; cases hc
  · split
    · intro c hc
      rw [tl_SL] at hc
      exact List.mem_singleton.mp hc
    · have key : ∀ (l : List (Array Nat)) (a : Array Nat), (∀ b ∈ l, ∀ c ∈ b.toList, c = 47) → (∀ c ∈ a.toList, c = 47) → ∀ c ∈ (l.foldl (· ++ ·) a).toList, c = 47 := by
        intro l
        induction l with
        | nil => intro a _ h; exact h
        | cons b r ih =>
          intro a h1 h2
          refine ih (a ++ b) (fun x hx => h1 x (List.Mem.tail _ hx)) ?_
          intro c hc
          rw [Array.toList_append] at hc
          rcases List.mem_append.mp hc with hc | hc
          · exact h2 c hc
          · exact h1 b (List.Mem.head _) c hc
      refine key _ _ ?_ (by simp)
      intro b hb c hc
      rw [(List.mem_replicate.mp hb).2] at hc
      have : c ∈ tl SL := hc
      rw [tl_SL] at this
      exact List.mem_singleton.mp this
theorem dir_mid {p c : Str} (hc : 47 ∉ tl c) (hp : (tl p).getLast? ≠ some 47) (hn : ∃ d ∈ tl p, d ≠ 47) : dirF (p ++ SL ++ c) = p := by
  unfold dirF
  rw [head_mid hc]
  have h0 : ¬ ((p ++ SL).length : Int) = 0 := by rw [Str.length_append, SL_len]; omega
  have h1 : (p ++ SL != Txt.mul SL ((p ++ SL).length : Int)) = true := by
    rw [bne_iff_ne]
    intro q
    obtain ⟨d, hd, hne⟩ := hn
    refine hne (mul_eq (p ++ SL).length d ?_)
    rw [← q, tl_app]
    exact List.mem_append_left _ hd
  rw [if_neg h0, if_pos h1, rstrip_one hp]
theorem dir_root {c : Str} (hc : 47 ∉ tl c) : dirF (SL ++ c) = SL := by
  rw [sl_start]
  unfold dirF
  rw [head_mid hc]
  have e : Str.ofString "" ++ SL = SL := by decide +kernel
  rw [e]
  have h0 : ¬ (SL.length : Int) = 0 := by rw [SL_len]; decide
  have h1 : ¬ (SL != Txt.mul SL (SL.length : Int)) = true := by decide +kernel
  rw [if_neg h0, if_neg h1]
theorem dir_none {c : Str} (hc : 47 ∉ tl c) : dirF c = Str.ofString "" := by
  unfold dirF
  rw [head_none hc, if_pos (by decide +kernel)]
theorem rot_e (ab : Bool) : rot ab ++ Str.ofString "" = rot ab := by cases ab <;> decide +kernel
theorem join_end : ∀ (l : List Str) (c : Str), l ≠ [] → Str.join SL (l ++ [c]) = Str.join SL l ++ SL ++ c
  | [], _, h => absurd rfl h
  | [x], c, _ => rfl
  | x :: y :: r, c, _ => by
    show x ++ SL ++ Str.join SL (y :: r ++ [c]) = x ++ SL ++ Str.join SL (y :: r) ++ SL ++ c
    rw [join_end (y :: r) c (by simp)]
    exact tl_inj (by simp only [tl_app, List.append_assoc])
theorem join_last : ∀ (l : List Str), (∀ c ∈ l, Nm c) → l ≠ [] → ∃ d, (tl (Str.join SL l)).getLast? = some d ∧ d ≠ 47
  | [], _, h => absurd rfl h
  | [x], h, _ => by
    show ∃ d, (tl x).getLast? = some d ∧ d ≠ 47
    have hx := h x (List.Mem.head _)
    have h1 := hx.len
    rw [← tl_len] at h1
    cases e : (tl x).getLast? with
    | none => rw [List.getLast?_eq_none_iff] at e; rw [e] at h1; cases h1
    | some d => exact ⟨d, rfl, fun q => hx.s (q ▸ List.mem_of_getLast? e)⟩
  | x :: y :: r, h, _ => by
    obtain ⟨d, h1, h2⟩ := join_last (y :: r) (fun c hc => h c (List.Mem.tail _ hc)) (by simp)
    refine ⟨d, ?_, h2⟩
    show (tl (x ++ SL ++ Str.join SL (y :: r))).getLast? = some d
    rw [tl_app, List.getLast?_append, h1]; rfl
theorem dir_step {ab : Bool} {l : List Str} {c : Str} (hl : ∀ q ∈ l, Nm q) (hc : Nm c) : dirF (rot ab ++ Str.join SL (l ++ [c])) = rot ab ++ Str.join SL l := by
  by_cases h : l = []
  · subst h
    show dirF (rot ab ++ c) = rot ab ++ Str.ofString ""
    rw [rot_e]
    cases ab with
    | true => exact dir_root hc.s
    | false =>
      have e : rot false ++ c = c := tl_inj (by rw [tl_app, show tl (rot false) = [] from tl_e]; rfl)
      rw [e]; exact dir_none hc.s
  · rw [join_end l c h]
    have e : rot ab ++ (Str.join SL l ++ SL ++ c) = rot ab ++ Str.join SL l ++ SL ++ c := tl_inj (by simp only [tl_app, List.append_assoc])
    rw [e]
    obtain ⟨d, h1, h2⟩ := join_last l hl h
    have h3 : (tl (rot ab ++ Str.join SL l)).getLast? = some d := by rw [tl_app, List.getLast?_append, h1]; rfl
    refine dir_mid hc.s ?_ ⟨d, List.mem_of_getLast? h3, h2⟩
    rw [h3]
    exact fun q => h2 (Option.some.inj q)
theorem dir_steps {ab : Bool} : ∀ (below l : List Str), (∀ q ∈ l, Nm q) → below.length ≤ l.length → below.foldl (fun a _ => dirF a) (rot ab ++ Str.join SL l) = rot ab ++ Str.join SL (l.take (l.length - below.length))
  | [], l, _, _ => by simp
  | b :: r, l, h, hlen => by
    rcases List.eq_nil_or_concat l with rfl | ⟨a, y, rfl⟩
    · simp at hlen
    · rw [List.concat_eq_append] at *
      have ha : ∀ q ∈ a, Nm q := fun q hq => h q (by simp [hq])
      rw [List.foldl_cons, dir_step ha (h y (by simp)), dir_steps r a ha (by simp at hlen; omega)]
      have : (a ++ [y]).length - (b :: r).length = a.length - r.length := by simp
      rw [this, List.take_append_of_le_length (by omega)]
end Mine
end
section
open PySem PySem.Spec PySem.Calls PySem.W PyProof.Rows Builtin Builtin.Str
namespace Mine
theorem norm_way {ab : Bool} {ns : List Str} {x : Str} (h : WayOk ab ns x) (hn : ∀ c ∈ ns, Nm c) (hne : ns ≠ []) : normF x = rot ab ++ Str.join SL ns := by
  refine normF_names h.rt ?_ hn hne
  rw [h.c, fold_names _ _ _ hn]; rfl
theorem joins_len : ∀ (l : List Str), (∀ c ∈ l, Nm c) → (Str.join SL l).length ≤ 11 * l.length
  | [], _ => Nat.le_of_ble_eq_true rfl
  | [x], h => by
    show x.length ≤ _
    rw [(h x (List.Mem.head _)).len]; exact Nat.le_of_ble_eq_true rfl
  | x :: y :: r, h => by
    have ih := joins_len (y :: r) (fun c hc => h c (List.Mem.tail _ hc))
    show (x ++ SL ++ Str.join SL (y :: r)).length ≤ _
    rw [Str.length_append, Str.length_append, SL_len, (h x (List.Mem.head _)).len]
    simp only [List.length_cons] at *
    omega
theorem sum_names : ∀ (l : List Str), (∀ c ∈ l, Nm c) → (l.map fun p => p.length + 1).sum = 11 * l.length
  | [], _ => rfl
  | x :: r, h => by
    have ih := sum_names r (fun c hc => h c (List.Mem.tail _ hc))
    simp only [List.map_cons, List.sum_cons, List.length_cons, (h x (List.Mem.head _)).len]
    omega
theorem sum_rep (n : Nat) (x : Str) : ((List.replicate n x).map fun p => p.length + 1).sum = n * (x.length + 1) := by
  induction n with
  | zero => simp
  | succ n ih => rw [List.replicate_succ, List.map_cons, List.sum_cons, ih, Nat.succ_mul]; omega
theorem flat_one : ∀ (l : List Str), (∀ c ∈ l, cmp c = [c]) → (l.map cmp).flatten = l
  | [], _ => rfl
  | x :: r, h => by
    rw [List.map_cons, List.flatten_cons, h x (List.Mem.head _), flat_one r (fun c hc => h c (List.Mem.tail _ hc))]; rfl
theorem led_ok {x x2 : Int} {b1 b2 : Bool} {d : Nat} (h1 : 0 ≤ x ∧ x < 65536) (h2 : 0 ≤ x2 ∧ x2 < 65536) (hr : rootD x = rootD x2) (hd : DeepIs [x, x2] d) :
    LedH (wayF x b1) (wayF x2 b2) (rootD x2 ++ Txt.join (Str.ofString "/") (namesF x2)) ((namesF x2).drop d) (abD x) := by
  have w1 := way_ok h1.1 h1.2 b1
  have n1 := names_nm x
  have n2 := names_nm x2
  have e1 := norm_way w1 n1 (by rw [names5]; exact fun q => nomatch q)
  have l1 := names_flen x
  have l2 := names_flen x2
  have hcom := com_same (p0 := (x, b1)) (r := [(x2, b2)]) (d := d) (fun p hp => by
    rcases List.mem_cons.mp hp with rfl | hp
    · exact h1
    · rw [List.mem_singleton.mp hp]; exact h2) (fun p hp => by rw [List.mem_singleton.mp hp]; exact hr.symm) hd
  have hrt := w1.rt
  obtain ⟨hd5, htk, _⟩ : d ≤ 5 ∧ (∀ a ∈ [x, x2], ∀ b ∈ [x, x2], (namesF a).take d = (namesF b).take d) ∧ _ := by
    rcases deep_facts hd with h | h
    · exact h
    · cases h
  have ht : (namesF x).take d = (namesF x2).take d := htk x (by simp) x2 (by simp)
  have hbl : ((namesF x2).drop d).length = 5 - d := by rw [List.length_drop, l2]
  have n3 : ∀ c ∈ (namesF x2).drop d, Nm c := fun c hc => n2 c (List.mem_of_mem_drop hc)
  have hab : rootD x2 = rot (abD x) := by rw [← hr, rootD_rot]
  have hw2 := way_ok h2.1 h2.2 b2
  have ha2 : abD x2 = abD x := rootD_ab.mp hr.symm
  rw [ha2] at hw2
  have hcc := w1.c
  have hl1000 := w1.len
  generalize hst : wayF x b1 = st at *
  generalize hgo : wayF x2 b2 = go at *
  have hcom2 : cpF (abD x) st [go] = rootD x ++ Txt.join (Str.ofString "/") ((namesF x).take d) := by
    rw [← hcom]
    show _ = comL [wayF x b1, wayF x2 b2]
    rw [hst, hgo]
    show _ = (if _ then _ else _)
    rw [hrt.sw, if_pos (by
      intro q hq
      rcases List.mem_cons.mp hq with rfl | hq
      · exact hrt.sw
      · rw [List.mem_singleton.mp hq]; exact hw2.rt.sw)]
  have hheads : ∀ p ∈ List.replicate (5 - d) dotdotS ++ (namesF x2).drop d, (tl p).head? ≠ some 47 := by
    intro p hp
    rcases List.mem_append.mp hp with hp | hp
    · rw [(List.mem_replicate.mp hp).2]; exact dd_facts.2.2.2.2
    · exact (n3 p hp).head
  have hones : ∀ p ∈ List.replicate (5 - d) dotdotS ++ (namesF x2).drop d, cmp p = [p] := by
    intro p hp
    rcases List.mem_append.mp hp with hp | hp
    · rw [(List.mem_replicate.mp hp).2]; exact dd_facts.2.2.2.1
    · exact (n3 p hp).cmp
  have hjr : Rt (abD x) (joinF st (List.replicate (5 - d) dotdotS ++ (namesF x2).drop d)) := Rt.join _ hrt hheads
  have hnx : ∀ c ∈ (namesF x).take d, Nm c := fun c hc => n1 c (List.mem_of_mem_take hc)
  refine ⟨?_, ?_, ?_, ?_, ?_⟩
  · rw [e1, Str.length_append]
    have := joins_len _ n1
    have := rot_len (abD x)
    rw [l1] at *
    omega
  · rw [hcom2, e1, dir_steps _ _ n1 (by rw [hbl, l1]; omega), hbl, l1, show 5 - (5 - d) = d by omega, rootD_rot]
    show _ = _ ++ Txt.join SL _
    rw [show Txt.join SL ((namesF x).take d) = Str.join SL ((namesF x).take d) from StrLaws.glued_eq_join _ _]
  · rw [hbl, List.map_append, List.sum_append, sum_rep, sum_names _ n3, hbl]
    have : dotdotS.length = 2 := by decide +kernel
    rw [this]
    omega
  · rw [hbl]; exact hjr.pos
  · rw [hbl]
    have hf : (cmp (joinF st (List.replicate (5 - d) dotdotS ++ (namesF x2).drop d))).foldl (normStep (rot (abD x))) [] = namesF x2 := by
      rw [cmp_joinF _ _ hheads, flat_one _ hones, hcc, List.foldl_append, fold_names _ _ _ n1, List.foldl_append, List.nil_append, fold_dd _ _ _ n1 (by rw [l1]; omega), l1, show 5 - (5 - d) = d by omega, fold_names _ _ _ n3, ht, List.take_append_drop]
    rw [normF_names hjr hf n2 (by rw [names5]; exact fun q => nomatch q), hab]
    show _ = _ ++ Txt.join SL _
    rw [show Txt.join SL (namesF x2) = Str.join SL (namesF x2) from StrLaws.glued_eq_join _ _]
/-- the ways of a stretch -/
theorem range_mid {f : Nat → Str} {qs : List (Str × Tok)} {n i k : Nat} (h : qs.map (·.1) = (List.range n).map f) (hk : i + k < n) : ((qs.drop i).take (k + 1)).map (·.1) = (List.range (k + 1)).map fun t => f (i + t) := by
  rw [List.map_take, List.map_drop, h]
  apply List.ext_getElem?
  intro j
  simp only [List.getElem?_take, List.getElem?_drop, List.getElem?_map]
  by_cases hj : j < k + 1
  · rw [if_pos hj, List.getElem?_range (by omega), List.getElem?_range hj]; rfl
  · rw [if_neg hj, List.getElem?_eq_none (by simp; omega)]; rfl
theorem ints_mid {ts : List (Int × Tok)} {i k : Nat} (hk : i + k < ts.length) : ((ts.drop i).take (k + 1)).map (·.1) = (List.range (k + 1)).map fun t => (ts.map (·.1)).getD (i + t) 0 := by
  rw [List.map_take, List.map_drop]
  apply List.ext_getElem?
  intro j
  simp only [List.getElem?_take, List.getElem?_drop, List.getElem?_map]
  by_cases hj : j < k + 1
  · rw [if_pos hj, List.getElem?_range hj, Option.map_some, List.getD_eq_getElem?_getD, List.getElem?_map]
    have : i + j < ts.length := by omega
    rw [List.getElem?_eq_getElem this]; rfl
  · rw [if_neg hj, List.getElem?_eq_none (by simp; omega)]; rfl
theorem range_cons (k : Nat) {α} (f : Nat → α) : (List.range (k + 1)).map f = f 0 :: (List.range k).map (fun t => f (t + 1)) := by
  rw [List.range_succ_eq_map, List.map_cons, List.map_map]; rfl
theorem due_same {ts : List (Int × Tok)} {ws rs : List (Str × Tok)} {i k d n : Nat} {x : Int} {tri : Tok} {b : Nat → Bool} (hx : (ts.map (·.1)).getD i 0 = x) (hin : In16 (ts.map (·.1))) (hk : i + k < ts.length)
    (hws : ws.map (·.1) = (List.range ts.length).map fun t => wayF ((ts.map (·.1)).getD t 0) (b t)) (hrs : rs.map (·.1) = (List.range ts.length).map fun t => rootD ((ts.map (·.1)).getD t 0))
    (hsame : ((rs.drop i).take (k + 1)).map (·.1) = (List.replicate n (rootD x, tri)).map (·.1)) (hd : DeepIs (((ts.drop i).take (k + 1)).map (·.1)) d) :
    comL (((ws.drop i).take (k + 1)).map (·.1)) = rootD x ++ Txt.join (Str.ofString "/") ((namesF x).take d) := by
  have hb : ∀ t, t < ts.length → 0 ≤ (ts.map (·.1)).getD t 0 ∧ (ts.map (·.1)).getD t 0 < 65536 := by
    intro t ht
    refine hin _ ?_
    rw [List.getD_eq_getElem?_getD, List.getElem?_eq_getElem (by simpa using ht)]
    exact List.getElem_mem _
  rw [range_mid hrs hk] at hsame
  rw [ints_mid hk, range_cons] at hd
  rw [range_mid hws hk, range_cons]
  have key := com_same (p0 := ((ts.map (·.1)).getD (i + 0) 0, b (i + 0))) (r := (List.range k).map fun t => ((ts.map (·.1)).getD (i + (t + 1)) 0, b (i + (t + 1)))) (d := d) ?_ ?_ ?_
  · rw [List.map_cons, List.map_map, show (ts.map (·.1)).getD (i + 0) 0 = x from hx] at key
    rw [← key]
    rw [show (ts.map (·.1)).getD (i + 0) 0 = x from hx]
    rfl
  · intro p hp
    rcases List.mem_cons.mp hp with rfl | hp
    · exact hb _ (by omega)
    · obtain ⟨t, ht, rfl⟩ := List.mem_map.mp hp
      have := List.mem_range.mp ht
      exact hb _ (by omega)
  · intro p hp
    obtain ⟨t, ht, rfl⟩ := List.mem_map.mp hp
    have ht' := List.mem_range.mp ht
    show rootD ((ts.map (·.1)).getD (i + (t + 1)) 0) = rootD ((ts.map (·.1)).getD (i + 0) 0)
    rw [show (ts.map (·.1)).getD (i + 0) 0 = x from hx]
    have hm : rootD ((ts.map (·.1)).getD (i + (t + 1)) 0) ∈ (List.range (k + 1)).map fun t => rootD ((ts.map (·.1)).getD (i + t) 0) := List.mem_map.mpr ⟨t + 1, List.mem_range.mpr (by omega), rfl⟩
    rw [hsame, List.map_replicate] at hm
    exact (List.mem_replicate.mp hm).2
  · rw [List.map_cons, List.map_map]; exact hd
theorem due_mixed {ts : List (Int × Tok)} {ws rs : List (Str × Tok)} {i k n : Nat} {x : Int} {tri : Tok} {b : Nat → Bool} (hn : n = k + 1) (hx : (ts.map (·.1)).getD i 0 = x) (hin : In16 (ts.map (·.1))) (hk : i + k < ts.length)
    (hws : ws.map (·.1) = (List.range ts.length).map fun t => wayF ((ts.map (·.1)).getD t 0) (b t)) (hrs : rs.map (·.1) = (List.range ts.length).map fun t => rootD ((ts.map (·.1)).getD t 0))
    (hsame : ¬ ((rs.drop i).take (k + 1)).map (·.1) = (List.replicate n (rootD x, tri)).map (·.1)) :
    comL (((ws.drop i).take (k + 1)).map (·.1)) = Str.ofString "refused" := by
  subst hn
  have hb : ∀ t, t < ts.length → 0 ≤ (ts.map (·.1)).getD t 0 ∧ (ts.map (·.1)).getD t 0 < 65536 := by
    intro t ht
    refine hin _ ?_
    rw [List.getD_eq_getElem?_getD, List.getElem?_eq_getElem (by simpa using ht)]
    exact List.getElem_mem _
  rw [range_mid hrs hk] at hsame
  rw [range_mid hws hk, range_cons]
  have key := com_mixed (p0 := ((ts.map (·.1)).getD (i + 0) 0, b (i + 0))) (r := (List.range k).map fun t => ((ts.map (·.1)).getD (i + (t + 1)) 0, b (i + (t + 1)))) ?_ ?_
  · rw [List.map_cons, List.map_map] at key
    exact key
  · intro p hp
    rcases List.mem_cons.mp hp with rfl | hp
    · exact hb _ (by omega)
    · obtain ⟨t, ht, rfl⟩ := List.mem_map.mp hp
      have := List.mem_range.mp ht
      exact hb _ (by omega)
  · intro q
    apply hsame
    rw [List.map_replicate]
    apply List.eq_replicate_iff.mpr
    refine ⟨by simp, ?_⟩
    intro y hy
    obtain ⟨t, ht, rfl⟩ := List.mem_map.mp hy
    have ht' := List.mem_range.mp ht
    show _ = rootD x
    rw [← hx]
    cases t with
    | zero => rfl
    | succ t => exact q ((ts.map (·.1)).getD (i + (t + 1)) 0, b (i + (t + 1))) (List.mem_map.mpr ⟨t, List.mem_range.mpr (by omega), rfl⟩)
theorem okp_of {ws : List (Str × Tok)} (h : ∀ y ∈ ws.map (·.1), PyData.strOk y = true) (i k : Nat) : OkP ((ws.drop i).take k) := by
  intro y hy
  rw [List.map_take, List.map_drop] at hy
  exact h y (List.mem_of_mem_drop (List.mem_of_mem_take hy))
theorem ok_rootD (x : Int) : PyData.strOk (rootD x) = true := by rw [rootD_rot]; exact ok_rot _
end Mine
end
section
open PySem PySem.Spec PySem.Calls PySem.W PyProof.Rows Builtin Builtin.Str
namespace Mine
theorem ways_facts {ts : List (Int × Tok)} {ws : List (Str × Tok)} {b : Nat → Bool} (hin : In16 (ts.map (·.1))) (hws : ws.map (·.1) = (List.range ts.length).map fun t => wayF ((ts.map (·.1)).getD t 0) (b t)) :
    ∀ y ∈ ws.map (·.1), PyData.strOk y = true ∧ y.length ≤ 1000 := by
  intro y hy
  rw [hws] at hy
  obtain ⟨t, ht, rfl⟩ := List.mem_map.mp hy
  have ht' := List.mem_range.mp ht
  have hb : 0 ≤ (ts.map (·.1)).getD t 0 ∧ (ts.map (·.1)).getD t 0 < 65536 := by
    refine hin _ ?_
    rw [List.getD_eq_getElem?_getD, List.getElem?_eq_getElem (by simpa using ht')]
    exact List.getElem_mem _
  have := way_ok hb.1 hb.2 (b t)
  exact ⟨this.ok, this.len⟩
theorem roots_facts {rs : List (Str × Tok)} {f : Nat → Int} {n : Nat} (hrs : rs.map (·.1) = (List.range n).map fun t => rootD (f t)) : ∀ y ∈ rs.map (·.1), PyData.strOk y = true := by
  intro y hy
  rw [hrs] at hy
  obtain ⟨t, _, rfl⟩ := List.mem_map.mp hy
  exact ok_rootD _
theorem okp_rep (n : Nat) (x : Int) (t : Tok) : OkP (List.replicate n (rootD x, t)) := by
  intro y hy
  rw [List.map_replicate] at hy
  rw [(List.mem_replicate.mp hy).2]
  exact ok_rootD x
theorem mid_len {α} {qs : List α} {n i k : Nat} (h : qs.length = n) (hk : i + k < n) : ((qs.drop i).take (k + 1)).length = k + 1 := by
  rw [List.length_take, List.length_drop]; omega
theorem mid_ne {α} {qs : List α} {n i k : Nat} (h : qs.length = n) (hk : i + k < n) : (qs.drop i).take (k + 1) ≠ [] := by
  intro q
  have := mid_len h hk
  rw [q] at this
  cases this
theorem mid_mem {α} {qs : List α} {i k : Nat} {p : α} (h : p ∈ (qs.drop i).take k) : p ∈ qs := List.mem_of_mem_drop (List.mem_of_mem_take h)
theorem way_pos {m : Int} (h : 0 ≤ m ∧ m < 65536) (b : Bool) : ¬ ((wayF m b).length : Int) = 0 := (way_ok h.1 h.2 b).rt.pos
theorem way_sw {m : Int} (h : 0 ≤ m ∧ m < 65536) (b : Bool) : Txt.startswith (wayF m b) SL = abD m := (way_ok h.1 h.2 b).rt.sw
theorem ent_five {e : LEnt} {x : Int} (h : e.tx = namesF x) (d : Nat) : (e.2.1.drop d).length ≤ 100 := by
  have h1 : (e.2.1.map (·.1)).length = (namesF x).length := congrArg List.length h
  rw [List.length_map, names_flen] at h1
  rw [List.length_drop]; omega
theorem led_ent {e2 : LEnt} {x x2 : Int} {b1 b2 : Bool} {d : Nat} (h1 : 0 ≤ x ∧ x < 65536) (h2 : 0 ≤ x2 ∧ x2 < 65536) (hr : rootD x = rootD x2) (hd : DeepIs [x, x2] d) (h : e2.tx = namesF x2) :
    LedH (wayF x b1) (wayF x2 b2) (rootD x2 ++ Txt.join (Str.ofString "/") (e2.2.1.map (·.1))) ((e2.2.1.drop d).map (·.1)) (abD x) := by
  rw [List.map_drop, show e2.2.1.map (·.1) = namesF x2 from h]
  exact led_ok h1 h2 hr hd
theorem due_ent {ts : List (Int × Tok)} {ws rs : List (Str × Tok)} {i k d n : Nat} {x : Int} {tri : Tok} {b : Nat → Bool} {e : LEnt} (hx : (ts.map (·.1)).getD i 0 = x) (hin : In16 (ts.map (·.1))) (hk : i + k < ts.length)
    (hws : ws.map (·.1) = (List.range ts.length).map fun t => wayF ((ts.map (·.1)).getD t 0) (b t)) (hrs : rs.map (·.1) = (List.range ts.length).map fun t => rootD ((ts.map (·.1)).getD t 0))
    (hsame : ((rs.drop i).take (k + 1)).map (·.1) = (List.replicate n (rootD x, tri)).map (·.1)) (hd : DeepIs (((ts.drop i).take (k + 1)).map (·.1)) d) (h : e.tx = namesF x) :
    comL (((ws.drop i).take (k + 1)).map (·.1)) = rootD x ++ Txt.join (Str.ofString "/") ((e.2.1.take d).map (·.1)) := by
  have e1 : (e.2.1.take d).map (·.1) = (namesF x).take d := by rw [List.map_take, show e.2.1.map (·.1) = namesF x from h]
  rw [e1]
  exact due_same hx hin hk hws hrs hsame hd
theorem rootD_len (x : Int) : (rootD x).length ≤ 1 := by
  unfold rootD
  split
  · exact Nat.le_of_ble_eq_true rfl
  · exact Nat.le_of_ble_eq_true rfl
end Mine
end
section
open PySem PySem.Spec PySem.Calls PySem.W PyProof.Rows
namespace Mine
set_option maxRecDepth 100000
set_option maxHeartbeats 8000000
local macro_rules | `(tactic| walk_at "execs cons") => `(tactic| (k_here; refine wpAny_execs_cons ?_; k_fold))
local macro_rules | `(tactic| walk_at "execs nil") => `(tactic| (k_here; refine wpAny_execs_nil ?_))
theorem add_small2 {x y : Str} (hx : x.length ≤ 1) (hy : y.length ≤ 1001) : x.length + y.length ≤ sizeLine := by rw [sizeLine_eq]; omega
local macro_rules | `(tactic| walk_at "binaryOp Add ref ref") => `(tactic| (k_here; (with_reducible show wpAny _ _ (binaryOp _ (Value.ref _) (Value.ref _)) _ _ _); refine hold ?_))
local macro_rules | `(tactic| walk_at "subscriptTail Name Slice ref ref") => `(tactic| (k_here; (with_reducible show wpAny _ _ (subscriptTail _ (Expr.Slice _ _ none _) (Value.ref _) (Value.ref _)) _ _ _); refine hold ?_))
local macro_rules | `(tactic| walk_at "subscriptTail BinOp Slice ref ref") => `(tactic| (k_here; (with_reducible show wpAny _ _ (subscriptTail _ (Expr.Slice _ _ none _) (Value.ref _) (Value.ref _)) _ _ _); refine hold ?_))
local macro_rules | `(tactic| walk_at "subscriptTail") => `(tactic| (k_here; (with_reducible show wpAny _ _ (subscriptTail _ (Expr.Slice _ _ none _) (Value.ref _) (Value.ref _)) _ _ _); refine hold ?_))
local macro_rules | `(tactic| walk_at "call ref") => `(tactic| (k_here; (with_reducible show wpAny _ _ (call (Value.ref _) _) _ _ _); refine hold ?_))
local macro_rules | `(tactic| walk_at "exec Assign cons ListComp") => `(tactic| (k_here; (rename News _ _ _ _ => lN'); (try dsimp only [List.cons_append, List.nil_append] at lN'); k_dflt (refine LCg.Assign_ListComp_U (F₀ := by k_asm) (by rfl) (by with_unfolding_all rfl) (by with_unfolding_all rfl) (by decide) (by rfl) (by decide) (by rfl) (by rfl) (by rfl) ?_)))
local macro_rules | `(tactic| walk_at "exec Assign cons ListComp") => `(tactic| (k_here; (with_reducible show wpAny _ _ (exec (Stmt.Assign _ (Expr.ListComp (Expr.ListComp _ _ _ _) _ _ _) _) _) _ _ _); (rename News _ _ _ _ => lN'); (try dsimp only [List.cons_append, List.nil_append] at lN'); k_dflt (refine Assign_ListComp_X (F₀ := by k_asm) (by rfl) (by with_unfolding_all rfl) (by with_unfolding_all rfl) (fun _ => rfl) (fun _ => rfl) (by rfl) (by decide) (by rfl) (by rfl) (by rfl) ?_)))
local macro_rules | `(tactic| walk_at "eval ListComp") => `(tactic| (k_here; (with_reducible show wpAny _ _ (eval (Expr.ListComp (Expr.Call _ _ _ _) _ _ _) _) _ _ _); k_dflt (refine ListComp_TT (by k_asm) (by with_unfolding_all rfl) (by decide) (by rfl) (by decide) (by rfl) ?_)))
local macro_rules | `(tactic| walk_at "binaryOp Mod int int") => `(tactic| (k_here; refine md2 (by first | decide | assumption) ?_; intro _ _))
local macro_rules | `(tactic| walk_at "binaryOp FloorDiv int int") => `(tactic| (k_here; refine fd2 (by decide) ?_; intro _ _))
local macro_rules | `(tactic| walk_at "subscriptTail") => `(tactic| (k_here; (with_reducible show wpAny _ _ (subscriptTail _ _ (Value.ref _) (Value.int _ _)) _ _ _); refine hold ?_))
local macro_rules | `(tactic| walk_at "newList") => `(tactic| (k_here; k_dflt (refine' newList_K ?F ?N ?_ ?z; (case F => k_asm); (case N => k_asm); (case z => exact Nat.le_of_ble_eq_true rfl); k_whole); intro l' h' F' N' l1))
local macro_rules | `(tactic| walk_at "binaryOp Mult ref int") => `(tactic| (k_here; (with_reducible show wpAny _ _ (binaryOp Operator.Mult (Value.ref _) (Value.int _ _)) _ _ _); k_dflt (refine' mul_one ?F ?N ?m ?a ?b ?_; (case F => k_asm); (case N => k_asm); (case m => k_mem); (case a => omega); (case b => omega); k_whole); intro D' h' F' N' l1))
local macro_rules | `(tactic| walk_at "compareOp Eq ref ref") => `(tactic| (k_here; (with_reducible show wpAny _ _ (compareOp CmpOp.Eq (Value.ref _) (Value.ref _)) _ _ _); refine hold ?_))
local macro_rules | `(tactic| walk_at "exec For Name Call cons nil") => `(tactic| (k_here; k_dflt (refine wpAny_For ?_)))
local macro_rules | `(tactic| walk_at "pyIter ref") => `(tactic| (k_here; refine hold ?_))
local macro_rules | `(tactic| walk_at "subscriptTail Name Name ref int") => `(tactic| (k_here; (with_reducible show wpAny _ _ (subscriptTail _ _ (Value.ref _) (Value.int _ _)) _ _ _); refine hold ?_))
local macro_rules | `(tactic| walk_at "call builtin:str.join") => `(tactic| (k_here; refine hold ?_))
local macro_rules | `(tactic| walk_at "call builtin:str.join") => `(tactic| (k_here; k_dflt (refine' SC.join ?k1 ?k2 ?k3 ?_; (case k1 => exact ⟨_, News.get (by k_asm) (by k_mem), rfl, _, rfl⟩); (case k2 => exact rfl); (case k3 => assumption); k_whole); intro _ _))
local macro_rules | `(tactic| walk_at "binaryOp Add str str") => `(tactic| (k_here; (refine add_str ?_ (hsz := ?hz)); (case hz => exact add_small2 (rootD_len _) (by assumption)); intro _ _))
local macro_rules | `(tactic| walk_at "CompSrc") => `(tactic| (k_here; refine hold ?_))
local macro_rules | `(tactic| walk_at "call builtin:len") => `(tactic| (k_here; (with_reducible show wpAny _ _ (call (Value.builtin "len") [Value.ref _]) _ _ _); k_dflt (refine' len_vs ?l ?c ?_; (case l => first | exact ⟨_, News.get (by k_asm) (by k_mem), rfl, _, rfl⟩ | exact IsL_up (by assumption) (Fr.keep (by k_asm))); (case c => assumption); k_whole); intro _ _))
theorem four_form {m₁ m : Str → Option Value} {x y t u : Str} (hm : ∀ z, z ≠ x → z ≠ y → z ≠ t → z ≠ u → m₁ z = m z) : m₁ = fun z => if z = u then m₁ u else if z = t then m₁ t else if z = y then m₁ y else if z = x then m₁ x else m z := by
  funext z
  by_cases h : z = u
  · subst h; rw [if_pos rfl]
  by_cases h0 : z = t
  · subst h0; rw [if_neg h, if_pos rfl]
  by_cases h1 : z = y
  · subst h1; rw [if_neg h, if_neg h0, if_pos rfl]
  by_cases h2 : z = x
  · subst h2; rw [if_neg h, if_neg h0, if_neg h1, if_pos rfl]
  · rw [if_neg h, if_neg h0, if_neg h1, if_neg h2]; exact hm z h2 h1 h0 h
theorem range_at {f : Nat → Str} {qs : List (Str × Tok)} {n i : Nat} (h : qs.map (·.1) = (List.range n).map f) (hi : i < n) : ∃ t, qs[i]? = some (f i, t) := by
  have h1 : (qs.map (·.1))[i]? = some (f i) := by rw [h]; simp [hi]
  rw [List.getElem?_map] at h1
  obtain ⟨p, hp, hq⟩ := Option.map_eq_some_iff.mp h1
  exact ⟨p.2, by rw [hp, ← hq]⟩
theorem range_len {f : Nat → Str} {qs : List (Str × Tok)} {n : Nat} (h : qs.map (·.1) = (List.range n).map f) : qs.length = n := by
  simpa using congrArg List.length h
theorem mid_str (ps : List (Str × Tok)) (i k : Nat) : ((strValues ps).drop ((i : Int)).toNat).take (((i : Int) + (k : Int) + 1).toNat - ((i : Int)).toNat) = strValues ((ps.drop i).take (k + 1)) := by
  rw [Int.toNat_natCast, show ((i : Int) + (k : Int) + 1).toNat - i = k + 1 by omega, strValues_drop, strValues_take]
theorem mid_int (ps : List (Int × Tok)) (i k : Nat) : ((intValues ps).drop ((i : Int)).toNat).take (((i : Int) + (k : Int) + 1).toNat - ((i : Int)).toNat) = intValues ((ps.drop i).take (k + 1)) := by
  rw [Int.toNat_natCast, show ((i : Int) + (k : Int) + 1).toNat - i = k + 1 by omega, intValues_drop, intValues_take]
noncomputable def JL2 (m : Str → Option Value) (news : List (Addr × Obj)) (_ : Nat) (m' : Str → Option Value) (nx : List (Addr × Obj)) : Prop :=
  nx = news ∧ ∀ z, z ≠ Str.ofString "j" → z ≠ Str.ofString "due" → z ≠ Str.ofString "deep" → m' z = m z
theorem ents_at {ents : List LEnt} {ts : List (Int × Tok)} {i : Nat} {x : Int} {tx : Tok} (h : ents.map LEnt.tx = ts.map fun p => namesF p.1) (hp : ts[i]? = some (x, tx)) : ∃ e, ents[i]? = some e ∧ e.tx = namesF x := by
  have h1 : (ents.map LEnt.tx)[i]? = some (namesF x) := by rw [h]; simp [hp]
  rw [List.getElem?_map] at h1
  obtain ⟨e, he, hq⟩ := Option.map_eq_some_iff.mp h1
  exact ⟨e, he, hq⟩
theorem ents_len {ents : List LEnt} {ts : List (Int × Tok)} (h : ents.map LEnt.tx = ts.map fun p => namesF p.1) : (entRefs ents).length = ts.length := by
  simpa [entRefs] using congrArg List.length h
theorem names_len (x : Int) : ((namesF x).map (·.length)).sum + (namesF x).length = 55 := by
  simp only [namesF, szs, List.map_cons, List.map_nil, List.sum_cons, List.sum_nil, sg_len, List.length_cons, List.length_nil]; rfl
theorem ent_len {e : LEnt} {x : Int} (h : e.tx = namesF x) : e.2.1.length ≤ 100000 := by
  have h1 : (e.2.1.map (·.1)).length = (namesF x).length := congrArg List.length h
  rw [List.length_map] at h1
  rw [h1]
  exact (by decide : 5 ≤ 100000)
theorem ent_join0 {e : LEnt} {x : Int} (h : e.tx = namesF x) : JoinOk (Str.ofString "/") (e.2.1.map (·.1)) = true ∧ (Txt.join (Str.ofString "/") (e.2.1.map (·.1))).length ≤ 1001 := by
  refine join_small ?_
  have h1 : e.2.1.map (·.1) = namesF x := h
  have h2 := names_len x
  rw [← h1, List.length_map] at h2
  omega
theorem ent_join {e : LEnt} {x : Int} (d : Nat) (h : e.tx = namesF x) : JoinOk (Str.ofString "/") ((e.2.1.take d).map (·.1)) = true ∧ (Txt.join (Str.ofString "/") ((e.2.1.take d).map (·.1))).length ≤ 1001 := by
  refine join_small (Nat.le_trans (wt_take d e.2.1) ?_)
  have h1 : e.2.1.map (·.1) = namesF x := h
  have h2 := names_len x
  rw [← h1, List.length_map] at h2
  omega
noncomputable def JL (m : Str → Option Value) (news : List (Addr × Obj)) (_ : Nat) (m' : Str → Option Value) (nx : List (Addr × Obj)) : Prop :=
  nx = news ∧ ∀ z, z ≠ Str.ofString "i" → z ≠ Str.ofString "j" → z ≠ Str.ofString "due" → z ≠ Str.ofString "deep" → m' z = m z
theorem whole : PySem.Challenge.rw_pd0062_01.Holds := hd.top (by rfl) (by rfl) (by rfl) (by
  k_fill
  intro w0 s0 s1 mg mb hG hY fa o pm cd doc dV kV ho hda hcd hD hmg hgs args vals as hpre hlay hrd hwl hlo
  have KX := kIn_of hY
  refine Ground.open hG ?_
  intro T hB D hTE hTW
  try (refine guard_noD D (by decide +kernel) ?_; clear D)
  obtain ⟨_, _, M⟩ := bmod_of_top T
  have TA := at_of_top T
  try (obtain ⟨_, _, he, B0⟩ := based_of_top T rfl hmg ho hda; have he' : cd = _ := he; subst he'; clear he)
  clear hmg
  wrow_args hpre hlay hrd hwl hlo
  refine enter_call ?_
  w_top on
  try refine codeAny_mono ?_ (fun _ _ g => GoodW.toG g)
  have K0 := below_caller (Top.heap T)
  w_call any ho hda hcd hD T F
  clear hda TA
  k_drop
  all_goals try k_fold
  rename_i ns _ _ _ _ _ _ _ la vs _ hL hra hw1 hr0 hI hr hlen _ h1 tk1 oc hoc N hcells
  clear hD hcells hcd hra hw1 hr0 hr hTW hTE hB M
  have O : Ok _ _ _ _ _ := ⟨KX, T⟩
  have K1 : Below callerA s1.heap [] s1.heap := K0
  clear K0
  obtain ⟨ps, rfl, hps⟩ := ints_of hI
  clear hI
  refine wpAny_mono (E := NoE) ?_ (fun _ _ h => h) (fun _ _ h => h.elim)
  have hgens : s1.gens = #[] := by assumption
  have hQ : ∀ h' tk', s1.heap.StaysIn h' → qk (.ret (.bool true)) (Shared.mk h' s1.gens s1.drawn tk' s1.os) := by
    intro h' tk' st
    show GoodW _ _ _ _ _ _ _
    refine ⟨.inl ⟨.bool true, .bool true, [], rfl, fun _ => rfl, ?_, ?_, ?_⟩, fun b o e => st b o e, rfl, hgens⟩
    · exact .bool _
    · kernel_rfl
    · exact fun _ => ⟨List.nodup_nil, fun a h => nomatch h⟩
  clear ek
  clear_value qk
  generalize bindC _ _ _ = c0 at hoc
  have hpl : ps.length ≤ 63 := by rw [← hps, List.length_map] at hlen; omega
  (with_reducible show wpAny _ _ _ _ _ _)
  repeat (first | (k_unfold; (try dsimp only)) | walk1 | (dsimp only; walk1) | (refine id ?_; k_unfold; (try dsimp only)))
  refine unhold ?_
  (rename News _ _ _ _ => lN)
  (rename Fr _ _ _ _ => lF)
  refine kmk_add_lit (zs := intValues (ps ++ [(0, _), (1, _)])) (its := (intValues ps).toArray) (its2 := #[.int 0 _, .int 1 _]) lF lN (hL.at fun o e => lF.keep _ o e) ⟨_, lN.get (List.Mem.head _), rfl, _, rfl⟩ (by simp [intValues]; exact ⟨rfl, rfl⟩) ?_ (by simp only [List.toList_toArray, intValues_length]; rw [sizeLine_eq]; simp; omega)
  intro D10 h10 F10 N10 l10
  clear lF lN
  generalize bindL _ _ _ = m0 at F10
  (try dsimp only)
  repeat (first | (k_unfold; (try dsimp only)) | walk1 | (dsimp only; walk1) | (refine id ?_; k_unfold; (try dsimp only)))
  refine unhold ?_
  have hz3 : (intValues (ps ++ [(0, tk1), (1, tk1 + 1)])).length ≤ 100000 := by rw [intValues_length]; simp; omega
  refine sl_to_L (vs := intValues _) F10 N10 (List.Mem.head _) hz3 (by decide) ?_
  intro D11 h11 F11 N11 l11
  clear F10 N10
  rw [intValues_take] at N11
  (try dsimp only)
  repeat (first | (k_unfold; (try dsimp only)) | walk1 | (dsimp only; walk1) | (refine id ?_; k_unfold; (try dsimp only)))
  refine unhold ?_
  (rename News _ _ _ _ => lN)
  (rename Fr _ _ _ _ => lF)
  refine' use_meets (c_row ?kO D11 ((ps ++ [(0, tk1), (1, tk1 + 1)]).take 3) ?kl ?kn) K1 ?k2 ?k3 ?k4 ?k5 ?k6 ?k7 ?k8 ?k9 ?_
  case kO => exact O.keeps lF.keep
  case kl => exact ⟨_, lN.get (List.Mem.head _), rfl, _, rfl⟩
  case kn => exact Nat.le_trans (List.length_take_le _ _) (by decide)
  case k2 => exact lF
  case k3 => exact lN
  case k4 => rfl
  case k5 => rfl
  case k6 => rfl
  case k7 => rfl
  case k8 => exact Nat.le_of_ble_eq_true rfl
  case k9 => exact Nat.le_of_ble_eq_true rfl

  intro v h12 tk12 hv st12 F12 N12
  obtain ⟨R, ts, n12, rfl, hR, hRn, hts⟩ := hv
  have N13 := news_add lF (fun p hp => N12 p (List.Mem.tail _ (List.Mem.tail _ (List.Mem.tail _ hp)))) hR hRn
  have hin : In16 (ts.map (·.1)) := hts ▸ rowF_in _
  have htl : ts.length = ((ps ++ [(0, tk1), (1, tk1 + 1)]).take 3).length := by
    have q := congrArg List.length hts
    rw [rowF_len, List.length_map, List.length_map] at q
    exact q
  have htl2 : 2 ≤ ts.length := by rw [htl]; simp; omega
  have htl3 : ts.length ≤ 3 := by rw [htl]; simp; omega
  clear lF lN N12 hR hRn hz3 htl hts hps hpl hlen hL l10 l11
  have hzt : (intValues ts).length ≤ 100000 := by rw [intValues_length]; omega
  (try dsimp only)
  repeat (first | (k_unfold; (try dsimp only)) | walk1 | (dsimp only; walk1) | (refine id ?_; k_unfold; (try dsimp only)))
  refine unhold ?_
  (rename News _ _ _ _ => lN)
  (rename Fr _ _ _ _ => lF)
  rename_i hrng hst0
  refine LCg.CompSrc.range (n := ts.length) rfl lF lN hrng (range_small (by decide) (by decide) (by rw [intValues_length]; omega) (by rw [intValues_length]; omega)) (by rw [range_size _ _ (by omega), intValues_length]; congr 1) (by rw [sizeLine_eq]; omega) (fun g => ?_)
  refine CompRest_all (IS (fun k => wayF ((ts.map (·.1)).getD k 0) ((k : Int) % 2 == 1)) _) ⟨rfl, [], rfl, rfl⟩ ?_ ?_
  rotate_left
  · intro i ys news hi hI v J oI C oC D m₂ h tk2 E' hv hC hx2 F2 N2 off ne
    obtain ⟨rfl, qs, rfl, hqs⟩ := hI
    obtain ⟨tv, rfl⟩ := hv
    rw [Int.zero_add] at hx2
    obtain ⟨⟨x, tx⟩, hp⟩ : ∃ p, ts[i]? = some p := ⟨ts[i], by simp [hi]⟩
    obtain ⟨hx0, hx1⟩ := hin x (by rw [List.mem_map]; exact ⟨(x, tx), List.mem_of_getElem? hp, rfl⟩)
    have hpk : (ts.map (·.1)).getD i 0 = x := by simp [hp]
    (try dsimp only)
    clear lF lN hrng
    (with_reducible show wpAny _ _ _ _ _ _)
    k_fold
    repeat (first | (k_unfold; (try dsimp only)) | walk1 | (dsimp only; walk1) | (refine id ?_; k_unfold; (try dsimp only)))
    refine unhold ?_
    refine item_vs (vs := intValues ts) (v := .int x tx) ⟨_, N2.get (List.Mem.tail _ (List.Mem.tail _ (List.Mem.tail _ (List.Mem.head _)))), rfl, _, rfl⟩ (by omega) (by rw [Int.toNat_natCast]; simp [intValues, hp]) hzt ?_
    repeat (first | (k_unfold; (try dsimp only)) | walk1 | (dsimp only; walk1) | (refine id ?_; k_unfold; (try dsimp only)))
    refine unhold ?_
    refine' use_meets (c_way ?kO x tx _ hx0 hx1) K1 F2 N2 ?k4 ?k5 ?k6 ?k7 ?k8 ?k9 ?_
    case kO => exact O.keeps F2.keep
    case k4 => rfl
    case k5 => rfl
    case k6 => rfl
    case k7 => rfl
    case k8 => exact Nat.le_of_ble_eq_true rfl
    case k9 => exact Nat.le_of_ble_eq_true rfl
    intro v h13 tk13 hv st13 F13 N13
    obtain ⟨t13, rfl⟩ := hv
    exact cend_same F13 N13 (fun p hp => hp) off trivial (IS_next hqs (by rw [hpk]))
  intro ys news hI
  obtain ⟨rfl, ws, rfl, hws⟩ := hI
  intro Dw h14 tk14 F14 N14 o14
  clear lF lN hrng hst0
  (try dsimp only)
  repeat (first | (k_unfold; (try dsimp only)) | walk1 | (dsimp only; walk1) | (refine id ?_; k_unfold; (try dsimp only)))
  (rename News _ _ _ _ => lN)
  (rename Fr _ _ _ _ => lF)
  have hsz5 : ts.length ≤ sizeLine := by rw [sizeLine_eq]; omega
  refine ⟨R, intValues ts, _, _, rfl, rfl, lF, lN, List.Mem.tail _ (List.Mem.head _), by rw [intValues_length]; exact hsz5, ?_⟩
  rintro s2x ⟨g2, rfl⟩
  refine ⟨IN ts _ _ _, ⟨[], [], rfl, rfl, (fun _ h => nomatch h), by simp⟩, ?_, ?_⟩
  rotate_left
  · intro i ys news hi hI v J oI C oC X9 oX D h tk2 E' hv dX F2 N2 off ne
    obtain ⟨ents, rest, rfl, rfl, hmem, htx⟩ := hI
    rw [intValues_length] at hi
    obtain ⟨⟨x, tx⟩, hp⟩ : ∃ p, ts[i]? = some p := ⟨ts[i], by simp [hi]⟩
    obtain rfl : v = .int x tx := by
      have : (intValues ts)[i]? = some (.int x tx) := by simp [intValues, hp]
      rw [this] at hv; exact (Option.some.inj hv).symm
    obtain ⟨hx0, hx1⟩ := hin x (by rw [List.mem_map]; exact ⟨(x, tx), List.mem_of_getElem? hp, rfl⟩)
    (try dsimp only)
    clear lF lN
    (with_reducible show wpAny _ _ _ _ _ _)
    k_fold
    repeat (first | (k_unfold; (try dsimp only)) | walk1 | (dsimp only; walk1) | (refine id ?_; k_unfold; (try dsimp only)))
    (rename News _ _ _ _ => lN)
    (rename Fr _ _ _ _ => lF)
    refine SrcT.ledger (vs := [.int 4096 _, .int 512 _, .int 64 _, .int 8 _, .int 1 _]) rfl lF lN (List.Mem.head _) (Nat.le_of_ble_eq_true rfl) (fun g => ?_)
    refine CompRest_all (IS (fun k => sg (x - x % szs.getD k 0)) _) ⟨rfl, [], rfl, rfl⟩ ?_ ?_
    rotate_left
    · intro i2 ys2 news2 hi2 hI2 v2 J2 oI2 C2 oC2 D2 m2 h2 tk22 E2 hv2 hC2 hx22 F22 N22 off2 ne2
      obtain ⟨rfl, qs, rfl, hqs⟩ := hI2
      obtain ⟨size, tz, rfl, hz0, hz1, hz2, hz3⟩ := szs_fact (by simpa using hv2)
      obtain ⟨hm0, hm1⟩ := sub_md hx0 hx1 hz3
      (try dsimp only)
      clear lF lN hv2 hz3 hv
      (with_reducible show wpAny _ _ _ _ _ _)
      k_fold
      repeat (first | (k_unfold; (try dsimp only)) | walk1 | (dsimp only; walk1) | (refine id ?_; k_unfold; (try dsimp only)))
      refine unhold ?_
      refine' use_meets (c_signs ?kO (x - x % size) _ hm0 hm1) K1 F22 N22 ?k4 ?k5 ?k6 ?k7 ?k8 ?k9 ?_
      case kO => exact O.keeps F22.keep
      case k4 => rfl
      case k5 => rfl
      case k6 => rfl
      case k7 => rfl
      case k8 => exact Nat.le_of_ble_eq_true rfl
      case k9 => exact Nat.le_of_ble_eq_true rfl
      intro v3 h13 tk13 hv3 st13 F13 N13
      obtain ⟨t13, rfl⟩ := hv3
      exact cend_same F13 N13 (fun p hp => hp) off2 (List.Mem.head _) (IS_next hqs (by rw [hz2]))
    · intro ys2 news2 hI2
      obtain ⟨rfl, qs, rfl, hqs⟩ := hI2
      intro D6 h6 tk6 F6 N6 o6
      have m6 := Off1.mem o6
      refine CEnd.intro F6 N6 (_ :: _ :: _ :: (D6, LCg.lst (strValues qs)) :: rest) (fun p hp => ?_) (fun p hp => ?_) (List.Mem.tail _ (List.Mem.head _)) (IN_next hmem htx hp hqs)
      · simp only [List.mem_cons] at hp ⊢
        rcases hp with h | h | h | h | h | h | h | h | h <;> simp [h]
      · rcases List.mem_cons.mp hp with rfl | hp
        · exact off _ (List.Mem.head _)
        rcases List.mem_cons.mp hp with rfl | hp
        · exact off _ (List.Mem.tail _ (List.Mem.head _))
        rcases List.mem_cons.mp hp with rfl | hp
        · exact off _ (List.Mem.tail _ (List.Mem.tail _ (List.Mem.head _)))
        rcases List.mem_cons.mp hp with rfl | hp
        · exact ⟨Ne.symm (m6 _ (List.Mem.tail _ (List.Mem.head _))), Ne.symm (m6 _ (List.Mem.tail _ (List.Mem.tail _ (List.Mem.head _)))), Ne.symm (m6 _ (List.Mem.tail _ (List.Mem.tail _ (List.Mem.tail _ (List.Mem.head _))))), Ne.symm (m6 _ (List.Mem.tail _ (List.Mem.tail _ (List.Mem.tail _ (List.Mem.tail _ (List.Mem.head _))))))⟩
        · exact off _ (List.Mem.tail _ (List.Mem.tail _ (List.Mem.tail _ hp)))
  intro ys news hI
  obtain ⟨ents, rest, rfl, rfl, hmem, htx⟩ := hI
  intro Dn h15 tk15 F15 N15 o15
  clear lF lN o14
  replace htx : ents.map LEnt.tx = ts.map fun p => namesF p.1 := by
    rw [htx, intValues_length, List.take_length]
  (try dsimp only)
  repeat (first | (k_unfold; (try dsimp only)) | walk1 | (dsimp only; walk1) | (refine id ?_; k_unfold; (try dsimp only)))
  refine unhold ?_
  (rename News _ _ _ _ => lN)
  (rename Fr _ _ _ _ => lF)
  refine LCg.CompSrc.ledger rfl lF lN (List.Mem.tail _ (List.Mem.tail _ (List.Mem.head _))) (by rw [List.size_toArray, intValues_length]; exact hsz5) (fun g => ?_)
  refine CompRest_all (IS (fun k => rootD ((ts.map (·.1)).getD k 0)) _) ⟨rfl, [], rfl, rfl⟩ ?_ ?_
  rotate_left
  · intro i ys news hi hI v J oI C oC D m₂ h tk2 E' hv hC hx2 F2 N2 off ne
    obtain ⟨rfl, qs, rfl, hqs⟩ := hI
    rw [iv_get] at hv
    obtain ⟨p, hp, rfl⟩ := Option.map_eq_some_iff.mp hv
    have hpk : (ts.map (·.1)).getD i 0 = p.1 := by simp [hp]
    obtain ⟨x, tx⟩ := p
    (try dsimp only)
    (try dsimp only at hpk)
    clear lF lN hv
    (with_reducible show wpAny _ _ _ _ _ _)
    k_fold
    repeat' (first | (k_unfold; (try dsimp only)) | walk1 | (dsimp only; walk1) | (refine id ?_; k_unfold; (try dsimp only)))
    all_goals first
      | exact cend_same (by assumption) (by assumption) (fun p hp => hp) off (.inr ⟨_, List.Mem.tail _ (List.Mem.tail _ (List.Mem.head _)), rfl, _, rfl⟩) (IS_next hqs (by rw [hpk, rootD, if_pos (by assumption)]))
      | exact cend_same (by assumption) (by assumption) (fun p hp => hp) off (.inr ⟨_, List.Mem.tail _ (List.Mem.tail _ (List.Mem.head _)), rfl, _, rfl⟩) (IS_next hqs (by rw [hpk, rootD, if_neg (by assumption)]))
     
  intro ys news hI
  obtain ⟨rfl, rs, rfl, hrs⟩ := hI
  intro Dr h16 tk16 F16 N16 o16
  clear lF lN o15
  rw [List.size_toArray, intValues_length] at hrs
  (try dsimp only)
  repeat (first | (k_unfold; (try dsimp only)) | walk1 | (dsimp only; walk1) | (refine id ?_; k_unfold; (try dsimp only)))
  refine unhold ?_
  (rename News _ _ _ _ => lN)
  (rename Fr _ _ _ _ => lF)
  rename_i hrng hst1
  clear hst1 o16
  (try simp only [] at lF)
  refine it_range (n := ts.length) (JL _ _) rfl hrng (range_small (by decide) (by decide) (by rw [intValues_length]; omega) (by rw [intValues_length]; omega)) (by rw [range_size _ _ (by omega), intValues_length]; congr 1) lF lN ⟨rfl, fun _ _ _ _ _ => rfl⟩ ?_ ?_
  · intro i ti m₁ news₁ h₁ tk₁ own hi hJ ha hoff F₁ N₁
    obtain ⟨rfl, hm⟩ := hJ
    rw [four_form hm] at F₁
    generalize m₁ (Str.ofString "i") = u1 at F₁
    generalize m₁ (Str.ofString "j") = u2 at F₁
    generalize m₁ (Str.ofString "due") = u3 at F₁
    generalize m₁ (Str.ofString "deep") = u4 at F₁
    rw [Int.zero_add]
    clear hm ha lF lN hrng
    change Fr s1.heap s1.heap.objs.size h₁ _ at F₁
    change News s1.heap s1.heap.objs.size h₁ _ at N₁
    (try dsimp only [List.cons_append, List.nil_append] at N₁)
    repeat (first | (k_unfold; (try dsimp only)) | walk1 | (dsimp only; walk1) | (refine id ?_; k_unfold; (try dsimp only)))
    refine unhold ?_
    (rename News _ _ _ _ => lN)
    (rename Fr _ _ _ _ => lF)
    rename_i hrng hst2
    clear hst2
    refine it_range (n := ts.length - i) (JL2 _ _) rfl hrng (range_small (by omega) (by omega) (by rw [intValues_length]; omega) (by rw [intValues_length]; omega)) (by rw [range_size _ _ (by rw [intValues_length]; omega), intValues_length]; congr 1; omega) lF lN ⟨rfl, fun _ _ _ _ => rfl⟩ ?_ ?_
    · intro k tj m₂ news₂ h₂ tk₂ own2 hk hJ2 ha2 hoff2 F₂ N₂
      obtain ⟨rfl, hm2⟩ := hJ2
      rw [three_form hm2] at F₂
      generalize m₂ (Str.ofString "j") = w2 at F₂
      generalize m₂ (Str.ofString "due") = w3 at F₂
      generalize m₂ (Str.ofString "deep") = w4 at F₂
      clear hm2 ha2 lF lN hrng hoff2 hoff
      obtain ⟨⟨x, tx⟩, hpx⟩ : ∃ p, ts[i]? = some p := ⟨ts[i], by simp [hi]⟩
      obtain ⟨⟨x2, tx2⟩, hpx2⟩ : ∃ p, ts[i + k]? = some p := ⟨ts[i + k], by simp [show i + k < ts.length by omega]⟩
      have hgx : (ts.map (·.1)).getD i 0 = x := by simp [hpx]
      have hgx2 : (ts.map (·.1)).getD (i + k) 0 = x2 := by simp [hpx2]
      obtain ⟨tri, hri⟩ := range_at hrs hi
      obtain ⟨tri2, hri2⟩ := range_at hrs (show i + k < ts.length by omega)
      rw [hgx2] at hri2
      have hjk : ((i : Int) + (k : Int)).toNat = i + k := by omega
      obtain ⟨twi, hwi⟩ := range_at hws hi
      rw [hgx] at hwi
      obtain ⟨twj, hwj⟩ := range_at hws (show i + k < ts.length by omega)
      rw [hgx2] at hwj
      obtain ⟨e2, he2, hetx2⟩ : ∃ e, ents[i + k]? = some e ∧ e.tx = namesF x2 := ents_at htx hpx2
      have hin6 := hmem e2 (List.mem_of_getElem? he2)
      have hj6 := ent_join0 hetx2
      obtain ⟨hj61, hj62⟩ := hj6
      have he6 : (strValues e2.2.1).length ≤ 100000 := by rw [strValues_length]; exact ent_len hetx2
      have hxb := hin x (by rw [List.mem_map]; exact ⟨(x, tx), List.mem_of_getElem? hpx, rfl⟩)
      have hxb2 := hin x2 (by rw [List.mem_map]; exact ⟨(x2, tx2), List.mem_of_getElem? hpx2, rfl⟩)
      have hb2 : ∀ p ∈ [(x, tx), (x2, tx2)], 0 ≤ p.1 ∧ p.1 < 65536 := by
        intro p hp
        rcases List.mem_cons.mp hp with rfl | hp
        · exact hxb
        · rw [List.mem_singleton.mp hp]; exact hxb2
      have hrl := range_len hrs
      have hikl : i + k < ts.length := by omega
      have hwf := ways_facts (b := fun t => ((t : Int) % 2 == 1)) hin hws
      have hrf := roots_facts hrs
      have hwl := range_len hws
      have hrz : (strValues rs).length ≤ 100000 := by rw [strValues_length]; omega
      have hwz : (strValues ws).length ≤ 100000 := by rw [strValues_length]; omega
      rw [hgx] at hri
      change Fr s1.heap s1.heap.objs.size h₂ _ at F₂
      change News s1.heap s1.heap.objs.size h₂ _ at N₂
      (try dsimp only [List.cons_append, List.nil_append] at N₂)
      repeat (first | (k_unfold; (try dsimp only)) | walk1 | (dsimp only; walk1) | (refine id ?_; k_unfold; (try dsimp only)))
      refine unhold ?_
      (rename News _ _ _ _ => lN)
      (rename Fr _ _ _ _ => lF)
      refine sl_mid_L (vs := strValues rs) lF lN (List.Mem.head _) hrz (by omega) (by omega) ?_
      intro D30 h30 F30 N30 l30
      clear lF lN
      rw [mid_str] at N30
      (try dsimp only)
      repeat (first | (k_unfold; (try dsimp only)) | walk1 | (dsimp only; walk1) | (refine id ?_; k_unfold; (try dsimp only)))
      refine unhold ?_
      refine item_vs (vs := strValues rs) (v := .str (rootD x) tri) ⟨_, N30.get (List.Mem.tail _ (List.Mem.head _)), rfl, _, rfl⟩ (by omega) (by rw [Int.toNat_natCast]; simp [strValues, hri]) hrz ?_
      (try dsimp only)
      repeat (first | (k_unfold; (try dsimp only)) | walk1 | (dsimp only; walk1) | (refine id ?_; k_unfold; (try dsimp only)))
      refine unhold ?_
      (rename News _ _ _ _ => lN)
      (rename Fr _ _ _ _ => lF)
      refine eq_strs (p := (rs.drop i).take (k + 1)) (q := List.replicate _ (rootD x, tri)) ?_ ?_ ⟨_, lN.get (List.Mem.tail _ (List.Mem.tail _ (List.Mem.head _))), rfl, _, rfl⟩ ⟨_, lN.get (List.Mem.head _), rfl, _, rfl⟩ (Nat.le_of_ble_eq_true rfl) ?_
      · exact okp_of hrf i (k + 1)
      · exact okp_rep _ x tri
      have N31 : News s1.heap s1.heap.objs.size _ _ := fun p hp => lN p (List.Mem.tail _ (List.Mem.tail _ (List.Mem.tail _ hp)))
      clear lN l30
      obtain ⟨e, he, hetx⟩ : ∃ e, ents[i]? = some e ∧ e.tx = namesF x := ents_at htx hpx
      have hez : (entRefs ents).length ≤ 100000 := by rw [ents_len htx]; omega
      have hin5 := hmem e (List.mem_of_getElem? he)
      by_cases hsame : ((rs.drop i).take (k + 1)).map (·.1) = (List.replicate (((i : Int) + (k : Int) + 1 - (i : Int))).toNat (rootD x, tri)).map (·.1)
      · rw [decide_eq_true hsame]
        repeat (first | (k_unfold; (try dsimp only)) | walk1 | (dsimp only; walk1) | (refine id ?_; k_unfold; (try dsimp only)))
        refine unhold ?_
        refine item_vs (vs := strValues rs) (v := .str (rootD x) tri) ⟨_, N31.get (List.Mem.head _), rfl, _, rfl⟩ (by omega) (by rw [Int.toNat_natCast]; simp [strValues, hri]) hrz ?_
        (try dsimp only)
        repeat (first | (k_unfold; (try dsimp only)) | walk1 | (dsimp only; walk1) | (refine id ?_; k_unfold; (try dsimp only)))
        refine unhold ?_
        refine item_vs (vs := entRefs ents) (v := .ref e.1) ⟨_, N31.get (List.Mem.tail _ (List.Mem.head _)), rfl, _, rfl⟩ (by omega) (by rw [Int.toNat_natCast]; simp [entRefs, he]) hez ?_
        (try dsimp only)
        repeat (first | (k_unfold; (try dsimp only)) | walk1 | (dsimp only; walk1) | (refine id ?_; k_unfold; (try dsimp only)))
        refine unhold ?_
        (rename News _ _ _ _ => lN)
        (rename Fr _ _ _ _ => lF)
        refine sl_mid_L (vs := intValues ts) lF lN (by k_mem) hzt (by omega) (by omega) ?_
        intro D41 h41 F41 N41 l41
        clear lF lN
        rw [mid_int] at N41
        (try dsimp only)
        repeat (first | (k_unfold; (try dsimp only)) | walk1 | (dsimp only; walk1) | (refine id ?_; k_unfold; (try dsimp only)))
        refine unhold ?_
        refine' use_meets (c_deep ?kO D41 ((ts.drop i).take (k + 1)) ?kl ?kn0 ?kn ?kb) K1 F41 N41 ?k4 ?k5 ?k6 ?k7 ?k8 ?k9 ?_
        case kO => exact O.keeps F41.keep
        case kl => exact ⟨_, N41.get (List.Mem.head _), rfl, _, rfl⟩
        case kn0 => rw [mid_len rfl hikl]; exact Nat.succ_pos _
        case kn => rw [mid_len rfl hikl]; omega
        case kb => exact fun p hp => hin p.1 (List.mem_map.mpr ⟨p, mid_mem hp, rfl⟩)
        case k4 => rfl
        case k5 => rfl
        case k6 => rfl
        case k7 => rfl
        case k8 => exact Nat.le_of_ble_eq_true rfl
        case k9 => exact Nat.le_of_ble_eq_true rfl
        intro v h42 tk42 hv st42 F42 N42
        obtain ⟨d, td, rfl, hd⟩ := hv
        clear F41 l41
        (try dsimp only)
        repeat (first | (k_unfold; (try dsimp only)) | walk1 | (dsimp only; walk1) | (refine id ?_; k_unfold; (try dsimp only)))
        refine unhold ?_
        (rename News _ _ _ _ => lN)
        (rename Fr _ _ _ _ => lF)
        have he5 : (strValues e.2.1).length ≤ 100000 := by rw [strValues_length]; exact ent_len hetx
        refine sl_to_O (vs := strValues e.2.1) lF lN ⟨_, lN.get (List.Mem.tail _ (List.Mem.tail _ (List.Mem.tail _ (List.Mem.tail _ (List.Mem.tail _ (List.Mem.tail _ (List.mem_append_left _ (List.mem_append_left _ hin5)))))))), rfl, _, rfl⟩ he5 (by omega) ?_
        intro D43 h43 F43 N43 l43
        clear lF lN l43
        rw [Int.toNat_natCast, strValues_take] at N43
        have hj := ent_join d hetx
        obtain ⟨hj1, hj2⟩ := hj
        (try dsimp only)
        repeat (first | (k_unfold; (try dsimp only)) | walk1 | (dsimp only; walk1) | (refine id ?_; k_unfold; (try dsimp only)))
        have hdue : comL (((ws.drop i).take (k + 1)).map (·.1)) = rootD x ++ Txt.join (Str.ofString "/") ((e.2.1.take d).map (·.1)) := due_ent (b := fun t => ((t : Int) % 2 == 1)) hgx hin hikl hws hrs hsame hd hetx
        refine unhold ?_
        (rename News _ _ _ _ => lN)
        (rename Fr _ _ _ _ => lF)
        refine sl_mid_L (vs := strValues ws) lF lN (by k_mem) hwz (by omega) (by omega) ?_
        intro D60 h60 F60 N60 l60
        clear lF lN
        rw [mid_str] at N60
        (try dsimp only)
        repeat (first | (k_unfold; (try dsimp only)) | walk1 | (dsimp only; walk1) | (refine id ?_; k_unfold; (try dsimp only)))
        refine unhold ?_
        refine' use_common (p := (ws.drop i).take (k + 1)) K1 O F60 N60 ?k4 ?k5 ?k6 ?k7 ?k8 ?k9 (List.Mem.head _) ?z0 ?z1 ?z2 ?z3 ?_
        case k4 => rfl
        case k5 => rfl
        case k6 => rfl
        case k7 => rfl
        case k8 => exact Nat.le_of_ble_eq_true rfl
        case k9 => exact Nat.le_of_ble_eq_true rfl
        case z0 => exact mid_ne hwl hikl
        case z1 => rw [mid_len hwl hikl]; omega
        case z2 => exact fun q hq => (hwf q.1 (List.mem_map.mpr ⟨q, mid_mem hq, rfl⟩)).2
        case z3 => exact okp_of (fun y hy => (hwf y hy).1) i (k + 1)
        intro h61 tk61 t61 F61 N61
        rw [hdue]
        clear F60 N60 l60
        (try dsimp only)
        repeat' (first | (k_unfold; (try dsimp only)) | walk1 | (dsimp only; walk1) | (refine id ?_; k_unfold; (try dsimp only)))
        all_goals first
          | (rename_i hbad; exfalso; simp at hbad; done)
          | (exact TEnd_next (by assumption) (by assumption) (fun p hp => by repeat (first | exact List.mem_append_right _ hp | apply List.Mem.tail)) (fun p hp => by repeat (first | exact List.mem_append_left _ hp | exact hp | apply List.Mem.tail)) ⟨rfl, rfl, (by intro z z1 z2 z3; simp only [if_neg z1, if_neg z2, if_neg z3])⟩)
          | (refine unhold ?_)
        rename_i hik
        refine item_vs (vs := strValues rs) (v := .str (rootD x) tri) ⟨_, N61.get (by k_mem), rfl, _, rfl⟩ (by omega) (by rw [Int.toNat_natCast]; simp [strValues, hri]) hrz ?_
        (try dsimp only)
        repeat (first | (k_unfold; (try dsimp only)) | walk1 | (dsimp only; walk1) | (refine id ?_; k_unfold; (try dsimp only)))
        refine unhold ?_
        refine item_vs (vs := strValues rs) (v := .str (rootD x2) tri2) ⟨_, N61.get (by k_mem), rfl, _, rfl⟩ (by omega) (by rw [hjk]; simp [strValues, hri2]) hrz ?_
        (try dsimp only)
        repeat' (first | (k_unfold; (try dsimp only)) | walk1 | (dsimp only; walk1) | (refine id ?_; k_unfold; (try dsimp only)))
        all_goals first
          | (exact TEnd_next (by assumption) (by assumption) (fun p hp => by repeat (first | exact List.mem_append_right _ hp | apply List.Mem.tail)) (fun p hp => by repeat (first | exact List.mem_append_left _ hp | exact hp | apply List.Mem.tail)) ⟨rfl, rfl, (by intro z z1 z2 z3; simp only [if_neg z1, if_neg z2, if_neg z3])⟩)
          | (refine unhold ?_)
        rename_i hrt
        have hrr : rootD x = rootD x2 := by first | exact hrt | exact (by simpa using hrt)
        refine item_vs (vs := intValues ts) (v := .int x tx) ⟨_, N61.get (by k_mem), rfl, _, rfl⟩ (by omega) (by rw [Int.toNat_natCast]; simp [intValues, hpx]) hzt ?_
        (try dsimp only)
        repeat (first | (k_unfold; (try dsimp only)) | walk1 | (dsimp only; walk1) | (refine id ?_; k_unfold; (try dsimp only)))
        refine unhold ?_
        refine item_vs (vs := intValues ts) (v := .int x2 tx2) ⟨_, N61.get (by k_mem), rfl, _, rfl⟩ (by omega) (by rw [hjk]; simp [intValues, hpx2]) hzt ?_
        (try dsimp only)
        repeat (first | (k_unfold; (try dsimp only)) | walk1 | (dsimp only; walk1) | (refine id ?_; k_unfold; (try dsimp only)))
        refine unhold ?_
        (rename News _ _ _ _ => lN)
        (rename Fr _ _ _ _ => lF)
        refine' use_meets (c_deep ?kO _ [(x, tx), (x2, tx2)] ?kl ?kn0 ?kn ?kb) K1 lF lN ?k4 ?k5 ?k6 ?k7 ?k8 ?k9 ?_
        case kO => exact O.keeps lF.keep
        case kl => exact ⟨_, lN.get (List.Mem.head _), rfl, _, rfl⟩
        case kn0 => exact Nat.le_of_ble_eq_true rfl
        case kn => exact Nat.le_of_ble_eq_true rfl
        case kb => exact hb2
        case k4 => rfl
        case k5 => rfl
        case k6 => rfl
        case k7 => rfl
        case k8 => exact Nat.le_of_ble_eq_true rfl
        case k9 => exact Nat.le_of_ble_eq_true rfl
        intro v h70 tk70 hv st70 F70 N70
        obtain ⟨d2, td2, rfl, hd2⟩ := hv
        clear lF lN
        (try dsimp only)
        repeat (first | (k_unfold; (try dsimp only)) | walk1 | (dsimp only; walk1) | (refine id ?_; k_unfold; (try dsimp only)))
        refine unhold ?_
        refine item_vs (vs := strValues ws) (v := .str (wayF x ((i : Int) % 2 == 1)) twi) ⟨_, News.get (by k_asm) (by k_mem), rfl, _, rfl⟩ (by omega) (by rw [Int.toNat_natCast]; simp [strValues, hwi]) hwz ?_
        (try dsimp only)
        repeat (first | (k_unfold; (try dsimp only)) | walk1 | (dsimp only; walk1) | (refine id ?_; k_unfold; (try dsimp only)))
        refine unhold ?_
        refine item_vs (vs := strValues ws) (v := .str (wayF x2 (((i + k : Nat) : Int) % 2 == 1)) twj) ⟨_, News.get (by k_asm) (by k_mem), rfl, _, rfl⟩ (by omega) (by rw [hjk]; simp [strValues, hwj]) hwz ?_
        (try dsimp only)
        repeat (first | (k_unfold; (try dsimp only)) | walk1 | (dsimp only; walk1) | (refine id ?_; k_unfold; (try dsimp only)))
        refine unhold ?_
        refine item_vs (vs := strValues rs) (v := .str (rootD x2) tri2) ⟨_, News.get (by k_asm) (by k_mem), rfl, _, rfl⟩ (by omega) (by rw [hjk]; simp [strValues, hri2]) hrz ?_
        (try dsimp only)
        repeat (first | (k_unfold; (try dsimp only)) | walk1 | (dsimp only; walk1) | (refine id ?_; k_unfold; (try dsimp only)))
        refine unhold ?_
        refine item_vs (vs := entRefs ents) (v := .ref e2.1) ⟨_, News.get (by k_asm) (by k_mem), rfl, _, rfl⟩ (by omega) (by rw [hjk]; simp [entRefs, he2]) hez ?_
        (try dsimp only)
        repeat (first | (k_unfold; (try dsimp only)) | walk1 | (dsimp only; walk1) | (refine id ?_; k_unfold; (try dsimp only)))
        refine unhold ?_
        (rename News _ _ _ _ => lN)
        (rename Fr _ _ _ _ => lF)
        refine' SC.join ?k1 ?k2 ?k3 ?_
        case k1 => exact ⟨_, lN.get (show (e2.1, e2.ob) ∈ _ from by (repeat apply List.Mem.tail); exact List.mem_append_left _ (List.mem_append_left _ hin6)), rfl, _, rfl⟩
        case k2 => exact rfl
        case k3 => exact hj61
        intro t80 k80
        (try dsimp only)
        repeat (first | (k_unfold; (try dsimp only)) | walk1 | (dsimp only; walk1) | (refine id ?_; k_unfold; (try dsimp only)))
        refine unhold ?_
        refine item_vs (vs := entRefs ents) (v := .ref e2.1) ⟨_, News.get (by k_asm) (by k_mem), rfl, _, rfl⟩ (by omega) (by rw [hjk]; simp [entRefs, he2]) hez ?_
        (try dsimp only)
        repeat (first | (k_unfold; (try dsimp only)) | walk1 | (dsimp only; walk1) | (refine id ?_; k_unfold; (try dsimp only)))
        refine unhold ?_
        refine sl_from_O (vs := strValues e2.2.1) lF lN ⟨_, lN.get (show (e2.1, e2.ob) ∈ _ from by (repeat apply List.Mem.tail); exact List.mem_append_left _ (List.mem_append_left _ hin6)), rfl, _, rfl⟩ he6 (by omega) ?_
        intro D81 h81 F81 N81 l81
        clear lF lN l81
        rw [Int.toNat_natCast, strValues_drop] at N81
        (try dsimp only)
        repeat (first | (k_unfold; (try dsimp only)) | walk1 | (dsimp only; walk1) | (refine id ?_; k_unfold; (try dsimp only)))
        refine unhold ?_
        have hled : LedH (wayF x ((i : Int) % 2 == 1)) (wayF x2 (((i + k : Nat) : Int) % 2 == 1)) (rootD x2 ++ Txt.join (Str.ofString "/") (e2.2.1.map (·.1))) ((e2.2.1.drop d2).map (·.1)) (abD x) := led_ent hxb hxb2 hrr hd2 hetx2
        refine' use_meets (c_led ?kO _ _ _ _ _ _ D81 (e2.2.1.drop d2) (abD x) ?kl ?kn ?s0 ?s1 ?g1 ?ha ?hb hled) K1 F81 N81 ?k4 ?k5 ?k6 ?k7 ?k8 ?k9 ?_
        case kO => exact O.keeps F81.keep
        case kl => exact ⟨_, N81.get (List.Mem.head _), rfl, _, rfl⟩
        case kn => exact ent_five hetx2 d2
        case s0 => exact way_pos hxb _
        case s1 => exact (way_ok hxb.1 hxb.2 _).len
        case g1 => exact (way_ok hxb2.1 hxb2.2 _).len
        case ha => exact way_sw hxb _
        case hb => rw [way_sw hxb2, rootD_ab.mp hrr]
        case k4 => rfl
        case k5 => rfl
        case k6 => rfl
        case k7 => rfl
        case k8 => exact Nat.le_of_ble_eq_true rfl
        case k9 => exact Nat.le_of_ble_eq_true rfl
        intro v h82 tk82 hv st82 F82 N82
        obtain rfl : v = .bool true := hv
        clear F81 N81
        (try dsimp only)
        repeat' (first | (k_unfold; (try dsimp only)) | walk1 | (dsimp only; walk1) | (refine id ?_; k_unfold; (try dsimp only)))
        exact TEnd_next (by assumption) (by assumption) (fun p hp => by repeat (first | exact List.mem_append_right _ hp | apply List.Mem.tail)) (fun p hp => by repeat (first | exact List.mem_append_left _ hp | exact hp | apply List.Mem.tail)) ⟨rfl, rfl, (by intro z z1 z2 z3; simp only [if_neg z1, if_neg z2, if_neg z3])⟩
      · rw [decide_eq_false hsame]
        repeat (first | (k_unfold; (try dsimp only)) | walk1 | (dsimp only; walk1) | (refine id ?_; k_unfold; (try dsimp only)))
        have hdue : comL (((ws.drop i).take (k + 1)).map (·.1)) = Str.ofString "refused" := due_mixed (b := fun t => ((t : Int) % 2 == 1)) (by omega) hgx hin hikl hws hrs hsame
        refine unhold ?_
        (rename News _ _ _ _ => lN)
        (rename Fr _ _ _ _ => lF)
        refine sl_mid_L (vs := strValues ws) lF lN (by k_mem) hwz (by omega) (by omega) ?_
        intro D60 h60 F60 N60 l60
        clear lF lN
        rw [mid_str] at N60
        (try dsimp only)
        repeat (first | (k_unfold; (try dsimp only)) | walk1 | (dsimp only; walk1) | (refine id ?_; k_unfold; (try dsimp only)))
        refine unhold ?_
        refine' use_common (p := (ws.drop i).take (k + 1)) K1 O F60 N60 ?k4 ?k5 ?k6 ?k7 ?k8 ?k9 (List.Mem.head _) ?z0 ?z1 ?z2 ?z3 ?_
        case k4 => rfl
        case k5 => rfl
        case k6 => rfl
        case k7 => rfl
        case k8 => exact Nat.le_of_ble_eq_true rfl
        case k9 => exact Nat.le_of_ble_eq_true rfl
        case z0 => exact mid_ne hwl hikl
        case z1 => rw [mid_len hwl hikl]; omega
        case z2 => exact fun q hq => (hwf q.1 (List.mem_map.mpr ⟨q, mid_mem hq, rfl⟩)).2
        case z3 => exact okp_of (fun y hy => (hwf y hy).1) i (k + 1)
        intro h61 tk61 t61 F61 N61
        rw [hdue]
        clear F60 N60 l60
        (try dsimp only)
        repeat' (first | (k_unfold; (try dsimp only)) | walk1 | (dsimp only; walk1) | (refine id ?_; k_unfold; (try dsimp only)))
        all_goals first
          | (rename_i hbad; exfalso; simp at hbad; done)
          | (exact TEnd_next (by assumption) (by assumption) (fun p hp => by repeat (first | exact List.mem_append_right _ hp | apply List.Mem.tail)) (fun p hp => by repeat (first | exact List.mem_append_left _ hp | exact hp | apply List.Mem.tail)) ⟨rfl, rfl, (by intro z z1 z2 z3; simp only [if_neg z1, if_neg z2, if_neg z3])⟩)
          | (refine unhold ?_)
        rename_i hik
        refine item_vs (vs := strValues rs) (v := .str (rootD x) tri) ⟨_, N61.get (by k_mem), rfl, _, rfl⟩ (by omega) (by rw [Int.toNat_natCast]; simp [strValues, hri]) hrz ?_
        (try dsimp only)
        repeat (first | (k_unfold; (try dsimp only)) | walk1 | (dsimp only; walk1) | (refine id ?_; k_unfold; (try dsimp only)))
        refine unhold ?_
        refine item_vs (vs := strValues rs) (v := .str (rootD x2) tri2) ⟨_, N61.get (by k_mem), rfl, _, rfl⟩ (by omega) (by rw [hjk]; simp [strValues, hri2]) hrz ?_
        (try dsimp only)
        repeat' (first | (k_unfold; (try dsimp only)) | walk1 | (dsimp only; walk1) | (refine id ?_; k_unfold; (try dsimp only)))
        all_goals first
          | (exact TEnd_next (by assumption) (by assumption) (fun p hp => by repeat (first | exact List.mem_append_right _ hp | apply List.Mem.tail)) (fun p hp => by repeat (first | exact List.mem_append_left _ hp | exact hp | apply List.Mem.tail)) ⟨rfl, rfl, (by intro z z1 z2 z3; simp only [if_neg z1, if_neg z2, if_neg z3])⟩)
          | (refine unhold ?_)
        rename_i hrt
        have hrr : rootD x = rootD x2 := by first | exact hrt | exact (by simpa using hrt)
        refine item_vs (vs := intValues ts) (v := .int x tx) ⟨_, N61.get (by k_mem), rfl, _, rfl⟩ (by omega) (by rw [Int.toNat_natCast]; simp [intValues, hpx]) hzt ?_
        (try dsimp only)
        repeat (first | (k_unfold; (try dsimp only)) | walk1 | (dsimp only; walk1) | (refine id ?_; k_unfold; (try dsimp only)))
        refine unhold ?_
        refine item_vs (vs := intValues ts) (v := .int x2 tx2) ⟨_, N61.get (by k_mem), rfl, _, rfl⟩ (by omega) (by rw [hjk]; simp [intValues, hpx2]) hzt ?_
        (try dsimp only)
        repeat (first | (k_unfold; (try dsimp only)) | walk1 | (dsimp only; walk1) | (refine id ?_; k_unfold; (try dsimp only)))
        refine unhold ?_
        (rename News _ _ _ _ => lN)
        (rename Fr _ _ _ _ => lF)
        refine' use_meets (c_deep ?kO _ [(x, tx), (x2, tx2)] ?kl ?kn0 ?kn ?kb) K1 lF lN ?k4 ?k5 ?k6 ?k7 ?k8 ?k9 ?_
        case kO => exact O.keeps lF.keep
        case kl => exact ⟨_, lN.get (List.Mem.head _), rfl, _, rfl⟩
        case kn0 => exact Nat.le_of_ble_eq_true rfl
        case kn => exact Nat.le_of_ble_eq_true rfl
        case kb => exact hb2
        case k4 => rfl
        case k5 => rfl
        case k6 => rfl
        case k7 => rfl
        case k8 => exact Nat.le_of_ble_eq_true rfl
        case k9 => exact Nat.le_of_ble_eq_true rfl
        intro v h70 tk70 hv st70 F70 N70
        obtain ⟨d2, td2, rfl, hd2⟩ := hv
        clear lF lN
        (try dsimp only)
        repeat (first | (k_unfold; (try dsimp only)) | walk1 | (dsimp only; walk1) | (refine id ?_; k_unfold; (try dsimp only)))
        refine unhold ?_
        refine item_vs (vs := strValues ws) (v := .str (wayF x ((i : Int) % 2 == 1)) twi) ⟨_, News.get (by k_asm) (by k_mem), rfl, _, rfl⟩ (by omega) (by rw [Int.toNat_natCast]; simp [strValues, hwi]) hwz ?_
        (try dsimp only)
        repeat (first | (k_unfold; (try dsimp only)) | walk1 | (dsimp only; walk1) | (refine id ?_; k_unfold; (try dsimp only)))
        refine unhold ?_
        refine item_vs (vs := strValues ws) (v := .str (wayF x2 (((i + k : Nat) : Int) % 2 == 1)) twj) ⟨_, News.get (by k_asm) (by k_mem), rfl, _, rfl⟩ (by omega) (by rw [hjk]; simp [strValues, hwj]) hwz ?_
        (try dsimp only)
        repeat (first | (k_unfold; (try dsimp only)) | walk1 | (dsimp only; walk1) | (refine id ?_; k_unfold; (try dsimp only)))
        refine unhold ?_
        refine item_vs (vs := strValues rs) (v := .str (rootD x2) tri2) ⟨_, News.get (by k_asm) (by k_mem), rfl, _, rfl⟩ (by omega) (by rw [hjk]; simp [strValues, hri2]) hrz ?_
        (try dsimp only)
        repeat (first | (k_unfold; (try dsimp only)) | walk1 | (dsimp only; walk1) | (refine id ?_; k_unfold; (try dsimp only)))
        refine unhold ?_
        refine item_vs (vs := entRefs ents) (v := .ref e2.1) ⟨_, News.get (by k_asm) (by k_mem), rfl, _, rfl⟩ (by omega) (by rw [hjk]; simp [entRefs, he2]) hez ?_
        (try dsimp only)
        repeat (first | (k_unfold; (try dsimp only)) | walk1 | (dsimp only; walk1) | (refine id ?_; k_unfold; (try dsimp only)))
        refine unhold ?_
        (rename News _ _ _ _ => lN)
        (rename Fr _ _ _ _ => lF)
        refine' SC.join ?k1 ?k2 ?k3 ?_
        case k1 => exact ⟨_, lN.get (show (e2.1, e2.ob) ∈ _ from by (repeat apply List.Mem.tail); exact List.mem_append_left _ (List.mem_append_left _ hin6)), rfl, _, rfl⟩
        case k2 => exact rfl
        case k3 => exact hj61
        intro t80 k80
        (try dsimp only)
        repeat (first | (k_unfold; (try dsimp only)) | walk1 | (dsimp only; walk1) | (refine id ?_; k_unfold; (try dsimp only)))
        refine unhold ?_
        refine item_vs (vs := entRefs ents) (v := .ref e2.1) ⟨_, News.get (by k_asm) (by k_mem), rfl, _, rfl⟩ (by omega) (by rw [hjk]; simp [entRefs, he2]) hez ?_
        (try dsimp only)
        repeat (first | (k_unfold; (try dsimp only)) | walk1 | (dsimp only; walk1) | (refine id ?_; k_unfold; (try dsimp only)))
        refine unhold ?_
        refine sl_from_O (vs := strValues e2.2.1) lF lN ⟨_, lN.get (show (e2.1, e2.ob) ∈ _ from by (repeat apply List.Mem.tail); exact List.mem_append_left _ (List.mem_append_left _ hin6)), rfl, _, rfl⟩ he6 (by omega) ?_
        intro D81 h81 F81 N81 l81
        clear lF lN l81
        rw [Int.toNat_natCast, strValues_drop] at N81
        (try dsimp only)
        repeat (first | (k_unfold; (try dsimp only)) | walk1 | (dsimp only; walk1) | (refine id ?_; k_unfold; (try dsimp only)))
        refine unhold ?_
        have hled : LedH (wayF x ((i : Int) % 2 == 1)) (wayF x2 (((i + k : Nat) : Int) % 2 == 1)) (rootD x2 ++ Txt.join (Str.ofString "/") (e2.2.1.map (·.1))) ((e2.2.1.drop d2).map (·.1)) (abD x) := led_ent hxb hxb2 hrr hd2 hetx2
        refine' use_meets (c_led ?kO _ _ _ _ _ _ D81 (e2.2.1.drop d2) (abD x) ?kl ?kn ?s0 ?s1 ?g1 ?ha ?hb hled) K1 F81 N81 ?k4 ?k5 ?k6 ?k7 ?k8 ?k9 ?_
        case kO => exact O.keeps F81.keep
        case kl => exact ⟨_, N81.get (List.Mem.head _), rfl, _, rfl⟩
        case kn => exact ent_five hetx2 d2
        case s0 => exact way_pos hxb _
        case s1 => exact (way_ok hxb.1 hxb.2 _).len
        case g1 => exact (way_ok hxb2.1 hxb2.2 _).len
        case ha => exact way_sw hxb _
        case hb => rw [way_sw hxb2, rootD_ab.mp hrr]
        case k4 => rfl
        case k5 => rfl
        case k6 => rfl
        case k7 => rfl
        case k8 => exact Nat.le_of_ble_eq_true rfl
        case k9 => exact Nat.le_of_ble_eq_true rfl
        intro v h82 tk82 hv st82 F82 N82
        obtain rfl : v = .bool true := hv
        clear F81 N81
        (try dsimp only)
        repeat' (first | (k_unfold; (try dsimp only)) | walk1 | (dsimp only; walk1) | (refine id ?_; k_unfold; (try dsimp only)))
        exact TEnd_next (by assumption) (by assumption) (fun p hp => by repeat (first | exact List.mem_append_right _ hp | apply List.Mem.tail)) (fun p hp => by repeat (first | exact List.mem_append_left _ hp | exact hp | apply List.Mem.tail)) ⟨rfl, rfl, (by intro z z1 z2 z3; simp only [if_neg z1, if_neg z2, if_neg z3])⟩
    · intro h8 tk8 m8 news8 hJ8 F8 N8
      obtain ⟨rfl, hm8⟩ := hJ8
      change Fr s1.heap s1.heap.objs.size h8 _ at F8
      change News s1.heap s1.heap.objs.size h8 _ at N8
      clear lF lN hrng
      repeat (first | (k_unfold; (try dsimp only)) | walk1 | (dsimp only; walk1) | (refine id ?_; k_unfold; (try dsimp only)))
      exact TEnd_next F8 N8 (fun p hp => List.Mem.tail _ (List.Mem.tail _ (List.Mem.tail _ (List.Mem.tail _ (List.Mem.tail _ (List.mem_append_right _ hp)))))) (fun p hp => by repeat (first | exact List.mem_append_left _ hp | exact hp | apply List.Mem.tail)) ⟨rfl, rfl, by intro z z1 z2 z3 z4; rw [hm8 z z2 z3 z4]; simp only [if_neg z1, if_neg z2, if_neg z3, if_neg z4]⟩
  · intro h9 tk9 m9 news9 hJ F9 N9
    obtain ⟨rfl, hm⟩ := hJ
    change Fr s1.heap s1.heap.objs.size h9 _ at F9
    change News s1.heap s1.heap.objs.size h9 _ at N9
    clear lF lN hm
    repeat (first | (k_unfold; (try dsimp only)) | walk1 | (dsimp only; walk1) | (refine id ?_; k_unfold; (try dsimp only)))
    exact hQ _ _ F9.keep)
end Mine
end
theorem PySem.Challenge.cw_pd0062_01_holds : PySem.Challenge.rw_pd0062_01.Holds :=
  Mine.whole
