import PyProof.Rows.All
import Wide.All
import OpenK.AllK
import Wide.FinOn
import PySem.Challenge.RW_un0033_01
open PySem PySem.W PyProof.Rows PySem.W.X
set_option Elab.async false
set_option maxRecDepth 100000
set_option maxHeartbeats 0
set_option linter.unusedVariables false
namespace Mine
/-- the text's statements, by their place -/
def stK (i : Nat) : Stmt := PySem.Challenge.rw_un0033_01.prog.main.body.getD i (.Pass default)
def subK (i j : Nat) : Stmt := match stK i with | .ClassDef (body := b) .. => b.getD j (.Pass default) | _ => .Pass default
def parK : Stmt → Arguments | .FunctionDef _ a .. => a | _ => default
def bodK : Stmt → List Stmt | .FunctionDef _ _ b .. => b | _ => []
def scoK : Stmt → Scope | .FunctionDef (scope := sc) .. => sc | _ => default
noncomputable def kP21 : Arguments := by
  refine' ((?f : ∀ b : Arguments, b = parK (stK 0) → Arguments) _ ?h)
  case f => exact fun b _ => b
  case h => (conv => rhs; whnf)
noncomputable def kB21 : List Stmt := by
  refine' ((?f : ∀ b : List Stmt, b = bodK (stK 0) → List Stmt) _ ?h)
  case f => exact fun b _ => b
  case h => (conv => rhs; whnf)
noncomputable def kS21 : Scope := by
  refine' ((?f : ∀ b : Scope, b = scoK (stK 0) → Scope) _ ?h)
  case f => exact fun b _ => b
  case h => (conv => rhs; whnf)
noncomputable def kP35 : Arguments := by
  refine' ((?f : ∀ b : Arguments, b = parK (subK 2 0) → Arguments) _ ?h)
  case f => exact fun b _ => b
  case h => (conv => rhs; whnf)
noncomputable def kB35 : List Stmt := by
  refine' ((?f : ∀ b : List Stmt, b = bodK (subK 2 0) → List Stmt) _ ?h)
  case f => exact fun b _ => b
  case h => (conv => rhs; whnf)
noncomputable def kS35 : Scope := by
  refine' ((?f : ∀ b : Scope, b = scoK (subK 2 0) → Scope) _ ?h)
  case f => exact fun b _ => b
  case h => (conv => rhs; whnf)
noncomputable def kP42 : Arguments := by
  refine' ((?f : ∀ b : Arguments, b = parK (subK 2 1) → Arguments) _ ?h)
  case f => exact fun b _ => b
  case h => (conv => rhs; whnf)
noncomputable def kB42 : List Stmt := by
  refine' ((?f : ∀ b : List Stmt, b = bodK (subK 2 1) → List Stmt) _ ?h)
  case f => exact fun b _ => b
  case h => (conv => rhs; whnf)
noncomputable def kS42 : Scope := by
  refine' ((?f : ∀ b : Scope, b = scoK (subK 2 1) → Scope) _ ?h)
  case f => exact fun b _ => b
  case h => (conv => rhs; whnf)
noncomputable def kP49 : Arguments := by
  refine' ((?f : ∀ b : Arguments, b = parK (subK 2 2) → Arguments) _ ?h)
  case f => exact fun b _ => b
  case h => (conv => rhs; whnf)
noncomputable def kB49 : List Stmt := by
  refine' ((?f : ∀ b : List Stmt, b = bodK (subK 2 2) → List Stmt) _ ?h)
  case f => exact fun b _ => b
  case h => (conv => rhs; whnf)
noncomputable def kS49 : Scope := by
  refine' ((?f : ∀ b : Scope, b = scoK (subK 2 2) → Scope) _ ?h)
  case f => exact fun b _ => b
  case h => (conv => rhs; whnf)
noncomputable def kP56 : Arguments := by
  refine' ((?f : ∀ b : Arguments, b = parK (subK 2 3) → Arguments) _ ?h)
  case f => exact fun b _ => b
  case h => (conv => rhs; whnf)
noncomputable def kB56 : List Stmt := by
  refine' ((?f : ∀ b : List Stmt, b = bodK (subK 2 3) → List Stmt) _ ?h)
  case f => exact fun b _ => b
  case h => (conv => rhs; whnf)
noncomputable def kS56 : Scope := by
  refine' ((?f : ∀ b : Scope, b = scoK (subK 2 3) → Scope) _ ?h)
  case f => exact fun b _ => b
  case h => (conv => rhs; whnf)
noncomputable def kP70 : Arguments := by
  refine' ((?f : ∀ b : Arguments, b = parK (stK 4) → Arguments) _ ?h)
  case f => exact fun b _ => b
  case h => (conv => rhs; whnf)
noncomputable def kB70 : List Stmt := by
  refine' ((?f : ∀ b : List Stmt, b = bodK (stK 4) → List Stmt) _ ?h)
  case f => exact fun b _ => b
  case h => (conv => rhs; whnf)
noncomputable def kS70 : Scope := by
  refine' ((?f : ∀ b : Scope, b = scoK (stK 4) → Scope) _ ?h)
  case f => exact fun b _ => b
  case h => (conv => rhs; whnf)
noncomputable def kP136 : Arguments := by
  refine' ((?f : ∀ b : Arguments, b = parK (stK 11) → Arguments) _ ?h)
  case f => exact fun b _ => b
  case h => (conv => rhs; whnf)
noncomputable def kB136 : List Stmt := by
  refine' ((?f : ∀ b : List Stmt, b = bodK (stK 11) → List Stmt) _ ?h)
  case f => exact fun b _ => b
  case h => (conv => rhs; whnf)
noncomputable def kS136 : Scope := by
  refine' ((?f : ∀ b : Scope, b = scoK (stK 11) → Scope) _ ?h)
  case f => exact fun b _ => b
  case h => (conv => rhs; whnf)
noncomputable def kP143 : Arguments := by
  refine' ((?f : ∀ b : Arguments, b = parK (stK 13) → Arguments) _ ?h)
  case f => exact fun b _ => b
  case h => (conv => rhs; whnf)
noncomputable def kB143 : List Stmt := by
  refine' ((?f : ∀ b : List Stmt, b = bodK (stK 13) → List Stmt) _ ?h)
  case f => exact fun b _ => b
  case h => (conv => rhs; whnf)
noncomputable def kS143 : Scope := by
  refine' ((?f : ∀ b : Scope, b = scoK (stK 13) → Scope) _ ?h)
  case f => exact fun b _ => b
  case h => (conv => rhs; whnf)
noncomputable def kP150 : Arguments := by
  refine' ((?f : ∀ b : Arguments, b = parK (stK 15) → Arguments) _ ?h)
  case f => exact fun b _ => b
  case h => (conv => rhs; whnf)
noncomputable def kB150 : List Stmt := by
  refine' ((?f : ∀ b : List Stmt, b = bodK (stK 15) → List Stmt) _ ?h)
  case f => exact fun b _ => b
  case h => (conv => rhs; whnf)
noncomputable def kS150 : Scope := by
  refine' ((?f : ∀ b : Scope, b = scoK (stK 15) → Scope) _ ?h)
  case f => exact fun b _ => b
  case h => (conv => rhs; whnf)
noncomputable def kP157 : Arguments := by
  refine' ((?f : ∀ b : Arguments, b = parK (stK 16) → Arguments) _ ?h)
  case f => exact fun b _ => b
  case h => (conv => rhs; whnf)
noncomputable def kB157 : List Stmt := by
  refine' ((?f : ∀ b : List Stmt, b = bodK (stK 16) → List Stmt) _ ?h)
  case f => exact fun b _ => b
  case h => (conv => rhs; whnf)
noncomputable def kS157 : Scope := by
  refine' ((?f : ∀ b : Scope, b = scoK (stK 16) → Scope) _ ?h)
  case f => exact fun b _ => b
  case h => (conv => rhs; whnf)
noncomputable def kP164 : Arguments := by
  refine' ((?f : ∀ b : Arguments, b = parK (stK 17) → Arguments) _ ?h)
  case f => exact fun b _ => b
  case h => (conv => rhs; whnf)
noncomputable def kB164 : List Stmt := by
  refine' ((?f : ∀ b : List Stmt, b = bodK (stK 17) → List Stmt) _ ?h)
  case f => exact fun b _ => b
  case h => (conv => rhs; whnf)
noncomputable def kS164 : Scope := by
  refine' ((?f : ∀ b : Scope, b = scoK (stK 17) → Scope) _ ?h)
  case f => exact fun b _ => b
  case h => (conv => rhs; whnf)
noncomputable def kP171 : Arguments := by
  refine' ((?f : ∀ b : Arguments, b = parK (stK 18) → Arguments) _ ?h)
  case f => exact fun b _ => b
  case h => (conv => rhs; whnf)
noncomputable def kB171 : List Stmt := by
  refine' ((?f : ∀ b : List Stmt, b = bodK (stK 18) → List Stmt) _ ?h)
  case f => exact fun b _ => b
  case h => (conv => rhs; whnf)
noncomputable def kS171 : Scope := by
  refine' ((?f : ∀ b : Scope, b = scoK (stK 18) → Scope) _ ?h)
  case f => exact fun b _ => b
  case h => (conv => rhs; whnf)
noncomputable def kP178 : Arguments := by
  refine' ((?f : ∀ b : Arguments, b = parK (stK 20) → Arguments) _ ?h)
  case f => exact fun b _ => b
  case h => (conv => rhs; whnf)
noncomputable def kB178 : List Stmt := by
  refine' ((?f : ∀ b : List Stmt, b = bodK (stK 20) → List Stmt) _ ?h)
  case f => exact fun b _ => b
  case h => (conv => rhs; whnf)
noncomputable def kS178 : Scope := by
  refine' ((?f : ∀ b : Scope, b = scoK (stK 20) → Scope) _ ?h)
  case f => exact fun b _ => b
  case h => (conv => rhs; whnf)
noncomputable def kP218 : Arguments := by
  refine' ((?f : ∀ b : Arguments, b = parK (stK 41) → Arguments) _ ?h)
  case f => exact fun b _ => b
  case h => (conv => rhs; whnf)
noncomputable def kB218 : List Stmt := by
  refine' ((?f : ∀ b : List Stmt, b = bodK (stK 41) → List Stmt) _ ?h)
  case f => exact fun b _ => b
  case h => (conv => rhs; whnf)
noncomputable def kS218 : Scope := by
  refine' ((?f : ∀ b : Scope, b = scoK (stK 41) → Scope) _ ?h)
  case f => exact fun b _ => b
  case h => (conv => rhs; whnf)
noncomputable def kP225 : Arguments := by
  refine' ((?f : ∀ b : Arguments, b = parK (stK 43) → Arguments) _ ?h)
  case f => exact fun b _ => b
  case h => (conv => rhs; whnf)
noncomputable def kB225 : List Stmt := by
  refine' ((?f : ∀ b : List Stmt, b = bodK (stK 43) → List Stmt) _ ?h)
  case f => exact fun b _ => b
  case h => (conv => rhs; whnf)
noncomputable def kS225 : Scope := by
  refine' ((?f : ∀ b : Scope, b = scoK (stK 43) → Scope) _ ?h)
  case f => exact fun b _ => b
  case h => (conv => rhs; whnf)
noncomputable def kP230 : Arguments := by
  refine' ((?f : ∀ b : Arguments, b = parK (stK 44) → Arguments) _ ?h)
  case f => exact fun b _ => b
  case h => (conv => rhs; whnf)
noncomputable def kB230 : List Stmt := by
  refine' ((?f : ∀ b : List Stmt, b = bodK (stK 44) → List Stmt) _ ?h)
  case f => exact fun b _ => b
  case h => (conv => rhs; whnf)
noncomputable def kS230 : Scope := by
  refine' ((?f : ∀ b : Scope, b = scoK (stK 44) → Scope) _ ?h)
  case f => exact fun b _ => b
  case h => (conv => rhs; whnf)
noncomputable def kP237 : Arguments := by
  refine' ((?f : ∀ b : Arguments, b = parK (stK 45) → Arguments) _ ?h)
  case f => exact fun b _ => b
  case h => (conv => rhs; whnf)
noncomputable def kB237 : List Stmt := by
  refine' ((?f : ∀ b : List Stmt, b = bodK (stK 45) → List Stmt) _ ?h)
  case f => exact fun b _ => b
  case h => (conv => rhs; whnf)
noncomputable def kS237 : Scope := by
  refine' ((?f : ∀ b : Scope, b = scoK (stK 45) → Scope) _ ?h)
  case f => exact fun b _ => b
  case h => (conv => rhs; whnf)
noncomputable def kP244 : Arguments := by
  refine' ((?f : ∀ b : Arguments, b = parK (stK 46) → Arguments) _ ?h)
  case f => exact fun b _ => b
  case h => (conv => rhs; whnf)
noncomputable def kB244 : List Stmt := by
  refine' ((?f : ∀ b : List Stmt, b = bodK (stK 46) → List Stmt) _ ?h)
  case f => exact fun b _ => b
  case h => (conv => rhs; whnf)
noncomputable def kS244 : Scope := by
  refine' ((?f : ∀ b : Scope, b = scoK (stK 46) → Scope) _ ?h)
  case f => exact fun b _ => b
  case h => (conv => rhs; whnf)
noncomputable def kP249 : Arguments := by
  refine' ((?f : ∀ b : Arguments, b = parK (stK 47) → Arguments) _ ?h)
  case f => exact fun b _ => b
  case h => (conv => rhs; whnf)
noncomputable def kB249 : List Stmt := by
  refine' ((?f : ∀ b : List Stmt, b = bodK (stK 47) → List Stmt) _ ?h)
  case f => exact fun b _ => b
  case h => (conv => rhs; whnf)
noncomputable def kS249 : Scope := by
  refine' ((?f : ∀ b : Scope, b = scoK (stK 47) → Scope) _ ?h)
  case f => exact fun b _ => b
  case h => (conv => rhs; whnf)
noncomputable def kP254 : Arguments := by
  refine' ((?f : ∀ b : Arguments, b = parK (stK 48) → Arguments) _ ?h)
  case f => exact fun b _ => b
  case h => (conv => rhs; whnf)
noncomputable def kB254 : List Stmt := by
  refine' ((?f : ∀ b : List Stmt, b = bodK (stK 48) → List Stmt) _ ?h)
  case f => exact fun b _ => b
  case h => (conv => rhs; whnf)
noncomputable def kS254 : Scope := by
  refine' ((?f : ∀ b : Scope, b = scoK (stK 48) → Scope) _ ?h)
  case f => exact fun b _ => b
  case h => (conv => rhs; whnf)
noncomputable def hd.heap_39 : Params → Frag := by
  refine' ((?f : ∀ K : Params → Frag, K = (fun P =>
  ((nat_lit 2 : Nat), ({ cls := Value.none, data := Data.dict #[] } : Obj)) ::
  ((nat_lit 3 : Nat), ({ cls := Value.type "dict", data := Data.dict (List.toArray ({ hash := PyData.keyHash P (Str.ofString "__name__"), key := Value.str (Str.ofString "__name__") 165, val := Value.str (Str.ofString "law_un0033_01") 490 } :: { hash := PyData.keyHash P (Str.ofString "__doc__"), key := Value.str (Str.ofString "__doc__") 166, val := Value.none } :: { hash := PyData.keyHash P (Str.ofString "__package__"), key := Value.str (Str.ofString "__package__") 167, val := Value.none } :: { hash := PyData.keyHash P (Str.ofString "__loader__"), key := Value.str (Str.ofString "__loader__") 168, val := Value.builtin "__main__.__loader__#opaque" } :: { hash := PyData.keyHash P (Str.ofString "__spec__"), key := Value.str (Str.ofString "__spec__") 169, val := Value.none } :: { hash := PyData.keyHash P (Str.ofString "__annotations__"), key := Value.str (Str.ofString "__annotations__") 170, val := Value.ref 6 } :: { hash := PyData.keyHash P (Str.ofString "__builtins__"), key := Value.str (Str.ofString "__builtins__") 171, val := Value.ref 4 } :: { hash := PyData.keyHash P (Str.ofString "__file__"), key := Value.str (Str.ofString "__file__") 173, val := Value.str (Str.ofString "/claim/cut.py") 172 } :: { hash := PyData.keyHash P (Str.ofString "__cached__"), key := Value.str (Str.ofString "__cached__") 174, val := Value.none } :: { hash := PyData.keyHash P (Str.ofString "_wall"), key := Value.str (Str.ofString "_wall") 193, val := Value.ref 21 } :: { hash := PyData.keyHash P (Str.ofString "_netrclex"), key := Value.str (Str.ofString "_netrclex") 253, val := Value.ref 59 } :: { hash := PyData.keyHash P (Str.ofString "_plain_name"), key := Value.str (Str.ofString "_plain_name") 264, val := Value.ref 70 } :: { hash := PyData.keyHash P (Str.ofString "ABCMeta"), key := Value.str (Str.ofString "ABCMeta") 290, val := Value.ref 87 } :: { hash := PyData.keyHash P (Str.ofString "_ABCLike"), key := Value.str (Str.ofString "_ABCLike") 333, val := Value.ref 120 } :: { hash := PyData.keyHash P (Str.ofString "_abc_plain_meta"), key := Value.str (Str.ofString "_abc_plain_meta") 340, val := Value.ref 129 } :: { hash := PyData.keyHash P (Str.ofString "fspath"), key := Value.str (Str.ofString "fspath") 352, val := Value.ref 136 } :: { hash := PyData.keyHash P (Str.ofString "_check_arg_types"), key := Value.str (Str.ofString "_check_arg_types") 365, val := Value.ref 143 } :: { hash := PyData.keyHash P (Str.ofString "_get_sep"), key := Value.str (Str.ofString "_get_sep") 374, val := Value.ref 150 } :: { hash := PyData.keyHash P (Str.ofString "join"), key := Value.str (Str.ofString "join") 385, val := Value.ref 157 } :: { hash := PyData.keyHash P (Str.ofString "basename"), key := Value.str (Str.ofString "basename") 394, val := Value.ref 164 } :: { hash := PyData.keyHash P (Str.ofString "dirname"), key := Value.str (Str.ofString "dirname") 404, val := Value.ref 171 } :: { hash := PyData.keyHash P (Str.ofString "S_IFMT"), key := Value.str (Str.ofString "S_IFMT") 413, val := Value.ref 178 } :: { hash := PyData.keyHash P (Str.ofString "S_IFDIR"), key := Value.str (Str.ofString "S_IFDIR") 415, val := Value.int 16384 414 } :: { hash := PyData.keyHash P (Str.ofString "S_IFCHR"), key := Value.str (Str.ofString "S_IFCHR") 417, val := Value.int 8192 416 } :: { hash := PyData.keyHash P (Str.ofString "S_IFBLK"), key := Value.str (Str.ofString "S_IFBLK") 419, val := Value.int 24576 418 } :: { hash := PyData.keyHash P (Str.ofString "S_IFREG"), key := Value.str (Str.ofString "S_IFREG") 421, val := Value.int 32768 420 } :: { hash := PyData.keyHash P (Str.ofString "S_IFIFO"), key := Value.str (Str.ofString "S_IFIFO") 423, val := Value.int 4096 422 } :: { hash := PyData.keyHash P (Str.ofString "S_IFLNK"), key := Value.str (Str.ofString "S_IFLNK") 425, val := Value.int 40960 424 } :: { hash := PyData.keyHash P (Str.ofString "S_IFSOCK"), key := Value.str (Str.ofString "S_IFSOCK") 427, val := Value.int 49152 426 } :: { hash := PyData.keyHash P (Str.ofString "S_ISUID"), key := Value.str (Str.ofString "S_ISUID") 429, val := Value.int 2048 428 } :: { hash := PyData.keyHash P (Str.ofString "S_ISGID"), key := Value.str (Str.ofString "S_ISGID") 431, val := Value.int 1024 430 } :: { hash := PyData.keyHash P (Str.ofString "S_ISVTX"), key := Value.str (Str.ofString "S_ISVTX") 433, val := Value.int 512 432 } :: { hash := PyData.keyHash P (Str.ofString "S_IRUSR"), key := Value.str (Str.ofString "S_IRUSR") 435, val := Value.int 256 434 } :: { hash := PyData.keyHash P (Str.ofString "S_IWUSR"), key := Value.str (Str.ofString "S_IWUSR") 437, val := Value.int 128 436 } :: { hash := PyData.keyHash P (Str.ofString "S_IXUSR"), key := Value.str (Str.ofString "S_IXUSR") 439, val := Value.int 64 438 } :: { hash := PyData.keyHash P (Str.ofString "S_IRGRP"), key := Value.str (Str.ofString "S_IRGRP") 441, val := Value.int 32 440 } :: { hash := PyData.keyHash P (Str.ofString "S_IWGRP"), key := Value.str (Str.ofString "S_IWGRP") 443, val := Value.int 16 442 } :: { hash := PyData.keyHash P (Str.ofString "S_IXGRP"), key := Value.str (Str.ofString "S_IXGRP") 445, val := Value.int 8 444 } :: { hash := PyData.keyHash P (Str.ofString "S_IROTH"), key := Value.str (Str.ofString "S_IROTH") 447, val := Value.int 4 446 } :: { hash := PyData.keyHash P (Str.ofString "S_IWOTH"), key := Value.str (Str.ofString "S_IWOTH") 449, val := Value.int 2 448 } :: { hash := PyData.keyHash P (Str.ofString "S_IXOTH"), key := Value.str (Str.ofString "S_IXOTH") 451, val := Value.int 1 450 } :: { hash := PyData.keyHash P (Str.ofString "_filemode_table"), key := Value.str (Str.ofString "_filemode_table") 477, val := Value.ref 211 } :: { hash := PyData.keyHash P (Str.ofString "filemode"), key := Value.str (Str.ofString "filemode") 489, val := Value.ref 218 } :: { hash := PyData.keyHash P (Str.ofString "_law_lexer"), key := Value.str (Str.ofString "_law_lexer") 501, val := Value.ref 225 } :: { hash := PyData.keyHash P (Str.ofString "_law_rights"), key := Value.str (Str.ofString "_law_rights") 507, val := Value.ref 230 } :: { hash := PyData.keyHash P (Str.ofString "_law_signs"), key := Value.str (Str.ofString "_law_signs") 514, val := Value.ref 237 } :: { hash := PyData.keyHash P (Str.ofString "_law_noted"), key := Value.str (Str.ofString "_law_noted") 529, val := Value.ref 244 } :: { hash := PyData.keyHash P (Str.ofString "_law_due"), key := Value.str (Str.ofString "_law_due") 535, val := Value.ref 249 } :: { hash := PyData.keyHash P (Str.ofString "law"), key := Value.str (Str.ofString "law") 541, val := Value.ref 254 } :: [])) 49 } : Obj)) ::
  ((nat_lit 15 : Nat), ({ cls := Value.type "tuple", data := Data.seq #[] } : Obj)) ::
  ((nat_lit 17 : Nat), ({ cls := Value.type "tuple", data := Data.seq #[Value.str (Str.ofString "k") 190] } : Obj)) ::
  ((nat_lit 18 : Nat), ({ cls := Value.type "tuple", data := Data.seq #[] } : Obj)) ::
  ((nat_lit 20 : Nat), ({ cls := Value.type "code", data := Data.fields #[Value.str (Str.ofString "_wall") 187, Value.str (Str.ofString "_wall") 188, Value.str (Str.ofString "/claim/cut.py") 189, Value.int 1 0, Value.int 1 0, Value.int 0 0, Value.int 0 0, Value.int 3 0, Value.ref 15, Value.bool true, Value.int 181 0, Value.ref 16, Value.none, Value.ref 17, Value.ref 18, Value.ref 19, Value.int 191 0, Value.int 1 0, Value.str (Str.ofString "/claim/cut.py") 192] } : Obj)) ::
  ((nat_lit 21 : Nat), ({ cls := Value.type "function", data := Data.func { name := Str.ofString "_wall", qualname := Str.ofString "_wall", params := kP21, body := FuncBody.stmts kB21, scope := kS21, globals := 3, closure := [], defaults := Value.none, kwdefaults := Value.none, pyModule := Value.str (Str.ofString "__main__") 164, code := Value.ref 20 } } : Obj)) ::
  ((nat_lit 29 : Nat), ({ cls := Value.type "tuple", data := Data.seq #[] } : Obj)) ::
  ((nat_lit 31 : Nat), ({ cls := Value.type "tuple", data := Data.seq #[Value.str (Str.ofString "self") 211, Value.str (Str.ofString "fp") 212] } : Obj)) ::
  ((nat_lit 32 : Nat), ({ cls := Value.type "tuple", data := Data.seq #[] } : Obj)) ::
  ((nat_lit 34 : Nat), ({ cls := Value.type "code", data := Data.fields #[Value.str (Str.ofString "__init__") 208, Value.str (Str.ofString "_netrclex.__init__") 209, Value.str (Str.ofString "/claim/cut.py") 210, Value.int 7 0, Value.int 2 0, Value.int 0 0, Value.int 0 0, Value.int 3 0, Value.ref 29, Value.bool true, Value.int 181 0, Value.ref 30, Value.none, Value.ref 31, Value.ref 32, Value.ref 33, Value.int 213 0, Value.int 7 0, Value.str (Str.ofString "/claim/cut.py") 214] } : Obj)) ::
  ((nat_lit 35 : Nat), ({ cls := Value.type "function", data := Data.func { name := Str.ofString "__init__", qualname := Str.ofString "_netrclex.__init__", params := kP35, body := FuncBody.stmts kB35, scope := kS35, globals := 3, closure := [], defaults := Value.none, kwdefaults := Value.none, pyModule := Value.str (Str.ofString "cpy313.netrc") 194, code := Value.ref 34 } } : Obj)) ::
  ((nat_lit 36 : Nat), ({ cls := Value.type "tuple", data := Data.seq #[] } : Obj)) ::
  ((nat_lit 38 : Nat), ({ cls := Value.type "tuple", data := Data.seq #[Value.str (Str.ofString "self") 219, Value.str (Str.ofString "ch") 220] } : Obj)) ::
  ((nat_lit 39 : Nat), ({ cls := Value.type "tuple", data := Data.seq #[] } : Obj)) ::
  ((nat_lit 41 : Nat), ({ cls := Value.type "code", data := Data.fields #[Value.str (Str.ofString "_read_char") 216, Value.str (Str.ofString "_netrclex._read_char") 217, Value.str (Str.ofString "/claim/cut.py") 218, Value.int 13 0, Value.int 1 0, Value.int 0 0, Value.int 0 0, Value.int 3 0, Value.ref 36, Value.bool true, Value.int 181 0, Value.ref 37, Value.none, Value.ref 38, Value.ref 39, Value.ref 40, Value.int 221 0, Value.int 13 0, Value.str (Str.ofString "/claim/cut.py") 222] } : Obj)) ::
  ((nat_lit 42 : Nat), ({ cls := Value.type "function", data := Data.func { name := Str.ofString "_read_char", qualname := Str.ofString "_netrclex._read_char", params := kP42, body := FuncBody.stmts kB42, scope := kS42, globals := 3, closure := [], defaults := Value.none, kwdefaults := Value.none, pyModule := Value.str (Str.ofString "cpy313.netrc") 194, code := Value.ref 41 } } : Obj)) ::
  ((nat_lit 43 : Nat), ({ cls := Value.type "tuple", data := Data.seq #[] } : Obj)) ::
  ((nat_lit 45 : Nat), ({ cls := Value.type "tuple", data := Data.seq #[Value.str (Str.ofString "self") 227, Value.str (Str.ofString "token") 228, Value.str (Str.ofString "fiter") 229, Value.str (Str.ofString "ch") 230] } : Obj)) ::
  ((nat_lit 46 : Nat), ({ cls := Value.type "tuple", data := Data.seq #[] } : Obj)) ::
  ((nat_lit 48 : Nat), ({ cls := Value.type "code", data := Data.fields #[Value.str (Str.ofString "get_token") 224, Value.str (Str.ofString "_netrclex.get_token") 225, Value.str (Str.ofString "/claim/cut.py") 226, Value.int 19 0, Value.int 1 0, Value.int 0 0, Value.int 0 0, Value.int 3 0, Value.ref 43, Value.bool true, Value.int 181 0, Value.ref 44, Value.none, Value.ref 45, Value.ref 46, Value.ref 47, Value.int 231 0, Value.int 19 0, Value.str (Str.ofString "/claim/cut.py") 232] } : Obj)) ::
  ((nat_lit 49 : Nat), ({ cls := Value.type "function", data := Data.func { name := Str.ofString "get_token", qualname := Str.ofString "_netrclex.get_token", params := kP49, body := FuncBody.stmts kB49, scope := kS49, globals := 3, closure := [], defaults := Value.none, kwdefaults := Value.none, pyModule := Value.str (Str.ofString "cpy313.netrc") 194, code := Value.ref 48 } } : Obj)) ::
  ((nat_lit 50 : Nat), ({ cls := Value.type "tuple", data := Data.seq #[] } : Obj)) ::
  ((nat_lit 52 : Nat), ({ cls := Value.type "tuple", data := Data.seq #[Value.str (Str.ofString "self") 237, Value.str (Str.ofString "token") 238] } : Obj)) ::
  ((nat_lit 53 : Nat), ({ cls := Value.type "tuple", data := Data.seq #[] } : Obj)) ::
  ((nat_lit 55 : Nat), ({ cls := Value.type "code", data := Data.fields #[Value.str (Str.ofString "push_token") 234, Value.str (Str.ofString "_netrclex.push_token") 235, Value.str (Str.ofString "/claim/cut.py") 236, Value.int 46 0, Value.int 2 0, Value.int 0 0, Value.int 0 0, Value.int 3 0, Value.ref 50, Value.bool true, Value.int 181 0, Value.ref 51, Value.none, Value.ref 52, Value.ref 53, Value.ref 54, Value.int 239 0, Value.int 46 0, Value.str (Str.ofString "/claim/cut.py") 240] } : Obj)) ::
  ((nat_lit 56 : Nat), ({ cls := Value.type "function", data := Data.func { name := Str.ofString "push_token", qualname := Str.ofString "_netrclex.push_token", params := kP56, body := FuncBody.stmts kB56, scope := kS56, globals := 3, closure := [], defaults := Value.none, kwdefaults := Value.none, pyModule := Value.str (Str.ofString "cpy313.netrc") 194, code := Value.ref 55 } } : Obj)) ::
  ((nat_lit 57 : Nat), ({ cls := Value.type "tuple", data := Data.seq #[Value.str (Str.ofString "instream") 242, Value.str (Str.ofString "lineno") 243, Value.str (Str.ofString "pushback") 244, Value.str (Str.ofString "whitespace") 245] } : Obj)) ::
  ((nat_lit 58 : Nat), ({ cls := Value.type "dict", data := Data.dict #[{ hash := PyData.keyHash P (Str.ofString "__module__"), key := Value.str (Str.ofString "__module__") 203, val := Value.str (Str.ofString "cpy313.netrc") 194 }, { hash := PyData.keyHash P (Str.ofString "__firstlineno__"), key := Value.str (Str.ofString "__firstlineno__") 207, val := Value.int 5 206 }, { hash := PyData.keyHash P (Str.ofString "__init__"), key := Value.str (Str.ofString "__init__") 215, val := Value.ref 35 }, { hash := PyData.keyHash P (Str.ofString "_read_char"), key := Value.str (Str.ofString "_read_char") 223, val := Value.ref 42 }, { hash := PyData.keyHash P (Str.ofString "get_token"), key := Value.str (Str.ofString "get_token") 233, val := Value.ref 49 }, { hash := PyData.keyHash P (Str.ofString "push_token"), key := Value.str (Str.ofString "push_token") 241, val := Value.ref 56 }, { hash := PyData.keyHash P (Str.ofString "__static_attributes__"), key := Value.str (Str.ofString "__static_attributes__") 246, val := Value.ref 57 }, { hash := PyData.keyHash P (Str.ofString "__dict__"), key := Value.str (Str.ofString "__dict__") 248, val := Value.ref 60 }, { hash := PyData.keyHash P (Str.ofString "__weakref__"), key := Value.str (Str.ofString "__weakref__") 250, val := Value.ref 61 }, { hash := PyData.keyHash P (Str.ofString "__doc__"), key := Value.str (Str.ofString "__doc__") 251, val := Value.none }] 4 } : Obj)) ::
  ((nat_lit 59 : Nat), ({ cls := Value.type "type", data := Data.cls { name := Str.ofString "_netrclex", bases := [Value.type "object"], mro := [Value.ref 59, Value.type "object"], ns := 58, qualname := Str.ofString "_netrclex" }, slots := #[none, none, some (Value.str (Str.ofString "_netrclex") 196), some (Value.str (Str.ofString "_netrclex") 204), some (Value.builtin "object.__new__"), some (Value.bool true)] } : Obj)) ::
  ((nat_lit 60 : Nat), ({ cls := Value.type "getset_descriptor", data := Data.fields #[Value.str (Str.ofString "__dict__") 247, Value.ref 59, Value.builtin "function.__dict__", Value.builtin "function.__dict__#set"] } : Obj)) ::
  ((nat_lit 61 : Nat), ({ cls := Value.type "getset_descriptor", data := Data.fields #[Value.str (Str.ofString "__weakref__") 249, Value.ref 59, Value.builtin "ExceptionGroup.__weakref__", Value.none] } : Obj)) ::
  ((nat_lit 64 : Nat), ({ cls := Value.type "tuple", data := Data.seq #[] } : Obj)) ::
  ((nat_lit 66 : Nat), ({ cls := Value.type "tuple", data := Data.seq #[Value.str (Str.ofString "x") 259, Value.str (Str.ofString "what") 260, Value.str (Str.ofString "kind") 261] } : Obj)) ::
  ((nat_lit 67 : Nat), ({ cls := Value.type "tuple", data := Data.seq #[] } : Obj)) ::
  ((nat_lit 69 : Nat), ({ cls := Value.type "code", data := Data.fields #[Value.str (Str.ofString "_plain_name") 256, Value.str (Str.ofString "_plain_name") 257, Value.str (Str.ofString "/claim/cut.py") 258, Value.int 49 0, Value.int 2 0, Value.int 0 0, Value.int 0 0, Value.int 3 0, Value.ref 64, Value.bool true, Value.int 181 0, Value.ref 65, Value.none, Value.ref 66, Value.ref 67, Value.ref 68, Value.int 262 0, Value.int 49 0, Value.str (Str.ofString "/claim/cut.py") 263] } : Obj)) ::
  ((nat_lit 70 : Nat), ({ cls := Value.type "function", data := Data.func { name := Str.ofString "_plain_name", qualname := Str.ofString "_plain_name", params := kP70, body := FuncBody.stmts kB70, scope := kS70, globals := 3, closure := [], defaults := Value.none, kwdefaults := Value.none, pyModule := Value.str (Str.ofString "os") 254, code := Value.ref 69 } } : Obj)) ::
  ((nat_lit 71 : Nat), ({ cls := Value.type "tuple", data := Data.seq #[Value.type "type"] } : Obj)) ::
  ((nat_lit 130 : Nat), ({ cls := Value.type "tuple", data := Data.seq #[] } : Obj)) ::
  ((nat_lit 132 : Nat), ({ cls := Value.type "tuple", data := Data.seq #[Value.str (Str.ofString "path") 346, Value.str (Str.ofString "kind") 347, Value.str (Str.ofString "hook") 348, Value.str (Str.ofString "given") 349] } : Obj)) ::
  ((nat_lit 133 : Nat), ({ cls := Value.type "tuple", data := Data.seq #[] } : Obj)) ::
  ((nat_lit 135 : Nat), ({ cls := Value.type "code", data := Data.fields #[Value.str (Str.ofString "fspath") 343, Value.str (Str.ofString "fspath") 344, Value.str (Str.ofString "/claim/cut.py") 345, Value.int 79 0, Value.int 1 0, Value.int 0 0, Value.int 0 0, Value.int 3 0, Value.ref 130, Value.bool true, Value.int 181 0, Value.ref 131, Value.none, Value.ref 132, Value.ref 133, Value.ref 134, Value.int 350 0, Value.int 79 0, Value.str (Str.ofString "/claim/cut.py") 351] } : Obj)) ::
  ((nat_lit 136 : Nat), ({ cls := Value.type "function", data := Data.func { name := Str.ofString "fspath", qualname := Str.ofString "fspath", params := kP136, body := FuncBody.stmts kB136, scope := kS136, globals := 3, closure := [], defaults := Value.none, kwdefaults := Value.none, pyModule := Value.str (Str.ofString "os") 341, code := Value.ref 135 } } : Obj)) ::
  ((nat_lit 137 : Nat), ({ cls := Value.type "tuple", data := Data.seq #[] } : Obj)) ::
  ((nat_lit 139 : Nat), ({ cls := Value.type "tuple", data := Data.seq #[Value.str (Str.ofString "funcname") 358, Value.str (Str.ofString "args") 359, Value.str (Str.ofString "hasstr") 360, Value.str (Str.ofString "hasbytes") 361, Value.str (Str.ofString "s") 362] } : Obj)) ::
  ((nat_lit 140 : Nat), ({ cls := Value.type "tuple", data := Data.seq #[] } : Obj)) ::
  ((nat_lit 142 : Nat), ({ cls := Value.type "code", data := Data.fields #[Value.str (Str.ofString "_check_arg_types") 355, Value.str (Str.ofString "_check_arg_types") 356, Value.str (Str.ofString "/claim/cut.py") 357, Value.int 96 0, Value.int 1 0, Value.int 0 0, Value.int 0 0, Value.int 7 0, Value.ref 137, Value.bool true, Value.int 181 0, Value.ref 138, Value.none, Value.ref 139, Value.ref 140, Value.ref 141, Value.int 363 0, Value.int 96 0, Value.str (Str.ofString "/claim/cut.py") 364] } : Obj)) ::
  ((nat_lit 143 : Nat), ({ cls := Value.type "function", data := Data.func { name := Str.ofString "_check_arg_types", qualname := Str.ofString "_check_arg_types", params := kP143, body := FuncBody.stmts kB143, scope := kS143, globals := 3, closure := [], defaults := Value.none, kwdefaults := Value.none, pyModule := Value.str (Str.ofString "cpy313.genericpath") 353, code := Value.ref 142 } } : Obj)) ::
  ((nat_lit 144 : Nat), ({ cls := Value.type "tuple", data := Data.seq #[] } : Obj)) ::
  ((nat_lit 146 : Nat), ({ cls := Value.type "tuple", data := Data.seq #[Value.str (Str.ofString "path") 371] } : Obj)) ::
  ((nat_lit 147 : Nat), ({ cls := Value.type "tuple", data := Data.seq #[] } : Obj)) ::
  ((nat_lit 149 : Nat), ({ cls := Value.type "code", data := Data.fields #[Value.str (Str.ofString "_get_sep") 368, Value.str (Str.ofString "_get_sep") 369, Value.str (Str.ofString "/claim/cut.py") 370, Value.int 108 0, Value.int 1 0, Value.int 0 0, Value.int 0 0, Value.int 3 0, Value.ref 144, Value.bool true, Value.int 181 0, Value.ref 145, Value.none, Value.ref 146, Value.ref 147, Value.ref 148, Value.int 372 0, Value.int 108 0, Value.str (Str.ofString "/claim/cut.py") 373] } : Obj)) ::
  ((nat_lit 150 : Nat), ({ cls := Value.type "function", data := Data.func { name := Str.ofString "_get_sep", qualname := Str.ofString "_get_sep", params := kP150, body := FuncBody.stmts kB150, scope := kS150, globals := 3, closure := [], defaults := Value.none, kwdefaults := Value.none, pyModule := Value.str (Str.ofString "cpy313.posixpath") 366, code := Value.ref 149 } } : Obj)) ::
  ((nat_lit 151 : Nat), ({ cls := Value.type "tuple", data := Data.seq #[] } : Obj)) ::
  ((nat_lit 153 : Nat), ({ cls := Value.type "tuple", data := Data.seq #[Value.str (Str.ofString "a") 378, Value.str (Str.ofString "p") 379, Value.str (Str.ofString "sep") 380, Value.str (Str.ofString "path") 381, Value.str (Str.ofString "b") 382] } : Obj)) ::
  ((nat_lit 154 : Nat), ({ cls := Value.type "tuple", data := Data.seq #[] } : Obj)) ::
  ((nat_lit 156 : Nat), ({ cls := Value.type "code", data := Data.fields #[Value.str (Str.ofString "join") 375, Value.str (Str.ofString "join") 376, Value.str (Str.ofString "/claim/cut.py") 377, Value.int 113 0, Value.int 1 0, Value.int 0 0, Value.int 0 0, Value.int 7 0, Value.ref 151, Value.bool true, Value.int 181 0, Value.ref 152, Value.none, Value.ref 153, Value.ref 154, Value.ref 155, Value.int 383 0, Value.int 113 0, Value.str (Str.ofString "/claim/cut.py") 384] } : Obj)) ::
  ((nat_lit 157 : Nat), ({ cls := Value.type "function", data := Data.func { name := Str.ofString "join", qualname := Str.ofString "join", params := kP157, body := FuncBody.stmts kB157, scope := kS157, globals := 3, closure := [], defaults := Value.none, kwdefaults := Value.none, pyModule := Value.str (Str.ofString "cpy313.posixpath") 366, code := Value.ref 156 } } : Obj)) ::
  ((nat_lit 158 : Nat), ({ cls := Value.type "tuple", data := Data.seq #[] } : Obj)) ::
  ((nat_lit 160 : Nat), ({ cls := Value.type "tuple", data := Data.seq #[Value.str (Str.ofString "p") 389, Value.str (Str.ofString "sep") 390, Value.str (Str.ofString "i") 391] } : Obj)) ::
  ((nat_lit 161 : Nat), ({ cls := Value.type "tuple", data := Data.seq #[] } : Obj)) ::
  ((nat_lit 163 : Nat), ({ cls := Value.type "code", data := Data.fields #[Value.str (Str.ofString "basename") 386, Value.str (Str.ofString "basename") 387, Value.str (Str.ofString "/claim/cut.py") 388, Value.int 130 0, Value.int 1 0, Value.int 0 0, Value.int 0 0, Value.int 3 0, Value.ref 158, Value.bool true, Value.int 181 0, Value.ref 159, Value.none, Value.ref 160, Value.ref 161, Value.ref 162, Value.int 392 0, Value.int 130 0, Value.str (Str.ofString "/claim/cut.py") 393] } : Obj)) ::
  ((nat_lit 164 : Nat), ({ cls := Value.type "function", data := Data.func { name := Str.ofString "basename", qualname := Str.ofString "basename", params := kP164, body := FuncBody.stmts kB164, scope := kS164, globals := 3, closure := [], defaults := Value.none, kwdefaults := Value.none, pyModule := Value.str (Str.ofString "cpy313.posixpath") 366, code := Value.ref 163 } } : Obj)) ::
  ((nat_lit 165 : Nat), ({ cls := Value.type "tuple", data := Data.seq #[] } : Obj)) ::
  ((nat_lit 167 : Nat), ({ cls := Value.type "tuple", data := Data.seq #[Value.str (Str.ofString "p") 398, Value.str (Str.ofString "sep") 399, Value.str (Str.ofString "i") 400, Value.str (Str.ofString "head") 401] } : Obj)) ::
  ((nat_lit 168 : Nat), ({ cls := Value.type "tuple", data := Data.seq #[] } : Obj)) ::
  ((nat_lit 170 : Nat), ({ cls := Value.type "code", data := Data.fields #[Value.str (Str.ofString "dirname") 395, Value.str (Str.ofString "dirname") 396, Value.str (Str.ofString "/claim/cut.py") 397, Value.int 135 0, Value.int 1 0, Value.int 0 0, Value.int 0 0, Value.int 3 0, Value.ref 165, Value.bool true, Value.int 181 0, Value.ref 166, Value.none, Value.ref 167, Value.ref 168, Value.ref 169, Value.int 402 0, Value.int 135 0, Value.str (Str.ofString "/claim/cut.py") 403] } : Obj)) ::
  ((nat_lit 171 : Nat), ({ cls := Value.type "function", data := Data.func { name := Str.ofString "dirname", qualname := Str.ofString "dirname", params := kP171, body := FuncBody.stmts kB171, scope := kS171, globals := 3, closure := [], defaults := Value.none, kwdefaults := Value.none, pyModule := Value.str (Str.ofString "cpy313.posixpath") 366, code := Value.ref 170 } } : Obj)) ::
  ((nat_lit 172 : Nat), ({ cls := Value.type "tuple", data := Data.seq #[] } : Obj)) ::
  ((nat_lit 174 : Nat), ({ cls := Value.type "tuple", data := Data.seq #[Value.str (Str.ofString "mode") 410] } : Obj)) ::
  ((nat_lit 175 : Nat), ({ cls := Value.type "tuple", data := Data.seq #[] } : Obj)) ::
  ((nat_lit 177 : Nat), ({ cls := Value.type "code", data := Data.fields #[Value.str (Str.ofString "S_IFMT") 407, Value.str (Str.ofString "S_IFMT") 408, Value.str (Str.ofString "/claim/cut.py") 409, Value.int 144 0, Value.int 1 0, Value.int 0 0, Value.int 0 0, Value.int 3 0, Value.ref 172, Value.bool true, Value.int 181 0, Value.ref 173, Value.none, Value.ref 174, Value.ref 175, Value.ref 176, Value.int 411 0, Value.int 144 0, Value.str (Str.ofString "/claim/cut.py") 412] } : Obj)) ::
  ((nat_lit 178 : Nat), ({ cls := Value.type "function", data := Data.func { name := Str.ofString "S_IFMT", qualname := Str.ofString "S_IFMT", params := kP178, body := FuncBody.stmts kB178, scope := kS178, globals := 3, closure := [], defaults := Value.none, kwdefaults := Value.none, pyModule := Value.str (Str.ofString "cpy313.stat") 405, code := Value.ref 177 } } : Obj)) ::
  ((nat_lit 179 : Nat), ({ cls := Value.type "tuple", data := Data.seq #[Value.int 40960 424, Value.str (Str.ofString "l") 452] } : Obj)) ::
  ((nat_lit 180 : Nat), ({ cls := Value.type "tuple", data := Data.seq #[Value.int 49152 426, Value.str (Str.ofString "s") 453] } : Obj)) ::
  ((nat_lit 181 : Nat), ({ cls := Value.type "tuple", data := Data.seq #[Value.int 32768 420, Value.str (Str.ofString "-") 454] } : Obj)) ::
  ((nat_lit 182 : Nat), ({ cls := Value.type "tuple", data := Data.seq #[Value.int 24576 418, Value.str (Str.ofString "b") 455] } : Obj)) ::
  ((nat_lit 183 : Nat), ({ cls := Value.type "tuple", data := Data.seq #[Value.int 16384 414, Value.str (Str.ofString "d") 456] } : Obj)) ::
  ((nat_lit 184 : Nat), ({ cls := Value.type "tuple", data := Data.seq #[Value.int 8192 416, Value.str (Str.ofString "c") 457] } : Obj)) ::
  ((nat_lit 185 : Nat), ({ cls := Value.type "tuple", data := Data.seq #[Value.int 4096 422, Value.str (Str.ofString "p") 458] } : Obj)) ::
  ((nat_lit 186 : Nat), ({ cls := Value.type "tuple", data := Data.seq #[Value.ref 179, Value.ref 180, Value.ref 181, Value.ref 182, Value.ref 183, Value.ref 184, Value.ref 185] } : Obj)) ::
  ((nat_lit 187 : Nat), ({ cls := Value.type "tuple", data := Data.seq #[Value.int 256 434, Value.str (Str.ofString "r") 459] } : Obj)) ::
  ((nat_lit 188 : Nat), ({ cls := Value.type "tuple", data := Data.seq #[Value.ref 187] } : Obj)) ::
  ((nat_lit 189 : Nat), ({ cls := Value.type "tuple", data := Data.seq #[Value.int 128 436, Value.str (Str.ofString "w") 460] } : Obj)) ::
  ((nat_lit 190 : Nat), ({ cls := Value.type "tuple", data := Data.seq #[Value.ref 189] } : Obj)) ::
  ((nat_lit 191 : Nat), ({ cls := Value.type "tuple", data := Data.seq #[Value.int 2112 461, Value.str (Str.ofString "s") 462] } : Obj)) ::
  ((nat_lit 192 : Nat), ({ cls := Value.type "tuple", data := Data.seq #[Value.int 2048 428, Value.str (Str.ofString "S") 463] } : Obj)) ::
  ((nat_lit 193 : Nat), ({ cls := Value.type "tuple", data := Data.seq #[Value.int 64 438, Value.str (Str.ofString "x") 464] } : Obj)) ::
  ((nat_lit 194 : Nat), ({ cls := Value.type "tuple", data := Data.seq #[Value.ref 191, Value.ref 192, Value.ref 193] } : Obj)) ::
  ((nat_lit 195 : Nat), ({ cls := Value.type "tuple", data := Data.seq #[Value.int 32 440, Value.str (Str.ofString "r") 465] } : Obj)) ::
  ((nat_lit 196 : Nat), ({ cls := Value.type "tuple", data := Data.seq #[Value.ref 195] } : Obj)) ::
  ((nat_lit 197 : Nat), ({ cls := Value.type "tuple", data := Data.seq #[Value.int 16 442, Value.str (Str.ofString "w") 466] } : Obj)) ::
  ((nat_lit 198 : Nat), ({ cls := Value.type "tuple", data := Data.seq #[Value.ref 197] } : Obj)) ::
  ((nat_lit 199 : Nat), ({ cls := Value.type "tuple", data := Data.seq #[Value.int 1032 467, Value.str (Str.ofString "s") 468] } : Obj)) ::
  ((nat_lit 200 : Nat), ({ cls := Value.type "tuple", data := Data.seq #[Value.int 1024 430, Value.str (Str.ofString "S") 469] } : Obj)) ::
  ((nat_lit 201 : Nat), ({ cls := Value.type "tuple", data := Data.seq #[Value.int 8 444, Value.str (Str.ofString "x") 470] } : Obj)) ::
  ((nat_lit 202 : Nat), ({ cls := Value.type "tuple", data := Data.seq #[Value.ref 199, Value.ref 200, Value.ref 201] } : Obj)) ::
  ((nat_lit 203 : Nat), ({ cls := Value.type "tuple", data := Data.seq #[Value.int 4 446, Value.str (Str.ofString "r") 471] } : Obj)) ::
  ((nat_lit 204 : Nat), ({ cls := Value.type "tuple", data := Data.seq #[Value.ref 203] } : Obj)) ::
  ((nat_lit 205 : Nat), ({ cls := Value.type "tuple", data := Data.seq #[Value.int 2 448, Value.str (Str.ofString "w") 472] } : Obj)) ::
  ((nat_lit 206 : Nat), ({ cls := Value.type "tuple", data := Data.seq #[Value.ref 205] } : Obj)) ::
  ((nat_lit 207 : Nat), ({ cls := Value.type "tuple", data := Data.seq #[Value.int 513 473, Value.str (Str.ofString "t") 474] } : Obj)) ::
  ((nat_lit 208 : Nat), ({ cls := Value.type "tuple", data := Data.seq #[Value.int 512 432, Value.str (Str.ofString "T") 475] } : Obj)) ::
  ((nat_lit 209 : Nat), ({ cls := Value.type "tuple", data := Data.seq #[Value.int 1 450, Value.str (Str.ofString "x") 476] } : Obj)) ::
  ((nat_lit 210 : Nat), ({ cls := Value.type "tuple", data := Data.seq #[Value.ref 207, Value.ref 208, Value.ref 209] } : Obj)) ::
  ((nat_lit 211 : Nat), ({ cls := Value.type "tuple", data := Data.seq #[Value.ref 186, Value.ref 188, Value.ref 190, Value.ref 194, Value.ref 196, Value.ref 198, Value.ref 202, Value.ref 204, Value.ref 206, Value.ref 210] } : Obj)) ::
  ((nat_lit 212 : Nat), ({ cls := Value.type "tuple", data := Data.seq #[] } : Obj)) ::
  ((nat_lit 214 : Nat), ({ cls := Value.type "tuple", data := Data.seq #[Value.str (Str.ofString "mode") 481, Value.str (Str.ofString "perm") 482, Value.str (Str.ofString "index") 483, Value.str (Str.ofString "table") 484, Value.str (Str.ofString "bit") 485, Value.str (Str.ofString "char") 486] } : Obj)) ::
  ((nat_lit 215 : Nat), ({ cls := Value.type "tuple", data := Data.seq #[] } : Obj)) ::
  ((nat_lit 217 : Nat), ({ cls := Value.type "code", data := Data.fields #[Value.str (Str.ofString "filemode") 478, Value.str (Str.ofString "filemode") 479, Value.str (Str.ofString "/claim/cut.py") 480, Value.int 166 0, Value.int 1 0, Value.int 0 0, Value.int 0 0, Value.int 3 0, Value.ref 212, Value.bool true, Value.int 181 0, Value.ref 213, Value.none, Value.ref 214, Value.ref 215, Value.ref 216, Value.int 487 0, Value.int 166 0, Value.str (Str.ofString "/claim/cut.py") 488] } : Obj)) ::
  ((nat_lit 218 : Nat), ({ cls := Value.type "function", data := Data.func { name := Str.ofString "filemode", qualname := Str.ofString "filemode", params := kP218, body := FuncBody.stmts kB218, scope := kS218, globals := 3, closure := [], defaults := Value.none, kwdefaults := Value.none, pyModule := Value.str (Str.ofString "cpy313.stat") 405, code := Value.ref 217 } } : Obj)) ::
  ((nat_lit 219 : Nat), ({ cls := Value.type "tuple", data := Data.seq #[] } : Obj)) ::
  ((nat_lit 221 : Nat), ({ cls := Value.type "tuple", data := Data.seq #[Value.str (Str.ofString "text") 495, Value.str (Str.ofString "stream") 496, Value.str (Str.ofString "_law_next") 497] } : Obj)) ::
  ((nat_lit 222 : Nat), ({ cls := Value.type "tuple", data := Data.seq #[Value.str (Str.ofString "left") 498] } : Obj)) ::
  ((nat_lit 224 : Nat), ({ cls := Value.type "code", data := Data.fields #[Value.str (Str.ofString "_law_lexer") 492, Value.str (Str.ofString "_law_lexer") 493, Value.str (Str.ofString "/claim/cut.py") 494, Value.int 184 0, Value.int 1 0, Value.int 0 0, Value.int 0 0, Value.int 3 0, Value.ref 219, Value.bool true, Value.int 181 0, Value.ref 220, Value.none, Value.ref 221, Value.ref 222, Value.ref 223, Value.int 499 0, Value.int 184 0, Value.str (Str.ofString "/claim/cut.py") 500] } : Obj)) ::
  ((nat_lit 225 : Nat), ({ cls := Value.type "function", data := Data.func { name := Str.ofString "_law_lexer", qualname := Str.ofString "_law_lexer", params := kP225, body := FuncBody.stmts kB225, scope := kS225, globals := 3, closure := [], defaults := Value.none, kwdefaults := Value.none, pyModule := Value.str (Str.ofString "law_un0033_01") 490, code := Value.ref 224 } } : Obj)) ::
  ((nat_lit 226 : Nat), ({ cls := Value.type "tuple", data := Data.seq #[] } : Obj)) ::
  ((nat_lit 229 : Nat), ({ cls := Value.type "code", data := Data.fields #[Value.str (Str.ofString "_law_rights") 502, Value.str (Str.ofString "_law_rights") 503, Value.str (Str.ofString "/claim/cut.py") 504, Value.int 192 0, Value.int 1 0, Value.int 0 0, Value.int 0 0, Value.int 3 0, Value.ref 226, Value.bool true, Value.int 181 0, Value.ref 227, Value.none, Value.none, Value.none, Value.ref 228, Value.int 505 0, Value.int 192 0, Value.str (Str.ofString "/claim/cut.py") 506] } : Obj)) ::
  ((nat_lit 230 : Nat), ({ cls := Value.type "function", data := Data.func { name := Str.ofString "_law_rights", qualname := Str.ofString "_law_rights", params := kP230, body := FuncBody.stmts kB230, scope := kS230, globals := 3, closure := [], defaults := Value.none, kwdefaults := Value.none, pyModule := Value.str (Str.ofString "law_un0033_01") 490, code := Value.ref 229 } } : Obj)) ::
  ((nat_lit 231 : Nat), ({ cls := Value.type "tuple", data := Data.seq #[] } : Obj)) ::
  ((nat_lit 233 : Nat), ({ cls := Value.type "tuple", data := Data.seq #[Value.str (Str.ofString "figures") 511] } : Obj)) ::
  ((nat_lit 234 : Nat), ({ cls := Value.type "tuple", data := Data.seq #[] } : Obj)) ::
  ((nat_lit 236 : Nat), ({ cls := Value.type "code", data := Data.fields #[Value.str (Str.ofString "_law_signs") 508, Value.str (Str.ofString "_law_signs") 509, Value.str (Str.ofString "/claim/cut.py") 510, Value.int 194 0, Value.int 1 0, Value.int 0 0, Value.int 0 0, Value.int 3 0, Value.ref 231, Value.bool true, Value.int 181 0, Value.ref 232, Value.none, Value.ref 233, Value.ref 234, Value.ref 235, Value.int 512 0, Value.int 194 0, Value.str (Str.ofString "/claim/cut.py") 513] } : Obj)) ::
  ((nat_lit 237 : Nat), ({ cls := Value.type "function", data := Data.func { name := Str.ofString "_law_signs", qualname := Str.ofString "_law_signs", params := kP237, body := FuncBody.stmts kB237, scope := kS237, globals := 3, closure := [], defaults := Value.none, kwdefaults := Value.none, pyModule := Value.str (Str.ofString "law_un0033_01") 490, code := Value.ref 236 } } : Obj)) ::
  ((nat_lit 238 : Nat), ({ cls := Value.type "tuple", data := Data.seq #[] } : Obj)) ::
  ((nat_lit 240 : Nat), ({ cls := Value.type "tuple", data := Data.seq #[Value.str (Str.ofString "lexer") 518, Value.str (Str.ofString "start") 519, Value.str (Str.ofString "changes") 520, Value.str (Str.ofString "name") 521, Value.str (Str.ofString "noted") 522, Value.str (Str.ofString "path") 523, Value.str (Str.ofString "changed") 524, Value.str (Str.ofString "step") 525, Value.str (Str.ofString "row") 526] } : Obj)) ::
  ((nat_lit 241 : Nat), ({ cls := Value.type "tuple", data := Data.seq #[] } : Obj)) ::
  ((nat_lit 243 : Nat), ({ cls := Value.type "code", data := Data.fields #[Value.str (Str.ofString "_law_noted") 515, Value.str (Str.ofString "_law_noted") 516, Value.str (Str.ofString "/claim/cut.py") 517, Value.int 196 0, Value.int 2 0, Value.int 0 0, Value.int 0 0, Value.int 3 0, Value.ref 238, Value.bool true, Value.int 181 0, Value.ref 239, Value.none, Value.ref 240, Value.ref 241, Value.ref 242, Value.int 527 0, Value.int 196 0, Value.str (Str.ofString "/claim/cut.py") 528] } : Obj)) ::
  ((nat_lit 244 : Nat), ({ cls := Value.type "function", data := Data.func { name := Str.ofString "_law_noted", qualname := Str.ofString "_law_noted", params := kP244, body := FuncBody.stmts kB244, scope := kS244, globals := 3, closure := [], defaults := Value.none, kwdefaults := Value.none, pyModule := Value.str (Str.ofString "law_un0033_01") 490, code := Value.ref 243 } } : Obj)) ::
  ((nat_lit 245 : Nat), ({ cls := Value.type "tuple", data := Data.seq #[] } : Obj)) ::
  ((nat_lit 248 : Nat), ({ cls := Value.type "code", data := Data.fields #[Value.str (Str.ofString "_law_due") 530, Value.str (Str.ofString "_law_due") 531, Value.str (Str.ofString "/claim/cut.py") 532, Value.int 218 0, Value.int 2 0, Value.int 0 0, Value.int 0 0, Value.int 3 0, Value.ref 245, Value.bool true, Value.int 181 0, Value.ref 246, Value.none, Value.none, Value.none, Value.ref 247, Value.int 533 0, Value.int 218 0, Value.str (Str.ofString "/claim/cut.py") 534] } : Obj)) ::
  ((nat_lit 249 : Nat), ({ cls := Value.type "function", data := Data.func { name := Str.ofString "_law_due", qualname := Str.ofString "_law_due", params := kP249, body := FuncBody.stmts kB249, scope := kS249, globals := 3, closure := [], defaults := Value.none, kwdefaults := Value.none, pyModule := Value.str (Str.ofString "law_un0033_01") 490, code := Value.ref 248 } } : Obj)) ::
  ((nat_lit 250 : Nat), ({ cls := Value.type "tuple", data := Data.seq #[] } : Obj)) ::
  ((nat_lit 253 : Nat), ({ cls := Value.type "code", data := Data.fields #[Value.str (Str.ofString "law") 536, Value.str (Str.ofString "law") 537, Value.str (Str.ofString "/claim/cut.py") 538, Value.int 231 0, Value.int 1 0, Value.int 0 0, Value.int 0 0, Value.int 3 0, Value.ref 250, Value.bool true, Value.int 181 0, Value.ref 251, Value.none, Value.none, Value.none, Value.ref 252, Value.int 539 0, Value.int 231 0, Value.str (Str.ofString "/claim/cut.py") 540] } : Obj)) ::
  ((nat_lit 254 : Nat), ({ cls := Value.type "function", data := Data.func { name := Str.ofString "law", qualname := Str.ofString "law", params := kP254, body := FuncBody.stmts kB254, scope := kS254, globals := 3, closure := [], defaults := Value.none, kwdefaults := Value.none, pyModule := Value.str (Str.ofString "law_un0033_01") 490, code := Value.ref 253 } } : Obj)) :: []) → Params → Frag) _ ?h)
  case f => exact fun K _ => K
  case h => (delta kP21 kB21 kS21 kP35 kB35 kS35 kP42 kB42 kS42 kP49 kB49 kS49 kP56 kB56 kS56 kP70 kB70 kS70 kP136 kB136 kS136 kP143 kB143 kS143 kP150 kB150 kS150 kP157 kB157 kS157 kP164 kB164 kS164 kP171 kB171 kS171 kP178 kB178 kS178 kP218 kB218 kS218 kP225 kB225 kS225 kP230 kB230 kS230 kP237 kB237 kS237 kP244 kB244 kS244 kP249 kB249 kS249 kP254 kB254 kS254); exact rfl
abbrev asK : List Addr := [2, 3, 15, 17, 18, 20, 21, 29, 31, 32, 34, 35, 36, 38, 39, 41, 42, 43, 45, 46, 48, 49, 50, 52, 53, 55, 56, 57, 58, 59, 60, 61, 64, 66, 67, 69, 70, 71, 130, 132, 133, 135, 136, 137, 139, 140, 142, 143, 144, 146, 147, 149, 150, 151, 153, 154, 156, 157, 158, 160, 161, 163, 164, 165, 167, 168, 170, 171, 172, 174, 175, 177, 178, 179, 180, 181, 182, 183, 184, 185, 186, 187, 188, 189, 190, 191, 192, 193, 194, 195, 196, 197, 198, 199, 200, 201, 202, 203, 204, 205, 206, 207, 208, 209, 210, 211, 212, 214, 215, 217, 218, 219, 221, 222, 224, 225, 226, 229, 230, 231, 233, 234, 236, 237, 238, 240, 241, 243, 244, 245, 248, 249, 250, 253, 254]
noncomputable def kL48 : Stmt := by
  refine' ((?f : ∀ b : Stmt, b = stK 48 → Stmt) _ ?h)
  case f => exact fun b _ => b
  case h => (conv => rhs; whnf)
noncomputable def hd.view_39 : Program := by
  refine' ((?f : ∀ b : Program, b = { PySem.Challenge.rw_un0033_01.prog with main := { PySem.Challenge.rw_un0033_01.prog.main with body := [kL48] } } → Program) _ ?h)
  case f => exact fun b _ => b
  case h => (delta kL48); exact rfl
abbrev looseK : List Str := [Str.ofString "_wall", Str.ofString "_netrclex", Str.ofString "_plain_name", Str.ofString "ABCMeta", Str.ofString "_ABCLike", Str.ofString "_abc_plain_meta", Str.ofString "fspath", Str.ofString "_check_arg_types", Str.ofString "_get_sep", Str.ofString "join", Str.ofString "basename", Str.ofString "dirname", Str.ofString "S_IFMT", Str.ofString "S_IFDIR", Str.ofString "S_IFCHR", Str.ofString "S_IFBLK", Str.ofString "S_IFREG", Str.ofString "S_IFIFO", Str.ofString "S_IFLNK", Str.ofString "S_IFSOCK", Str.ofString "S_ISUID", Str.ofString "S_ISGID", Str.ofString "S_ISVTX", Str.ofString "S_IRUSR", Str.ofString "S_IWUSR", Str.ofString "S_IXUSR", Str.ofString "S_IRGRP", Str.ofString "S_IWGRP", Str.ofString "S_IXGRP", Str.ofString "S_IROTH", Str.ofString "S_IWOTH", Str.ofString "S_IXOTH", Str.ofString "_filemode_table", Str.ofString "filemode", Str.ofString "_law_lexer", Str.ofString "_law_rights", Str.ofString "_law_signs", Str.ofString "_law_noted", Str.ofString "_law_due"]
theorem asK_eq : ∀ P, asK = (hd.heap_39 P).map (·.1) := fun _ => by kernel_rfl
theorem left_boot {p q : Program} {loose : List Str} {Xt : Shared → Bool} {α : Type} {Yf : Shared → α} {Ya : World → α} {N : Nat} {ann : Option Value}
    (open_ : ∀ w : World, (fencedOpening treeTable p w N).map (fun s => (s.heap, s.gens, s.drawn, s.toks)) = some (boot_heap w.params, Array.mk [], boot_drawn, boot_toks))
    (size : ∀ w : World, ((boot_heap w.params).isNs mainGlobals, (boot_heap w.params).objs.size, (boot_heap w.params).nsMap mainGlobals "__annotations__") = (true, 11, ann))
    (run : ∀ (w : World) (os : OsState), (topRun treeTable p w 11 ann N ⟨boot_heap w.params, #[], boot_drawn, boot_toks, os⟩ (topStub p)).map (fun s₁ => (staticsOk (importedModules p.main.body) (boot_heap w.params) s₁.heap && namesBound p s₁.heap && gensDone s₁ && laidKept (boot_heap w.params) s₁.heap, openSeen q loose (importedModules p.main.body) Xt true s₁, Yf s₁)) = some (true, openGood q loose, Ya w)) :
    LeftO p q loose Xt Yf Ya N := fun w => by
  obtain ⟨⟨h, gs, d, k, os⟩, e, e'⟩ := Option.map_eq_some_iff.mp (open_ w)
  obtain ⟨rfl, rfl, rfl, rfl⟩ : h = boot_heap w.params ∧ gs = #[] ∧ d = boot_drawn ∧ k = boot_toks := by simpa using e'
  obtain ⟨z1, z2, z3⟩ : _ ∧ _ ∧ _ := by simpa only [Prod.mk.injEq] using size w
  obtain ⟨s₁, r, r'⟩ := Option.map_eq_some_iff.mp (run w os)
  obtain ⟨l1, l2, l3⟩ : _ ∧ _ ∧ _ := by simpa only [Prod.mk.injEq] using r'
  have t : topFrom treeTable p w N ⟨boot_heap w.params, #[], boot_drawn, boot_toks, os⟩ = some s₁ := by
    unfold topFrom
    dsimp only
    rw [z1, z2, z3, r]
    show (match staticsOk (importedModules p.main.body) (boot_heap w.params) s₁.heap && namesBound p s₁.heap && gensDone s₁ && laidKept (boot_heap w.params) s₁.heap with | true => _ | false => _) = _
    rw [l1]
  unfold openEnds
  rw [e]
  show (topFrom treeTable p w N _).map _ = _
  rw [t]
  exact congrArg some (Prod.ext l2 l3)
theorem hd.run (w : World) (os : OsState) : (topRun treeTable PySem.Challenge.rw_un0033_01.row.toRowW.prog w 11 (some (.ref 6)) 3670 ⟨boot_heap w.params, #[], boot_drawn, boot_toks, os⟩ (topStub PySem.Challenge.rw_un0033_01.row.toRowW.prog)).map (fun s₁ => (staticsOk (importedModules PySem.Challenge.rw_un0033_01.row.toRowW.prog.main.body) (boot_heap w.params) s₁.heap && namesBound PySem.Challenge.rw_un0033_01.row.toRowW.prog s₁.heap && gensDone s₁ && laidKept (boot_heap w.params) s₁.heap, openSeen hd.view_39 looseK (importedModules PySem.Challenge.rw_un0033_01.row.toRowW.prog.main.body) (fun s => xlAt hd.view_39 [] s && recOk (RowW.records PySem.Challenge.rw_un0033_01.row.toRowW) s) true s₁, (kmHook hd.heap_39 asK asK_eq [220]).obs s₁)) = some (true, openGood hd.view_39 looseK, (kmHook hd.heap_39 asK asK_eq [220]).val w) := by
  rw [PySem.W.Fast.te14082659384304107361, PySem.W.Fast.te14364793385576792824, PySem.W.Fast.te4187177175401517315, PySem.W.Fast.te5923862056798008813]
  kernel_rfl
theorem hd.left : LeftO PySem.Challenge.rw_un0033_01.row.toRowW.prog hd.view_39 looseK (fun s => xlAt hd.view_39 [] s && recOk (RowW.records PySem.Challenge.rw_un0033_01.row.toRowW) s) (kmHook hd.heap_39 asK asK_eq [220]).obs (kmHook hd.heap_39 asK asK_eq [220]).val 3670 :=
  left_boot (boot_open (by kernel_rfl) (by decide) (fun s => by kernel_rfl)) (fun w => by kernel_rfl) hd.run
theorem law_said : PySem.Challenge.rw_un0033_01.wellSaid = true := by
  rw [PySem.W.Fast.te9446332074065402090]
  kernel_rfl

section
noncomputable def LOOSE : List Str := looseW Mine.hd.view_39 looseK ++ (recsOf Mine.hd.view_39).map (·.name) ++ (litsOf Mine.hd.view_39).map (·.1) ++ (clssOf Mine.hd.view_39 (looseW Mine.hd.view_39 looseK)).map (·.name)
abbrev PROG : Program := PySem.Challenge.rw_un0033_01.prog
/-- a call of a def of the top from a function's frame: what is asked and what is handed on -/
abbrev Cl (w : World) (mean : ExcName → Option Value) (mg mb : Str → Option Value) (f : Addr) (d : Nat) (news news' : List (Addr × Obj)) (vs : List Value) (R : Value → Prop) : Prop :=
  ∀ (dp un : Nat) (gd : Option (List Code)) (cn : Str) (nm : List (Str × NameKind)) (ig ic : Bool) (mr : List (Str × Const)) (a : Addr) (ccd : Value) (cl : List (Str × Addr)) (outer : List Env) (A₀ : Around) (base h₀ : Heap) (L : Addr) (m : Str → Option Value) (s : Shared) (Q E : Value → Shared → Prop),
    Below A₀ base outer h₀ → Fr h₀ L s.heap m → (Mine.hd.heap_39 w.params).In h₀ → News h₀ L s.heap news → Top topProg LOOSE mean mg mb h₀ →
    dp + d < recursionLimit → un + 100 + 8 * d < cLine →
    (∀ (v : Value) (h' : Heap) (tk' : Nat), R v → Fr h₀ L h' m → News h₀ L h' news' → Q v { s with heap := h', toks := tk' }) →
      wpAny (model PySem.Challenge.rw_un0033_01.prog w) (ktrTop dp un gd cn ⟨.function, nm, ig, ic, mr⟩ L a ccd cl outer) (call (.ref f) vs) Q E s
/-- the same, of the code itself; the ledger that comes back is told by R -/
abbrev CC (w : World) (mean : ExcName → Option Value) (mg mb : Str → Option Value) (f : Addr) (d : Nat) (news : List (Addr × Obj)) (vs : List Value) (R : Value → List (Addr × Obj) → Prop) : Prop :=
  ∀ (dp un : Nat) (gd : Option (List Code)) (cn : Str) (nm : List (Str × NameKind)) (ig ic : Bool) (mr : List (Str × Const)) (a : Addr) (ccd : Value) (cl : List (Str × Addr)) (outer : List Env) (A₀ : Around) (base h₀ : Heap) (L : Addr) (m : Str → Option Value) (s : Shared) (RR : Result → Shared → Prop),
    Below A₀ base outer h₀ → Fr h₀ L s.heap m → (Mine.hd.heap_39 w.params).In h₀ → News h₀ L s.heap news → Top topProg LOOSE mean mg mb h₀ →
    dp + d < recursionLimit → un + 100 + 8 * d < cLine →
    (∀ (v : Value) (h' : Heap) (tk' : Nat) (news' : List (Addr × Obj)), R v news' → Fr h₀ L h' m → News h₀ L h' news' → RR (.ok (.ret v)) { s with heap := h', toks := tk' }) →
      codeAny (model PySem.Challenge.rw_un0033_01.prog w) (ktrTop dp un gd cn ⟨.function, nm, ig, ic, mr⟩ L a ccd cl outer) (.call (.ref f) ⟨vs, []⟩) RR s
/-- the def within _law_lexer's body, by its place -/
def lexSt : Stmt := PySem.Challenge.rw_un0033_01.prog.main.body.getD 43 (.Pass default)
def nextSt : Stmt := match lexSt with | .FunctionDef _ _ b .. => b.getD 2 (.Pass default) | _ => .Pass default
def nextBody : List Stmt := match nextSt with | .FunctionDef _ _ b .. => b | _ => []
def nextArgs : Arguments := match nextSt with | .FunctionDef _ a .. => a | _ => default
def nextScope : Scope := match nextSt with | .FunctionDef (scope := sc) .. => sc | _ => default
end
section
theorem mem_keeps {h₀ h : Heap} {news : List (Addr × Obj)} (D : Mem h₀ h [] news) : ∀ b o, h₀.get? b = some o → h.get? b = some o := fun b o e => D.keep b o e (by simp [away])
structure Fin1 (P : Prop) : Prop where
  h : P
theorem fr_keeps {h₀ h h' : Heap} {L : Addr} {m : Str → Option Value} (F : Fr h₀ L h m) (k : ∀ b o, h.get? b = some o → h'.get? b = some o) : Fr h₀ L h' m :=
  ⟨F.ns.keeps k, fun b o e => k b o (F.keep b o e), F.above⟩
theorem news_keeps {h₀ h h' : Heap} {L : Addr} {news : List (Addr × Obj)} (N : News h₀ L h news) (k : ∀ b o, h.get? b = some o → h'.get? b = some o) : News h₀ L h' news :=
  fun p hp => ⟨k _ _ (N p hp).1, (N p hp).2⟩
theorem news_sub {h₀ h : Heap} {L : Addr} {news news' : List (Addr × Obj)} (N : News h₀ L h news') (hs : ∀ p ∈ news, p ∈ news') : News h₀ L h news := fun p hp => N p (hs p hp)
section
local macro_rules | `(tactic| x_close) => `(tactic| ((with_reducible rename Fin1 _ => hF); (first | exact hF.h _ _ (fun _ _ e => e) | exact hF.h _ _ (mem_keeps (by assumption)))))
set_option maxRecDepth 100000 in
set_option maxHeartbeats 8000000 in
theorem iss_str0 {w : World} {A : Around} {s : Shared} {a : Addr} {n : Nat} {Q E : Value → Shared → Prop} (ho : s.heap.get? a = some ⟨.type "tuple", none, .seq #[.type "str", .type "bytes"] n, #[]⟩)
   (h : Fin1 (∀ h' tk', (∀ b o, s.heap.get? b = some o → h'.get? b = some o) → Q (.bool true) { s with heap := h', toks := tk' })) :
   wpAny (model PySem.Challenge.rw_un0033_01.prog w) A (call (.builtin "issubclass") [.type "str", .ref a]) Q E s := by
  x_run
end
theorem iss_str {w : World} {A : Around} {s : Shared} {a h₀ L m news} {n : Nat} {Q E : Value → Shared → Prop} (F : Fr h₀ L s.heap m) (N : News h₀ L s.heap news) (hm : (a, (⟨.type "tuple", none, .seq #[.type "str", .type "bytes"] n, #[]⟩ : Obj)) ∈ news)
   (h : ∀ h' tk', Fr h₀ L h' m → News h₀ L h' news → Q (.bool true) { s with heap := h', toks := tk' }) :
   wpAny (model PySem.Challenge.rw_un0033_01.prog w) A (call (.builtin "issubclass") [.type "str", .ref a]) Q E s :=
  iss_str0 (N.get hm) ⟨fun h' tk' k => h h' tk' (fr_keeps F k) (news_keeps N k)⟩
end
section
/-- the items are the text's signs, one by one -/
def Chs (its : List Value) (cs : List Nat) : Prop := its.length = cs.length ∧ ∀ (i : Nat) (v : Value), its[i]? = some v → ∃ (c : Nat) (t : Tok), cs[i]? = some c ∧ v = Value.str ⟨#[c]⟩ t
theorem list_strK {prog : Program} {w : World} {A : Around} {E : Value → Shared → Prop} {s : Shared} {h₀ : Heap} {L : Addr} {m : Str → Option Value} {news : List (Addr × Obj)} {S : Str} {t : Tok} {Q : Value → Shared → Prop}
    (hh : A.handled = none) (F : Fr h₀ L s.heap m) (N : News h₀ L s.heap news) (hS : S.length ≤ sizeLine)
    (h : ∀ l h' tk its n, Chs its S.cps.toList → Fr h₀ L h' m → News h₀ L h' ((l, listOf its.toArray n) :: news) → (∀ p ∈ news, p.1 < l) → Q (.ref l) { s with heap := h', toks := tk }) :
    wpAny (model prog w) A (call (.type "list") [.str S t]) Q E s := by
  refine call_list_str hh S t (hn := hS) fun h' tk acc' c' hk hS' hacc => ?_
  refine h _ h' tk acc'.toList c' ⟨by simp [hacc.1], fun i v hv => ?_⟩ (fr_keeps F hk) (fun p hp => ?_) (fun p hp => Heap.lt_size (N p hp).1)
  · obtain ⟨c, u, hc, rfl⟩ := hacc.2 i v (by simpa using hv)
    exact ⟨c, u, by simpa using hc, rfl⟩
  · rcases List.mem_cons.mp hp with rfl | hp
    · refine ⟨by simpa using hS', Nat.ne_of_gt F.ns.lt, ?_⟩
      cases e : h₀.get? s.heap.objs.size with
      | none => rfl
      | some o => exact absurd (Heap.lt_size (F.keep _ _ e)) (Nat.lt_irrefl _)
    · exact ⟨hk _ _ (N p hp).1, (N p hp).2⟩
theorem allNe_of {d c : Nat} : ∀ {l : List (Addr × Obj)}, AllLt d l → d ≤ c → ∀ p ∈ l, p.1 ≠ c
  | [], _, _ => fun _ h => nomatch h
  | q :: r, h, hc => fun p hp => by
    rcases List.mem_cons.mp hp with rfl | hp
    · exact Nat.ne_of_lt (Nat.lt_of_lt_of_le h.1 hc)
    · exact allNe_of h.2 hc p hp
theorem allNe_raw {d c : Nat} {l : List (Addr × Obj)} (h : ∀ p ∈ l, p.1 < d) (hc : d ≤ c) : ∀ p ∈ l, p.1 ≠ c :=
  fun p hp => Nat.ne_of_lt (Nat.lt_of_lt_of_le (h p hp) hc)
section
variable {prog : Program} {w : World} {A : Around} {E : Value → Shared → Prop} {s : Shared} {h₀ : Heap} {L : Addr} {m : Str → Option Value} {news news' : List (Addr × Obj)}
theorem truthy_cons {l : Addr} {v : Value} {lf : List Value} {n : Nat} {Q : Bool → Shared → Prop} (N : News h₀ L s.heap news) (hm : (l, listOf (v :: lf).toArray n) ∈ news) (hz : lf.length < 1000) (h : Q true { s with toks := s.toks + 1 + 1 }) : wpAny (model prog w) A (truthy (.ref l)) Q E s := by
  refine wpAny_truthy_list ⟨_, N.get hm, rfl, n, rfl⟩ (by simp; omega) ?_
  simpa using h
theorem truthy_nil {l : Addr} {n : Nat} {Q : Bool → Shared → Prop} (N : News h₀ L s.heap news) (hm : (l, listOf #[] n) ∈ news) (h : Q false { s with toks := s.toks + 1 + 1 }) : wpAny (model prog w) A (truthy (.ref l)) Q E s := by
  refine wpAny_truthy_list ⟨_, N.get hm, rfl, n, rfl⟩ (by simp) ?_
  simpa using h
theorem pop0 {l : Addr} {v : Value} {lf : List Value} {n : Nat} {u : Tok} {Q : Value → Shared → Prop} (F : Fr h₀ L s.heap m) (N : News h₀ L s.heap news) (U : Upd l (listOf (v :: lf).toArray n) (listOf lf.toArray (n + 1)) news news') (hz : lf.length < 1000)
    (h : ∀ h', Fr h₀ L h' m → News h₀ L h' news' → Q v { s with heap := h' }) : wpAny (model prog w) A (call (.builtin "list.pop") [.ref l, .int 0 u]) Q E s := by
  refine kl_popAt (its := (v :: lf).toArray) (i := 0) (k := 0) (p := []) (q := lf) (y := v) F N (by decide) ?_ rfl U ?_ h
  · simp [seqIndex?]
  · rw [sizeLine_eq]; simp; omega
end
end
local macro_rules | `(tactic| walk_at $s:str) => `(tactic| k_extra $s)
local macro_rules | `(tactic| k_room) => `(tactic| ktr_room)
local macro_rules | `(tactic| k_all) => `(tactic| first | assumption | exact allNe_raw (by assumption) (by omega) | exact allNe_of (by assumption) (by omega) | exact allNe_of (And.right (by assumption)) (by omega) | exact allNe_of (And.right (And.right (by assumption))) (by omega))
local macro_rules | `(tactic| kn_code) => `(tactic| exact codeHd_of_K (c := 224) (P := 220) (by assumption) (by kernel_rfl))
section
abbrev oFn (q : Str) (dc pm ct : Value) (cb c : Addr) : Obj := fnMade (Str.ofString "_law_next") q nextArgs nextBody nextScope [(Str.ofString "left", c)] dc pm cb ct
abbrev oD2 (w : World) (k1 k2 k3 k4 : Tok) (ln : Int) (tl : Tok) (x1 : Addr) (tw : Tok) (p2 : Addr) : Obj :=
  dictOf [⟨PyData.keyHash w.params (Str.ofString "lineno"), .str (Str.ofString "lineno") k1, .int ln tl⟩, ⟨PyData.keyHash w.params (Str.ofString "instream"), .str (Str.ofString "instream") k2, .ref x1⟩,
    ⟨PyData.keyHash w.params (Str.ofString "whitespace"), .str (Str.ofString "whitespace") k3, .str (Str.ofString "\n\t\r ") tw⟩, ⟨PyData.keyHash w.params (Str.ofString "pushback"), .str (Str.ofString "pushback") k4, .ref p2⟩] 4
abbrev oD1 (w : World) (k1 k2 k3 k4 k5 tl tw : Tok) (p1 f : Addr) : Obj :=
  dictOf [⟨PyData.keyHash w.params (Str.ofString "lineno"), .str (Str.ofString "lineno") k1, .int 1 tl⟩, ⟨PyData.keyHash w.params (Str.ofString "instream"), .str (Str.ofString "instream") k2, .none⟩,
    ⟨PyData.keyHash w.params (Str.ofString "whitespace"), .str (Str.ofString "whitespace") k3, .str (Str.ofString "\n\t\r ") tw⟩, ⟨PyData.keyHash w.params (Str.ofString "pushback"), .str (Str.ofString "pushback") k4, .ref p1⟩,
    ⟨PyData.keyHash w.params (Str.ofString "read"), .str (Str.ofString "read") k5, .ref f⟩] 5
theorem c_next_pop (w : World) (mean : ExcName → Option Value) (mg mb : Str → Option Value) (rest : List (Addr × Obj)) (t : Tok) (v : Value) (lf : List Value) (hz : lf.length < 1000)
  (f cb c l : Nat) (ocb oc : Obj) (vs : Array Value) (q : Str) (tq : Tok) (dc pm ct : Value) (nl : Nat)
  (hcb : ocb.data = .fields vs) (hvs : vs[1]? = some (.str q tq)) (hoc : oc.data = .cell (some (.ref l))) (off : ∀ p ∈ rest, p.1 ≠ l) (hlc : l ≠ c) (hlb : l ≠ cb) (hlf : l ≠ f) :
  CC w mean mg mb f 2 ((f, oFn q dc pm ct cb c) :: (cb, ocb) :: (c, oc) :: (l, listOf (v :: lf).toArray nl) :: rest) [.int 1 t] (fun r n' => r = v ∧ n' = ((f, oFn q dc pm ct cb c) :: (cb, ocb) :: (c, oc) :: (l, listOf lf.toArray (nl + 1)) :: rest)) := by
  k_with_none
  k_with "call builtin:issubclass" => (k_here; k_dflt (refine' iss_str ?k1 ?k2 ?k3 ?_; (case k1 => k_asm); (case k2 => k_asm); (case k3 => k_mem); k_whole); intro h' tk' F' N'; (try k_sweep))
  k_with "call type:list" => (k_here; (with_reducible show wpAny _ _ (call (Value.type _) [Value.str _ _]) _ _ _); k_dflt (refine' list_strK ?k0 ?k1 ?k2 ?k3 ?_; (case k0 => exact rfl); (case k1 => k_asm); (case k2 => k_asm); (case k3 => (rw [sizeLine_eq]; omega)); k_whole); intro l' h' tk' its' n' hch' F' N' l1; (try k_lt l1); (try k_sweep))
  k_with "truthy ref" => (k_here; (with_reducible show wpAny _ _ (truthy (Value.ref _)) _ _ _); k_dflt (first
        | (refine' truthy_cons ?N ?m ?z ?_; (case N => k_asm); (case m => k_mem); (case z => omega); k_whole)
        | (refine' truthy_nil ?N ?m ?_; (case N => k_asm); (case m => k_mem); k_whole)))
  k_with "call builtin:list.pop" => (k_here; (with_reducible show wpAny _ _ (call (Value.builtin _) [Value.ref _, Value.int _ _]) _ _ _); k_dflt (refine' pop0 ?F ?N ?U ?z ?_; (case F => k_asm); (case N => k_asm); (case U => k_upd); (case z => omega); k_whole); intro h' F' N'; (try dsimp only [List.nil_append, List.cons_append] at N'); (try k_sweep))
  dsimp only [CC]
  k_fill
  intros
  rename_i hret
  have hC := codeHd_of_K (c := 224) (P := 220) (by assumption) (by kernel_rfl)
  k_dflt kn_enter
  (conv => pattern (execs nextBody _); arg 1; whnf)
  k_steps
  exact hret _ _ _ _ ⟨rfl, rfl⟩ (by assumption) (by assumption)
theorem c_next_end (w : World) (mean : ExcName → Option Value) (mg mb : Str → Option Value) (rest : List (Addr × Obj)) (t : Tok)
  (f cb c l : Nat) (ocb oc : Obj) (vs : Array Value) (q : Str) (tq : Tok) (dc pm ct : Value) (nl : Nat)
  (hcb : ocb.data = .fields vs) (hvs : vs[1]? = some (.str q tq)) (hoc : oc.data = .cell (some (.ref l))) (off : ∀ p ∈ rest, p.1 ≠ l) (hlc : l ≠ c) (hlb : l ≠ cb) (hlf : l ≠ f) :
  CC w mean mg mb f 2 ((f, oFn q dc pm ct cb c) :: (cb, ocb) :: (c, oc) :: (l, listOf #[] nl) :: rest) [.int 1 t] (fun r n' => ∃ t', r = .str (Str.ofString "") t' ∧ n' = ((f, oFn q dc pm ct cb c) :: (cb, ocb) :: (c, oc) :: (l, listOf #[] nl) :: rest)) := by
  k_with_none
  k_with "call builtin:issubclass" => (k_here; k_dflt (refine' iss_str ?k1 ?k2 ?k3 ?_; (case k1 => k_asm); (case k2 => k_asm); (case k3 => k_mem); k_whole); intro h' tk' F' N'; (try k_sweep))
  k_with "call type:list" => (k_here; (with_reducible show wpAny _ _ (call (Value.type _) [Value.str _ _]) _ _ _); k_dflt (refine' list_strK ?k0 ?k1 ?k2 ?k3 ?_; (case k0 => exact rfl); (case k1 => k_asm); (case k2 => k_asm); (case k3 => (rw [sizeLine_eq]; omega)); k_whole); intro l' h' tk' its' n' hch' F' N' l1; (try k_lt l1); (try k_sweep))
  k_with "truthy ref" => (k_here; (with_reducible show wpAny _ _ (truthy (Value.ref _)) _ _ _); k_dflt (first
        | (refine' truthy_cons ?N ?m ?z ?_; (case N => k_asm); (case m => k_mem); (case z => omega); k_whole)
        | (refine' truthy_nil ?N ?m ?_; (case N => k_asm); (case m => k_mem); k_whole)))
  k_with "call builtin:list.pop" => (k_here; (with_reducible show wpAny _ _ (call (Value.builtin _) [Value.ref _, Value.int _ _]) _ _ _); k_dflt (refine' pop0 ?F ?N ?U ?z ?_; (case F => k_asm); (case N => k_asm); (case U => k_upd); (case z => omega); k_whole); intro h' F' N'; (try dsimp only [List.nil_append, List.cons_append] at N'); (try k_sweep))
  dsimp only [CC]
  k_fill
  intros
  rename_i hret
  have hC := codeHd_of_K (c := 224) (P := 220) (by assumption) (by kernel_rfl)
  k_dflt kn_enter
  (conv => pattern (execs nextBody _); arg 1; whnf)
  k_steps
  exact hret _ _ _ _ ⟨_, rfl, rfl⟩ (by assumption) (by assumption)
end
section
theorem c_rc (w : World) (mean : ExcName → Option Value) (mg mb : Str → Option Value) (rest : List (Addr × Obj)) (S : Str) (t tl : Tok) (ln : Int) (lf pb : List Value) (nl np : Nat) (hz : lf.length < 1000) (f cb c l x2 d2 p2 x1 d1 p1 : Nat) (ocb oc : Obj) (vs : Array Value) (q : Str) (tq : Tok) (dc pm ct : Value) (k1 k2 k3 k4 tw j1 j2 j3 j4 j5 tj tv : Tok)
  (hcb : ocb.data = .fields vs) (hvs : vs[1]? = some (.str q tq)) (hoc : oc.data = .cell (some (.ref l)))
  (hord : c < l ∧ l < d1 ∧ d1 < x1 ∧ x1 < p1 ∧ p1 < cb ∧ cb < f ∧ f < d2 ∧ d2 < x2 ∧ x2 < p2) (offl : ∀ p ∈ rest, p.1 ≠ l) (offd : ∀ p ∈ rest, p.1 ≠ d2) (offp : ∀ p ∈ rest, p.1 ≠ p2) :
  CC w mean mg mb 42 4 ((f, oFn q dc pm ct cb c) :: (cb, ocb) :: (c, oc) :: (l, listOf (Value.str S t :: lf).toArray nl) :: (x2, instObj 59 d2) :: (d2, oD2 w k1 k2 k3 k4 ln tl x1 tw p2) :: (p2, listOf pb.toArray np) :: (x1, instObj 59 d1) :: (d1, oD1 w j1 j2 j3 j4 j5 tj tv p1 f) :: rest) [.ref x2] (fun r n' => r = .str S t ∧ ∃ ln' tl', n' = ((f, oFn q dc pm ct cb c) :: (cb, ocb) :: (c, oc) :: (l, listOf lf.toArray (nl + 1)) :: (x2, instObj 59 d2) :: (d2, oD2 w k1 k2 k3 k4 ln' tl' x1 tw p2) :: (p2, listOf pb.toArray np) :: (x1, instObj 59 d1) :: (d1, oD1 w j1 j2 j3 j4 j5 tj tv p1 f) :: rest)) := by
  k_with_none
  k_with "call builtin:issubclass" => (k_here; k_dflt (refine' iss_str ?k1 ?k2 ?k3 ?_; (case k1 => k_asm); (case k2 => k_asm); (case k3 => k_mem); k_whole); intro h' tk' F' N'; (try k_sweep))
  k_with "call type:list" => (k_here; (with_reducible show wpAny _ _ (call (Value.type _) [Value.str _ _]) _ _ _); k_dflt (refine' list_strK ?k0 ?k1 ?k2 ?k3 ?_; (case k0 => exact rfl); (case k1 => k_asm); (case k2 => k_asm); (case k3 => (rw [sizeLine_eq]; omega)); k_whole); intro l' h' tk' its' n' hch' F' N' l1; (try k_lt l1); (try k_sweep))
  k_with "truthy ref" => (k_here; (with_reducible show wpAny _ _ (truthy (Value.ref _)) _ _ _); k_dflt (first
        | (refine' truthy_cons ?N ?m ?z ?_; (case N => k_asm); (case m => k_mem); (case z => omega); k_whole)
        | (refine' truthy_nil ?N ?m ?_; (case N => k_asm); (case m => k_mem); k_whole)))
  k_with "call builtin:list.pop" => (k_here; (with_reducible show wpAny _ _ (call (Value.builtin _) [Value.ref _, Value.int _ _]) _ _ _); k_dflt (refine' pop0 ?F ?N ?U ?z ?_; (case F => k_asm); (case N => k_asm); (case U => k_upd); (case z => omega); k_whole); intro h' F' N'; (try dsimp only [List.nil_append, List.cons_append] at N'); (try k_sweep))
  dsimp only [CC]
  k_fill
  intros
  rename_i hret
  have hC := codeHd_of_K (c := 224) (P := 220) (by assumption) (by kernel_rfl)
  k_dflt k_enter
  k_steps
  all_goals exact hret _ _ _ _ ⟨rfl, _, _, rfl⟩ (by assumption) (by assumption)
theorem c_rc_end (w : World) (mean : ExcName → Option Value) (mg mb : Str → Option Value) (rest : List (Addr × Obj)) (tl : Tok) (ln : Int) (pb : List Value) (nl np : Nat) (f cb c l x2 d2 p2 x1 d1 p1 : Nat) (ocb oc : Obj) (vs : Array Value) (q : Str) (tq : Tok) (dc pm ct : Value) (k1 k2 k3 k4 tw j1 j2 j3 j4 j5 tj tv : Tok)
  (hcb : ocb.data = .fields vs) (hvs : vs[1]? = some (.str q tq)) (hoc : oc.data = .cell (some (.ref l)))
  (hord : c < l ∧ l < d1 ∧ d1 < x1 ∧ x1 < p1 ∧ p1 < cb ∧ cb < f ∧ f < d2 ∧ d2 < x2 ∧ x2 < p2) (offl : ∀ p ∈ rest, p.1 ≠ l) (offd : ∀ p ∈ rest, p.1 ≠ d2) (offp : ∀ p ∈ rest, p.1 ≠ p2) :
  CC w mean mg mb 42 4 ((f, oFn q dc pm ct cb c) :: (cb, ocb) :: (c, oc) :: (l, listOf [].toArray nl) :: (x2, instObj 59 d2) :: (d2, oD2 w k1 k2 k3 k4 ln tl x1 tw p2) :: (p2, listOf pb.toArray np) :: (x1, instObj 59 d1) :: (d1, oD1 w j1 j2 j3 j4 j5 tj tv p1 f) :: rest) [.ref x2] (fun r n' => (∃ t', r = .str (Str.ofString "") t') ∧ ∃ ln' tl', n' = ((f, oFn q dc pm ct cb c) :: (cb, ocb) :: (c, oc) :: (l, listOf [].toArray nl) :: (x2, instObj 59 d2) :: (d2, oD2 w k1 k2 k3 k4 ln' tl' x1 tw p2) :: (p2, listOf pb.toArray np) :: (x1, instObj 59 d1) :: (d1, oD1 w j1 j2 j3 j4 j5 tj tv p1 f) :: rest)) := by
  k_with_none
  k_with "call builtin:issubclass" => (k_here; k_dflt (refine' iss_str ?k1 ?k2 ?k3 ?_; (case k1 => k_asm); (case k2 => k_asm); (case k3 => k_mem); k_whole); intro h' tk' F' N'; (try k_sweep))
  k_with "call type:list" => (k_here; (with_reducible show wpAny _ _ (call (Value.type _) [Value.str _ _]) _ _ _); k_dflt (refine' list_strK ?k0 ?k1 ?k2 ?k3 ?_; (case k0 => exact rfl); (case k1 => k_asm); (case k2 => k_asm); (case k3 => (rw [sizeLine_eq]; omega)); k_whole); intro l' h' tk' its' n' hch' F' N' l1; (try k_lt l1); (try k_sweep))
  k_with "truthy ref" => (k_here; (with_reducible show wpAny _ _ (truthy (Value.ref _)) _ _ _); k_dflt (first
        | (refine' truthy_cons ?N ?m ?z ?_; (case N => k_asm); (case m => k_mem); (case z => omega); k_whole)
        | (refine' truthy_nil ?N ?m ?_; (case N => k_asm); (case m => k_mem); k_whole)))
  k_with "call builtin:list.pop" => (k_here; (with_reducible show wpAny _ _ (call (Value.builtin _) [Value.ref _, Value.int _ _]) _ _ _); k_dflt (refine' pop0 ?F ?N ?U ?z ?_; (case F => k_asm); (case N => k_asm); (case U => k_upd); (case z => omega); k_whole); intro h' F' N'; (try dsimp only [List.nil_append, List.cons_append] at N'); (try k_sweep))
  dsimp only [CC]
  k_fill
  intros
  rename_i hret
  have hC := codeHd_of_K (c := 224) (P := 220) (by assumption) (by kernel_rfl)
  k_dflt k_enter
  k_steps
  all_goals exact hret _ _ _ _ ⟨⟨_, rfl⟩, _, _, rfl⟩ (by assumption) (by assumption)
end
section
theorem c_push (w : World) (mean : ExcName → Option Value) (mg mb : Str → Option Value) (rest : List (Addr × Obj)) (v : Value) (tl : Tok) (ln : Int) (lf pb : List Value) (nl np : Nat) (hz : pb.length < 1000) (f cb c l x2 d2 p2 x1 d1 p1 : Nat) (ocb oc : Obj) (vs : Array Value) (q : Str) (tq : Tok) (dc pm ct : Value) (k1 k2 k3 k4 tw j1 j2 j3 j4 j5 tj tv : Tok)
  (hcb : ocb.data = .fields vs) (hvs : vs[1]? = some (.str q tq)) (hoc : oc.data = .cell (some (.ref l)))
  (hord : c < l ∧ l < d1 ∧ d1 < x1 ∧ x1 < p1 ∧ p1 < cb ∧ cb < f ∧ f < d2 ∧ d2 < x2 ∧ x2 < p2) (offl : ∀ p ∈ rest, p.1 ≠ l) (offd : ∀ p ∈ rest, p.1 ≠ d2) (offp : ∀ p ∈ rest, p.1 ≠ p2) :
  CC w mean mg mb 56 4 ((f, oFn q dc pm ct cb c) :: (cb, ocb) :: (c, oc) :: (l, listOf lf.toArray nl) :: (x2, instObj 59 d2) :: (d2, oD2 w k1 k2 k3 k4 ln tl x1 tw p2) :: (p2, listOf pb.toArray np) :: (x1, instObj 59 d1) :: (d1, oD1 w j1 j2 j3 j4 j5 tj tv p1 f) :: rest) [.ref x2, v] (fun r n' => r = .none ∧ n' = ((f, oFn q dc pm ct cb c) :: (cb, ocb) :: (c, oc) :: (l, listOf lf.toArray nl) :: (x2, instObj 59 d2) :: (d2, oD2 w k1 k2 k3 k4 ln tl x1 tw p2) :: (p2, listOf (pb ++ [v]).toArray (np + 1)) :: (x1, instObj 59 d1) :: (d1, oD1 w j1 j2 j3 j4 j5 tj tv p1 f) :: rest)) := by
  k_with_none
  k_with "call builtin:issubclass" => (k_here; k_dflt (refine' iss_str ?k1 ?k2 ?k3 ?_; (case k1 => k_asm); (case k2 => k_asm); (case k3 => k_mem); k_whole); intro h' tk' F' N'; (try k_sweep))
  k_with "call type:list" => (k_here; (with_reducible show wpAny _ _ (call (Value.type _) [Value.str _ _]) _ _ _); k_dflt (refine' list_strK ?k0 ?k1 ?k2 ?k3 ?_; (case k0 => exact rfl); (case k1 => k_asm); (case k2 => k_asm); (case k3 => (rw [sizeLine_eq]; omega)); k_whole); intro l' h' tk' its' n' hch' F' N' l1; (try k_lt l1); (try k_sweep))
  k_with "truthy ref" => (k_here; (with_reducible show wpAny _ _ (truthy (Value.ref _)) _ _ _); k_dflt (first
        | (refine' truthy_cons ?N ?m ?z ?_; (case N => k_asm); (case m => k_mem); (case z => omega); k_whole)
        | (refine' truthy_nil ?N ?m ?_; (case N => k_asm); (case m => k_mem); k_whole)))
  k_with "call builtin:list.pop" => (k_here; (with_reducible show wpAny _ _ (call (Value.builtin _) [Value.ref _, Value.int _ _]) _ _ _); k_dflt (refine' pop0 ?F ?N ?U ?z ?_; (case F => k_asm); (case N => k_asm); (case U => k_upd); (case z => omega); k_whole); intro h' F' N'; (try dsimp only [List.nil_append, List.cons_append] at N'); (try k_sweep))
  dsimp only [CC]
  k_fill
  intros
  rename_i hret
  have hC := codeHd_of_K (c := 224) (P := 220) (by assumption) (by kernel_rfl)
  k_dflt k_enter
  k_steps
  refine hret _ _ _ _ ⟨rfl, rfl⟩ (by assumption) (news_sub (by assumption) (fun p hp => ?_))
  simpa only [List.push_toArray] using hp
theorem c_gt_pop (w : World) (mean : ExcName → Option Value) (mg mb : Str → Option Value) (rest : List (Addr × Obj)) (v : Value) (tl : Tok) (ln : Int) (lf pb : List Value) (nl np : Nat) (hz : pb.length < 1000) (f cb c l x2 d2 p2 x1 d1 p1 : Nat) (ocb oc : Obj) (vs : Array Value) (q : Str) (tq : Tok) (dc pm ct : Value) (k1 k2 k3 k4 tw j1 j2 j3 j4 j5 tj tv : Tok)
  (hcb : ocb.data = .fields vs) (hvs : vs[1]? = some (.str q tq)) (hoc : oc.data = .cell (some (.ref l)))
  (hord : c < l ∧ l < d1 ∧ d1 < x1 ∧ x1 < p1 ∧ p1 < cb ∧ cb < f ∧ f < d2 ∧ d2 < x2 ∧ x2 < p2) (offl : ∀ p ∈ rest, p.1 ≠ l) (offd : ∀ p ∈ rest, p.1 ≠ d2) (offp : ∀ p ∈ rest, p.1 ≠ p2) :
  CC w mean mg mb 49 4 ((f, oFn q dc pm ct cb c) :: (cb, ocb) :: (c, oc) :: (l, listOf lf.toArray nl) :: (x2, instObj 59 d2) :: (d2, oD2 w k1 k2 k3 k4 ln tl x1 tw p2) :: (p2, listOf (v :: pb).toArray np) :: (x1, instObj 59 d1) :: (d1, oD1 w j1 j2 j3 j4 j5 tj tv p1 f) :: rest) [.ref x2] (fun r n' => r = v ∧ n' = ((f, oFn q dc pm ct cb c) :: (cb, ocb) :: (c, oc) :: (l, listOf lf.toArray nl) :: (x2, instObj 59 d2) :: (d2, oD2 w k1 k2 k3 k4 ln tl x1 tw p2) :: (p2, listOf pb.toArray (np + 1)) :: (x1, instObj 59 d1) :: (d1, oD1 w j1 j2 j3 j4 j5 tj tv p1 f) :: rest)) := by
  k_with_none
  k_with "call builtin:issubclass" => (k_here; k_dflt (refine' iss_str ?k1 ?k2 ?k3 ?_; (case k1 => k_asm); (case k2 => k_asm); (case k3 => k_mem); k_whole); intro h' tk' F' N'; (try k_sweep))
  k_with "call type:list" => (k_here; (with_reducible show wpAny _ _ (call (Value.type _) [Value.str _ _]) _ _ _); k_dflt (refine' list_strK ?k0 ?k1 ?k2 ?k3 ?_; (case k0 => exact rfl); (case k1 => k_asm); (case k2 => k_asm); (case k3 => (rw [sizeLine_eq]; omega)); k_whole); intro l' h' tk' its' n' hch' F' N' l1; (try k_lt l1); (try k_sweep))
  k_with "truthy ref" => (k_here; (with_reducible show wpAny _ _ (truthy (Value.ref _)) _ _ _); k_dflt (first
        | (refine' truthy_cons ?N ?m ?z ?_; (case N => k_asm); (case m => k_mem); (case z => omega); k_whole)
        | (refine' truthy_nil ?N ?m ?_; (case N => k_asm); (case m => k_mem); k_whole)))
  k_with "call builtin:list.pop" => (k_here; (with_reducible show wpAny _ _ (call (Value.builtin _) [Value.ref _, Value.int _ _]) _ _ _); k_dflt (refine' pop0 ?F ?N ?U ?z ?_; (case F => k_asm); (case N => k_asm); (case U => k_upd); (case z => omega); k_whole); intro h' F' N'; (try dsimp only [List.nil_append, List.cons_append] at N'); (try k_sweep))
  dsimp only [CC]
  k_fill
  intros
  rename_i hret
  have hC := codeHd_of_K (c := 224) (P := 220) (by assumption) (by kernel_rfl)
  k_dflt k_enter
  k_steps
  exact hret _ _ _ _ ⟨rfl, rfl⟩ (by assumption) (news_sub (by assumption) (fun p hp => by simp [hp]))
end
section
section
open PySem.Calls
variable {prog : Program} {w : World} {A : Around} {E : Value → Shared → Prop} {s : Shared} {h₀ : Heap} {L : Addr} {m : Str → Option Value} {news news' : List (Addr × Obj)}
theorem slot_ci_next : Slot "callable_iterator" (Str.ofString "__next__") "callable_iterator.__next__" :=
  .of (owner := "callable_iterator") (n := "__next__") (by rw [typeLookup_type, builtinLookup_eq_fast]; kernel_rfl) (by decide +kernel) (by decide +kernel) (by decide +kernel)
    (by first | exact .inl (by decide +kernel) | exact .inr (by decide +kernel)) (by rw [isSubtype_type]; kernel_rfl)
theorem entry_ci_next : entryFor table "callable_iterator.__next__" = some Builtin.«callable_iterator.__next__» := entryFor_of_tree (by kernel_rfl)
theorem args_ci_next (a : Value) : argsOk "callable_iterator.__next__" ⟨[a], []⟩ := by unfold argsOk; kernel_rfl
theorem args_iter2 (a b : Value) : argsOk "iter" ⟨[a, b], []⟩ := by unfold argsOk; kernel_rfl
theorem look_method_call : typeLookup (.type "method") (Str.ofString "__call__") = pure (some (.builtin "method.__call__")) := by rw [typeLookup_type, builtinLookup_eq_fast]; kernel_rfl
abbrev ciObj (q : Addr) (S : Str) (t : Tok) : Obj := { cls := .type "callable_iterator", data := .fields #[.ref q, .str S t, .bool false] }
theorem iter2 {q : Addr} {fn self : Value} {S : Str} {t : Tok} {Q : Value → Shared → Prop} (F : Fr h₀ L s.heap m) (N : News h₀ L s.heap news) (hm : (q, methodObj fn self) ∈ news)
    (h : ∀ it h', Fr h₀ L h' m → News h₀ L h' ((it, ciObj q S t) :: news) → (∀ p ∈ news, p.1 < it) → Q (.ref it) { s with heap := h' }) :
    wpAny (model prog w) A (call (.builtin "iter") [.ref q, .str S t]) Q E s := by
  refine call_function_entry (by decide +kernel) (by decide +kernel) kdk_entry_iter (args_iter2 _ _) ?_
  unfold Builtin.«iter»
  refine wpAny_bind (m := someArgs "iter" 1 2 _) (wpAny_of_eq (a := [Value.ref q, .str S t]) (by first | rfl | kernel_rfl!) ?_)

  refine wpAny_bind (wpAny_specialOf (T := "method") (v := .ref q) ⟨_, N.get hm, rfl⟩ look_method_call ?_)
  refine wpAny_bind (wpAny_rule (wpAny_bind ?_))
  unfold newFields
  refine wpAny_newObj_type ?_ (by size_fits)
  exact wpAny_pure ⟨_, rfl, h _ _ (F.push _) (News.push F N _ rfl) (fun p hp => Heap.lt_size (N p hp).1)⟩
end
section
open PySem.Calls
variable {prog : Program} {w : World} {A : Around} {E : Value → Shared → Prop} {s : Shared}
theorem borrows_meth {q fn : Addr} {self : Value} {of : Obj} {fd : FuncData} {Q : Bool → Shared → Prop} (hq : s.heap.get? q = some (methodObj (.ref fn) self)) (hf : s.heap.get? fn = some of) (hd : of.data = .func fd)
    (h : Q true s) : wpAny (model prog w) A (borrowsExactly (.ref q)) Q E s := by
  unfold borrowsExactly
  refine wpAny_bind (wpAny_load hq ?_)
  show wpAny _ _ (load fn >>= _) _ _ _
  refine wpAny_bind (wpAny_load hf ?_)
  rw [hd]
  exact wpAny_pure h
theorem ci_item {it q fn : Addr} {self : Value} {S0 : Str} {t0 : Tok} {of : Obj} {fd : FuncData} {Q : Option Value → Shared → Prop}
    (hi : s.heap.get? it = some (ciObj q S0 t0)) (hq : s.heap.get? q = some (methodObj (.ref fn) self)) (hf : s.heap.get? fn = some of) (hd : of.data = .func fd)
    (hc : codeAny (model prog w) (A.in1.mark none) (.call (.ref fn) ⟨[self], []⟩) (fun r s₁ => ∃ S t, r = .ok (.ret (.str S t)) ∧ S0 ≠ S ∧ s₁.heap.get? it = some (ciObj q S0 t0) ∧ Q (some (.str S t)) s₁) s) :
    wpAny (model prog w) A (pyNext (.ref it)) Q E s := by
  unfold pyNext
  refine wpAny_bind (wpAny_attempt (wpAny_callSpecial?_slot (name := Str.ofString "__next__") ⟨_, hi, rfl⟩ slot_ci_next
    (wpAny_call_entry slot_ci_next ⟨_, hi, rfl⟩ entry_ci_next ?_ (args_ci_next _))))
  show wpAny _ _ (field (.ref it) 2 >>= _) _ _ s
  refine wpAny_bind (wpAny_field hi rfl (x := .bool false) rfl ?_)
  show wpAny _ _ (if (Value.bool false == Value.bool true) = true then _ else _) _ _ s
  rw [if_neg (show ¬ ((Value.bool false == Value.bool true) = true) from Bool.false_ne_true)]
  show wpAny _ _ (field (.ref it) 0 >>= _) _ _ s
  refine wpAny_bind (wpAny_field hi rfl (x := .ref q) rfl ?_)
  refine wpAny_bind (wpAny_attempt ?_)
  unfold callOutOfASlot
  refine wpAny_bind (borrows_meth hq hf hd ?_)
  show wpAny _ _ (callBorrowed (.ref q) []) _ _ s
  unfold callBorrowed
  refine x_call (method_call hq ?_) (fun e => nomatch e)
  refine codeAny_mono hc fun r s₁ hr => ?_
  obtain ⟨S, t, rfl, hne, hi', hQ⟩ := hr
  refine wpAny_pure ?_
  show wpAny _ _ (field (.ref it) 2 >>= _) _ _ s₁
  refine wpAny_bind (wpAny_field hi' rfl (x := .bool false) rfl ?_)
  show wpAny _ _ (if (Value.bool false == Value.bool true) = true then _ else _) _ _ s₁
  rw [if_neg (show ¬ ((Value.bool false == Value.bool true) = true) from Bool.false_ne_true)]
  show wpAny _ _ (field (.ref it) 1 >>= _) _ _ s₁
  refine wpAny_bind (wpAny_field hi' rfl (x := .str S0 t0) rfl ?_)
  refine wpAny_bind (wpAny_holding (wpAny_eqBool_str ?_))
  rw [decide_eq_false hne]
  exact wpAny_pure ⟨_, rfl, wpAny_pure hQ⟩
theorem ci_end {it q fn : Addr} {self : Value} {S0 : Str} {t0 : Tok} {of : Obj} {fd : FuncData} {Q : Option Value → Shared → Prop} (hh : A.handled = none)
    (hi : s.heap.get? it = some (ciObj q S0 t0)) (hq : s.heap.get? q = some (methodObj (.ref fn) self)) (hf : s.heap.get? fn = some of) (hd : of.data = .func fd)
    (hc : codeAny (model prog w) (A.in1.mark none) (.call (.ref fn) ⟨[self], []⟩) (fun r s₁ => ∃ t, r = .ok (.ret (.str S0 t)) ∧ s₁.heap.get? it = some (ciObj q S0 t0) ∧ s₁.heap.get? q = some (methodObj (.ref fn) self) ∧ s₁.heap.get? fn = some of ∧
      ∀ h', (∀ b o, b ≠ it → s₁.heap.get? b = some o → h'.get? b = some o) → Q none { s₁ with heap := h' }) s) :
    wpAny (model prog w) A (pyNext (.ref it)) Q E s := by
  unfold pyNext
  refine wpAny_bind (wpAny_attempt (wpAny_callSpecial?_slot (name := Str.ofString "__next__") ⟨_, hi, rfl⟩ slot_ci_next
    (wpAny_call_entry slot_ci_next ⟨_, hi, rfl⟩ entry_ci_next ?_ (args_ci_next _))))
  show wpAny _ _ (field (.ref it) 2 >>= _) _ _ s
  refine wpAny_bind (wpAny_field hi rfl (x := .bool false) rfl ?_)
  show wpAny _ _ (if (Value.bool false == Value.bool true) = true then _ else _) _ _ s
  rw [if_neg (show ¬ ((Value.bool false == Value.bool true) = true) from Bool.false_ne_true)]
  show wpAny _ _ (field (.ref it) 0 >>= _) _ _ s
  refine wpAny_bind (wpAny_field hi rfl (x := .ref q) rfl ?_)
  refine wpAny_bind (wpAny_attempt ?_)
  unfold callOutOfASlot
  refine wpAny_bind (borrows_meth hq hf hd ?_)
  show wpAny _ _ (callBorrowed (.ref q) []) _ _ s
  unfold callBorrowed
  refine x_call (method_call hq ?_) (fun e => nomatch e)
  refine codeAny_mono hc fun r s₁ hr => ?_
  obtain ⟨t, rfl, hi', hq', hf', hQ⟩ := hr
  refine wpAny_pure ?_
  show wpAny _ _ (field (.ref it) 2 >>= _) _ _ s₁
  refine wpAny_bind (wpAny_field hi' rfl (x := .bool false) rfl ?_)
  show wpAny _ _ (if (Value.bool false == Value.bool true) = true then _ else _) _ _ s₁
  rw [if_neg (show ¬ ((Value.bool false == Value.bool true) = true) from Bool.false_ne_true)]
  show wpAny _ _ (field (.ref it) 1 >>= _) _ _ s₁
  refine wpAny_bind (wpAny_field hi' rfl (x := .str S0 t0) rfl ?_)
  refine wpAny_bind (wpAny_holding (wpAny_eqBool_str ?_))
  rw [decide_eq_true rfl]
  rw [if_neg (show ¬ ((!true) = true) from Bool.false_ne_true)]
  refine wpAny_bind (wpAny_rule ?_)
  refine wpAny_bind ?_
  wp_delta
  refine wpAny_bind (wpAny_field hi' rfl (x := .ref q) rfl ?_)
  refine wpAny_bind ?_
  unfold slotLetsGo
  refine wpAny_bind (borrows_meth hq' hf' hd ?_)
  refine wpAny_pure ?_
  refine wpAny_bind (wpAny_setField hi' rfl (by simp) ?_)
  have e1 := Heap.get?_update_self (Obj.mapFields (·.setIfInBounds 0 .none)) hi' rfl
  refine wpAny_bind (wpAny_setField e1 rfl (by simp) ?_)
  have e2 := Heap.get?_update_self (Obj.mapFields (·.setIfInBounds 1 .none)) e1 rfl
  refine wpAny_setField e2 rfl (by simp) ?_
  show wpAny _ _ (newExc (.type "StopIteration") [] >>= _) _ _ _
  refine wpAny_bind ?_
  simp only [newExc, newTuple]
  refine wpAny_bind (wpAny_newObj_type ?_ (by size_fits))
  refine wpAny_bind (m := firstArgMember _ _) (wpAny_of_eq (a := Value.none) (by first | rfl | (simp only [firstArgMember]; rfl)) ?_)
  refine wpAny_newObj_type ?_ (by size_fits)
  simp only [raiseNew]
  refine wpAny_bind (wpAny_handled ?_)
  rw [show A.in1.handled = none from hh]
  refine wpAny_bind (wpAny_pure (wpAny_throw ?_))
  refine wpAny_bind (wpAny_isInstance (T := "StopIteration") (b := true) ⟨_, Heap.get?_push_size _ rfl, rfl⟩ isSubtype_stop ?_)
  refine wpAny_pure (hQ _ fun b o hb e => ?_)
  refine Heap.get?_push_of_some _ (Heap.get?_push_of_some _ ?_)
  exact (Heap.get?_update_other _ _ (Ne.symm hb)).trans ((Heap.get?_update_other _ _ (Ne.symm hb)).trans ((Heap.get?_update_other _ _ (Ne.symm hb)).trans e))
end
end
section
section
open PySem.Calls
variable {prog : Program} {w : World} {A : Around} {E : Value → Shared → Prop} {s : Shared}
theorem slot_ci_iter : Slot "callable_iterator" (Str.ofString "__iter__") "callable_iterator.__iter__" :=
  .of (owner := "callable_iterator") (n := "__iter__") (by rw [typeLookup_type, builtinLookup_eq_fast]; kernel_rfl) (by decide +kernel) (by decide +kernel) (by decide +kernel)
    (by first | exact .inl (by decide +kernel) | exact .inr (by decide +kernel)) (by rw [isSubtype_type]; kernel_rfl)
theorem entry_ci_iter : entryFor table "callable_iterator.__iter__" = some Builtin.«dict_keyiterator.__iter__» := entryFor_alias (id' := "dict_keyiterator.__iter__") (by kernel_rfl) rfl (by decide +kernel) (by kernel_rfl)
theorem args_ci_iter (a : Value) : argsOk "callable_iterator.__iter__" ⟨[a], []⟩ := by unfold argsOk; kernel_rfl
theorem ci_iter {it q : Addr} {S : Str} {t : Tok} {Q : Value → Shared → Prop} (hi : s.heap.get? it = some (ciObj q S t)) (h : Q (.ref it) s) : wpAny (model prog w) A (pyIter (.ref it)) Q E s := by
  have hT : s.TypeIs (.ref it) "callable_iterator" := ⟨_, hi, rfl⟩
  refine wpAny_pyIter_slot hT slot_ci_iter (wpAny_call_entry slot_ci_iter hT entry_ci_iter ?_ (args_ci_iter _))
  show wpAny _ _ (ret (.ref it)) _ _ s
  exact wpAny_pure ⟨_, rfl, "callable_iterator", _, hT, slot_ci_next.lookup, h⟩
theorem for_any {x : Str} {px : Pos} {iter : Expr} {body : List Stmt} {env : Env} {pos : Pos} {it : Value} {Q : Flow → Shared → Prop} (I : Nat → Shared → Prop) (n : Nat)
    (start : wpAny (model prog w) A (eval iter env) (fun xv s₁ => wpAny (model prog w) A (pyIter xv) (fun i s₂ => i = it ∧ I n s₂) E s₁) E s)
    (turn : ∀ n s, I n s → wpAny (model prog w) A (pyNext it) (fun r s₁ => match r with
      | none => Q .next s₁
      | some v => wpAny (model prog w) A (storeName env x v) (fun _ s₂ => wpAny (model prog w) A (execs body env) (fun f s₃ => match f with
          | .ret v => Q (.ret v) s₃
          | .brk => Q .next s₃
          | _ => ∃ m, m < n ∧ I m s₃) E s₂) E s₁) E s)
    (hs : ∀ x, foldedSetIterable iter env x = pure x := by intro _; rfl)
    (hE : PassesOwn (model prog w) A env E := by passes_own) :
    wpAny (model prog w) A (exec (.For (.Name x px) iter body [] pos) env) Q E s := by
  refine wpAny_For (wpAny_mono start (fun xv s₁ h₁ => wpAny_mono h₁ (fun i s₂ h₂ => ?_) fun _ _ e => e) fun _ _ e => e) hs
  obtain ⟨rfl, h₂⟩ := h₂
  refine codeAny_forLoop_any I (fun n s hI => ?_) n h₂
  refine wpAny_mono (turn n s hI) (fun r s₁ h₁ => ?_) hE
  cases r with
  | none => exact wpAny_execs_nil h₁
  | some v =>
    refine wpAny_pure (wpAny_assign_Name (wpAny_mono h₁ (fun _ s₂ h₂ => wpAny_passesOwn hE (wpAny_mono h₂ (fun f s₃ h₃ => ?_) fun _ _ e => e)) hE))
    cases f with
    | ret v => exact h₃
    | brk => exact h₃
    | next => exact h₃
    | cont => exact h₃
end
end
section
section
variable {prog : Program} {w : World} {A : Around} {E : Value → Shared → Prop} {s : Shared}
/-- a for that leaves in its first turn, or whose iterator is at its end at once -/
theorem for_first {x : Str} {px : Pos} {iter : Expr} {body : List Stmt} {env : Env} {pos : Pos} {Q : Flow → Shared → Prop}
    (h : wpAny (model prog w) A (eval iter env) (fun xv s₁ => wpAny (model prog w) A (pyIter xv) (fun it s₂ => wpAny (model prog w) A (pyNext it) (fun r s₃ => match r with
      | none => Q .next s₃
      | some v => wpAny (model prog w) A (storeName env x v) (fun _ s₄ => wpAny (model prog w) A (execs body env) (fun f s₅ => match f with
          | .ret v => Q (.ret v) s₅
          | .brk => Q .next s₅
          | _ => False) E s₄) E s₃) E s₂) E s₁) E s)
    (hs : ∀ x, foldedSetIterable iter env x = pure x := by intro _; rfl)
    (hE : PassesOwn (model prog w) A env E := by passes_own) :
    wpAny (model prog w) A (exec (.For (.Name x px) iter body [] pos) env) Q E s := by
  refine wpAny_For (wpAny_mono h (fun xv s₁ h₁ => wpAny_mono h₁ (fun i s₂ h₂ => ?_) fun _ _ e => e) fun _ _ e => e) hs
  refine codeAny_forLoop_any (fun n s' => n = 1 ∧ s' = s₂) (fun n s' hI => ?_) 1 ⟨rfl, rfl⟩
  obtain ⟨_, rfl⟩ := hI
  refine wpAny_mono h₂ (fun r s₁ h₁ => ?_) hE
  cases r with
  | none => exact wpAny_execs_nil h₁
  | some v =>
    refine wpAny_pure (wpAny_assign_Name (wpAny_mono h₁ (fun _ s₂ h₂ => wpAny_passesOwn hE (wpAny_mono h₂ (fun f s₃ h₃ => ?_) fun _ _ e => e)) hE))
    cases f with
    | ret v => exact h₃
    | brk => exact h₃
    | next => exact h₃.elim
    | cont => exact h₃.elim
end
section
variable {w : World} {mean : ExcName → Option Value} {mg mb : Str → Option Value} {rest : List (Addr × Obj)} {E : Value → Shared → Prop} {s : Shared}
  {dp un : Nat} {gd : Option (List Code)} {cn : Str} {nm : List (Str × NameKind)} {ig ic : Bool} {mr : List (Str × Const)} {a : Addr} {ccd : Value} {cl : List (Str × Addr)} {outer : List Env} {A₀ : Around} {base h₀ : Heap} {L : Addr} {m : Str → Option Value}
theorem K42 (X : (Mine.hd.heap_39 w.params).In h₀) : ∃ o fd, h₀.get? 42 = some o ∧ o.data = .func fd := by
  have e : (match (Mine.hd.heap_39 w.params).lookup 42 with | some o => (match o.data with | .func _ => true | _ => false) | none => false) = true := by kernel_rfl
  split at e
  · rename_i o ho
    split at e
    · rename_i fd hd
      exact ⟨o, fd, X _ _ ho, hd⟩
    · cases e
  · cases e
theorem pn_item {it q0 : Nat} {t0 : Tok} {S : Str} {t tl : Tok} {ln : Int} {lf pb : List Value} {nl np : Nat} {Q : Option Value → Shared → Prop}
    {f cb c l x2 d2 p2 x1 d1 p1 : Nat} {ocb oc : Obj} {vs : Array Value} {q : Str} {tq : Tok} {dc pm ct : Value} {k1 k2 k3 k4 tw j1 j2 j3 j4 j5 tj tv : Tok}
  (hcb : ocb.data = .fields vs) (hvs : vs[1]? = some (.str q tq)) (hoc : oc.data = .cell (some (.ref l)))
  (hord : c < l ∧ l < d1 ∧ d1 < x1 ∧ x1 < p1 ∧ p1 < cb ∧ cb < f ∧ f < d2 ∧ d2 < x2 ∧ x2 < p2) (offl : ∀ p ∈ rest, p.1 ≠ l) (offd : ∀ p ∈ rest, p.1 ≠ d2) (offp : ∀ p ∈ rest, p.1 ≠ p2)
    (B : Below A₀ base outer h₀) (F : Fr h₀ L s.heap m) (X : (Mine.hd.heap_39 w.params).In h₀) (T : Top topProg LOOSE mean mg mb h₀) (hd : dp + 4 < recursionLimit) (hu : un + 140 < cLine) (hz : lf.length < 1000) (hS : Str.ofString "" ≠ S)
    (hoff : l < q0 ∧ q0 < it ∧ p2 < q0)
    (N : News h₀ L s.heap ((it, ciObj q0 (Str.ofString "") t0) :: (q0, methodObj (.ref 42) (.ref x2)) :: ((f, oFn q dc pm ct cb c) :: (cb, ocb) :: (c, oc) :: (l, listOf (Value.str S t :: lf).toArray nl) :: (x2, instObj 59 d2) :: (d2, oD2 w k1 k2 k3 k4 ln tl x1 tw p2) :: (p2, listOf pb.toArray np) :: (x1, instObj 59 d1) :: (d1, oD1 w j1 j2 j3 j4 j5 tj tv p1 f) :: rest)))
    (h : ∀ h' tk' ln' tl', Fr h₀ L h' m → News h₀ L h' ((it, ciObj q0 (Str.ofString "") t0) :: (q0, methodObj (.ref 42) (.ref x2)) :: ((f, oFn q dc pm ct cb c) :: (cb, ocb) :: (c, oc) :: (l, listOf lf.toArray (nl + 1)) :: (x2, instObj 59 d2) :: (d2, oD2 w k1 k2 k3 k4 ln' tl' x1 tw p2) :: (p2, listOf pb.toArray np) :: (x1, instObj 59 d1) :: (d1, oD1 w j1 j2 j3 j4 j5 tj tv p1 f) :: rest)) → Q (some (.str S t)) { s with heap := h', toks := tk' }) :
    wpAny (model PySem.Challenge.rw_un0033_01.prog w) (ktrTop dp un gd cn ⟨.function, nm, ig, ic, mr⟩ L a ccd cl outer) (pyNext (.ref it)) Q E s := by
  obtain ⟨o, fd, e1, e2⟩ := K42 X
  refine ci_item (N.get (List.Mem.head _)) (N.get (List.Mem.tail _ (List.Mem.head _))) (F.keep _ _ e1) e2 ?_
  refine c_rc w mean mg mb ((it, ciObj q0 (Str.ofString "") t0) :: (q0, methodObj (.ref 42) (.ref x2)) :: rest) S t tl ln lf pb nl np hz f cb c l x2 d2 p2 x1 d1 p1 ocb oc vs q tq dc pm ct k1 k2 k3 k4 tw j1 j2 j3 j4 j5 tj tv hcb hvs hoc hord
    ?_ ?_ ?_ dp (un + 1) gd cn nm ig ic mr a ccd cl outer A₀ base h₀ L m s _ B F X ?_ T hd (by omega) ?_
  · exact List.forall_mem_cons.mpr ⟨neN (by omega), List.forall_mem_cons.mpr ⟨neN (by omega), offl⟩⟩
  · exact List.forall_mem_cons.mpr ⟨neN (by omega), List.forall_mem_cons.mpr ⟨neN (by omega), offd⟩⟩
  · exact List.forall_mem_cons.mpr ⟨neN (by omega), List.forall_mem_cons.mpr ⟨neN (by omega), offp⟩⟩
  · refine news_sub N fun p hp => ?_
    simp only [List.mem_cons] at hp ⊢
    rcases hp with h1 | h1 | h1 | h1 | h1 | h1 | h1 | h1 | h1 | h1 | h1 | h1 <;> simp [h1]
  · rintro v h' tk' news' ⟨rfl, ln', tl', rfl⟩ F' N'
    have N2 : News h₀ L h' ((it, ciObj q0 (Str.ofString "") t0) :: (q0, methodObj (.ref 42) (.ref x2)) :: ((f, oFn q dc pm ct cb c) :: (cb, ocb) :: (c, oc) :: (l, listOf lf.toArray (nl + 1)) :: (x2, instObj 59 d2) :: (d2, oD2 w k1 k2 k3 k4 ln' tl' x1 tw p2) :: (p2, listOf pb.toArray np) :: (x1, instObj 59 d1) :: (d1, oD1 w j1 j2 j3 j4 j5 tj tv p1 f) :: rest)) := by
      refine news_sub N' fun p hp => ?_
      simp only [List.mem_cons] at hp ⊢
      rcases hp with h1 | h1 | h1 | h1 | h1 | h1 | h1 | h1 | h1 | h1 | h1 | h1 <;> simp [h1]
    exact ⟨S, t, rfl, hS, N2.get (List.Mem.head _), h _ _ _ _ F' N2⟩
end
end
section
def kidOf (st : Stmt) (i : Nat) : Stmt := match st with
  | .FunctionDef _ _ b .. => b.getD i (.Pass default)
  | .ClassDef (body := b) .. => b.getD i (.Pass default)
  | .For _ _ b _ _ => b.getD i (.Pass default)
  | .If _ b _ _ => b.getD i (.Pass default)
  | .While _ b _ _ => b.getD i (.Pass default)
  | _ => .Pass default
def elseOf (st : Stmt) (i : Nat) : Stmt := match st with | .If _ _ b _ => b.getD i (.Pass default) | _ => .Pass default
def bodyOf (st : Stmt) : List Stmt := match st with | .FunctionDef _ _ b .. => b | .For _ _ b _ _ => b | .While _ b _ _ => b | _ => []
def scopeOf (st : Stmt) : Scope := match st with | .FunctionDef (scope := sc) .. => sc | _ => default
def topSt (i : Nat) : Stmt := PySem.Challenge.rw_un0033_01.prog.main.body.getD i (.Pass default)
def gtDef : Stmt := kidOf (topSt 2) 2
def gtOuter : Stmt := kidOf gtDef 3
def gtInner : Stmt := elseOf (kidOf gtOuter 1) 2
abbrev wsT : Str := Str.ofString "\n\t\r "
/-- a sign that a token may bear -/
structure GoodS (S : Str) : Prop where
  ne : Str.ofString "" ≠ S
  qu : (S == Str.ofString "\"") = false
  bs : (S == Str.ofString "\\") = false
  ws : (Builtin.Str.occurrences wsT S 0 (Str.length wsT) 1).isEmpty = true
  len : S.length = 1
structure WsS (S : Str) : Prop where
  ne : Str.ofString "" ≠ S
  ws : (Builtin.Str.occurrences wsT S 0 (Str.length wsT) 1).isEmpty = false
  len : S.length = 1
theorem fr_eq {h₀ h : Heap} {L : Addr} {m m' : Str → Option Value} (F : Fr h₀ L h m) (e : ∀ y, m y = m' y) : Fr h₀ L h m' := (funext e : m = m') ▸ F
def strsV (l : List (Str × Tok)) : List Value := l.map fun p => Value.str p.1 p.2
theorem strsV_len (l : List (Str × Tok)) : (strsV l).length = l.length := List.length_map _
def tokT (T : Str) (l : List (Str × Tok)) : Str := l.foldl (fun T p => T ++ p.1) T
abbrev gtMap (vch : Value) (T : Str) (tT : Tok) (it x2 : Addr) (m0 : Str → Option Value) : Str → Option Value := fun y =>
  if y = Str.ofString "ch" then some vch else if y = Str.ofString "token" then some (.str T tT) else if y = Str.ofString "fiter" then some (.ref it) else if y = Str.ofString "self" then some (.ref x2) else m0 y
/-- an end that the walk is to leave as it is -/
def KeepIt (P : Prop) : Prop := P
theorem ne_ch_token : Str.ofString "ch" ≠ Str.ofString "token" := by decide +kernel
theorem gt_map_eq {m1 m0 : Str → Option Value} {vch v0 : Value} {T T0 : Str} {tT tT0 : Tok} {it x2 : Addr} (h1 : m1 (Str.ofString "token") = some (.str T tT)) (h2 : m1 (Str.ofString "ch") = some vch)
    (h3 : ∀ y, y ≠ Str.ofString "token" → y ≠ Str.ofString "ch" → m1 y = gtMap v0 T0 tT0 it x2 m0 y) : ∀ y, m1 y = gtMap vch T tT it x2 m0 y := by
  intro y
  by_cases a : y = Str.ofString "ch"
  · subst a; rw [h2]; simp [gtMap]
  · by_cases b : y = Str.ofString "token"
    · subst b; rw [h1]; simp [gtMap, Ne.symm ne_ch_token]
    · rw [h3 y b a]; simp [gtMap, a, b]
end
section
theorem gt_turn (w : World) (mean : ExcName → Option Value) (mg mb : Str → Option Value) (rest : List (Addr × Obj)) {dp un : Nat} {gd : Option (List Code)} {cn : Str} {nm : List (Str × NameKind)} {ig ic : Bool} {mr : List (Str × Const)} {a : Addr} {ccd : Value} {cl : List (Str × Addr)} {outer : List Env} {A₀ : Around} {base h₀ : Heap} {L : Addr} {m0 : Str → Option Value}
    {it q0 L1 : Nat} {t0 : Tok} {S T0 : Str} {t tl tT : Tok} {ln : Int} {lf pb : List Value} {nl np : Nat} {Q : Flow → Shared → Prop} {E : Value → Shared → Prop} {s : Shared} {vch : Value}
    {f cb c l x2 d2 p2 x1 d1 p1 : Nat} {ocb oc : Obj} {vs : Array Value} {q : Str} {tq : Tok} {dc pm ct : Value} {k1 k2 k3 k4 tw j1 j2 j3 j4 j5 tj tv : Tok}
  (hcb : ocb.data = .fields vs) (hvs : vs[1]? = some (.str q tq)) (hoc : oc.data = .cell (some (.ref l)))
  (hord : c < l ∧ l < d1 ∧ d1 < x1 ∧ x1 < p1 ∧ p1 < cb ∧ cb < f ∧ f < d2 ∧ d2 < x2 ∧ x2 < p2) (offl : ∀ p ∈ rest, p.1 ≠ l) (offd : ∀ p ∈ rest, p.1 ≠ d2) (offp : ∀ p ∈ rest, p.1 ≠ p2)
    (env : Env) (henv : env = envOf (Str.ofString "_netrclex.get_token") (scopeOf gtDef) L 49 (.ref 48))
    (hE : PassesOwn (model PySem.Challenge.rw_un0033_01.prog w) ((ktrTop dp un gd cn ⟨.function, nm, ig, ic, mr⟩ L1 a ccd cl outer).deeper env) env E)
    (B : Below A₀ base (envX cn ⟨.function, nm, ig, ic, mr⟩ L1 a ccd cl :: outer) h₀) (X : (Mine.hd.heap_39 w.params).In h₀) (T : Top topProg LOOSE mean mg mb h₀) (hd : dp + 8 < recursionLimit) (hu : un + 160 < cLine) (hz : lf.length < 1000)
    (hoff : l < q0 ∧ q0 < it ∧ p2 < q0) (g1 : Str.ofString "" ≠ S) (g2 : (S == Str.ofString "\"") = false) (g3 : (S == Str.ofString "\\") = false) (g4 : (Builtin.Str.occurrences wsT S 0 (Str.length wsT) 1).isEmpty = true) (g5 : S.length = 1) (hT0 : T0.length < 500)
    (F : Fr h₀ L s.heap (gtMap vch T0 tT it x2 m0))
    (N : News h₀ L s.heap ((it, ciObj q0 (Str.ofString "") t0) :: (q0, methodObj (.ref 42) (.ref x2)) :: ((f, oFn q dc pm ct cb c) :: (cb, ocb) :: (c, oc) :: (l, listOf (Value.str S t :: lf).toArray nl) :: (x2, instObj 59 d2) :: (d2, oD2 w k1 k2 k3 k4 ln tl x1 tw p2) :: (p2, listOf pb.toArray np) :: (x1, instObj 59 d1) :: (d1, oD1 w j1 j2 j3 j4 j5 tj tv p1 f) :: rest))) :
    wpAny (model PySem.Challenge.rw_un0033_01.prog w) ((ktrTop dp un gd cn ⟨.function, nm, ig, ic, mr⟩ L1 a ccd cl outer).deeper env) (pyNext (.ref it)) (fun r s₁ => match r with
      | none => Q .next s₁
      | some v => wpAny (model PySem.Challenge.rw_un0033_01.prog w) ((ktrTop dp un gd cn ⟨.function, nm, ig, ic, mr⟩ L1 a ccd cl outer).deeper env) (storeName env (Str.ofString "ch") v) (fun _ s₂ => wpAny (model PySem.Challenge.rw_un0033_01.prog w) ((ktrTop dp un gd cn ⟨.function, nm, ig, ic, mr⟩ L1 a ccd cl outer).deeper env) (execs (bodyOf gtInner) env) (fun fl s₃ => match fl with
          | .ret v => Q (.ret v) s₃
          | .brk => Q .next s₃
          | _ => KeepIt (∃ h' tk' ln' tl' tT', s₃ = { s with heap := h', toks := tk' } ∧ Fr h₀ L h' (gtMap (.str S t) (T0 ++ S) tT' it x2 m0) ∧ News h₀ L h' ((it, ciObj q0 (Str.ofString "") t0) :: (q0, methodObj (.ref 42) (.ref x2)) :: ((f, oFn q dc pm ct cb c) :: (cb, ocb) :: (c, oc) :: (l, listOf lf.toArray (nl + 1)) :: (x2, instObj 59 d2) :: (d2, oD2 w k1 k2 k3 k4 ln' tl' x1 tw p2) :: (p2, listOf pb.toArray np) :: (x1, instObj 59 d1) :: (d1, oD1 w j1 j2 j3 j4 j5 tj tv p1 f) :: rest)))) E s₂) E s₁) E s := by
  k_with_none
  k_with "call builtin:issubclass" => (k_here; k_dflt (refine' iss_str ?k1 ?k2 ?k3 ?_; (case k1 => k_asm); (case k2 => k_asm); (case k3 => k_mem); k_whole); intro h' tk' F' N'; (try k_sweep))
  k_with "call type:list" => (k_here; (with_reducible show wpAny _ _ (call (Value.type _) [Value.str _ _]) _ _ _); k_dflt (refine' list_strK ?k0 ?k1 ?k2 ?k3 ?_; (case k0 => exact rfl); (case k1 => k_asm); (case k2 => k_asm); (case k3 => (rw [sizeLine_eq]; omega)); k_whole); intro l' h' tk' its' n' hch' F' N' l1; (try k_lt l1); (try k_sweep))
  k_with "truthy ref" => (k_here; (with_reducible show wpAny _ _ (truthy (Value.ref _)) _ _ _); k_dflt (first
        | (refine' truthy_cons ?N ?m ?z ?_; (case N => k_asm); (case m => k_mem); (case z => omega); k_whole)
        | (refine' truthy_nil ?N ?m ?_; (case N => k_asm); (case m => k_mem); k_whole)))
  k_with "call builtin:list.pop" => (k_here; (with_reducible show wpAny _ _ (call (Value.builtin _) [Value.ref _, Value.int _ _]) _ _ _); k_dflt (refine' pop0 ?F ?N ?U ?z ?_; (case F => k_asm); (case N => k_asm); (case U => k_upd); (case z => omega); k_whole); intro h' F' N'; (try dsimp only [List.nil_append, List.cons_append] at N'); (try k_sweep))
  k_with "pyNext ref" => (k_here; (with_reducible show wpAny _ _ (pyNext (Value.ref _)) _ _ _); k_dflt (refine' pn_item ?hcb ?hvs ?hoc ?hord ?offl ?offd ?offp ?B ?F ?X ?T ?d ?u ?z ?S ?o ?N ?_; (case N => k_asm); (case F => k_asm); (case X => k_asm); (case T => k_asm); (case B => k_asm); (case hcb => assumption); (case hvs => assumption); (case hoc => assumption); (case hord => assumption); (case offl => assumption); (case offd => assumption); (case offp => assumption); (case d => ktr_room); (case u => ktr_units); (case z => assumption); (case S => assumption); (case o => assumption); k_whole); intro h' tk' ln' tl' F' N'; (try k_sweep))
  revert X; k_fill; intro X
  (conv => pattern (execs (bodyOf gtInner) _); arg 1; whnf)
  subst henv
  k_steps
  rename Fr _ _ _ _ => FF9
  rename News _ _ _ _ => NN9
  exact ⟨_, _, _, _, _, rfl, fr_eq FF9 (gt_map_eq (v0 := vch) (T0 := T0) (tT0 := tT) rfl rfl (fun y a b => by simp [gtMap, a, b])), NN9⟩
theorem gt_ws (w : World) (mean : ExcName → Option Value) (mg mb : Str → Option Value) (rest : List (Addr × Obj)) {dp un : Nat} {gd : Option (List Code)} {cn : Str} {nm : List (Str × NameKind)} {ig ic : Bool} {mr : List (Str × Const)} {a : Addr} {ccd : Value} {cl : List (Str × Addr)} {outer : List Env} {A₀ : Around} {base h₀ : Heap} {L : Addr} {m0 : Str → Option Value}
    {it q0 L1 : Nat} {t0 : Tok} {S T0 : Str} {t tl tT : Tok} {ln : Int} {lf pb : List Value} {nl np : Nat} {Q : Flow → Shared → Prop} {E : Value → Shared → Prop} {s : Shared} {vch : Value}
    {f cb c l x2 d2 p2 x1 d1 p1 : Nat} {ocb oc : Obj} {vs : Array Value} {q : Str} {tq : Tok} {dc pm ct : Value} {k1 k2 k3 k4 tw j1 j2 j3 j4 j5 tj tv : Tok}
  (hcb : ocb.data = .fields vs) (hvs : vs[1]? = some (.str q tq)) (hoc : oc.data = .cell (some (.ref l)))
  (hord : c < l ∧ l < d1 ∧ d1 < x1 ∧ x1 < p1 ∧ p1 < cb ∧ cb < f ∧ f < d2 ∧ d2 < x2 ∧ x2 < p2) (offl : ∀ p ∈ rest, p.1 ≠ l) (offd : ∀ p ∈ rest, p.1 ≠ d2) (offp : ∀ p ∈ rest, p.1 ≠ p2)
    (env : Env) (henv : env = envOf (Str.ofString "_netrclex.get_token") (scopeOf gtDef) L 49 (.ref 48))
    (hE : PassesOwn (model PySem.Challenge.rw_un0033_01.prog w) ((ktrTop dp un gd cn ⟨.function, nm, ig, ic, mr⟩ L1 a ccd cl outer).deeper env) env E)
    (B : Below A₀ base (envX cn ⟨.function, nm, ig, ic, mr⟩ L1 a ccd cl :: outer) h₀) (X : (Mine.hd.heap_39 w.params).In h₀) (T : Top topProg LOOSE mean mg mb h₀) (hd : dp + 8 < recursionLimit) (hu : un + 160 < cLine) (hz : lf.length < 1000)
    (hoff : l < q0 ∧ q0 < it ∧ p2 < q0) (g1 : Str.ofString "" ≠ S) (g4 : (Builtin.Str.occurrences wsT S 0 (Str.length wsT) 1).isEmpty = false) (g5 : S.length = 1) (hT0 : T0.length < 500)
    (hQ : ∀ h' tk' ln' tl' m', Fr h₀ L h' m' → News h₀ L h' ((it, ciObj q0 (Str.ofString "") t0) :: (q0, methodObj (.ref 42) (.ref x2)) :: ((f, oFn q dc pm ct cb c) :: (cb, ocb) :: (c, oc) :: (l, listOf lf.toArray (nl + 1)) :: (x2, instObj 59 d2) :: (d2, oD2 w k1 k2 k3 k4 ln' tl' x1 tw p2) :: (p2, listOf pb.toArray np) :: (x1, instObj 59 d1) :: (d1, oD1 w j1 j2 j3 j4 j5 tj tv p1 f) :: rest)) → Q (.ret (.str T0 tT)) { s with heap := h', toks := tk' })
    (F : Fr h₀ L s.heap (gtMap vch T0 tT it x2 m0))
    (N : News h₀ L s.heap ((it, ciObj q0 (Str.ofString "") t0) :: (q0, methodObj (.ref 42) (.ref x2)) :: ((f, oFn q dc pm ct cb c) :: (cb, ocb) :: (c, oc) :: (l, listOf (Value.str S t :: lf).toArray nl) :: (x2, instObj 59 d2) :: (d2, oD2 w k1 k2 k3 k4 ln tl x1 tw p2) :: (p2, listOf pb.toArray np) :: (x1, instObj 59 d1) :: (d1, oD1 w j1 j2 j3 j4 j5 tj tv p1 f) :: rest))) :
    wpAny (model PySem.Challenge.rw_un0033_01.prog w) ((ktrTop dp un gd cn ⟨.function, nm, ig, ic, mr⟩ L1 a ccd cl outer).deeper env) (pyNext (.ref it)) (fun r s₁ => match r with
      | none => Q .next s₁
      | some v => wpAny (model PySem.Challenge.rw_un0033_01.prog w) ((ktrTop dp un gd cn ⟨.function, nm, ig, ic, mr⟩ L1 a ccd cl outer).deeper env) (storeName env (Str.ofString "ch") v) (fun _ s₂ => wpAny (model PySem.Challenge.rw_un0033_01.prog w) ((ktrTop dp un gd cn ⟨.function, nm, ig, ic, mr⟩ L1 a ccd cl outer).deeper env) (execs (bodyOf gtInner) env) (fun fl s₃ => match fl with
          | .ret v => Q (.ret v) s₃
          | .brk => Q .next s₃
          | _ => False) E s₂) E s₁) E s := by
  k_with_none
  k_with "call builtin:issubclass" => (k_here; k_dflt (refine' iss_str ?k1 ?k2 ?k3 ?_; (case k1 => k_asm); (case k2 => k_asm); (case k3 => k_mem); k_whole); intro h' tk' F' N'; (try k_sweep))
  k_with "call type:list" => (k_here; (with_reducible show wpAny _ _ (call (Value.type _) [Value.str _ _]) _ _ _); k_dflt (refine' list_strK ?k0 ?k1 ?k2 ?k3 ?_; (case k0 => exact rfl); (case k1 => k_asm); (case k2 => k_asm); (case k3 => (rw [sizeLine_eq]; omega)); k_whole); intro l' h' tk' its' n' hch' F' N' l1; (try k_lt l1); (try k_sweep))
  k_with "truthy ref" => (k_here; (with_reducible show wpAny _ _ (truthy (Value.ref _)) _ _ _); k_dflt (first
        | (refine' truthy_cons ?N ?m ?z ?_; (case N => k_asm); (case m => k_mem); (case z => omega); k_whole)
        | (refine' truthy_nil ?N ?m ?_; (case N => k_asm); (case m => k_mem); k_whole)))
  k_with "call builtin:list.pop" => (k_here; (with_reducible show wpAny _ _ (call (Value.builtin _) [Value.ref _, Value.int _ _]) _ _ _); k_dflt (refine' pop0 ?F ?N ?U ?z ?_; (case F => k_asm); (case N => k_asm); (case U => k_upd); (case z => omega); k_whole); intro h' F' N'; (try dsimp only [List.nil_append, List.cons_append] at N'); (try k_sweep))
  k_with "pyNext ref" => (k_here; (with_reducible show wpAny _ _ (pyNext (Value.ref _)) _ _ _); k_dflt (refine' pn_item ?hcb ?hvs ?hoc ?hord ?offl ?offd ?offp ?B ?F ?X ?T ?d ?u ?z ?S ?o ?N ?_; (case N => k_asm); (case F => k_asm); (case X => k_asm); (case T => k_asm); (case B => k_asm); (case hcb => assumption); (case hvs => assumption); (case hoc => assumption); (case hord => assumption); (case offl => assumption); (case offd => assumption); (case offp => assumption); (case d => ktr_room); (case u => ktr_units); (case z => assumption); (case S => assumption); (case o => assumption); k_whole); intro h' tk' ln' tl' F' N'; (try k_sweep))
  revert X; k_fill; intro X
  (conv => pattern (execs (bodyOf gtInner) _); arg 1; whnf)
  subst henv
  k_steps
  exact hQ _ _ _ _ _ (by assumption) (by assumption)
end
section
theorem gtInner_is : ∃ px pi pos, gtInner = .For (.Name (Str.ofString "ch") px) (.Name (Str.ofString "fiter") pi) (bodyOf gtInner) [] pos := ⟨_, _, _, rfl⟩
theorem gt_inner (w : World) (mean : ExcName → Option Value) (mg mb : Str → Option Value) (rest : List (Addr × Obj)) {dp un : Nat} {gd : Option (List Code)} {cn : Str} {nm : List (Str × NameKind)} {ig ic : Bool} {mr : List (Str × Const)} {a : Addr} {ccd : Value} {cl : List (Str × Addr)} {outer : List Env} {A₀ : Around} {base h₀ : Heap} {L : Addr} {m0 : Str → Option Value}
    {it q0 L1 : Nat} {t0 : Tok} {Wc T0 TK : Str} {tW tl tT : Tok} {ln : Int} {lf pb : List Value} {ch : List (Str × Tok)} {nl np : Nat} {Q : Flow → Shared → Prop} {E : Value → Shared → Prop} {s : Shared} {vch : Value}
    {f cb c l x2 d2 p2 x1 d1 p1 : Nat} {ocb oc : Obj} {vs : Array Value} {q : Str} {tq : Tok} {dc pm ct : Value} {k1 k2 k3 k4 tw j1 j2 j3 j4 j5 tj tv : Tok}
  (hcb : ocb.data = .fields vs) (hvs : vs[1]? = some (.str q tq)) (hoc : oc.data = .cell (some (.ref l)))
  (hord : c < l ∧ l < d1 ∧ d1 < x1 ∧ x1 < p1 ∧ p1 < cb ∧ cb < f ∧ f < d2 ∧ d2 < x2 ∧ x2 < p2) (offl : ∀ p ∈ rest, p.1 ≠ l) (offd : ∀ p ∈ rest, p.1 ≠ d2) (offp : ∀ p ∈ rest, p.1 ≠ p2)
    (env : Env) (henv : env = envOf (Str.ofString "_netrclex.get_token") (scopeOf gtDef) L 49 (.ref 48))
    (hE : PassesOwn (model PySem.Challenge.rw_un0033_01.prog w) ((ktrTop dp un gd cn ⟨.function, nm, ig, ic, mr⟩ L1 a ccd cl outer).deeper env) env E)
    (B : Below A₀ base (envX cn ⟨.function, nm, ig, ic, mr⟩ L1 a ccd cl :: outer) h₀) (X : (Mine.hd.heap_39 w.params).In h₀) (T : Top topProg LOOSE mean mg mb h₀) (hd : dp + 8 < recursionLimit) (hu : un + 160 < cLine)
    (hoff : l < q0 ∧ q0 < it ∧ p2 < q0) (hW : WsS Wc) (hch : ∀ p ∈ ch, GoodS p.1) (hTK : tokT T0 ch = TK) (hlen : T0.length + ch.length < 300) (hlf : lf.length < 300)
    (hQ : ∀ h' tk' ln' tl' m' nl' t', Fr h₀ L h' m' → News h₀ L h' ((it, ciObj q0 (Str.ofString "") t0) :: (q0, methodObj (.ref 42) (.ref x2)) :: ((f, oFn q dc pm ct cb c) :: (cb, ocb) :: (c, oc) :: (l, listOf lf.toArray nl') :: (x2, instObj 59 d2) :: (d2, oD2 w k1 k2 k3 k4 ln' tl' x1 tw p2) :: (p2, listOf pb.toArray np) :: (x1, instObj 59 d1) :: (d1, oD1 w j1 j2 j3 j4 j5 tj tv p1 f) :: rest)) → Q (.ret (.str TK t')) { s with heap := h', toks := tk' })
    (F : Fr h₀ L s.heap (gtMap vch T0 tT it x2 m0))
    (N : News h₀ L s.heap ((it, ciObj q0 (Str.ofString "") t0) :: (q0, methodObj (.ref 42) (.ref x2)) :: ((f, oFn q dc pm ct cb c) :: (cb, ocb) :: (c, oc) :: (l, listOf (strsV ch ++ Value.str Wc tW :: lf).toArray nl) :: (x2, instObj 59 d2) :: (d2, oD2 w k1 k2 k3 k4 ln tl x1 tw p2) :: (p2, listOf pb.toArray np) :: (x1, instObj 59 d1) :: (d1, oD1 w j1 j2 j3 j4 j5 tj tv p1 f) :: rest))) :
    wpAny (model PySem.Challenge.rw_un0033_01.prog w) ((ktrTop dp un gd cn ⟨.function, nm, ig, ic, mr⟩ L1 a ccd cl outer).deeper env) (exec gtInner env) Q E s := by
  obtain ⟨px, pi, pos, e⟩ := gtInner_is
  rw [e]
  refine for_any (it := .ref it) (fun n s' => ∃ rem T1 tT1 v1 h1 tk1 ln1 tl1 nl1, n = rem.length + 1 ∧ tokT T1 rem = TK ∧ (∀ p ∈ rem, GoodS p.1) ∧ T1.length + rem.length < 300 ∧ s' = { s with heap := h1, toks := tk1 } ∧
    Fr h₀ L h1 (gtMap v1 T1 tT1 it x2 m0) ∧ News h₀ L h1 ((it, ciObj q0 (Str.ofString "") t0) :: (q0, methodObj (.ref 42) (.ref x2)) :: ((f, oFn q dc pm ct cb c) :: (cb, ocb) :: (c, oc) :: (l, listOf (strsV rem ++ Value.str Wc tW :: lf).toArray nl1) :: (x2, instObj 59 d2) :: (d2, oD2 w k1 k2 k3 k4 ln1 tl1 x1 tw p2) :: (p2, listOf pb.toArray np) :: (x1, instObj 59 d1) :: (d1, oD1 w j1 j2 j3 j4 j5 tj tv p1 f) :: rest))) (ch.length + 1) ?_ ?_ (hE := hE)
  · subst henv
    refine ld F (by rfl) ?_
    exact ci_iter (N.get (List.Mem.head _)) ⟨rfl, ch, T0, tT, vch, _, _, ln, tl, nl, rfl, hTK, hch, hlen, rfl, F, N⟩
  · rintro n s' ⟨rem, T1, tT1, v1, h1, tk1, ln1, tl1, nl1, rfl, hT1, hg, hl1, rfl, F1, N1⟩
    cases rem with
    | nil =>
      have hT1' : T1 = TK := hT1
      subst hT1'
      refine wpAny_mono (gt_ws w mean mg mb rest (Q := Q) hcb hvs hoc hord offl offd offp env henv hE B X T hd hu (by omega) hoff hW.ne hW.ws hW.len (by omega)
        (fun h' tk' ln' tl' m' F' N' => hQ h' tk' ln' tl' m' _ _ F' N') F1 N1) (fun r s₁ hr => ?_) fun _ _ x => x
      cases r with
      | none => exact hr
      | some v =>
        refine wpAny_mono hr (fun _ s₂ h₂ => wpAny_mono h₂ (fun fl s₃ h₃ => ?_) fun _ _ x => x) fun _ _ x => x
        cases fl with
        | ret v => exact h₃
        | brk => exact h₃
        | next => exact h₃.elim
        | cont => exact h₃.elim
    | cons p r =>
      have gp := hg p (List.mem_cons_self ..)
      refine wpAny_mono (gt_turn w mean mg mb rest (Q := Q) hcb hvs hoc hord offl offd offp env henv hE B X T hd hu (lf := strsV r ++ Value.str Wc tW :: lf) (by simp [strsV_len]; simp at hl1; omega) hoff gp.ne gp.qu gp.bs gp.ws gp.len (by simp at hl1; omega) F1 N1) (fun r' s₁ hr => ?_) fun _ _ x => x
      cases r' with
      | none => exact hr
      | some v =>
        refine wpAny_mono hr (fun _ s₂ h₂ => wpAny_mono h₂ (fun fl s₃ h₃ => ?_) fun _ _ x => x) fun _ _ x => x
        cases fl with
        | ret v => exact h₃
        | brk => exact h₃
        | next =>
          obtain ⟨h', tk', ln', tl', tT', rfl, F', N'⟩ := h₃
          exact ⟨r.length + 1, by simp, r, T1 ++ p.1, tT', _, h', tk', ln', tl', _, rfl, hT1, fun q hq => hg q (List.mem_cons_of_mem _ hq), by have := gp.len; simp only [Str.length_append, List.length_cons] at *; omega, rfl, F', N'⟩
        | cont =>
          obtain ⟨h', tk', ln', tl', tT', rfl, F', N'⟩ := h₃
          exact ⟨r.length + 1, by simp, r, T1 ++ p.1, tT', _, h', tk', ln', tl', _, rfl, hT1, fun q hq => hg q (List.mem_cons_of_mem _ hq), by have := gp.len; simp only [Str.length_append, List.length_cons] at *; omega, rfl, F', N'⟩
end
section
theorem gt_map_self {m : Str → Option Value} {vch : Value} {T : Str} {tT : Tok} {it x2 : Addr} (h1 : m (Str.ofString "ch") = some vch) (h2 : m (Str.ofString "token") = some (.str T tT)) (h3 : m (Str.ofString "fiter") = some (.ref it)) (h4 : m (Str.ofString "self") = some (.ref x2)) :
    ∀ y, m y = gtMap vch T tT it x2 m y := by
  intro y
  unfold gtMap
  split
  · rename_i e; rw [e, h1]
  split
  · rename_i e; rw [e, h2]
  split
  · rename_i e; rw [e, h3]
  split
  · rename_i e; rw [e, h4]
  rfl
theorem c_gt_read (w : World) (mean : ExcName → Option Value) (mg mb : Str → Option Value) (rest : List (Addr × Obj)) (tl t0 tW : Tok) (ln : Int) (lf : List Value) (nl np : Nat) (S0 Wc TK : Str) (ch : List (Str × Tok)) (g0 : GoodS S0) (hW : WsS Wc) (hch : ∀ p ∈ ch, GoodS p.1) (hTK : tokT (Str.ofString "" ++ S0) ch = TK) (hlc : ch.length < 100) (hlf : lf.length < 300) (f cb c l x2 d2 p2 x1 d1 p1 : Nat) (ocb oc : Obj) (vs : Array Value) (q : Str) (tq : Tok) (dc pm ct : Value) (k1 k2 k3 k4 tw j1 j2 j3 j4 j5 tj tv : Tok)
  (hcb : ocb.data = .fields vs) (hvs : vs[1]? = some (.str q tq)) (hoc : oc.data = .cell (some (.ref l)))
  (hord : c < l ∧ l < d1 ∧ d1 < x1 ∧ x1 < p1 ∧ p1 < cb ∧ cb < f ∧ f < d2 ∧ d2 < x2 ∧ x2 < p2) (offl : ∀ p ∈ rest, p.1 ≠ l) (offd : ∀ p ∈ rest, p.1 ≠ d2) (offp : ∀ p ∈ rest, p.1 ≠ p2) :
  CC w mean mg mb 49 9 ((f, oFn q dc pm ct cb c) :: (cb, ocb) :: (c, oc) :: (l, listOf (Value.str S0 t0 :: (strsV ch ++ Value.str Wc tW :: lf)).toArray nl) :: (x2, instObj 59 d2) :: (d2, oD2 w k1 k2 k3 k4 ln tl x1 tw p2) :: (p2, listOf [].toArray np) :: (x1, instObj 59 d1) :: (d1, oD1 w j1 j2 j3 j4 j5 tj tv p1 f) :: rest) [.ref x2] (fun r n' => (∃ t', r = .str TK t') ∧ ∃ ln' tl' nl', n' = ((f, oFn q dc pm ct cb c) :: (cb, ocb) :: (c, oc) :: (l, listOf lf.toArray nl') :: (x2, instObj 59 d2) :: (d2, oD2 w k1 k2 k3 k4 ln' tl' x1 tw p2) :: (p2, listOf [].toArray np) :: (x1, instObj 59 d1) :: (d1, oD1 w j1 j2 j3 j4 j5 tj tv p1 f) :: rest)) := by
  k_with_none
  k_with "call builtin:issubclass" => (k_here; k_dflt (refine' iss_str ?k1 ?k2 ?k3 ?_; (case k1 => k_asm); (case k2 => k_asm); (case k3 => k_mem); k_whole); intro h' tk' F' N'; (try k_sweep))
  k_with "call type:list" => (k_here; (with_reducible show wpAny _ _ (call (Value.type _) [Value.str _ _]) _ _ _); k_dflt (refine' list_strK ?k0 ?k1 ?k2 ?k3 ?_; (case k0 => exact rfl); (case k1 => k_asm); (case k2 => k_asm); (case k3 => (rw [sizeLine_eq]; omega)); k_whole); intro l' h' tk' its' n' hch' F' N' l1; (try k_lt l1); (try k_sweep))
  k_with "truthy ref" => (k_here; (with_reducible show wpAny _ _ (truthy (Value.ref _)) _ _ _); k_dflt (first
        | (refine' truthy_cons ?N ?m ?z ?_; (case N => k_asm); (case m => k_mem); (case z => omega); k_whole)
        | (refine' truthy_nil ?N ?m ?_; (case N => k_asm); (case m => k_mem); k_whole)))
  k_with "call builtin:list.pop" => (k_here; (with_reducible show wpAny _ _ (call (Value.builtin _) [Value.ref _, Value.int _ _]) _ _ _); k_dflt (refine' pop0 ?F ?N ?U ?z ?_; (case F => k_asm); (case N => k_asm); (case U => k_upd); (case z => omega); k_whole); intro h' F' N'; (try dsimp only [List.nil_append, List.cons_append] at N'); (try k_sweep))
  k_with "call builtin:iter" => (k_here; (with_reducible show wpAny _ _ (call (Value.builtin _) [Value.ref _, Value.str _ _]) _ _ _); k_dflt (refine' iter2 ?F ?N ?m ?_; (case F => k_asm); (case N => k_asm); (case m => k_mem); k_whole); intro it' h' F' N' l1; (try k_lt l1); (try k_sweep))
  k_with "pyIter ref" => (k_here; (with_reducible show wpAny _ _ (pyIter (Value.ref _)) _ _ _); k_dflt (refine' ci_iter (News.get ?N ?m) ?_; (case N => k_asm); (case m => k_mem); k_whole))
  k_with "pyNext ref" => (k_here; (with_reducible show wpAny _ _ (pyNext (Value.ref _)) _ _ _); k_dflt (refine' pn_item ?hcb ?hvs ?hoc ?hord ?offl ?offd ?offp ?B ?F ?X ?T ?d ?u ?z ?S ?o ?N ?_; (case N => k_asm); (case F => k_asm); (case X => k_asm); (case T => k_asm); (case B => k_asm); (case hcb => assumption); (case hvs => assumption); (case hoc => assumption); (case hord => assumption); (case offl => assumption); (case offd => assumption); (case offp => assumption); (case d => ktr_room); (case u => ktr_units); (case z => assumption); (case S => assumption); (case o => (refine ⟨?_, ?_, ?_⟩ <;> omega)); k_whole); intro h' tk' ln' tl' F' N'; (try k_sweep))
  dsimp only [CC]
  k_fill
  intros
  rename_i hret
  have hC := codeHd_of_K (c := 224) (P := 220) (by assumption) (by kernel_rfl)
  have g1 := g0.ne
  have g2 := g0.qu
  have g3 := g0.bs
  have g4 := g0.ws
  have g5 := g0.len
  have hz : (strsV ch ++ Value.str Wc tW :: lf).length < 1000 := by simp [strsV_len]; omega
  k_dflt k_enter
  k_steps
  refine for_first ?_
  k_steps
  rename Fr _ _ _ _ => FF9
  k_dflt (refine' gt_inner w mean mg mb rest ?hcb ?hvs ?hoc ?hord ?offl ?offd ?offp _ rfl ?hE ?B ?X ?T ?hd ?hu ?hoff hW hch hTK ?hl hlf ?hQ (fr_eq FF9 (gt_map_self rfl rfl rfl rfl)) ?N)
  case N => k_asm
  case hcb => assumption
  case hvs => assumption
  case hoc => assumption
  case hord => assumption
  case offl => assumption
  case offd => assumption
  case offp => assumption
  case hE => passes_own
  case B => k_asm
  case X => k_asm
  case T => k_asm
  case hd => ktr_room
  case hu => ktr_units
  case hoff => (refine ⟨?_, ?_, ?_⟩ <;> omega)
  case hl => (simp only [Str.length_append, g5]; have e : Str.length (Str.ofString "") = 0 := by decide +kernel
              omega)
  intro h' tk' ln' tl' m' nl' t' F' N'
  k_steps
  exact hret _ _ _ _ ⟨⟨_, rfl⟩, _, _, _, rfl⟩ (by assumption) (news_sub (by assumption) (fun p hp => List.Mem.tail _ (List.Mem.tail _ hp)))
end
section
section
variable {w : World} {mean : ExcName → Option Value} {mg mb : Str → Option Value} {rest : List (Addr × Obj)} {E : Value → Shared → Prop} {s : Shared}
  {dp un : Nat} {gd : Option (List Code)} {cn : Str} {nm : List (Str × NameKind)} {ig ic : Bool} {mr : List (Str × Const)} {a : Addr} {ccd : Value} {cl : List (Str × Addr)} {outer : List Env} {A₀ : Around} {base h₀ : Heap} {L : Addr} {m : Str → Option Value}
theorem pn_end {it q0 : Nat} {t0 : Tok} {tl : Tok} {ln : Int} {pb : List Value} {nl np : Nat} {Q : Option Value → Shared → Prop}
    {f cb c l x2 d2 p2 x1 d1 p1 : Nat} {ocb oc : Obj} {vs : Array Value} {q : Str} {tq : Tok} {dc pm ct : Value} {k1 k2 k3 k4 tw j1 j2 j3 j4 j5 tj tv : Tok}
  (hcb : ocb.data = .fields vs) (hvs : vs[1]? = some (.str q tq)) (hoc : oc.data = .cell (some (.ref l)))
  (hord : c < l ∧ l < d1 ∧ d1 < x1 ∧ x1 < p1 ∧ p1 < cb ∧ cb < f ∧ f < d2 ∧ d2 < x2 ∧ x2 < p2) (offl : ∀ p ∈ rest, p.1 ≠ l) (offd : ∀ p ∈ rest, p.1 ≠ d2) (offp : ∀ p ∈ rest, p.1 ≠ p2)
    (B : Below A₀ base outer h₀) (F : Fr h₀ L s.heap m) (X : (Mine.hd.heap_39 w.params).In h₀) (T : Top topProg LOOSE mean mg mb h₀) (hd : dp + 4 < recursionLimit) (hu : un + 140 < cLine)
    (hoff : l < q0 ∧ q0 < it ∧ p2 < q0) (hr : ∀ p ∈ rest, p.1 ≠ it)
    (N : News h₀ L s.heap ((it, ciObj q0 (Str.ofString "") t0) :: (q0, methodObj (.ref 42) (.ref x2)) :: ((f, oFn q dc pm ct cb c) :: (cb, ocb) :: (c, oc) :: (l, listOf [].toArray nl) :: (x2, instObj 59 d2) :: (d2, oD2 w k1 k2 k3 k4 ln tl x1 tw p2) :: (p2, listOf pb.toArray np) :: (x1, instObj 59 d1) :: (d1, oD1 w j1 j2 j3 j4 j5 tj tv p1 f) :: rest)))
    (h : ∀ h' tk' ln' tl', Fr h₀ L h' m → News h₀ L h' ((f, oFn q dc pm ct cb c) :: (cb, ocb) :: (c, oc) :: (l, listOf [].toArray nl) :: (x2, instObj 59 d2) :: (d2, oD2 w k1 k2 k3 k4 ln' tl' x1 tw p2) :: (p2, listOf pb.toArray np) :: (x1, instObj 59 d1) :: (d1, oD1 w j1 j2 j3 j4 j5 tj tv p1 f) :: rest) → Q none { s with heap := h', toks := tk' }) :
    wpAny (model PySem.Challenge.rw_un0033_01.prog w) (ktrTop dp un gd cn ⟨.function, nm, ig, ic, mr⟩ L a ccd cl outer) (pyNext (.ref it)) Q E s := by
  obtain ⟨o, fd, e1, e2⟩ := K42 X
  refine ci_end rfl (N.get (List.Mem.head _)) (N.get (List.Mem.tail _ (List.Mem.head _))) (F.keep _ _ e1) e2 ?_
  refine c_rc_end w mean mg mb ((it, ciObj q0 (Str.ofString "") t0) :: (q0, methodObj (.ref 42) (.ref x2)) :: rest) tl ln pb nl np f cb c l x2 d2 p2 x1 d1 p1 ocb oc vs q tq dc pm ct k1 k2 k3 k4 tw j1 j2 j3 j4 j5 tj tv hcb hvs hoc hord
    ?_ ?_ ?_ dp (un + 1) gd cn nm ig ic mr a ccd cl outer A₀ base h₀ L m s _ B F X ?_ T hd (by omega) ?_
  · exact List.forall_mem_cons.mpr ⟨neN (by omega), List.forall_mem_cons.mpr ⟨neN (by omega), offl⟩⟩
  · exact List.forall_mem_cons.mpr ⟨neN (by omega), List.forall_mem_cons.mpr ⟨neN (by omega), offd⟩⟩
  · exact List.forall_mem_cons.mpr ⟨neN (by omega), List.forall_mem_cons.mpr ⟨neN (by omega), offp⟩⟩
  · refine news_sub N fun p hp => ?_
    simp only [List.mem_cons] at hp ⊢
    rcases hp with h1 | h1 | h1 | h1 | h1 | h1 | h1 | h1 | h1 | h1 | h1 | h1 <;> simp [h1]
  · rintro v h' tk' news' ⟨⟨t', rfl⟩, ln', tl', rfl⟩ F' N'
    have N2 : News h₀ L h' ((it, ciObj q0 (Str.ofString "") t0) :: (q0, methodObj (.ref 42) (.ref x2)) :: ((f, oFn q dc pm ct cb c) :: (cb, ocb) :: (c, oc) :: (l, listOf [].toArray nl) :: (x2, instObj 59 d2) :: (d2, oD2 w k1 k2 k3 k4 ln' tl' x1 tw p2) :: (p2, listOf pb.toArray np) :: (x1, instObj 59 d1) :: (d1, oD1 w j1 j2 j3 j4 j5 tj tv p1 f) :: rest)) := by
      refine news_sub N' fun p hp => ?_
      simp only [List.mem_cons] at hp ⊢
      rcases hp with h1 | h1 | h1 | h1 | h1 | h1 | h1 | h1 | h1 | h1 | h1 | h1 <;> simp [h1]
    refine ⟨t', rfl, N2.get (List.Mem.head _), N2.get (List.Mem.tail _ (List.Mem.head _)), F'.keep _ _ e1, fun h'' hk => h h'' _ ln' tl' ⟨?_, fun b ob e => ?_, F'.above⟩ fun p hp => ?_⟩
    · exact F'.ns.at' fun o e => hk _ o (Ne.symm (N2 _ (List.Mem.head _)).2.1) e
    · refine hk b ob (fun q => ?_) (F'.keep b ob e)
      have := (N2 _ (List.Mem.head _)).2.2
      dsimp only at this
      rw [← q, e] at this
      cases this
    · have z := N2 p (List.Mem.tail _ (List.Mem.tail _ hp))
      refine ⟨hk _ _ ?_ z.1, z.2⟩
      simp only [List.mem_cons] at hp
      rcases hp with h1 | h1 | h1 | h1 | h1 | h1 | h1 | h1 | h1 | h1
      all_goals first | (rw [h1]; exact neN (by dsimp only; omega)) | exact hr p h1
end
theorem c_gt_end (w : World) (mean : ExcName → Option Value) (mg mb : Str → Option Value) (rest : List (Addr × Obj)) (tl : Tok) (ln : Int) (nl np : Nat) (f cb c l x2 d2 p2 x1 d1 p1 : Nat) (ocb oc : Obj) (vs : Array Value) (q : Str) (tq : Tok) (dc pm ct : Value) (k1 k2 k3 k4 tw j1 j2 j3 j4 j5 tj tv : Tok)
  (hcb : ocb.data = .fields vs) (hvs : vs[1]? = some (.str q tq)) (hoc : oc.data = .cell (some (.ref l)))
  (hord : c < l ∧ l < d1 ∧ d1 < x1 ∧ x1 < p1 ∧ p1 < cb ∧ cb < f ∧ f < d2 ∧ d2 < x2 ∧ x2 < p2) (offl : ∀ p ∈ rest, p.1 ≠ l) (offd : ∀ p ∈ rest, p.1 ≠ d2) (offp : ∀ p ∈ rest, p.1 ≠ p2) :
  CC w mean mg mb 49 9 ((f, oFn q dc pm ct cb c) :: (cb, ocb) :: (c, oc) :: (l, listOf [].toArray nl) :: (x2, instObj 59 d2) :: (d2, oD2 w k1 k2 k3 k4 ln tl x1 tw p2) :: (p2, listOf [].toArray np) :: (x1, instObj 59 d1) :: (d1, oD1 w j1 j2 j3 j4 j5 tj tv p1 f) :: rest) [.ref x2] (fun r n' => (∃ t', r = .str (Str.ofString "") t') ∧ ∃ ln' tl' nl', n' = ((f, oFn q dc pm ct cb c) :: (cb, ocb) :: (c, oc) :: (l, listOf [].toArray nl') :: (x2, instObj 59 d2) :: (d2, oD2 w k1 k2 k3 k4 ln' tl' x1 tw p2) :: (p2, listOf [].toArray np) :: (x1, instObj 59 d1) :: (d1, oD1 w j1 j2 j3 j4 j5 tj tv p1 f) :: rest)) := by
  k_with_none
  k_with "call builtin:issubclass" => (k_here; k_dflt (refine' iss_str ?k1 ?k2 ?k3 ?_; (case k1 => k_asm); (case k2 => k_asm); (case k3 => k_mem); k_whole); intro h' tk' F' N'; (try k_sweep))
  k_with "call type:list" => (k_here; (with_reducible show wpAny _ _ (call (Value.type _) [Value.str _ _]) _ _ _); k_dflt (refine' list_strK ?k0 ?k1 ?k2 ?k3 ?_; (case k0 => exact rfl); (case k1 => k_asm); (case k2 => k_asm); (case k3 => (rw [sizeLine_eq]; omega)); k_whole); intro l' h' tk' its' n' hch' F' N' l1; (try k_lt l1); (try k_sweep))
  k_with "truthy ref" => (k_here; (with_reducible show wpAny _ _ (truthy (Value.ref _)) _ _ _); k_dflt (first
        | (refine' truthy_cons ?N ?m ?z ?_; (case N => k_asm); (case m => k_mem); (case z => omega); k_whole)
        | (refine' truthy_nil ?N ?m ?_; (case N => k_asm); (case m => k_mem); k_whole)))
  k_with "call builtin:list.pop" => (k_here; (with_reducible show wpAny _ _ (call (Value.builtin _) [Value.ref _, Value.int _ _]) _ _ _); k_dflt (refine' pop0 ?F ?N ?U ?z ?_; (case F => k_asm); (case N => k_asm); (case U => k_upd); (case z => omega); k_whole); intro h' F' N'; (try dsimp only [List.nil_append, List.cons_append] at N'); (try k_sweep))
  k_with "call builtin:iter" => (k_here; (with_reducible show wpAny _ _ (call (Value.builtin _) [Value.ref _, Value.str _ _]) _ _ _); k_dflt (refine' iter2 ?F ?N ?m ?_; (case F => k_asm); (case N => k_asm); (case m => k_mem); k_whole); intro it' h' F' N' l1; (try k_lt l1); (try k_sweep))
  k_with "pyIter ref" => (k_here; (with_reducible show wpAny _ _ (pyIter (Value.ref _)) _ _ _); k_dflt (refine' ci_iter (News.get ?N ?m) ?_; (case N => k_asm); (case m => k_mem); k_whole))
  k_with "pyNext ref" => (k_here; (with_reducible show wpAny _ _ (pyNext (Value.ref _)) _ _ _); k_dflt (refine' pn_end ?hcb ?hvs ?hoc ?hord ?offl ?offd ?offp ?B ?F ?X ?T ?d ?u ?o ?r ?N ?_; (case N => k_asm); (case F => k_asm); (case X => k_asm); (case T => k_asm); (case B => k_asm); (case hcb => assumption); (case hvs => assumption); (case hoc => assumption); (case hord => assumption); (case offl => assumption); (case offd => assumption); (case offp => assumption); (case d => ktr_room); (case u => ktr_units); (case o => (refine ⟨?_, ?_, ?_⟩ <;> omega)); (case r => k_all); k_whole); intro h' tk' ln' tl' F' N'; (try k_sweep))
  dsimp only [CC]
  k_fill
  intros
  rename_i hret
  have hC := codeHd_of_K (c := 224) (P := 220) (by assumption) (by kernel_rfl)
  k_dflt k_enter
  k_steps
  refine for_first ?_
  k_steps
  exact hret _ _ _ _ ⟨⟨_, rfl⟩, _, _, _, rfl⟩ (by assumption) (by assumption)
end
section
abbrev baseS (S : Str) : Str := Txt.slice S (some (Txt.rfind S (Str.ofString "/") + 1)) none
abbrev headS (S : Str) : Str := Txt.slice S none (some (Txt.rfind S (Str.ofString "/") + 1))
def dirS (S : Str) : Str := if ((headS S).length : Int) ≠ 0 ∧ (headS S != Txt.mul (Str.ofString "/") ((headS S).length : Int)) = true then Txt.rstripChars (headS S) (Str.ofString "/") else headS S
theorem c_bn (w : World) (mean : ExcName → Option Value) (mg mb : Str → Option Value) (rest : List (Addr × Obj)) (t : Tok) (S : Str) (hS : S.length < 100) :
  CC w mean mg mb 164 5 rest [.str S t] (fun r n' => (∃ t', r = .str (baseS S) t') ∧ n' = rest) := by
  k_with_none
  k_with "call builtin:issubclass" => (k_here; k_dflt (refine' iss_str ?k1 ?k2 ?k3 ?_; (case k1 => k_asm); (case k2 => k_asm); (case k3 => k_mem); k_whole); intro h' tk' F' N'; (try k_sweep))
  k_with "call type:list" => (k_here; (with_reducible show wpAny _ _ (call (Value.type _) [Value.str _ _]) _ _ _); k_dflt (refine' list_strK ?k0 ?k1 ?k2 ?k3 ?_; (case k0 => exact rfl); (case k1 => k_asm); (case k2 => k_asm); (case k3 => (rw [sizeLine_eq]; omega)); k_whole); intro l' h' tk' its' n' hch' F' N' l1; (try k_lt l1); (try k_sweep))
  k_with "truthy ref" => (k_here; (with_reducible show wpAny _ _ (truthy (Value.ref _)) _ _ _); k_dflt (first
        | (refine' truthy_cons ?N ?m ?z ?_; (case N => k_asm); (case m => k_mem); (case z => omega); k_whole)
        | (refine' truthy_nil ?N ?m ?_; (case N => k_asm); (case m => k_mem); k_whole)))
  k_with "call builtin:list.pop" => (k_here; (with_reducible show wpAny _ _ (call (Value.builtin _) [Value.ref _, Value.int _ _]) _ _ _); k_dflt (refine' pop0 ?F ?N ?U ?z ?_; (case F => k_asm); (case N => k_asm); (case U => k_upd); (case z => omega); k_whole); intro h' F' N'; (try dsimp only [List.nil_append, List.cons_append] at N'); (try k_sweep))
  dsimp only [CC]
  k_fill
  intros
  rename_i hret
  have hC := codeHd_of_K (c := 224) (P := 220) (by assumption) (by kernel_rfl)
  k_dflt k_enter
  k_steps
  exact hret _ _ _ _ ⟨⟨_, rfl⟩, rfl⟩ (by assumption) (news_sub (by assumption) (fun p hp => by simp [hp]))
theorem c_dn (w : World) (mean : ExcName → Option Value) (mg mb : Str → Option Value) (rest : List (Addr × Obj)) (t : Tok) (S : Str) (hS : S.length < 100) :
  CC w mean mg mb 171 5 rest [.str S t] (fun r n' => (∃ t', r = .str (dirS S) t') ∧ n' = rest) := by
  k_with_none
  k_with "call builtin:issubclass" => (k_here; k_dflt (refine' iss_str ?k1 ?k2 ?k3 ?_; (case k1 => k_asm); (case k2 => k_asm); (case k3 => k_mem); k_whole); intro h' tk' F' N'; (try k_sweep))
  k_with "call type:list" => (k_here; (with_reducible show wpAny _ _ (call (Value.type _) [Value.str _ _]) _ _ _); k_dflt (refine' list_strK ?k0 ?k1 ?k2 ?k3 ?_; (case k0 => exact rfl); (case k1 => k_asm); (case k2 => k_asm); (case k3 => (rw [sizeLine_eq]; omega)); k_whole); intro l' h' tk' its' n' hch' F' N' l1; (try k_lt l1); (try k_sweep))
  k_with "truthy ref" => (k_here; (with_reducible show wpAny _ _ (truthy (Value.ref _)) _ _ _); k_dflt (first
        | (refine' truthy_cons ?N ?m ?z ?_; (case N => k_asm); (case m => k_mem); (case z => omega); k_whole)
        | (refine' truthy_nil ?N ?m ?_; (case N => k_asm); (case m => k_mem); k_whole)))
  k_with "call builtin:list.pop" => (k_here; (with_reducible show wpAny _ _ (call (Value.builtin _) [Value.ref _, Value.int _ _]) _ _ _); k_dflt (refine' pop0 ?F ?N ?U ?z ?_; (case F => k_asm); (case N => k_asm); (case U => k_upd); (case z => omega); k_whole); intro h' F' N'; (try dsimp only [List.nil_append, List.cons_append] at N'); (try k_sweep))
  dsimp only [CC]
  k_fill
  intros
  rename_i hret
  have hC := codeHd_of_K (c := 224) (P := 220) (by assumption) (by kernel_rfl)
  k_dflt k_enter
  k_steps
  · exact hret _ _ _ _ ⟨⟨_, by rw [dirS, if_pos ⟨by assumption, by assumption⟩]⟩, rfl⟩ (by assumption) (news_sub (by assumption) (fun p hp => by simp [hp]))
  · exact hret _ _ _ _ ⟨⟨_, by rw [dirS, if_neg (fun h => Bool.noConfusion (h.2.symm.trans (by assumption : (headS S != Txt.mul (Str.ofString "/") ((headS S).length : Int)) = false)))]⟩, rfl⟩ (by assumption) (news_sub (by assumption) (fun p hp => by simp [hp]))
  · exact hret _ _ _ _ ⟨⟨_, by rw [dirS, if_neg (fun h => h.1 (by assumption))]⟩, rfl⟩ (by assumption) (news_sub (by assumption) (fun p hp => by simp [hp]))
end
section
section
variable {prog : Program} {w : World} {A : Around} {E : Value → Shared → Prop} {s : Shared} {h₀ : Heap} {env : Env} {m : Str → Option Value} {news : List (Addr × Obj)}
/-- the end of a turn: the iterator's object stands as it stood, J of the next turn -/
def TurnEnd (h₀ : Heap) (L : Addr) (I : Addr) (oI : Obj) (J : (Str → Option Value) → List (Addr × Obj) → Prop) (s s₃ : Shared) : Prop :=
  ∃ h tk m' n', s₃ = { s with heap := h, toks := tk } ∧ Fr h₀ L h m' ∧ News h₀ L h ((I, oI) :: n') ∧ (∀ p ∈ n', p.1 ≠ I) ∧ J m' n'
theorem loop_seq {target : Expr} {body orelse : List Stmt} {I : Nat} {fp : List Addr} {n : Nat} {P : Nat → Value → Prop} {St : Nat → Heap → Prop} {R : Result → Shared → Prop}
    (W : Walks prog w A I fp [I] n P St) (J : Nat → (Str → Option Value) → List (Addr × Obj) → Prop)
    (src : ∀ b ∈ fp, b = I ∨ (∃ o, h₀.get? b = some o) ∨ ∃ o, ∀ i m' n', J i m' n' → (b, o) ∈ n')
    (hgo : ∀ i v (s : Shared) (Q : Unit → Shared → Prop) (E : Value → Shared → Prop), St i s.heap → Q () s → wpAny (model prog w) A (letOwnedTupleGo target (.ref I) v) Q E s)
    (hobj : ∀ i h, St i h → ∃ o, h.get? I = some o) (hIL : I ≠ env.locals) (hI0 : h₀.get? I = none) (hnI : ∀ p ∈ news, p.1 ≠ I) (hst : St 0 s.heap) (F : Fr h₀ env.locals s.heap m) (N : News h₀ env.locals s.heap news) (h0 : J 0 m news)
    (step : ∀ i v oI m' n' h tk, i < n → P i v → J i m' n' → (∀ p ∈ n', p.1 ≠ I) → Fr h₀ env.locals h m' → News h₀ env.locals h ((I, oI) :: n') →
      wpAny (model prog w) A (assign target env v) (fun _ s₂ => wpAny (model prog w) A (execs body env) (fun fl s₃ => match fl with
        | .ret v => R (.ok (.ret v)) s₃
        | .brk => R (.ok .next) s₃
        | _ => TurnEnd h₀ env.locals I oI (J (i + 1)) { s with heap := h, toks := tk } s₃) (notedBy (model prog w) A env fun e s' => R (.error e) s') s₂) (notedBy (model prog w) A env fun e s' => R (.error e) s') { s with heap := h, toks := tk })
    (done : ∀ h tk m' n', J n m' n' → (∀ p ∈ n', p.1 ≠ I) → Fr h₀ env.locals h m' → News h₀ env.locals h n' → wpAny (model prog w) A (execs orelse env) (fun f s₃ => R (.ok f) s₃) (notedBy (model prog w) A env fun e s' => R (.error e) s') { s with heap := h, toks := tk }) :
    codeAny (model prog w) A (.forLoop target (.ref I) body orelse env) R s := by
  refine codeAny_forLoop_any (fun k s' => ∃ i h tk m' n', s' = { s with heap := h, toks := tk } ∧ i ≤ n ∧ k = n + 1 - i ∧ St i h ∧ Fr h₀ env.locals h m' ∧ News h₀ env.locals h n' ∧ (∀ p ∈ n', p.1 ≠ I) ∧ J i m' n') ?_ (n + 1)
    ⟨0, s.heap, s.toks, m, news, rfl, Nat.zero_le _, rfl, hst, F, N, hnI, h0⟩
  rintro k s' ⟨i, h, tk, m', n', rfl, hi, rfl, hst', F', N', hn', hJ⟩
  have next : ∀ h₁ : Heap, (∀ b o, b ∉ [I] → h.get? b = some o → h₁.get? b = some o) → Fr h₀ env.locals h₁ m' ∧ News h₀ env.locals h₁ n' := fun h₁ hk =>
    ⟨⟨F'.ns.at' fun o e => hk _ o (fun q => hIL (List.mem_singleton.mp q).symm) e, fun b o e => hk b o (fun q => by rw [List.mem_singleton.mp q, hI0] at e; cases e) (F'.keep b o e), F'.above⟩,
      fun p hp => ⟨hk _ _ (fun q => hn' p hp (List.mem_singleton.mp q)) (N' p hp).1, (N' p hp).2⟩⟩
  by_cases hlt : i < n
  · refine W.item i _ _ _ hlt hst' fun v h₁ tk₁ hP hst₁ hk₁ => ?_
    obtain ⟨F₁, N₁⟩ := next h₁ hk₁
    obtain ⟨oI, hoI⟩ := hobj _ _ hst₁
    refine hgo (i + 1) v _ _ _ hst₁ ?_
    have N₂ : News h₀ env.locals h₁ ((I, oI) :: n') := fun p hp => by
      rcases List.mem_cons.mp hp with rfl | hp
      · exact ⟨hoI, hIL, hI0⟩
      · exact N₁ p hp
    refine wpAny_mono (step i v oI m' n' h₁ tk₁ hlt hP hJ hn' F₁ N₂) (fun _ s₂ h₂ => wpAny_mono h₂ (fun fl s₃ h₃ => ?_) fun _ _ e => e) fun _ _ e => e
    have fin : TurnEnd h₀ env.locals I oI (J (i + 1)) { s with heap := h₁, toks := tk₁ } s₃ → ∃ mm, mm < n + 1 - i ∧ ∃ i h tk m' n', s₃ = { s with heap := h, toks := tk } ∧ i ≤ n ∧ mm = n + 1 - i ∧ St i h ∧ Fr h₀ env.locals h m' ∧ News h₀ env.locals h n' ∧ (∀ p ∈ n', p.1 ≠ I) ∧ J i m' n' := by
      rintro ⟨h₄, tk₄, m₄, n₄, rfl, F₄, N₄, hn₄, hJ₄⟩
      refine ⟨n + 1 - (i + 1), by omega, i + 1, h₄, tk₄, m₄, n₄, rfl, hlt, rfl, W.frame _ _ _ hst₁ fun b hb o e => ?_, F₄, fun p hp => N₄ p (List.mem_cons_of_mem _ hp), hn₄, hJ₄⟩
      rcases src b hb with rfl | ⟨o', ho'⟩ | ⟨o', ho'⟩
      · rw [hoI] at e
        cases e
        exact (N₄ _ (List.mem_cons_self ..)).1
      · have q := F₁.keep b o' ho'
        rw [e] at q
        cases q
        exact F₄.keep b _ ho'
      · have q := (N₁ _ (ho' _ _ _ hJ)).1
        dsimp only at q
        rw [e] at q
        cases q
        exact (N₄ _ (List.mem_cons_of_mem _ (ho' _ _ _ hJ₄))).1
    cases fl with
    | ret v => exact h₃
    | brk => exact h₃
    | next => exact fin h₃
    | cont => exact fin h₃
  · obtain rfl : i = n := Nat.le_antisymm hi (Nat.not_lt.mp hlt)
    refine W.done _ _ _ hst' fun h₁ tk₁ hk₁ => ?_
    obtain ⟨F₁, N₁⟩ := next h₁ hk₁
    exact done h₁ tk₁ m' n' hJ hn' F₁ N₁
/-- a for over a tuple, of the ledger or of the written part -/
theorem for_tup {target iter : Expr} {body orelse : List Stmt} {pos : Pos} {ax : Nat} {vs : List Value} {Q : Flow → Shared → Prop} (hh : A.handled = none)
    (J : Nat → (Str → Option Value) → List (Addr × Obj) → Prop) (F : Fr h₀ env.locals s.heap m) (N : News h₀ env.locals s.heap news) (h0 : J 0 m news)
    (start : ∀ Q', Q' (.ref ax) s → wpAny (model prog w) A (eval iter env) Q' E s) (ht : s.heap.IsTuple ax vs.toArray)
    (src : (∃ o, h₀.get? ax = some o) ∨ ∃ o, ∀ i m' n', J i m' n' → ((ax, o) : Addr × Obj) ∈ n')
    (step : ∀ i v I oI m' n' h tk, vs[i]? = some v → J i m' n' → (∀ p ∈ n', p.1 ≠ I) → (∀ p ∈ news, p.1 < I) → Fr h₀ env.locals h m' → News h₀ env.locals h ((I, oI) :: n') →
      wpAny (model prog w) A (assign target env v) (fun _ s₂ => wpAny (model prog w) A (execs body env) (fun fl s₃ => match fl with
        | .ret v => Q (.ret v) s₃
        | .brk => Q .next s₃
        | _ => TurnEnd h₀ env.locals I oI (J (i + 1)) { s with heap := h, toks := tk } s₃) E s₂) E { s with heap := h, toks := tk })
    (done : ∀ h tk m' n', J vs.length m' n' → Fr h₀ env.locals h m' → News h₀ env.locals h n' → wpAny (model prog w) A (execs orelse env) Q E { s with heap := h, toks := tk })
    (hs : ∀ x, foldedSetIterable iter env x = pure x := by intro _; rfl)
    (hE : PassesOwn (model prog w) A env E := by passes_own) :
    wpAny (model prog w) A (exec (.For target iter body orelse pos) env) Q E s := by
  refine wpAny_For (start _ (wpAny_pyIter_tuple ht ?_)) hs
  have hlt : ax < s.heap.objs.size := by obtain ⟨o, e, _⟩ := ht; exact Heap.lt_size e
  have hI0 : h₀.get? s.heap.objs.size = none := by
    cases e : h₀.get? s.heap.objs.size with
    | none => rfl
    | some o => exact absurd (Heap.lt_size (F.keep _ _ e)) (Nat.lt_irrefl _)
  have N' : News h₀ env.locals (s.heap.push { cls := .type "tuple_iterator", data := .fields #[.ref ax, .int 0 0] }) news := fun p hp => ⟨Heap.get?_push_of_some _ (N p hp).1, (N p hp).2⟩
  refine loop_seq (Walks.tuple hh s.heap.objs.size ax (Nat.ne_of_lt hlt) vs.toArray) J (fun b hb => ?_) (fun i v s Q E st q => letGo_tupleiter st.1 q) (fun i h st => by obtain ⟨o, e, _⟩ := st.1; exact ⟨o, e⟩) (Nat.ne_of_gt F.ns.lt) hI0 (fun p hp => Nat.ne_of_lt (Heap.lt_size (N p hp).1))
    ⟨⟨_, Heap.get?_push_size _ rfl, rfl, rfl⟩, ht.at fun o e => Heap.get?_push_of_some _ e⟩ (F.push _) N' h0 ?_ ?_
  · rcases List.mem_cons.mp hb with rfl | hb
    · exact .inl rfl
    · rw [List.mem_singleton.mp hb]; exact .inr src
  · intro i v oI m' n' h tk _ hP hJ hn' F₁ N₁
    exact wpAny_mono (step i v _ oI m' n' h tk (by simpa using hP) hJ hn' (fun p hp => Heap.lt_size (N p hp).1) F₁ N₁) (fun _ s₂ h₂ => wpAny_passesOwn hE (wpAny_mono h₂ (fun fl s₃ h₃ => by cases fl <;> exact h₃) fun _ _ e => e)) hE
  · intro h tk m' n' hJ _ F₁ N₁
    exact wpAny_passesOwn hE (done h tk m' n' (by simpa using hJ) F₁ N₁)
end
end
section
def tryKid (st : Stmt) (i : Nat) : Stmt := match st with | .Try b _ _ _ _ => b.getD i (.Pass default) | _ => .Pass default
def joinFor : Stmt := tryKid (kidOf (topSt 16) 3) 0
theorem joinFor_is : ∃ px pi pos, joinFor = .For (.Name (Str.ofString "b") px) (.Name (Str.ofString "p") pi) (bodyOf joinFor) [] pos := ⟨_, _, _, rfl⟩
abbrev jMap (S : Str) (t ts : Tok) (Dp : Addr) (m0 : Str → Option Value) : Str → Option Value := fun y =>
  if y = Str.ofString "path" then some (.str S t) else if y = Str.ofString "sep" then some (.str (Str.ofString "/") ts) else if y = Str.ofString "p" then some (.ref Dp) else m0 y
def joinS (S S' : Str) : Str := if Txt.endswith S (Str.ofString "/") = true then S ++ S' else S ++ (Str.ofString "/" ++ S')
theorem join_step (w : World) (mean : ExcName → Option Value) (mg mb : Str → Option Value) (rest : List (Addr × Obj)) {dp un : Nat} {gd : Option (List Code)} {cn : Str} {nm : List (Str × NameKind)} {ig ic : Bool} {mr : List (Str × Const)} {a : Addr} {ccd : Value} {cl : List (Str × Addr)} {outer : List Env} {A₀ : Around} {base h₀ : Heap} {L : Addr} {m0 : Str → Option Value}
    {L1 I Dp : Nat} {oI oD : Obj} {S S' : Str} {t ts t' : Tok} {Q : Flow → Shared → Prop} {s : Shared}
    (env : Env) (henv : env = envOf (Str.ofString "join") (scopeOf (topSt 16)) L 157 (.ref 156))
    (B : Below A₀ base (envX cn ⟨.function, nm, ig, ic, mr⟩ L1 a ccd cl :: outer) h₀) (X : (Mine.hd.heap_39 w.params).In h₀) (T : Top topProg LOOSE mean mg mb h₀) (hd : dp + 8 < recursionLimit) (hu : un + 140 < cLine)
    (hS : S.length < 100) (hS' : S'.length < 100) (hst : Txt.startswith S' (Str.ofString "/") = false) (hne : (S.length : Int) ≠ 0)
    (F : Fr h₀ L s.heap (jMap S t ts Dp m0)) (N : News h₀ L s.heap ((I, oI) :: (Dp, oD) :: rest)) :
    wpAny (model PySem.Challenge.rw_un0033_01.prog w) ((ktrTop dp un gd cn ⟨.function, nm, ig, ic, mr⟩ L1 a ccd cl outer).deeper env) (storeName env (Str.ofString "b") (.str S' t')) (fun _ s₂ => wpAny (model PySem.Challenge.rw_un0033_01.prog w) ((ktrTop dp un gd cn ⟨.function, nm, ig, ic, mr⟩ L1 a ccd cl outer).deeper env) (execs (bodyOf joinFor) env) (fun fl s₃ => match fl with
          | .ret v => Q (.ret v) s₃
          | .brk => Q .next s₃
          | _ => KeepIt (∃ (h' : Heap) (tk' : Nat) (t9 : Tok) (m1 : Str → Option Value), s₃ = { s with heap := h', toks := tk' } ∧ Fr h₀ L h' (fun y => if y = Str.ofString "path" then some (.str (joinS S S') t9) else m1 y) ∧ News h₀ L h' ((I, oI) :: (Dp, oD) :: rest))) (fun _ _ => False) s₂) (fun _ _ => False) s := by
  k_with_none
  k_with "call builtin:issubclass" => (k_here; k_dflt (refine' iss_str ?k1 ?k2 ?k3 ?_; (case k1 => k_asm); (case k2 => k_asm); (case k3 => k_mem); k_whole); intro h' tk' F' N'; (try k_sweep))
  k_with "call type:list" => (k_here; (with_reducible show wpAny _ _ (call (Value.type _) [Value.str _ _]) _ _ _); k_dflt (refine' list_strK ?k0 ?k1 ?k2 ?k3 ?_; (case k0 => exact rfl); (case k1 => k_asm); (case k2 => k_asm); (case k3 => (rw [sizeLine_eq]; omega)); k_whole); intro l' h' tk' its' n' hch' F' N' l1; (try k_lt l1); (try k_sweep))
  k_with "truthy ref" => (k_here; (with_reducible show wpAny _ _ (truthy (Value.ref _)) _ _ _); k_dflt (first
        | (refine' truthy_cons ?N ?m ?z ?_; (case N => k_asm); (case m => k_mem); (case z => omega); k_whole)
        | (refine' truthy_nil ?N ?m ?_; (case N => k_asm); (case m => k_mem); k_whole)))
  k_with "call builtin:list.pop" => (k_here; (with_reducible show wpAny _ _ (call (Value.builtin _) [Value.ref _, Value.int _ _]) _ _ _); k_dflt (refine' pop0 ?F ?N ?U ?z ?_; (case F => k_asm); (case N => k_asm); (case U => k_upd); (case z => omega); k_whole); intro h' F' N'; (try dsimp only [List.nil_append, List.cons_append] at N'); (try k_sweep))
  revert X; k_fill; intro X
  (conv => pattern (execs (bodyOf joinFor) _); arg 1; whnf)
  subst henv
  k_steps
  · rename Fr _ _ _ _ => FF9
    rename News _ _ _ _ => NN9
    rw [joinS, if_pos (by assumption)]
    exact ⟨_, _, _, _, rfl, FF9, news_sub NN9 (fun p hp => List.mem_cons_of_mem _ hp)⟩
  · rename Fr _ _ _ _ => FF9
    rename News _ _ _ _ => NN9
    rw [joinS, if_neg (fun h => Bool.noConfusion (h.symm.trans (by assumption : Txt.endswith S (Str.ofString "/") = false)))]
    exact ⟨_, _, _, _, rfl, FF9, news_sub NN9 (fun p hp => List.mem_cons_of_mem _ hp)⟩
  · exact absurd (by assumption) hne
theorem join_for (w : World) (mean : ExcName → Option Value) (mg mb : Str → Option Value) (rest : List (Addr × Obj)) {dp un : Nat} {gd : Option (List Code)} {cn : Str} {nm : List (Str × NameKind)} {ig ic : Bool} {mr : List (Str × Const)} {a : Addr} {ccd : Value} {cl : List (Str × Addr)} {outer : List Env} {A₀ : Around} {base h₀ : Heap} {L : Addr} {m0 : Str → Option Value}
    {L1 Dp : Nat} {S S' : Str} {t ts t' : Tok} {nd : Nat} {Q : Flow → Shared → Prop} {E : Value → Shared → Prop} {s : Shared}
    (env : Env) (henv : env = envOf (Str.ofString "join") (scopeOf (topSt 16)) L 157 (.ref 156))
    (B : Below A₀ base (envX cn ⟨.function, nm, ig, ic, mr⟩ L1 a ccd cl :: outer) h₀) (X : (Mine.hd.heap_39 w.params).In h₀) (T : Top topProg LOOSE mean mg mb h₀) (hd : dp + 8 < recursionLimit) (hu : un + 140 < cLine)
    (hS : S.length < 100) (hS' : S'.length < 100) (hst : Txt.startswith S' (Str.ofString "/") = false) (hne : (S.length : Int) ≠ 0) 
    (F : Fr h₀ L s.heap (jMap S t ts Dp m0)) (N : News h₀ L s.heap ((Dp, { cls := .type "tuple", data := .seq #[.str S' t'] nd }) :: rest))
    (hQ : ∀ (h' : Heap) (tk' : Nat) (t9 : Tok) (m1 : Str → Option Value), Fr h₀ L h' (fun y => if y = Str.ofString "path" then some (.str (joinS S S') t9) else m1 y) → News h₀ L h' ((Dp, { cls := .type "tuple", data := .seq #[.str S' t'] nd }) :: rest) → Q .next { s with heap := h', toks := tk' }) :
    wpAny (model PySem.Challenge.rw_un0033_01.prog w) ((ktrTop dp un gd cn ⟨.function, nm, ig, ic, mr⟩ L1 a ccd cl outer).deeper env) (exec joinFor env) Q E s := by
  refine wpAny_mono (Q := Q) (E := fun _ _ => False) ?_ (fun _ _ x => x) (fun _ _ x => x.elim)
  obtain ⟨px, pi, pos, e⟩ := joinFor_is
  rw [e]
  have hL : env.locals = L := by rw [henv]; rfl
  subst hL
  refine for_tup (vs := [.str S' t']) rfl (fun i m' n' => n' = ((Dp, ({ cls := .type "tuple", data := .seq #[.str S' t'] nd } : Obj)) :: rest) ∧ (i = 0 → m' = jMap S t ts Dp m0) ∧
    (i = 1 → ∃ (t9 : Tok) (m1 : Str → Option Value), m' = fun y => if y = Str.ofString "path" then some (.str (joinS S S') t9) else m1 y)) F N ⟨rfl, fun _ => rfl, fun h => by cases h⟩ ?_ ⟨_, N.get (List.Mem.head _), rfl, nd, rfl⟩
    (.inr ⟨_, fun i m' n' h => h.1 ▸ List.Mem.head _⟩) ?_ ?_ (hE := PassesOwn.never)
  · intro Q' hQ'
    rw [henv] at F ⊢
    exact ld F (by rfl) hQ'
  · rintro i v I oI m' n' h tk hv ⟨rfl, hm, -⟩ hn hlt F1 N1
    have hi : i = 0 := by
      have := (List.getElem?_eq_some_iff.mp hv).1
      simp at this; exact this
    subst hi
    have hv' : v = .str S' t' := by simpa using hv.symm
    subst hv'
    rw [hm rfl] at F1
    refine wpAny_assign_Name ?_
    refine wpAny_mono (join_step w mean mg mb rest env (henv) B X T hd hu hS hS' hst hne F1 N1 (Q := Q)) (fun _ s₂ h₂ => wpAny_mono h₂ (fun fl s₃ h₃ => ?_) fun _ _ x => x) fun _ _ x => x
    cases fl with
    | ret v => exact h₃
    | brk => exact h₃
    | next =>
      obtain ⟨h', tk', t9, m1, rfl, F2, N2⟩ := h₃
      exact ⟨h', tk', _, _, rfl, F2, N2, hn, rfl, (fun h => absurd h (by decide)), (fun _ => ⟨t9, m1, rfl⟩)⟩
    | cont =>
      obtain ⟨h', tk', t9, m1, rfl, F2, N2⟩ := h₃
      exact ⟨h', tk', _, _, rfl, F2, N2, hn, rfl, (fun h => absurd h (by decide)), (fun _ => ⟨t9, m1, rfl⟩)⟩
  · rintro h tk m' n' ⟨rfl, -, hm⟩ F1 N1
    obtain ⟨t9, m1, rfl⟩ := hm rfl
    exact wpAny_execs_nil (hQ h tk t9 m1 F1 N1)
theorem j_map_self {m : Str → Option Value} {S : Str} {t ts : Tok} {Dp : Addr} (h1 : m (Str.ofString "path") = some (.str S t)) (h2 : m (Str.ofString "sep") = some (.str (Str.ofString "/") ts)) (h3 : m (Str.ofString "p") = some (.ref Dp)) :
    ∀ y, m y = jMap S t ts Dp m y := by
  intro y
  unfold jMap
  split
  · rename_i e; rw [e, h1]
  split
  · rename_i e; rw [e, h2]
  split
  · rename_i e; rw [e, h3]
  rfl
theorem c_join (w : World) (mean : ExcName → Option Value) (mg mb : Str → Option Value) (rest : List (Addr × Obj)) (t t' : Tok) (S S' : Str) (hS : S.length < 100) (hS' : S'.length < 100) (hst : Txt.startswith S' (Str.ofString "/") = false) (hne : (S.length : Int) ≠ 0) :
  CC w mean mg mb 157 10 rest [.str S t, .str S' t'] (fun r n' => (∃ t', r = .str (joinS S S') t') ∧ n' = rest) := by
  k_with_none
  k_with "call builtin:issubclass" => (k_here; k_dflt (refine' iss_str ?k1 ?k2 ?k3 ?_; (case k1 => k_asm); (case k2 => k_asm); (case k3 => k_mem); k_whole); intro h' tk' F' N'; (try k_sweep))
  k_with "call type:list" => (k_here; (with_reducible show wpAny _ _ (call (Value.type _) [Value.str _ _]) _ _ _); k_dflt (refine' list_strK ?k0 ?k1 ?k2 ?k3 ?_; (case k0 => exact rfl); (case k1 => k_asm); (case k2 => k_asm); (case k3 => (rw [sizeLine_eq]; omega)); k_whole); intro l' h' tk' its' n' hch' F' N' l1; (try k_lt l1); (try k_sweep))
  k_with "truthy ref" => (k_here; (with_reducible show wpAny _ _ (truthy (Value.ref _)) _ _ _); k_dflt (first
        | (refine' truthy_cons ?N ?m ?z ?_; (case N => k_asm); (case m => k_mem); (case z => omega); k_whole)
        | (refine' truthy_nil ?N ?m ?_; (case N => k_asm); (case m => k_mem); k_whole)))
  k_with "call builtin:list.pop" => (k_here; (with_reducible show wpAny _ _ (call (Value.builtin _) [Value.ref _, Value.int _ _]) _ _ _); k_dflt (refine' pop0 ?F ?N ?U ?z ?_; (case F => k_asm); (case N => k_asm); (case U => k_upd); (case z => omega); k_whole); intro h' F' N'; (try dsimp only [List.nil_append, List.cons_append] at N'); (try k_sweep))
  dsimp only [CC]
  k_fill
  intros
  rename_i hret
  have hC := codeHd_of_K (c := 224) (P := 220) (by assumption) (by kernel_rfl)
  k_dflt k_enter
  k_steps
  rename Fr _ _ _ _ => FF9
  rename News _ _ _ _ => NN9
  k_dflt (refine' join_for w mean mg mb rest _ rfl ?B ?X ?T ?hd ?hu hS hS' hst hne (fr_eq FF9 (j_map_self rfl rfl rfl)) (news_sub NN9 (fun p hp => List.mem_cons_of_mem _ hp)) ?hQ)
  case B => k_asm
  case X => k_asm
  case T => k_asm
  case hd => ktr_room
  case hu => ktr_units
  intro h' tk' t9 m1 F' N'
  k_steps
  exact hret _ _ _ _ ⟨⟨_, rfl⟩, rfl⟩ (by assumption) (news_sub (by assumption) (fun p hp => by simp [hp]))
end
section
structure SgF (x : Int) : Prop where
  b1 : 0 ≤ Builtin.bitAnd x 1 ∧ Builtin.bitAnd x 1 < ((2 : Nat) : Int)
  b2 : 0 ≤ Builtin.bitAnd (Int.fdiv x (2 ^ Int.toNat 1)) 3 ∧ Builtin.bitAnd (Int.fdiv x (2 ^ Int.toNat 1)) 3 < ((4 : Nat) : Int)
  b3 : 0 ≤ Int.fdiv x (2 ^ Int.toNat 3) ∧ Int.fdiv x (2 ^ Int.toNat 3) < ((2 : Nat) : Int)
structure SgE (S T : Str) : Prop where
  e : S = T
theorem sg_item {prog : Program} {w : World} {A : Around} {E : Value → Shared → Prop} {s : Shared} {value slice : PySem.Expr} {x : PySem.Str} {t u : Tok} {n : Nat} {i : Int} {Q : Value → Shared → Prop}
   (hb : 0 ≤ i ∧ i < (n : Int)) (hk : x.length = n) (hn : n ≤ 100) (h : ∀ S' t' tk, S'.length = 1 → SgE S' (Txt.item x i) → Q (.str S' t') { s with toks := tk })
    (hs : ∀ j, subscripted slice false (.str x t) (.int j u) = operate [.str x t, .int j u] (getItem (.str x t) (.int j u)) := by intro _; with_unfolding_all rfl)
    (ht : ∀ r, letTemporaryGo value (.str x t) r = pure () := by intro _; with_unfolding_all rfl) :
    wpAny (model prog w) A (subscriptTail value slice (.str x t) (.int i u)) Q E s :=
  KXi.item hk (by omega) hb.2 (by omega) (fun e => h _ _ _ e ⟨rfl⟩) (hs i) ht
structure SgI (y v : Int) : Prop where
  e : y = v
theorem sgi1 {x y : Int} (h : SgF x) (a : SgI y (Builtin.bitAnd x 1)) : 0 ≤ y ∧ y < ((2 : Nat) : Int) := a.e ▸ h.b1
theorem sgi2 {x y z : Int} (h : SgF x) (b : SgI z (Int.fdiv x (2 ^ Int.toNat 1))) (a : SgI y (Builtin.bitAnd z 3)) : 0 ≤ y ∧ y < ((4 : Nat) : Int) := by
  have e := b.e; subst e; exact a.e ▸ h.b2
theorem sgi3 {x z : Int} (h : SgF x) (b : SgI z (Int.fdiv x (2 ^ Int.toNat 3))) : 0 ≤ z ∧ z < ((2 : Nat) : Int) := b.e ▸ h.b3
section
variable {prog : Program} {w : World} {A : Around} {E : Value → Shared → Prop} {s : Shared} {a b n : Int} {t u : Tok} {Q : Value → Shared → Prop}
theorem sg_and (h : ∀ y t' tk, SgI y (Builtin.bitAnd a b) → Q (.int y t') { s with toks := tk }) : wpAny (model prog w) A (binaryOp .BitAnd (.int a t) (.int b u)) Q E s := and_int (h _ _ _ ⟨rfl⟩)
theorem sg_shr (hn : 0 ≤ n) (h : ∀ y t' tk, SgI y (a.fdiv (2 ^ n.toNat)) → Q (.int y t') { s with toks := tk }) : wpAny (model prog w) A (binaryOp .RShift (.int a t) (.int n u)) Q E s := rshift_int hn (h _ _ _ ⟨rfl⟩)
end
section
def sigX (x : Int) : Str := Str.ofString "-" ++ Txt.item (Str.ofString "-r") (Builtin.bitAnd x 1) ++ Str.ofString "-" ++ Txt.item (Str.ofString "-xSs") (Builtin.bitAnd (Int.fdiv x (2 ^ Int.toNat 1)) 3) ++ Str.ofString "----" ++ Txt.item (Str.ofString "-w") (Int.fdiv x (2 ^ Int.toNat 3)) ++ Str.ofString "-"
theorem c_signs0 (w : World) (mean : ExcName → Option Value) (mg mb : Str → Option Value) (rest : List (Addr × Obj)) (t : Tok) (x : Int) (hsg : SgF x) :
  CC w mean mg mb 237 5 rest [.int x t] (fun r n' => (∃ t', r = .str (sigX x) t') ∧ n' = rest) := by
  k_with_none
  k_with "call builtin:issubclass" => (k_here; k_dflt (refine' iss_str ?k1 ?k2 ?k3 ?_; (case k1 => k_asm); (case k2 => k_asm); (case k3 => k_mem); k_whole); intro h' tk' F' N'; (try k_sweep))
  k_with "call type:list" => (k_here; (with_reducible show wpAny _ _ (call (Value.type _) [Value.str _ _]) _ _ _); k_dflt (refine' list_strK ?k0 ?k1 ?k2 ?k3 ?_; (case k0 => exact rfl); (case k1 => k_asm); (case k2 => k_asm); (case k3 => (rw [sizeLine_eq]; omega)); k_whole); intro l' h' tk' its' n' hch' F' N' l1; (try k_lt l1); (try k_sweep))
  k_with "truthy ref" => (k_here; (with_reducible show wpAny _ _ (truthy (Value.ref _)) _ _ _); k_dflt (first
        | (refine' truthy_cons ?N ?m ?z ?_; (case N => k_asm); (case m => k_mem); (case z => omega); k_whole)
        | (refine' truthy_nil ?N ?m ?_; (case N => k_asm); (case m => k_mem); k_whole)))
  k_with "call builtin:list.pop" => (k_here; (with_reducible show wpAny _ _ (call (Value.builtin _) [Value.ref _, Value.int _ _]) _ _ _); k_dflt (refine' pop0 ?F ?N ?U ?z ?_; (case F => k_asm); (case N => k_asm); (case U => k_upd); (case z => omega); k_whole); intro h' F' N'; (try dsimp only [List.nil_append, List.cons_append] at N'); (try k_sweep))
  k_with "binaryOp BitAnd int int" => (k_here; k_dflt (with_reducible refine' sg_and ?_); intro y9 t9 k9 e9)
  k_with "binaryOp RShift int int" => (k_here; k_dflt (with_reducible refine' sg_shr ?k1 ?_); (case k1 => decide); intro y9 t9 k9 e9)
  k_with "subscriptTail" => (k_here; (with_reducible show wpAny _ _ (subscriptTail _ _ (Value.str _ _) (Value.int _ _)) _ _ _); k_dflt (first
         | (with_reducible refine' sg_item (sgi1 (by assumption) (by assumption)) ?k1 ?k2 ?_); (case k1 => exact rfl); (case k2 => decide)
         | (with_reducible refine' sg_item (sgi2 (by assumption) (by assumption) (by assumption)) ?k1 ?k2 ?_); (case k1 => exact rfl); (case k2 => decide)
         | (with_reducible refine' sg_item (sgi3 (by assumption) (by assumption)) ?k1 ?k2 ?_); (case k1 => exact rfl); (case k2 => decide)); intro S9 t9 k9 l9 e9)
  dsimp only [CC]
  k_fill
  intros
  rename_i hret
  have hC := codeHd_of_K (c := 224) (P := 220) (by assumption) (by kernel_rfl)
  k_dflt k_enter
  k_steps
  repeat (rename SgE _ _ => q9; obtain ⟨q9⟩ := q9; subst q9)
  repeat (rename SgI _ _ => q9; obtain ⟨q9⟩ := q9; subst q9)
  exact hret _ _ _ _ ⟨⟨_, rfl⟩, rfl⟩ (by assumption) (news_sub (by assumption) (fun p hp => by simp [hp]))
end
theorem sgf_all : ∀ k : Fin 16, SgF (k.val : Int) := fun k => ⟨by revert k; decide +kernel, by revert k; decide +kernel, by revert k; decide +kernel⟩
def sigT (k : Nat) : Str := Str.ofString (["----------", "-r--------", "---x------", "-r-x------", "---S------", "-r-S------", "---s------", "-r-s------", "--------w-", "-r------w-", "---x----w-", "-r-x----w-", "---S----w-", "-r-S----w-", "---s----w-", "-r-s----w-"].getD k "")
theorem sig_all : ∀ k : Fin 16, sigX (k.val : Int) = sigT k.val := by decide +kernel
theorem c_signs (w : World) (mean : ExcName → Option Value) (mg mb : Str → Option Value) (rest : List (Addr × Obj)) (t : Tok) (k : Nat) (hk : k < 16) :
  CC w mean mg mb 237 5 rest [.int (k : Int) t] (fun r n' => (∃ t', r = .str (sigT k) t') ∧ n' = rest) := by
  have h := c_signs0 w mean mg mb rest t (k : Int) (sgf_all ⟨k, hk⟩)
  rw [show sigX (k : Int) = sigT k from sig_all ⟨k, hk⟩] at h
  exact h
end
section
section
open PyProof.Rows.LCg
variable {prog : Program} {w : World} {A : Around} {E : Value → Shared → Prop} {s : Shared} {h₀ : Heap} {L : Addr} {m : Str → Option Value} {env : Env}
/-- the tests of one clause: on with `yes`, or with `no` -/
def Tst (prog : Program) (w : World) (A : Around) (ifs : List PySem.Expr) (env : Env) (yes no : Shared → Prop) (E : Value → Shared → Prop) (s : Shared) : Prop :=
  wpAny (model prog w) A (forIn ifs true fun c r => if r = true then do let ok ← isTrue c env (eval c env); pure (ForInStep.yield ok) else pure (ForInStep.yield r)) (fun ok s₃ => if ok = true then yes s₃ else no s₃) E s
theorem Tst.nil {yes no : Shared → Prop} (h : yes s) : Tst prog w A [] env yes no E s := wpAny_tests_nil (by simpa using h)
theorem Tst.one {c : PySem.Expr} {yes no : Shared → Prop} (h : wpAny (model prog w) A (isTrue c env (eval c env)) (fun ok s₃ => if ok = true then yes s₃ else no s₃) E s) : Tst prog w A [c] env yes no E s := wpAny_tests_one h
theorem comp_loop {elt target iter : PySem.Expr} {ifs : List PySem.Expr} {scope : Scope} {pos : Pos} {it acc : Value} {R : Result → Shared → Prop} (I : Nat → Shared → Prop)
    (turn : ∀ n s, I n s → wpAny (model prog w) A (pyNext it) (fun r s₁ => match r with
      | none => R (.ok .next) s₁
      | some v => wpAny (model prog w) A (letOwnedTupleGo target it v) (fun _ s₀ => wpAny (model prog w) A (assign target env v) (fun _ s₂ =>
          Tst prog w A ifs env (fun s₃ => wpAny (model prog w) A (eval elt env) (fun x s₄ => wpAny (model prog w) A (call (.builtin "list.append") [acc, x]) (fun _ s₅ => ∃ k, k < n ∧ I k s₅) (notedBy (model prog w) A env fun e s' => R (.error e) s') s₄) (notedBy (model prog w) A env fun e s' => R (.error e) s') s₃)
            (fun s₃ => ∃ k, k < n ∧ I k s₃) (notedBy (model prog w) A env fun e s' => R (.error e) s') s₂)
          (notedBy (model prog w) A env fun e s' => R (.error e) s') s₀) (notedBy (model prog w) A env fun e s' => R (.error e) s') s₁) (notedBy (model prog w) A env fun e s' => R (.error e) s') s)
    (n : Nat) (h : I n s) : codeAny (model prog w) A (.compLoop (.ListComp elt [⟨target, iter, ifs, 0⟩] scope pos) 0 it acc env) R s := by
  refine codeAny_loop rfl I (fun n s hI => ?_) n h
  show wpAny _ A ((compTurn (.ListComp elt [⟨target, iter, ifs, 0⟩] scope pos) 0 it acc env).onRaise (fun x => do noteFrame x env; theTreesLotGoes x)) _ _ s
  refine wpAny_noted ?_
  rw [compTurn_list]
  refine wpAny_bind (wpAny_standAt (wpAny_bind (wpAny_mono (turn n s hI) (fun r s₁ h₁ => ?_) fun _ _ q => q)))
  cases r with
  | none => exact wpAny_pure h₁
  | some v =>
    refine wpAny_bind (wpAny_mono h₁ (fun _ s₀ g₀ => ?_) fun _ _ q => q)
    refine wpAny_bind (wpAny_mono g₀ (fun _ s₂ g₂ => wpAny_bind (wpAny_mono g₂ (fun ok s₃ g₃ => ?_) fun _ _ q => q)) fun _ _ q => q)
    cases ok with
    | false => exact wpAny_pure ⟨rfl, g₃⟩
    | true => exact wpAny_bind (wpAny_bind (wpAny_mono g₃ (fun x s₄ g₄ => wpAny_bind (wpAny_mono g₄ (fun _ s₅ g₅ => wpAny_pure (wpAny_pure ⟨rfl, g₅⟩)) fun _ _ q => q)) fun _ _ q => q))
theorem comp_pairs {elt iter : PySem.Expr} {ifs : List PySem.Expr} {a b : Str} {pa pb tp : Pos} {kk : Nat} {scope : Scope} {cl : List (Str × Addr)} {pos : Pos} {s₂ : Shared} {I : Nat} {fp wr : List Addr} {n : Nat}
    {Pt : Nat → Array Value → Prop} {St : Nat → Heap → Prop} {Mid : Nat → Addr → Heap → Prop} {news : List (Addr × Obj)} {RR : Value → Addr → Result → Shared → Prop}
    (W : WalksT prog w A I fp wr n Pt St Mid) (hsz : n ≤ sizeLine) (hh : A.handled = none) (J : Nat → List Value → Prop)
    (hcell : ∀ y ∈ scope.names, y.2 ≠ .cell) (hkind : scope.kind = .function) (hxa : scope.names.lookup a = some .local) (hxb : scope.names.lookup b = some .local) (hab : a ≠ b)
    (hst : St 0 s₂.heap) (F : Fr h₀ L s₂.heap m) (N : News h₀ L s₂.heap news) (h0 : J 0 [])
    (hPt : ∀ i vals, Pt i vals → ∃ v₁ v₂, vals = #[v₁, v₂])
    (live : ∀ i h, St i h → ∀ b ∈ wr, ∃ o, h.get? b = some o)
    (hwr : ∀ b ∈ wr, b ≠ L ∧ h₀.get? b = none ∧ ∀ p ∈ news, p.1 ≠ b)
    (src : ∀ b ∈ fp, b ∈ wr ∨ (∃ o, h₀.get? b = some o) ∨ ∃ o, ((b, o) : Addr × Obj) ∈ news)
    (step : ∀ i v₁ v₂ ys (C D : Nat) oC m₂ h tk (nw : List (Addr × Obj)) E', i < n → Pt i #[v₁, v₂] → J i ys → NsObj oC m₂ → m₂ a = some v₁ → m₂ b = some v₂ → Fr h₀ L h m → News h₀ L h ((C, oC) :: (D, lst ys) :: nw) → (∀ p ∈ news, p ∈ nw) → (∀ p ∈ nw, p.1 < D) → D < C →
      Tst prog w A ifs (compEnvC scope cl C env)
        (fun s₃ => wpAny (model prog w) A (eval elt (compEnvC scope cl C env)) (fun y s₄ => ∃ h' tk', s₄ = { s₂ with heap := h', toks := tk' } ∧ Fr h₀ L h' m ∧ News h₀ L h' ((C, oC) :: (D, lst ys) :: nw) ∧ J (i + 1) (ys ++ [y])) E' s₃)
        (fun s₃ => ∃ h' tk', s₃ = { s₂ with heap := h', toks := tk' } ∧ Fr h₀ L h' m ∧ News h₀ L h' ((C, oC) :: (D, lst ys) :: nw) ∧ J (i + 1) ys) E' { s₂ with heap := h, toks := tk })
    (hRR : ∀ D C h tk m' ys, Fr h₀ L h m → News h₀ L h ((D, lst ys) :: news) → (∀ p ∈ news, p.1 < D) → h.Ns C m' → h₀.get? C = none → h₀.get? D = none → C ≠ L → D ≠ L → C ≠ D → (∀ p ∈ news, p.1 ≠ C) → J n ys → RR (.ref D) C (.ok .next) { s₂ with heap := h, toks := tk }) :
    wpAny (model prog w) A (newList []) (fun acc s₃ => wpAny (model prog w) A (newFunctionEnv scope env.globals cl [] env.qual none .none (some env)) (fun cenv s₄ =>
      codeAny (model prog w) A (.compStart (.ListComp elt [⟨.Tuple [.Name a pa, .Name b pb] kk tp, iter, ifs, 0⟩] scope pos) 0 (.ref I) acc { cenv with scope := relabel scope env }) (RR acc cenv.locals) s₄) E s₃) E s₂ := by
  refine wpAny_newObj_type (wpAny_newFunctionEnv hcell (by intro y hy; simp at hy) (fun h₁ hns₁ hsb₁ => ?_) hkind)
  dsimp only at hns₁ hsb₁ ⊢
  generalize hH2 : s₂.heap.push { cls := .type "list", dict := none, data := .seq ([] : List Value).toArray } = H2 at hns₁ hsb₁ ⊢
  have hCe : H2.objs.size = s₂.heap.objs.size + 1 := by rw [← hH2, Heap.size_push]
  generalize hCn : H2.objs.size = C at hns₁ hsb₁ hCe ⊢
  generalize hDn : s₂.heap.objs.size = D at hCe ⊢
  have low : ∀ (b : Nat) o, s₂.heap.get? b = some o → @LT.lt Nat _ b D := fun b o e => hDn ▸ Heap.lt_size e
  have up₁ : ∀ b o, s₂.heap.get? b = some o → h₁.get? b = some o := fun b o e => hsb₁.extBut b o (by have := low b o e; (first | omega | (show @Ne Nat _ _; omega) | (show @LT.lt Nat _ _ _; omega))) (Heap.get?_push_of_some _ (hH2 ▸ Heap.get?_push_of_some _ e))
  have hacc : h₁.get? D = some (lst []) := hsb₁.extBut _ _ (by (first | omega | (show @Ne Nat _ _; omega) | (show @LT.lt Nat _ _ _; omega))) (Heap.get?_push_of_some _ (hH2 ▸ (hDn ▸ Heap.get?_push_size _ rfl)))
  have new : ∀ x : Nat, D ≤ x → h₀.get? x = none := fun x hx => by
    cases e : h₀.get? x with
    | none => rfl
    | some o => exact absurd (low _ _ (F.keep x o e)) (by (first | omega | (show @Ne Nat _ _; omega) | (show @LT.lt Nat _ _ _; omega)))
  have hLD : @LT.lt Nat _ L D := hDn ▸ F.ns.lt
  have hnD : ∀ p ∈ news, @LT.lt Nat _ p.1 D := fun p hp => low _ _ (N p hp).1
  have hwD : ∀ b ∈ wr, @LT.lt Nat _ b D := fun b hb => by obtain ⟨o, e⟩ := live _ _ hst b hb; exact low _ _ e
  have hfD : ∀ b ∈ fp, @LT.lt Nat _ b D := fun b hb => by
    rcases src b hb with h | ⟨o, h⟩ | ⟨o, h⟩
    · exact hwD b h
    · exact low _ _ (F.keep _ _ h)
    · exact hnD _ h
  have loop : ∀ s₃ : Shared, s₃ = { s₂ with heap := h₁, toks := s₂.toks + ([] : List (Str × Value)).length } →
      codeAny (model prog w) A (.compLoop (.ListComp elt [⟨.Tuple [.Name a pa, .Name b pb] kk tp, iter, ifs, 0⟩] scope pos) 0 (.ref I) (.ref D) (compEnvC scope cl C env)) (RR (.ref D) C) s₃ := by
    rintro s₃ rfl
    refine comp_loop (fun k s' => ∃ h' tk i ys m', s' = { s₂ with heap := h', toks := tk } ∧ i ≤ n ∧ k = n + 1 - i ∧ ys.length ≤ i ∧ St i h' ∧ Fr h₀ L h' m ∧ h'.Ns C m' ∧ News h₀ L h' ((D, lst ys) :: news) ∧ J i ys) ?_ (n + 1)
      ⟨h₁, _, 0, [], _, rfl, Nat.zero_le _, rfl, Nat.le_refl _, W.frame _ _ _ hst fun b _ o e => up₁ b o e, F.keeps up₁, hns₁, fun p hp => ?_, h0⟩
    · rintro k s' ⟨h', tk, i, ys, m', rfl, hi, rfl, hyl, hst', F', hn', N', hJ⟩
      by_cases hlt : i < n
      · refine W.item i _ _ _ hlt hst' fun T vals g₂ tk₂ hP _ hT hM k₂ => ?_
        refine W.go _ _ _ i T _ _ _ hM fun g₃ st₃ k₃ => ?_
        obtain ⟨v₁, v₂, rfl⟩ := hPt _ _ hP
        have hT₃ : g₃.IsTuple T #[v₁, v₂] := by
          obtain ⟨o, e, r⟩ := hT
          exact ⟨o, k₃ _ _ (W.apart _ _ _ hM) e, r⟩
        refine assign_Tuple_tuple hh hT₃ rfl rfl fun g₄ he => ?_
        have k₄ : ∀ b o, g₃.get? b = some o → g₄.get? b = some o := fun b o e => he b o (Nat.ne_of_lt (Heap.lt_size e)) e
        have hCw : C ∉ wr := fun h => by have := hwD _ h; (first | omega | (show @Ne Nat _ _; omega) | (show @LT.lt Nat _ _ _; omega))
        have nsC : g₄.Ns C m' := hn'.at' fun o e => k₄ _ _ (k₃ _ _ hCw (k₂ _ _ hCw e))
        refine assignInOrder_cons (wpAny_assign_Name (wpAny_storeName_local (lookup_relabel_local hxa) nsC (fun g₅ hn₅ hs₅ => ?_) (by simp [compEnvC, relabel, hkind])))
        refine assignInOrder_cons (wpAny_assign_Name (wpAny_storeName_local (lookup_relabel_local hxb) hn₅ (fun g₆ hn₆ hs₆ => ?_) (by simp [compEnvC, relabel, hkind])))
        refine assignInOrder_nil ?_
        have u₆ : ∀ b o, b ≠ C → g₃.get? b = some o → g₆.get? b = some o := fun b o hb e => hs₆.extBut b o hb (hs₅.extBut b o hb (k₄ _ _ e))
        have up : ∀ b o, b ∉ wr → b ≠ C → h'.get? b = some o → g₆.get? b = some o := fun b o hw hb e => u₆ b o hb (k₃ _ _ hw (k₂ _ _ hw e))
        have st₆ : St (i + 1) g₆ := W.frame _ _ _ st₃ fun b hb o e => u₆ b o (by have := hfD b hb; (first | omega | (show @Ne Nat _ _; omega) | (show @LT.lt Nat _ _ _; omega))) e
        obtain ⟨oC, heC, hoC⟩ := ns_obj hn₆
        have F₆ : Fr h₀ L g₆ m := ⟨F'.ns.at' fun o e => up _ o (fun h => (hwr _ h).1 rfl) (by (first | omega | (show @Ne Nat _ _; omega) | (show @LT.lt Nat _ _ _; omega))) e, fun c o e => up c o (fun q => by rw [(hwr _ q).2.1] at e; cases e) (fun q => by rw [q, new C (by (first | omega | (show @Ne Nat _ _; omega) | (show @LT.lt Nat _ _ _; omega)))] at e; cases e) (F'.keep c o e), F'.above⟩
        let nw : List (Addr × Obj) := news ++ wr.map fun b => (b, (g₆.get? b).getD default)
        have N₆ : News h₀ L g₆ ((C, oC) :: (D, lst ys) :: nw) := fun p hp => by
          rcases List.mem_cons.mp hp with rfl | hp
          · exact ⟨heC, by dsimp only; (first | omega | (show @Ne Nat _ _; omega) | (show @LT.lt Nat _ _ _; omega)), new C (by (first | omega | (show @Ne Nat _ _; omega) | (show @LT.lt Nat _ _ _; omega)))⟩
          · rcases List.mem_cons.mp hp with rfl | hp
            · exact ⟨up _ _ (fun h => by have := hwD _ h; (first | omega | (show @Ne Nat _ _; omega) | (show @LT.lt Nat _ _ _; omega))) (by dsimp only; (first | omega | (show @Ne Nat _ _; omega) | (show @LT.lt Nat _ _ _; omega))) (N' _ List.mem_cons_self).1, (N' _ List.mem_cons_self).2⟩
            · rcases List.mem_append.mp hp with hp | hp
              · have q := N' p (List.mem_cons_of_mem _ hp)
                exact ⟨up _ _ (fun h => (hwr _ h).2.2 p hp rfl) (by have := hnD p hp; (first | omega | (show @Ne Nat _ _; omega) | (show @LT.lt Nat _ _ _; omega))) q.1, q.2⟩
              · obtain ⟨b, hb, rfl⟩ := List.mem_map.mp hp
                obtain ⟨o, e⟩ := live _ _ st₆ b hb
                exact ⟨by dsimp only; rw [e]; rfl, (hwr b hb).1, (hwr b hb).2.1⟩
        have hnw : ∀ p ∈ nw, @LT.lt Nat _ p.1 D := fun p hp => by
          rcases List.mem_append.mp hp with hp | hp
          · exact hnD p hp
          · obtain ⟨b, hb, rfl⟩ := List.mem_map.mp hp
            exact hwD b hb
        have fin : ∀ g, Fr h₀ L g m → News h₀ L g ((C, oC) :: (D, lst ys) :: nw) → St (i + 1) g := fun g Fg Ng => W.frame _ _ _ st₆ fun b hb o e => by
          rcases src b hb with h | ⟨o', h⟩ | ⟨o', h⟩
          · have q := (Ng (b, (g₆.get? b).getD default) (List.mem_cons_of_mem _ (List.mem_cons_of_mem _ (List.mem_append_right _ (List.mem_map.mpr ⟨b, h, rfl⟩))))).1
            dsimp only at q
            rw [e] at q
            exact q
          · have q := F₆.keep b o' h
            rw [e] at q
            cases q
            exact Fg.keep b _ h
          · have hm : ((b, o') : Addr × Obj) ∈ (C, oC) :: (D, lst ys) :: nw := List.mem_cons_of_mem _ (List.mem_cons_of_mem _ (List.mem_append_left _ h))
            have q := (N₆ _ hm).1
            dsimp only at q
            rw [e] at q
            cases q
            exact (Ng _ hm).1
        have hstep := step i v₁ v₂ ys C D oC _ g₆ (tk₂ + 1 + 1) nw (notedBy (model prog w) A (compEnvC scope cl C env) fun e s' => RR (.ref D) C (.error e) s') hlt hP hJ hoC (by simp [hab]) (by simp) F₆ N₆ (fun p hp => List.mem_append_left _ hp) hnw (by (first | omega | (show @Ne Nat _ _; omega) | (show @LT.lt Nat _ _ _; omega)))
        refine wpAny_mono hstep (fun ok s₃ g => ?_) fun _ _ q => q
        split
        · rename_i hok
          rw [if_pos hok] at g
          refine wpAny_mono g (fun y s₄ g₄' => ?_) fun _ _ q => q
          obtain ⟨h₇, tk₇, rfl, F₇, N₇, J₇⟩ := g₄'
          have st₇ := fin h₇ F₇ N₇
          refine append_at (hsz := by show ys.toArray.size ≤ sizeLine; rw [List.size_toArray]; (first | omega | (show @Ne Nat _ _; omega) | (show @LT.lt Nat _ _ _; omega))) (N₇ (D, lst ys) (List.mem_cons_of_mem _ List.mem_cons_self)).1 fun h₈ hs₈ hD₈ => ?_
          refine ⟨n + 1 - (i + 1), by (first | omega | (show @Ne Nat _ _; omega) | (show @LT.lt Nat _ _ _; omega)), h₈, tk₇, i + 1, ys ++ [y], _, rfl, hlt, rfl, by rw [List.length_append, List.length_singleton]; (first | omega | (show @Ne Nat _ _; omega) | (show @LT.lt Nat _ _ _; omega)), W.frame _ _ _ st₇ fun b hb o e => hs₈.extBut b o (by have := hfD b hb; (first | omega | (show @Ne Nat _ _; omega) | (show @LT.lt Nat _ _ _; omega))) e,
            F₇.change hs₈ (by (first | omega | (show @Ne Nat _ _; omega) | (show @LT.lt Nat _ _ _; omega))) (new D (by (first | omega | (show @Ne Nat _ _; omega) | (show @LT.lt Nat _ _ _; omega)))), (hoC.ns (N₇ (C, oC) List.mem_cons_self).1).sameBut hs₈ (by (first | omega | (show @Ne Nat _ _; omega) | (show @LT.lt Nat _ _ _; omega))), fun p hp => ?_, J₇⟩
          rcases List.mem_cons.mp hp with rfl | hp
          · exact ⟨hD₈.trans (congrArg some (lst_snoc ys y)), by dsimp only; (first | omega | (show @Ne Nat _ _; omega) | (show @LT.lt Nat _ _ _; omega)), new D (by (first | omega | (show @Ne Nat _ _; omega) | (show @LT.lt Nat _ _ _; omega)))⟩
          · have q := N₇ p (List.mem_cons_of_mem _ (List.mem_cons_of_mem _ (List.mem_append_left _ hp)))
            exact ⟨hs₈.extBut _ _ (by have := hnD p hp; (first | omega | (show @Ne Nat _ _; omega) | (show @LT.lt Nat _ _ _; omega))) q.1, q.2⟩
        · rename_i hok
          rw [if_neg hok] at g
          obtain ⟨h₇, tk₇, rfl, F₇, N₇, J₇⟩ := g
          refine ⟨n + 1 - (i + 1), by (first | omega | (show @Ne Nat _ _; omega) | (show @LT.lt Nat _ _ _; omega)), h₇, tk₇, i + 1, ys, _, rfl, hlt, rfl, by (first | omega | (show @Ne Nat _ _; omega) | (show @LT.lt Nat _ _ _; omega)), fin h₇ F₇ N₇, F₇, hoC.ns (N₇ (C, oC) List.mem_cons_self).1, fun p hp => ?_, J₇⟩
          rcases List.mem_cons.mp hp with rfl | hp
          · exact N₇ _ (List.mem_cons_of_mem _ List.mem_cons_self)
          · exact N₇ p (List.mem_cons_of_mem _ (List.mem_cons_of_mem _ (List.mem_append_left _ hp)))
      · obtain rfl : i = n := Nat.le_antisymm hi (Nat.not_lt.mp hlt)
        refine W.done _ _ _ hst' fun g₂ tk₂ k₂ => ?_
        refine hRR D C g₂ tk₂ m' ys ⟨F'.ns.at' fun o e => k₂ _ o (fun h => (hwr _ h).1 rfl) e, fun c o e => k₂ c o (fun q => by rw [(hwr _ q).2.1] at e; cases e) (F'.keep c o e), F'.above⟩ (fun p hp => ?_) hnD
          (hn'.at' fun o e => k₂ _ _ (fun h => by have := hwD _ h; (first | omega | (show @Ne Nat _ _; omega) | (show @LT.lt Nat _ _ _; omega))) e) (new C (by (first | omega | (show @Ne Nat _ _; omega) | (show @LT.lt Nat _ _ _; omega)))) (new D (by (first | omega | (show @Ne Nat _ _; omega) | (show @LT.lt Nat _ _ _; omega)))) (by (first | omega | (show @Ne Nat _ _; omega) | (show @LT.lt Nat _ _ _; omega))) (by (first | omega | (show @Ne Nat _ _; omega) | (show @LT.lt Nat _ _ _; omega))) (by (first | omega | (show @Ne Nat _ _; omega) | (show @LT.lt Nat _ _ _; omega))) (fun p hp => by have := hnD p hp; (first | omega | (show @Ne Nat _ _; omega) | (show @LT.lt Nat _ _ _; omega))) hJ
        refine ⟨k₂ _ _ (fun h => ?_) (N' p hp).1, (N' p hp).2⟩
        rcases List.mem_cons.mp hp with rfl | hp
        · have := hwD _ h; dsimp only at this; (first | omega | (show @Ne Nat _ _; omega) | (show @LT.lt Nat _ _ _; omega))
        · exact (hwr _ h).2.2 p hp rfl
    · rcases List.mem_cons.mp hp with rfl | hp
      · exact ⟨hacc, by dsimp only; (first | omega | (show @Ne Nat _ _; omega) | (show @LT.lt Nat _ _ _; omega)), new D (by (first | omega | (show @Ne Nat _ _; omega) | (show @LT.lt Nat _ _ _; omega)))⟩
      · exact ⟨up₁ _ _ (N p hp).1, (N p hp).2⟩
  have hst₁ : St 0 h₁ := W.frame _ _ _ hst fun b _ o e => up₁ b o e
  exact codeAny_compStart_list (loop _ rfl) (W.self 0 _ _ _ hst₁ (loop _ rfl))
end
end
section
section
open PyProof.Rows.LCg
variable {prog : Program} {w : World} {A : Around} {E : Value → Shared → Prop} {s : Shared} {h₀ : Heap} {L : Addr} {m : Str → Option Value} {env : Env}
/-- what stands behind the iterable of a comprehension -/
def SrcZ (prog : Program) (w : World) (A : Around) (E : Value → Shared → Prop) (e : PySem.Expr) (scope : Scope) (cl : List (Str × Addr)) (env : Env) (Q : Value → Shared → Prop) (x : Value) (s₁ : Shared) : Prop :=
  wpAny (model prog w) A (pyIter x) (fun it s₂ => wpAny (model prog w) A (newList []) (fun acc s₃ => wpAny (model prog w) A (newFunctionEnv scope env.globals cl [] env.qual none .none (some env)) (fun cenv s₄ =>
    codeAny (model prog w) A (.compStart e 0 it acc { cenv with scope := relabel scope env }) (compPost (model prog w) A E none Q acc cenv.locals) s₄) E s₃) E s₂) E s₁
theorem ListComp_Z {elt target iter : PySem.Expr} {ifs : List PySem.Expr} {scope : Scope} {cl : List (Str × Addr)} {pos : Pos} {Q : Value → Shared → Prop}
    (hclos : closureFor scope env = pure cl) (hkind : scope.kind = .function) (hnames : ∀ y ∈ scope.names, y.2 = .local → scope.names.lookup y.1 = some .local)
    (h : wpAny (model prog w) A (eval iter env) (SrcZ prog w A E (.ListComp elt [⟨target, iter, ifs, 0⟩] scope pos) scope cl env Q) E s)
    (hs : ∀ x, foldedSetIterable iter env x = pure x := by intro _; rfl) :
    wpAny (model prog w) A (eval (.ListComp elt [⟨target, iter, ifs, 0⟩] scope pos) env) Q E s := by
  rw [eval_ListComp]
  exact wpAny_comprehension_free (use := none) rfl hs hclos hkind hnames h
theorem enum_Z {elt iter : PySem.Expr} {ifs : List PySem.Expr} {a b : Str} {pa pb tp : Pos} {kk : Nat} {scope : Scope} {cl : List (Str × Addr)} {pos : Pos} {Q : Value → Shared → Prop}
    {l : Nat} {its : List Value} {nn : Nat} {news : List (Addr × Obj)} (hh : A.handled = none) (J : Nat → List Value → Prop)
    (hcell : ∀ y ∈ scope.names, y.2 ≠ .cell) (hkind : scope.kind = .function) (hxa : scope.names.lookup a = some .local) (hxb : scope.names.lookup b = some .local) (hab : a ≠ b)
    (F : Fr h₀ L s.heap m) (N : News h₀ L s.heap news) (hm : (l, W.listOf its.toArray nn) ∈ news) (hsz : its.length ≤ sizeLine) (h0 : J 0 [])
    (step : ∀ i v ti ys (C D : Nat) oC m₂ h tk (nw : List (Addr × Obj)) E', its[i]? = some v → J i ys → NsObj oC m₂ → m₂ a = some (.int i ti) → m₂ b = some v → Fr h₀ L h m → News h₀ L h ((C, oC) :: (D, lst ys) :: nw) → (∀ p ∈ news, p ∈ nw) → (∀ p ∈ nw, p.1 < D) → D < C →
      Tst prog w A ifs (compEnvC scope cl C env)
        (fun s₃ => wpAny (model prog w) A (eval elt (compEnvC scope cl C env)) (fun y s₄ => ∃ h' tk', s₄ = { s with heap := h', toks := tk' } ∧ Fr h₀ L h' m ∧ News h₀ L h' ((C, oC) :: (D, lst ys) :: nw) ∧ J (i + 1) (ys ++ [y])) E' s₃)
        (fun s₃ => ∃ h' tk', s₃ = { s with heap := h', toks := tk' } ∧ Fr h₀ L h' m ∧ News h₀ L h' ((C, oC) :: (D, lst ys) :: nw) ∧ J (i + 1) ys) E' { s with heap := h, toks := tk })
    (done : ∀ D h tk ys, Fr h₀ L h m → News h₀ L h ((D, lst ys) :: news) → (∀ p ∈ news, p.1 < D) → J its.length ys → Q (.ref D) { s with heap := h, toks := tk }) :
    wpAny (model prog w) A (call (.type "enumerate") [.ref l]) (SrcZ prog w A E (.ListComp elt [⟨.Tuple [.Name a pa, .Name b pb] kk tp, iter, ifs, 0⟩] scope pos) scope cl env Q) E s := by
  have hl : s.heap.IsList l its.toArray := ⟨_, N.get hm, rfl, nn, rfl⟩
  have hll : @LT.lt Nat _ l s.heap.objs.size := Heap.lt_size (N.get hm)
  have hLL : @LT.lt Nat _ L s.heap.objs.size := F.ns.lt
  have hnl : ∀ p ∈ news, @LT.lt Nat _ p.1 s.heap.objs.size := fun p hp => Heap.lt_size (N p hp).1
  have hnew : ∀ x : Nat, s.heap.objs.size ≤ x → h₀.get? x = none := fun x hx => by
    cases e : h₀.get? x with
    | none => rfl
    | some o => exact absurd (Heap.lt_size (F.keep x o e)) (Nat.not_lt.mpr hx)
  refine call_enumerate_list hl fun h' he hit hsz' hk => ?_
  unfold SrcZ
  refine wpAny_pyIter_enum he ?_
  generalize s.heap.objs.size = z at *
  refine comp_pairs (s₂ := { s with heap := h' }) (I := z + 1) (news := news) (WalksT.enumerateD (Draws.list (A := A.in1) hh z l (Nat.ne_of_lt hll) its.toArray) (z + 1) (Nat.succ_ne_self _) (fun h => ?_) (by simp)) (by simpa using hsz) hh J hcell hkind hxa hxb hab
    ⟨⟨_, by simpa using he⟩, hit, hl.at fun o e => hk _ _ e⟩ (fr_keeps F hk) (news_keeps N hk) h0 (fun i vals ⟨t, x, _, e⟩ => ⟨_, _, e⟩) (fun i h st b hb => ?_) (fun b hb => ?_) (fun b hb => ?_)
    (fun i v₁ v₂ ys C D oC m₂ h tk nw E' hi hP hJ hoC ha hb F₁ N₁ hsb hn hD => ?_) (fun D C h tk m' ys F₁ N₁ hD hC e1 e2 n1 n2 n3 hne hJ => ?_)
  · rcases List.mem_cons.mp h with e | h
    · exact Nat.succ_ne_self _ e
    · exact Nat.ne_of_gt (Nat.lt_succ_of_lt hll) (List.mem_singleton.mp h)
  · obtain ⟨⟨old, e⟩, ⟨o, e', _⟩, _⟩ := st
    rcases List.mem_cons.mp hb with rfl | hb
    · exact ⟨_, e⟩
    · rw [List.mem_singleton.mp hb]; exact ⟨_, e'⟩
  · rcases List.mem_cons.mp hb with rfl | hb
    · exact ⟨(by show @Ne Nat _ _; omega), hnew _ (by omega), fun p hp => by have := hnl p hp; show @Ne Nat _ _; omega⟩
    · rw [List.mem_singleton.mp hb]
      exact ⟨(by show @Ne Nat _ _; omega), hnew _ (by omega), fun p hp => by have := hnl p hp; show @Ne Nat _ _; omega⟩
  · rcases List.mem_cons.mp hb with rfl | hb
    · exact .inl (by simp)
    · rcases List.mem_cons.mp hb with rfl | hb
      · exact .inl (by simp)
      · rw [List.mem_singleton.mp hb]; exact .inr (.inr ⟨_, hm⟩)
  · obtain ⟨t, x, hx, e⟩ := hP
    have e1 : v₁ = .int i t := by have := congrArg (·[0]?) e; simpa using this
    have e2 : v₂ = x := by have := congrArg (·[1]?) e; simpa using this
    subst e1 e2
    exact step i v₂ t ys C D oC m₂ h tk nw E' (by simpa using hx) hJ hoC ha hb F₁ N₁ hsb hn hD
  · refine ⟨m', hC, fun h'' hs'' => done D h'' tk ys (F₁.change hs'' n1 e1) (fun p hp => ?_) hD (by simpa using hJ)⟩
    refine ⟨hs''.extBut _ _ ?_ (N₁ p hp).1, (N₁ p hp).2⟩
    rcases List.mem_cons.mp hp with rfl | hp
    · exact Ne.symm n3
    · exact hne p hp
end
end
section
/-- the plain law: words are lists of letter numbers -/
def wX (x : Nat → Nat) (w : List Nat) : Nat := w.foldr (fun i a => x i ^^^ a) 0
def tX (x : Nat) (b : Bool) : Nat := if b then x else 0
def mX (x : Nat → Nat) (m : Nat) : Nat := tX (x 0) (m.testBit 0) ^^^ tX (x 1) (m.testBit 1) ^^^ tX (x 2) (m.testBit 2) ^^^ tX (x 3) (m.testBit 3)
theorem tX_xor (x : Nat) (a b : Bool) : tX x (a ^^ b) = tX x a ^^^ tX x b := by cases a <;> cases b <;> simp [tX]
theorem mX_xor (x : Nat → Nat) (a b : Nat) : mX x (a ^^^ b) = mX x a ^^^ mX x b := by
  unfold mX
  simp only [Nat.testBit_xor, tX_xor]
  ac_rfl
def maskW (w : List Nat) : Nat := w.foldr (fun i a => 2 ^ i ^^^ a) 0
theorem mX_pow (x : Nat → Nat) : ∀ i, i < 4 → mX x (2 ^ i) = x i
  | 0, _ => by simp [mX, tX, Nat.testBit]
  | 1, _ => by simp [mX, tX, Nat.testBit]
  | 2, _ => by simp [mX, tX, Nat.testBit]
  | 3, _ => by simp [mX, tX, Nat.testBit]
  | n + 4, h => absurd h (by omega)
theorem wX_mask (x : Nat → Nat) : ∀ w : List Nat, (∀ i ∈ w, i < 4) → wX x w = mX x (maskW w)
  | [], _ => by simp [wX, maskW, mX, tX]
  | i :: w, h => by
    have e := wX_mask x w fun j hj => h j (List.mem_cons_of_mem _ hj)
    show x i ^^^ wX x w = mX x (2 ^ i ^^^ maskW w)
    rw [mX_xor, mX_pow x i (h i List.mem_cons_self), e]
theorem mask_lt : ∀ w : List Nat, (∀ i ∈ w, i < 4) → maskW w < 16
  | [], _ => by simp [maskW]
  | i :: w, h => by
    have e := mask_lt w fun j hj => h j (List.mem_cons_of_mem _ hj)
    have hi : 2 ^ i < 2 ^ 4 := Nat.pow_lt_pow_right (by omega) (h i List.mem_cons_self)
    exact Nat.xor_lt_two_pow (n := 4) hi e
/-- one turn of the search -/
def bStep (sm : List Nat → List Nat → Bool) : List (List Nat) × List (List Nat) → List (List Nat) × List (List Nat)
  | ([], ns) => ([], ns)
  | (q :: Q, ns) => if ns.any (fun n => sm n q) then (Q, ns) else (Q ++ [q ++ [0], q ++ [1], q ++ [2], q ++ [3]], ns ++ [q])
def bRun (sm : List Nat → List Nat → Bool) : Nat → List (List Nat) × List (List Nat)
  | 0 => ([[]], [])
  | n + 1 => bStep sm (bRun sm n)
def shortlex : List (List Nat) := [[], [0], [1], [2], [3], [0,1], [0,2], [0,3], [1,2], [1,3], [2,3], [0,1,2], [0,1,3], [0,2,3], [1,2,3], [0,1,2,3]]
def bDue (sm : List Nat → List Nat → Bool) : List (List Nat) → List (List Nat) → List (List Nat)
  | ns, [] => ns
  | ns, w :: ws => bDue sm (if ns.any (fun n => sm n w) then ns else ns ++ [w]) ws
def smX (x : Nat → Nat) (u v : List Nat) : Bool := decide (wX x u = wX x v)
def smZ (z : Nat → Bool) (u v : List Nat) : Bool := z (maskW u ^^^ maskW v)
def okW (w : List Nat) : Bool := w.length ≤ 5 && w.all (fun i => decide (i < 4))
/-- every state of the run is in order -/
def bOk (sm : List Nat → List Nat → Bool) : Nat → List (List Nat) × List (List Nat) → Bool
  | 0, st => st.1.isEmpty && (st.2 == bDue sm [] shortlex)
  | n + 1, st => st.1.all okW && decide (st.2.length ≤ 16) && bOk sm n (bStep sm st)
def zF (b : List Bool) (m : Nat) : Bool := b.getD m false
/-- not exactly two of three -/
def cl3 (a b c : Bool) : Bool := (!(a && b) || c) && (!(a && c) || b) && (!(b && c) || a)
set_option maxRecDepth 1000000 in
theorem all_z : ∀ b1 b2 : Bool, ∀ b3 : Bool, cl3 b1 b2 b3 = true → ∀ b4 b5 : Bool, cl3 b1 b4 b5 = true → ∀ b6 : Bool, (cl3 b2 b4 b6 && cl3 b3 b5 b6) = true → ∀ b7 : Bool, (cl3 b3 b4 b7 && cl3 b2 b5 b7 && cl3 b1 b6 b7) = true →
  ∀ b8 b9 : Bool, cl3 b1 b8 b9 = true → ∀ ba : Bool, (cl3 b2 b8 ba && cl3 b3 b9 ba) = true → ∀ bb : Bool, (cl3 b3 b8 bb && cl3 b2 b9 bb && cl3 b1 ba bb) = true →
  ∀ bc : Bool, (cl3 b4 b8 bc && cl3 b5 b9 bc && cl3 b6 ba bc && cl3 b7 bb bc) = true →
  ∀ bd : Bool, (cl3 b5 b8 bd && cl3 b4 b9 bd && cl3 b7 ba bd && cl3 b6 bb bd && cl3 b1 bc bd) = true →
  ∀ be : Bool, (cl3 b6 b8 be && cl3 b7 b9 be && cl3 b4 ba be && cl3 b5 bb be && cl3 b2 bc be && cl3 b3 bd be) = true →
  ∀ bf : Bool, (cl3 b7 b8 bf && cl3 b6 b9 bf && cl3 b5 ba bf && cl3 b4 bb bf && cl3 b3 bc bf && cl3 b2 bd bf && cl3 b1 be bf) = true →
  bOk (smZ (zF [true, b1, b2, b3, b4, b5, b6, b7, b8, b9, ba, bb, bc, bd, be, bf])) 66 ([[]], []) = true := by decide +kernel
theorem cl_z (x : Nat → Nat) (a b : Nat) : cl3 (decide (mX x a = 0)) (decide (mX x b = 0)) (decide (mX x (a ^^^ b) = 0)) = true := by
  rw [mX_xor]
  by_cases h1 : mX x a = 0
  · by_cases h2 : mX x b = 0 <;> simp [cl3, h1, h2]
  · by_cases h2 : mX x b = 0
    · simp [cl3, h1, h2]
    · by_cases h3 : mX x a ^^^ mX x b = 0 <;> simp [cl3, h1, h2, h3]
def zX (x : Nat → Nat) (m : Nat) : Bool := decide (mX x m = 0)
theorem z_all (x : Nat → Nat) : ∀ m, m < 16 → zX x m = zF [true, zX x 1, zX x 2, zX x 3, zX x 4, zX x 5, zX x 6, zX x 7, zX x 8, zX x 9, zX x 10, zX x 11, zX x 12, zX x 13, zX x 14, zX x 15] m := by
  intro m hm
  have h0 : zX x 0 = true := by simp [zX, mX, tX]
  match m, hm with
  | 0, _ => exact h0
  | 1, _ => rfl
  | 2, _ => rfl
  | 3, _ => rfl
  | 4, _ => rfl
  | 5, _ => rfl
  | 6, _ => rfl
  | 7, _ => rfl
  | 8, _ => rfl
  | 9, _ => rfl
  | 10, _ => rfl
  | 11, _ => rfl
  | 12, _ => rfl
  | 13, _ => rfl
  | 14, _ => rfl
  | 15, _ => rfl
  | n + 16, h => exact absurd h (by omega)
end
section
def zS (x : Nat → Nat) : List Nat → List Nat → Bool := smZ (zF [true, zX x 1, zX x 2, zX x 3, zX x 4, zX x 5, zX x 6, zX x 7, zX x 8, zX x 9, zX x 10, zX x 11, zX x 12, zX x 13, zX x 14, zX x 15])
theorem zS_ok (x : Nat → Nat) : bOk (zS x) 66 ([[]], []) = true := by
  have c := fun a b => cl_z x a b
  have c' : ∀ a b d, a ^^^ b = d → cl3 (zX x a) (zX x b) (zX x d) = true := fun a b d e => e ▸ c a b
  refine all_z _ _ _ (c' 1 2 3 rfl) _ _ (c' 1 4 5 rfl) _ ?_ _ ?_ _ _ (c' 1 8 9 rfl) _ ?_ _ ?_ _ ?_ _ ?_ _ ?_ _ ?_
  · simp only [c' 2 4 6 rfl, c' 3 5 6 rfl, Bool.and_self]
  · simp only [c' 3 4 7 rfl, c' 2 5 7 rfl, c' 1 6 7 rfl, Bool.and_self]
  · simp only [c' 2 8 10 rfl, c' 3 9 10 rfl, Bool.and_self]
  · simp only [c' 3 8 11 rfl, c' 2 9 11 rfl, c' 1 10 11 rfl, Bool.and_self]
  · simp only [c' 4 8 12 rfl, c' 5 9 12 rfl, c' 6 10 12 rfl, c' 7 11 12 rfl, Bool.and_self]
  · simp only [c' 5 8 13 rfl, c' 4 9 13 rfl, c' 7 10 13 rfl, c' 6 11 13 rfl, c' 1 12 13 rfl, Bool.and_self]
  · simp only [c' 6 8 14 rfl, c' 7 9 14 rfl, c' 4 10 14 rfl, c' 5 11 14 rfl, c' 2 12 14 rfl, c' 3 13 14 rfl, Bool.and_self]
  · simp only [c' 7 8 15 rfl, c' 6 9 15 rfl, c' 5 10 15 rfl, c' 4 11 15 rfl, c' 3 12 15 rfl, c' 2 13 15 rfl, c' 1 14 15 rfl, Bool.and_self]
def ltW (w : List Nat) : Prop := ∀ i ∈ w, i < 4
theorem sm_eq (x : Nat → Nat) {u v : List Nat} (hu : ltW u) (hv : ltW v) : smX x u v = zS x u v := by
  show decide (wX x u = wX x v) = zF _ (maskW u ^^^ maskW v)
  rw [← z_all x _ (Nat.xor_lt_two_pow (n := 4) (mask_lt u hu) (mask_lt v hv)), wX_mask x u hu, wX_mask x v hv]
  unfold zX
  rw [mX_xor]
  by_cases h : mX x (maskW u) = mX x (maskW v)
  · simp [h]
  · rw [decide_eq_false h, decide_eq_false]
    intro e
    have e2 := congrArg (· ^^^ mX x (maskW v)) e
    simp only [Nat.xor_assoc, Nat.xor_self, Nat.xor_zero, Nat.zero_xor] at e2
    exact h e2
theorem any_eq (x : Nat → Nat) {q : List Nat} (hq : ltW q) : ∀ ns : List (List Nat), (∀ n ∈ ns, ltW n) → ns.any (fun n => smX x n q) = ns.any (fun n => zS x n q)
  | [], _ => rfl
  | n :: ns, h => by rw [List.any_cons, List.any_cons, sm_eq x (h n List.mem_cons_self) hq, any_eq x hq ns fun m hm => h m (List.mem_cons_of_mem _ hm)]
def ltS (st : List (List Nat) × List (List Nat)) : Prop := (∀ q ∈ st.1, ltW q) ∧ ∀ q ∈ st.2, ltW q
theorem ltW_snoc {q : List Nat} (h : ltW q) {i : Nat} (hi : i < 4) : ltW (q ++ [i]) := fun j hj => by
  rcases List.mem_append.mp hj with h' | h'
  · exact h j h'
  · rw [List.mem_singleton.mp h']; exact hi
theorem step_eq (x : Nat → Nat) : ∀ st, ltS st → bStep (smX x) st = bStep (zS x) st ∧ ltS (bStep (smX x) st)
  | ([], ns), h => ⟨rfl, h⟩
  | (q :: Q, ns), h => by
    have hq : ltW q := h.1 q List.mem_cons_self
    have hQ : ∀ p ∈ Q, ltW p := fun p hp => h.1 p (List.mem_cons_of_mem _ hp)
    unfold bStep
    dsimp only
    rw [any_eq x hq ns h.2]
    refine ⟨rfl, ?_⟩
    split
    · exact ⟨hQ, h.2⟩
    · refine ⟨fun p hp => ?_, fun p hp => ?_⟩
      · rcases List.mem_append.mp hp with hp | hp
        · exact hQ p hp
        · simp only [List.mem_cons, List.not_mem_nil, or_false] at hp
          rcases hp with rfl | rfl | rfl | rfl <;> exact ltW_snoc hq (by omega)
      · rcases List.mem_append.mp hp with hp | hp
        · exact h.2 p hp
        · rw [List.mem_singleton.mp hp]; exact hq
theorem ltS_0 : ltS ([[]], []) := ⟨fun q hq => by rw [List.mem_singleton.mp hq]; exact fun i hi => (by cases hi), fun q hq => by cases hq⟩
theorem run_eq (x : Nat → Nat) : ∀ n, bRun (smX x) n = bRun (zS x) n ∧ ltS (bRun (smX x) n)
  | 0 => ⟨rfl, ltS_0⟩
  | n + 1 => by
    obtain ⟨e, l⟩ := run_eq x n
    obtain ⟨e', l'⟩ := step_eq x _ l
    exact ⟨by show bStep _ _ = bStep _ _; rw [e', e], l'⟩
theorem due_eq (x : Nat → Nat) : ∀ ws ns : List (List Nat), (∀ w ∈ ws, ltW w) → (∀ n ∈ ns, ltW n) → bDue (smX x) ns ws = bDue (zS x) ns ws
  | [], _, _, _ => rfl
  | w :: ws, ns, hw, hn => by
    have h1 := hw w List.mem_cons_self
    unfold bDue
    rw [any_eq x h1 ns hn]
    refine due_eq x ws _ (fun v hv => hw v (List.mem_cons_of_mem _ hv)) fun n hn' => ?_
    split at hn'
    · exact hn n hn'
    · rcases List.mem_append.mp hn' with h | h
      · exact hn n h
      · rw [List.mem_singleton.mp h]; exact h1
theorem lt_short : ∀ w ∈ shortlex, ltW w := by unfold ltW; decide
theorem bOk_at (sm : List Nat → List Nat → Bool) : ∀ n st, bOk sm n st = true → ∀ i, i < n → ∀ j, (∃ k, st = bRun sm k ∧ j = k + i) → (bRun sm j).1.all okW = true ∧ (bRun sm j).2.length ≤ 16
  | 0, _, _, i, hi, _, _ => absurd hi (by omega)
  | n + 1, st, h, i, hi, j, ⟨k, e, ej⟩ => by
    have h' : ((st.1.all okW && decide (st.2.length ≤ 16)) && bOk sm n (bStep sm st)) = true := h
    rw [Bool.and_eq_true, Bool.and_eq_true] at h'
    obtain ⟨⟨a, b⟩, c⟩ := h'
    cases i with
    | zero => rw [ej, Nat.add_zero, ← e]; exact ⟨a, of_decide_eq_true b⟩
    | succ i => exact bOk_at sm n _ c i (by omega) j ⟨k + 1, by rw [e]; rfl, by omega⟩
theorem bOk_end (sm : List Nat → List Nat → Bool) : ∀ n st, bOk sm n st = true → ∀ k, st = bRun sm k → (bRun sm (k + n)).1 = [] ∧ (bRun sm (k + n)).2 = bDue sm [] shortlex
  | 0, st, h, k, e => by
    have h' : (st.1.isEmpty && (st.2 == bDue sm [] shortlex)) = true := h
    rw [Bool.and_eq_true] at h'
    rw [Nat.add_zero, ← e]
    exact ⟨List.isEmpty_iff.mp h'.1, eq_of_beq h'.2⟩
  | n + 1, st, h, k, e => by
    have h' : ((st.1.all okW && decide (st.2.length ≤ 16)) && bOk sm n (bStep sm st)) = true := h
    rw [Bool.and_eq_true] at h'
    have := bOk_end sm n _ h'.2 (k + 1) (by rw [e]; rfl)
    rw [show k + (n + 1) = k + 1 + n by omega]
    exact this
/-- the search over the figures x: every state in order, the end at most 66 turns off, the end's list is the due one -/
theorem plain_mid (x : Nat → Nat) (j : Nat) (hj : j < 66) : (∀ q ∈ (bRun (smX x) j).1, q.length ≤ 5 ∧ ltW q) ∧ (bRun (smX x) j).2.length ≤ 16 ∧ ∀ q ∈ (bRun (smX x) j).2, ltW q := by
  obtain ⟨e, l⟩ := run_eq x j
  obtain ⟨a, b⟩ := bOk_at _ 66 _ (zS_ok x) j hj j ⟨0, rfl, by omega⟩
  rw [e] at l ⊢
  refine ⟨fun q hq => ⟨?_, l.1 q hq⟩, b, l.2⟩
  have := List.all_eq_true.mp a q hq
  unfold okW at this
  rw [Bool.and_eq_true] at this
  exact of_decide_eq_true this.1
theorem plain_end (x : Nat → Nat) : (bRun (smX x) 66).1 = [] ∧ (bRun (smX x) 66).2 = bDue (smX x) [] shortlex := by
  obtain ⟨e, l⟩ := run_eq x 66
  have := bOk_end _ 66 _ (zS_ok x) 0 rfl
  rw [Nat.zero_add] at this
  rw [e, due_eq x shortlex [] lt_short (fun n hn => by cases hn)]
  exact this
end
section
section
open Sem (wp)
open AutoSeq1 (wpAny_loadPart')
variable {prog : Program} {w : World} {A : Around} {E : Value → Shared → Prop} {s : Shared}
theorem nextOf_tup_item {it t : Addr} {i : Nat} {items : Array Value} {x : Value} {Q : Value → Shared → Prop} (hit : s.heap.IsTupleIter it t i) (ht : s.heap.IsTuple t items) (hx : items[i]? = some x)
    (hQ : ∀ h', h'.IsTupleIter it t (i + 1) → Heap.SameBut it s.heap h' → Q x { s with heap := h' }) :
    wpAny (model prog w) A (Builtin.SmallTypes.nextOf (.ref it)) Q E s := by
  obtain ⟨o, ho, hc, hd⟩ := id hit
  obtain ⟨ol, hol, _, nl, hdl⟩ := ht
  unfold Builtin.SmallTypes.nextOf
  refine wpAny_bind (wpAny_callSpecial?_slot (name := Str.ofString "__next__") hit.typeIs F.slot_tuple_iterator_next
    (wpAny_call_entry F.slot_tuple_iterator_next hit.typeIs F.entry_tuple_iterator_next ?_ (F.args_tuple_iterator_next_1 _)))
  show wpAny _ _ (field (.ref it) 0 >>= _) _ _ s
  refine wpAny_bind (wpAny_field ho hd (x := .ref t) rfl ?_)
  show wpAny _ _ (if (Value.ref t == Value.none) = true then _ else _) _ _ s
  rw [if_neg (show ¬ ((Value.ref t == Value.none) = true) from Bool.false_ne_true)]
  show wpAny _ _ (field (.ref it) 1 >>= _) _ _ s
  refine wpAny_bind (wpAny_field ho hd (x := .int i 0) rfl ?_)
  show wpAny _ _ (seqItems? (.ref t) >>= _) _ _ s
  refine wpAny_bind (wpAny_seqItems hol hdl ?_)
  simp only [Int.toNat_natCast, hx]
  refine wpAny_bind (wpAny_setField ho hd (by simp) (wpAny_pure ⟨x, rfl, wpAny_pure (hQ _ ?_ (Heap.SameBut.update ..))⟩))
  exact ⟨_, Heap.get?_update_self _ ho (Obj.isFreed_of_fields (Obj.data_mapFields hd _)), (Obj.cls_mapFields ..).trans hc, by
    rw [Obj.data_mapFields hd]; simp [rawInt]⟩
theorem nextOf_tup_end {it t : Addr} {i : Nat} {items : Array Value} {Q : Value → Shared → Prop} (hh : A.handled = none) (hit : s.heap.IsTupleIter it t i) (ht : s.heap.IsTuple t items) (hx : items[i]? = none)
    (hE : ∀ h' e, Heap.ExtBut it s.heap h' → (∃ o, h'.get? e = some o ∧ o.cls = .type "StopIteration") → E (.ref e) { s with heap := h' }) :
    wpAny (model prog w) A (Builtin.SmallTypes.nextOf (.ref it)) Q E s := by
  obtain ⟨o, ho, hc, hd⟩ := id hit
  obtain ⟨ol, hol, _, nl, hdl⟩ := ht
  unfold Builtin.SmallTypes.nextOf
  refine wpAny_bind (wpAny_callSpecial?_slot (name := Str.ofString "__next__") hit.typeIs F.slot_tuple_iterator_next
    (wpAny_call_entry F.slot_tuple_iterator_next hit.typeIs F.entry_tuple_iterator_next ?_ (F.args_tuple_iterator_next_1 _)))
  show wpAny _ _ (field (.ref it) 0 >>= _) _ _ s
  refine wpAny_bind (wpAny_field ho hd (x := .ref t) rfl ?_)
  show wpAny _ _ (if (Value.ref t == Value.none) = true then _ else _) _ _ s
  rw [if_neg (show ¬ ((Value.ref t == Value.none) = true) from Bool.false_ne_true)]
  show wpAny _ _ (field (.ref it) 1 >>= _) _ _ s
  refine wpAny_bind (wpAny_field ho hd (x := .int i 0) rfl ?_)
  show wpAny _ _ (seqItems? (.ref t) >>= _) _ _ s
  refine wpAny_bind (wpAny_seqItems hol hdl ?_)
  simp only [Int.toNat_natCast, hx]
  refine wpAny_bind (wpAny_rule (wpAny_bind (wpAny_setField ho hd (by simp) ?_)))
  show wpAny _ _ (newExc (.type "StopIteration") [] >>= _) _ _ _
  refine wpAny_bind ?_
  simp only [newExc, newTuple]
  refine wpAny_bind (wpAny_newObj_type ?_ (by size_fits))
  refine wpAny_bind (m := firstArgMember _ _) (wpAny_of_eq (a := Value.none) (by first | rfl | (simp only [firstArgMember]; rfl)) ?_)
  refine wpAny_newObj_type ?_ (by size_fits)
  simp only [raiseNew]
  refine wpAny_bind (wpAny_handled ?_)
  first | rw [show A.in1.handled = none from hh] | rw [hh]
  refine wpAny_bind (wpAny_pure (wpAny_throw ?_))
  exact hE _ _ (((Heap.SameBut.update ..).extBut.push _).push _) ⟨_, Heap.get?_push_size _ rfl, rfl⟩
theorem drawsTup (hh : A.handled = none) (it l : Addr) (hne : l ≠ it) (items : Array Value) :
    Draws prog w A it [it, l] items.size (fun i v => items[i]? = some v) (fun i h => h.IsTupleIter it l i ∧ h.IsTuple l items) where
  live := fun _ _ st => let ⟨o, ho, _⟩ := st.1; ⟨o, ho⟩
  frame := fun _ _ _ st hk => ⟨st.1.at fun o e => hk it (by simp) o e, st.2.at fun o e => hk l (by simp) o e⟩
  item := fun i s Q E hi st hQ => by
    refine nextOf_tup_item st.1 st.2 (x := items[i]) (by simp [hi]) fun h' hit' hs' => ?_
    exact hQ _ h' s.toks (by simp [hi]) ⟨hit', st.2.extBut hs'.extBut hne⟩ hs'
  done := fun s Q E st hE => nextOf_tup_end hh st.1 st.2 (by simp) hE
theorem meets_enum_newT (l : Addr) (items : Array Value) (n : Nat) (dct : Option Addr) (sl : Array (Option Value)) :
    Meets (Builtin.«enumerate.__new__» ⟨[.type "enumerate", .ref l], []⟩) (fun _ R s => s.heap.get? l = some { cls := .type "tuple", dict := dct, data := .seq items n, slots := sl } ∧
      R (.ok (.ret (.ref (s.heap.push { cls := .type "tuple_iterator", data := .fields #[.ref l, .int 0 0] }).objs.size)))
        { s with heap := (s.heap.push { cls := .type "tuple_iterator", data := .fields #[.ref l, .int 0 0] }).push { cls := .type "enumerate", data := .fields #[.none, .bool false, .ref s.heap.objs.size, rawInt 0, .none, .none] } }) :=
  .of_wp fun prog w A R s h => by
    obtain ⟨hp, g, d, tk, os⟩ := s; obtain ⟨hl, h⟩ := h
    have hsub := sub_enumerate
    have hL : Heap.IsTuple (Shared.heap ⟨hp, g, d, tk, os⟩) l items := ⟨_, hl, rfl, n, rfl⟩
    wp_walk using wpAny_loadPart' hl
    refine wpAny_stack_any fun st => wpAny_pure ?_
    split
    · rename_i c _ _ _ _ _
      cases (c == Value.type "enumerate")
      · wp_walk using wpAny_loadPart' hl, wpAny_pyIter_tuple hL
        exact ⟨_, rfl, h⟩
      · wp_walk using wpAny_loadPart' hl, wpAny_pyIter_tuple hL
        exact ⟨_, rfl, h⟩
    · wp_walk using wpAny_loadPart' hl, wpAny_pyIter_tuple hL
      exact ⟨_, rfl, h⟩
theorem call_enum_tup {l : Addr} {items : Array Value} {Q : Value → Shared → Prop} (hL : s.heap.IsTuple l items)
    (h : ∀ h', IsEnum h' (s.heap.objs.size + 1) s.heap.objs.size 0 .none → h'.IsTupleIter s.heap.objs.size l 0 → h'.objs.size = s.heap.objs.size + 2 →
      (∀ b o, s.heap.get? b = some o → h'.get? b = some o) → Q (.ref (s.heap.objs.size + 1)) { s with heap := h' }) :
    wpAny (model prog w) A (call (.type "enumerate") [.ref l]) Q E s := by
  obtain ⟨⟨c, dct, dt, sl⟩, hl, hc, n, hd⟩ := hL
  replace hc : c = .type "tuple" := hc
  replace hd : dt = .seq items n := hd
  subst hc hd
  refine callType_new F.called_enumerate (by decide) (F.typeCall_enumerate_1 _) (F.newCall_enumerate_1 _) (fun obj => F.args_object_init_2 obj _) F.entry_enumerate_new
    (meets_enum_newT l items n dct sl) ⟨hl, ?_⟩
  have hz : (s.heap.push { cls := .type "tuple_iterator", data := .fields #[.ref l, .int 0 0] }).objs.size = s.heap.objs.size + 1 := Heap.size_push ..
  show _ ∧ _
  rw [hz]
  have he : IsEnum ((s.heap.push { cls := .type "tuple_iterator", data := .fields #[.ref l, .int 0 0] }).push
      { cls := .type "enumerate", data := .fields #[.none, .bool false, .ref s.heap.objs.size, rawInt 0, .none, .none] }) (s.heap.objs.size + 1) s.heap.objs.size 0 .none := by
    have := Heap.get?_push_size (s.heap.push { cls := .type "tuple_iterator", data := .fields #[.ref l, .int 0 0] })
      (o := { cls := .type "enumerate", data := .fields #[.none, .bool false, .ref s.heap.objs.size, rawInt 0, .none, .none] }) rfl
    rw [hz] at this; exact this
  refine ⟨⟨_, he, rfl⟩, h _ he ⟨_, Heap.get?_push_of_some _ (Heap.get?_push_size _ rfl), rfl, rfl⟩ (by rw [Heap.size_push, hz]) fun b o x => Heap.get?_push_of_some _ (Heap.get?_push_of_some _ x)⟩
end
section
variable {prog : Program} {w : World} {A : Around} {E : Value → Shared → Prop} {s : Shared} {h₀ : Heap} {env : Env} {m : Str → Option Value} {news : List (Addr × Obj)}
/-- a for with a pair target over a walk that writes two objects -/
theorem pair_loop {body : List Stmt} {a b : Str} {pa pb tp : Pos} {kk : Nat} {e it : Nat} {fp : List Addr} {n : Nat} {Pt : Nat → Array Value → Prop} {St : Nat → Heap → Prop} {Mid : Nat → Addr → Heap → Prop} {R : Result → Shared → Prop}
    (W : WalksT prog w A e fp [e, it] n Pt St Mid) (hh : A.handled = none) (J : Nat → (Str → Option Value) → List (Addr × Obj) → Prop)
    (hPt : ∀ i vals, Pt i vals → ∃ v₁ v₂, vals = #[v₁, v₂])
    (live : ∀ i h, St i h → (∃ o, h.get? e = some o) ∧ ∃ o, h.get? it = some o)
    (hwe : e ≠ env.locals ∧ h₀.get? e = none ∧ ∀ p ∈ news, p.1 ≠ e) (hwi : it ≠ env.locals ∧ h₀.get? it = none ∧ ∀ p ∈ news, p.1 ≠ it)
    (src : ∀ b ∈ fp, b = e ∨ b = it ∨ ∃ o, h₀.get? b = some o)
    (hst : St 0 s.heap) (F : Fr h₀ env.locals s.heap m) (N : News h₀ env.locals s.heap news) (h0 : J 0 m news)
    (step : ∀ i v₁ v₂ oe oi m' n' h tk, i < n → Pt i #[v₁, v₂] → J i m' n' → (∀ p ∈ n', p.1 ≠ e ∧ p.1 ≠ it) → Fr h₀ env.locals h m' → News h₀ env.locals h ((e, oe) :: (it, oi) :: n') →
      wpAny (model prog w) A (assign (.Name a pa) env v₁) (fun _ s₁ => wpAny (model prog w) A (assign (.Name b pb) env v₂) (fun _ s₂ => wpAny (model prog w) A (execs body env) (fun fl s₃ => match fl with
        | .ret v => R (.ok (.ret v)) s₃
        | .brk => R (.ok .next) s₃
        | _ => ∃ h' tk' m'' n'', s₃ = { s with heap := h', toks := tk' } ∧ Fr h₀ env.locals h' m'' ∧ News h₀ env.locals h' ((e, oe) :: (it, oi) :: n'') ∧ (∀ p ∈ n'', p.1 ≠ e ∧ p.1 ≠ it) ∧ J (i + 1) m'' n'') (notedBy (model prog w) A env fun e s' => R (.error e) s') s₂) (notedBy (model prog w) A env fun e s' => R (.error e) s') s₁) (notedBy (model prog w) A env fun e s' => R (.error e) s') { s with heap := h, toks := tk })
    (done : ∀ h tk m' n', J n m' n' → Fr h₀ env.locals h m' → News h₀ env.locals h n' → R (.ok .next) { s with heap := h, toks := tk }) :
    codeAny (model prog w) A (.forLoop (.Tuple [.Name a pa, .Name b pb] kk tp) (.ref e) body [] env) R s := by
  refine codeAny_forLoop_any (fun k s' => ∃ i h tk m' n', s' = { s with heap := h, toks := tk } ∧ i ≤ n ∧ k = n + 1 - i ∧ St i h ∧ Fr h₀ env.locals h m' ∧ News h₀ env.locals h n' ∧ (∀ p ∈ n', p.1 ≠ e ∧ p.1 ≠ it) ∧ J i m' n') ?_ (n + 1)
    ⟨0, s.heap, s.toks, m, news, rfl, Nat.zero_le _, rfl, hst, F, N, fun p hp => ⟨hwe.2.2 p hp, hwi.2.2 p hp⟩, h0⟩
  rintro k s' ⟨i, h, tk, m', n', rfl, hi, rfl, hst', F', N', hn', hJ⟩
  have wr : ∀ x, x ∈ [e, it] → x = e ∨ x = it := fun x hx => by
    rcases List.mem_cons.mp hx with h | h
    · exact .inl h
    · exact .inr (List.mem_singleton.mp h)
  have hLw : env.locals ∉ [e, it] := fun q => (wr _ q).elim (fun q => hwe.1 q.symm) (fun q => hwi.1 q.symm)
  have h0w : ∀ x o, h₀.get? x = some o → x ∉ [e, it] := fun x o ho q => by
    rcases wr _ q with rfl | rfl
    · rw [hwe.2.1] at ho; cases ho
    · rw [hwi.2.1] at ho; cases ho
  have next : ∀ h₁ : Heap, (∀ b o, b ∉ [e, it] → h.get? b = some o → h₁.get? b = some o) → Fr h₀ env.locals h₁ m' ∧ News h₀ env.locals h₁ n' := fun h₁ hk =>
    ⟨⟨F'.ns.at' fun o q => hk _ o hLw q, fun b o q => hk b o (h0w b o q) (F'.keep b o q), F'.above⟩,
      fun p hp => ⟨hk _ _ (fun q => (wr _ q).elim (fun q => (hn' p hp).1 q) (fun q => (hn' p hp).2 q)) (N' p hp).1, (N' p hp).2⟩⟩
  by_cases hlt : i < n
  · refine W.item i _ _ _ hlt hst' fun T vals g₂ tk₂ hP _ hT hM k₂ => ?_
    refine W.go _ _ _ i T _ _ _ hM fun g₃ st₃ k₃ => ?_
    obtain ⟨v₁, v₂, rfl⟩ := hPt _ _ hP
    have hT₃ : g₃.IsTuple T #[v₁, v₂] := by
      obtain ⟨o, e, r⟩ := hT
      exact ⟨o, k₃ _ _ (W.apart _ _ _ hM) e, r⟩
    refine assign_Tuple_tuple hh hT₃ rfl rfl fun g₄ he => ?_
    have k₄ : ∀ b o, g₃.get? b = some o → g₄.get? b = some o := fun b o e => he b o (Nat.ne_of_lt (Heap.lt_size e)) e
    obtain ⟨F₄, N₄⟩ := next g₄ fun b o hb q => k₄ _ _ (k₃ _ _ hb (k₂ _ _ hb q))
    have st₄ : St (i + 1) g₄ := W.frame _ _ _ st₃ fun b _ o q => k₄ b o q
    obtain ⟨⟨oe, hoe⟩, ⟨oi, hoi⟩⟩ := live _ _ st₄
    have N₅ : News h₀ env.locals g₄ ((e, oe) :: (it, oi) :: n') := fun p hp => by
      rcases List.mem_cons.mp hp with rfl | hp
      · exact ⟨hoe, hwe.1, hwe.2.1⟩
      · rcases List.mem_cons.mp hp with rfl | hp
        · exact ⟨hoi, hwi.1, hwi.2.1⟩
        · exact N₄ p hp
    refine assignInOrder_cons (wpAny_mono (step i v₁ v₂ oe oi m' n' g₄ tk₂ hlt hP hJ hn' F₄ N₅) (fun _ s₁ h₁ => ?_) fun _ _ q => q)
    refine assignInOrder_cons (wpAny_mono h₁ (fun _ s₂ h₂ => ?_) fun _ _ q => q)
    refine assignInOrder_nil ?_
    refine wpAny_mono h₂ (fun fl s₃ h₃ => ?_) fun _ _ q => q
    have fin : (∃ h' tk' m'' n'', s₃ = { s with heap := h', toks := tk' } ∧ Fr h₀ env.locals h' m'' ∧ News h₀ env.locals h' ((e, oe) :: (it, oi) :: n'') ∧ (∀ p ∈ n'', p.1 ≠ e ∧ p.1 ≠ it) ∧ J (i + 1) m'' n'') →
        ∃ mm, mm < n + 1 - i ∧ ∃ i h tk m' n', s₃ = { s with heap := h, toks := tk } ∧ i ≤ n ∧ mm = n + 1 - i ∧ St i h ∧ Fr h₀ env.locals h m' ∧ News h₀ env.locals h n' ∧ (∀ p ∈ n', p.1 ≠ e ∧ p.1 ≠ it) ∧ J i m' n' := by
      rintro ⟨h₇, tk₇, m₇, n₇, rfl, F₇, N₇, hn₇, hJ₇⟩
      refine ⟨n + 1 - (i + 1), by omega, i + 1, h₇, tk₇, m₇, n₇, rfl, hlt, rfl, W.frame _ _ _ st₄ fun b hb o q => ?_, F₇, fun p hp => N₇ p (List.mem_cons_of_mem _ (List.mem_cons_of_mem _ hp)), hn₇, hJ₇⟩
      rcases src b hb with rfl | rfl | ⟨o', ho'⟩
      · rw [hoe] at q; cases q
        exact (N₇ _ List.mem_cons_self).1
      · rw [hoi] at q; cases q
        exact (N₇ _ (List.mem_cons_of_mem _ List.mem_cons_self)).1
      · have z := F₄.keep b o' ho'
        rw [q] at z; cases z
        exact F₇.keep b _ ho'
    cases fl with
    | ret v => exact h₃
    | brk => exact h₃
    | next => exact fin h₃
    | cont => exact fin h₃
  · obtain rfl : i = n := Nat.le_antisymm hi (Nat.not_lt.mp hlt)
    refine W.done _ _ _ hst' fun h₁ tk₁ hk₁ => ?_
    obtain ⟨F₁, N₁⟩ := next h₁ hk₁
    exact wpAny_execs_nil (done h₁ tk₁ m' n' hJ F₁ N₁)
end
end
section
section
open PyProof.Rows.LCg
def rgW : List Int := [256, 64, 2048, 2]
def bitX (x : Int) (i : Nat) : Int := Builtin.bitAnd (Int.fdiv x (2 ^ Int.toNat (i : Int))) 1
def rgX (x : Int) (i : Nat) : List Int := ((List.range i).filter fun j => decide (bitX x j ≠ 0)).map fun j => rgW.getD j 0
theorem rgX_succ (x : Int) (i : Nat) : rgX x (i + 1) = if bitX x i ≠ 0 then rgX x i ++ [rgW.getD i 0] else rgX x i := by
  unfold rgX
  rw [List.range_succ, List.filter_append, List.map_append]
  by_cases h : bitX x i ≠ 0
  · rw [if_pos h]
    simp [List.filter, h]
  · rw [if_neg h]
    simp [List.filter, h]
theorem ints_snoc : ∀ {vs : List Value} {ns : List Int} {n : Int} {t : Tok}, IntsAre vs ns → IntsAre (vs ++ [.int n t]) (ns ++ [n])
  | _, _, _, _, .nil => .cons _ _ .nil
  | _, _, _, _, .cons _ _ h => .cons _ _ (ints_snoc h)
theorem rg_item {a b c d : Tok} {i : Nat} {v : Value} (h : [Value.int 256 a, .int 64 b, .int 2048 c, .int 2 d][i]? = some v) : ∃ t, v = .int (rgW.getD i 0) t := by
  match i with
  | 0 => exact ⟨a, (Option.some.inj h).symm⟩
  | 1 => exact ⟨b, (Option.some.inj h).symm⟩
  | 2 => exact ⟨c, (Option.some.inj h).symm⟩
  | 3 => exact ⟨d, (Option.some.inj h).symm⟩
  | n + 4 => simp at h
theorem rg_yes {x y z : Int} {i : Nat} {ys : List Value} {v : Value} {a b c d : Tok} (hi : [Value.int 256 a, .int 64 b, .int 2048 c, .int 2 d][i]? = some v) (hJ : IntsAre ys (rgX x i)) (hz : SgI z (x.fdiv (2 ^ Int.toNat (i : Int)))) (hy : SgI y (Builtin.bitAnd z 1)) (h : y ≠ 0) :
    IntsAre (ys ++ [v]) (rgX x (i + 1)) := by
  obtain ⟨t, rfl⟩ := rg_item hi
  rw [rgX_succ, if_pos (show bitX x i ≠ 0 by unfold bitX; rw [← hz.e, ← hy.e]; exact h)]
  exact ints_snoc hJ
theorem rg_no {x y z : Int} {i : Nat} {ys : List Value} (hJ : IntsAre ys (rgX x i)) (hz : SgI z (x.fdiv (2 ^ Int.toNat (i : Int)))) (hy : SgI y (Builtin.bitAnd z 1)) (h : ¬ y ≠ 0) :
    IntsAre ys (rgX x (i + 1)) := by
  rw [rgX_succ, if_neg (show ¬ bitX x i ≠ 0 by unfold bitX; rw [← hz.e, ← hy.e]; exact h)]
  exact hJ
theorem c_rights0 (w : World) (mean : ExcName → Option Value) (mg mb : Str → Option Value) (rest : List (Addr × Obj)) (t : Tok) (x : Int) :
  CC w mean mg mb 230 5 rest [.int x t] (fun r n' => (∃ t', r = .int (rgX x 4).sum t') ∧ n' = rest) := by
  k_with_none
  k_with "call builtin:issubclass" => (k_here; k_dflt (refine' iss_str ?k1 ?k2 ?k3 ?_; (case k1 => k_asm); (case k2 => k_asm); (case k3 => k_mem); k_whole); intro h' tk' F' N'; (try k_sweep))
  k_with "call type:list" => (k_here; (with_reducible show wpAny _ _ (call (Value.type _) [Value.str _ _]) _ _ _); k_dflt (refine' list_strK ?k0 ?k1 ?k2 ?k3 ?_; (case k0 => exact rfl); (case k1 => k_asm); (case k2 => k_asm); (case k3 => (rw [sizeLine_eq]; omega)); k_whole); intro l' h' tk' its' n' hch' F' N' l1; (try k_lt l1); (try k_sweep))
  k_with "truthy ref" => (k_here; (with_reducible show wpAny _ _ (truthy (Value.ref _)) _ _ _); k_dflt (first
        | (refine' truthy_cons ?N ?m ?z ?_; (case N => k_asm); (case m => k_mem); (case z => omega); k_whole)
        | (refine' truthy_nil ?N ?m ?_; (case N => k_asm); (case m => k_mem); k_whole)))
  k_with "call builtin:list.pop" => (k_here; (with_reducible show wpAny _ _ (call (Value.builtin _) [Value.ref _, Value.int _ _]) _ _ _); k_dflt (refine' pop0 ?F ?N ?U ?z ?_; (case F => k_asm); (case N => k_asm); (case U => k_upd); (case z => omega); k_whole); intro h' F' N'; (try dsimp only [List.nil_append, List.cons_append] at N'); (try k_sweep))
  k_with "eval ListComp" => (k_here; k_dflt (refine' ListComp_Z ?z1 ?z2 ?z3 ?_ ?z4; (case z1 => with_unfolding_all rfl); (case z2 => rfl); (case z3 => decide); (case z4 => (intro _; rfl))))
  k_with "eval Name" => (k_here; (with_reducible show wpAny _ _ (eval (Expr.Name _ _) (compEnvC _ _ _ _)) _ _ _); k_dflt (first | (refine' LCgL.ld_own ?N ?m ?C ?v ?_; (case N => k_asm); (case m => exact List.mem_cons_self); (case C => assumption); (case v => assumption)) | (refine' lcf_free ?N ?c ?m ?d ?_ ?a ?b; (case N => k_asm); (case c => with_unfolding_all rfl); (case m => assumption); (case d => assumption); (case a => rfl); (case b => with_unfolding_all rfl))))
  k_with "binaryOp BitAnd int int" => (k_here; k_dflt (with_reducible refine' sg_and ?_); intro y9 t9 k9 e9)
  k_with "binaryOp RShift int int" => (k_here; k_dflt (with_reducible refine' sg_shr ?k1 ?_); (case k1 => exact Int.natCast_nonneg _); intro y9 t9 k9 e9)
  dsimp only [CC]
  k_fill
  intros
  rename_i hret
  have hC := codeHd_of_K (c := 224) (P := 220) (by assumption) (by kernel_rfl)
  k_dflt k_enter
  k_steps
  k_dflt (refine' enum_Z rfl (fun i ys => IntsAre ys (rgX x i)) ?ec ?ek ?ea ?eb ?en ?eF ?eN ?em ?es ?e0 ?step ?done)
  case ec => decide
  case ek => rfl
  case ea => rfl
  case eb => rfl
  case en => decide
  case eF => k_asm
  case eN => k_asm
  case em => k_mem
  case es => rw [sizeLine_eq]; exact Nat.le_of_ble_eq_true rfl
  case e0 => exact .nil
  case step =>
    intro i v ti ys C D oC m₂ h tk nw E' hi hJ hoC ha hb F₁ N₁ hsb hn hD
    refine Tst.one ?_
    rename (@Eq Data _ _) => d9
    have d9' : _ = Data.cell (some (.int x t)) := d9
    clear d9
    have hmx := hsb (_, _) (List.mem_cons_of_mem _ List.mem_cons_self)
    have hmx' := List.mem_cons_of_mem (C, oC) (List.mem_cons_of_mem (D, lst ys) hmx)
    k_steps
    any_goals first | exact F₁ | exact N₁
    · exact rg_yes hi hJ (by assumption) (by assumption) (by assumption)
    · exact rg_no hJ (by assumption) (by assumption) (by first | assumption | omega)
  case done =>
    intro D h tk ys F₁ N₁ hn hJ
    k_steps
    exact hret _ _ _ _ ⟨⟨_, rfl⟩, rfl⟩ (by assumption) (news_sub (by assumption) (fun p hp => by simp [hp]))
end
def rgT (k : Nat) : Nat := (if k.testBit 0 then 256 else 0) + (if k.testBit 1 then 64 else 0) + (if k.testBit 2 then 2048 else 0) + (if k.testBit 3 then 2 else 0)
theorem rg_all : ∀ k : Fin 16, (rgX (k.val : Int) 4).sum = (rgT k.val : Int) := by decide +kernel
theorem c_rights (w : World) (mean : ExcName → Option Value) (mg mb : Str → Option Value) (rest : List (Addr × Obj)) (t : Tok) (k : Nat) (hk : k < 16) :
  CC w mean mg mb 230 5 rest [.int (k : Int) t] (fun r n' => (∃ t', r = .int (rgT k : Int) t') ∧ n' = rest) := by
  have h := c_rights0 w mean mg mb rest t (k : Int)
  rw [show (rgX (k : Int) 4).sum = (rgT k : Int) from rg_all ⟨k, hk⟩] at h
  exact h
end
section
def fmOut : Stmt := kidOf (topSt 41) 1
def fmIn : Stmt := kidOf fmOut 0
abbrev fmMap (pl : Nat) (x : Int) (t : Tok) (i : Int) (ti : Tok) (m0 : Str → Option Value) : Str → Option Value := fun y =>
  if y = Str.ofString "perm" then some (.ref pl) else if y = Str.ofString "mode" then some (.int x t) else if y = Str.ofString "index" then some (.int i ti) else m0 y
structure FmT (x i b : Int) : Prop where
  e : if i = 0 then Builtin.bitAnd x 61440 = b else Builtin.bitAnd x b = b
theorem fmT_1 {x i b y : Int} (hi : i = 0) (h : SgI y (Builtin.bitAnd x 61440)) (hy : y = b) : FmT x i b := ⟨by rw [if_pos hi, ← h.e]; exact hy⟩
theorem fmT_2 {x i b y : Int} (hi : i = 0) (h : SgI y (Builtin.bitAnd x 61440)) (hy : ¬ y = b) : ¬ FmT x i b := fun q => hy (by have e := q.e; rw [if_pos hi, ← h.e] at e; exact e)
theorem fmT_3 {x i b y : Int} (hi : ¬ i = 0) (h : SgI y (Builtin.bitAnd x b)) (hy : y = b) : FmT x i b := ⟨by rw [if_neg hi, ← h.e]; exact hy⟩
theorem fmT_4 {x i b y : Int} (hi : ¬ i = 0) (h : SgI y (Builtin.bitAnd x b)) (hy : ¬ y = b) : ¬ FmT x i b := fun q => hy (by have e := q.e; rw [if_neg hi, ← h.e] at e; exact e)
theorem fm_map_self {m : Str → Option Value} {pl : Nat} {x : Int} {t : Tok} {i : Int} {ti : Tok} (h1 : m (Str.ofString "perm") = some (.ref pl)) (h2 : m (Str.ofString "mode") = some (.int x t)) (h3 : m (Str.ofString "index") = some (.int i ti)) :
    ∀ y, m y = fmMap pl x t i ti m y := by
  intro y
  unfold fmMap
  split
  · rename_i e; rw [e, h1]
  split
  · rename_i e; rw [e, h2]
  split
  · rename_i e; rw [e, h3]
  rfl
theorem fm_step (w : World) (mean : ExcName → Option Value) (mg mb : Str → Option Value) (rest : List (Addr × Obj)) {dp un : Nat} {gd : Option (List Code)} {cn : Str} {nm : List (Str × NameKind)} {ig ic : Bool} {mr : List (Str × Const)} {a : Addr} {ccd : Value} {cl : List (Str × Addr)} {outer : List Env} {A₀ : Around} {base h₀ : Heap} {L : Addr} {m0 : Str → Option Value}
    {L1 I e it pl n : Nat} {oI oe oi : Obj} {cs : List Value} {x i b : Int} {c : Str} {t ti tb tc : Tok} {s : Shared}
    (env : Env) (henv : env = envOf (Str.ofString "filemode") (scopeOf (topSt 41)) L 218 (.ref 217))
    (B : Below A₀ base (envX cn ⟨.function, nm, ig, ic, mr⟩ L1 a ccd cl :: outer) h₀) (X : (Mine.hd.heap_39 w.params).In h₀) (T : Top topProg LOOSE mean mg mb h₀) (hd : dp + 8 < recursionLimit) (hu : un + 140 < cLine)
    (hcs : cs.length < 100) (hord : pl < it ∧ it < e ∧ e < I) (offp : ∀ p ∈ rest, p.1 ≠ pl)
    (F : Fr h₀ L s.heap (fmMap pl x t i ti m0)) (N : News h₀ L s.heap ((I, oI) :: (e, oe) :: (it, oi) :: (pl, W.listOf cs.toArray n) :: rest)) :
    wpAny (model PySem.Challenge.rw_un0033_01.prog w) ((ktrTop dp un gd cn ⟨.function, nm, ig, ic, mr⟩ L1 a ccd cl outer).deeper env) (storeName env (Str.ofString "bit") (.int b tb)) (fun _ s₁ => wpAny (model PySem.Challenge.rw_un0033_01.prog w) ((ktrTop dp un gd cn ⟨.function, nm, ig, ic, mr⟩ L1 a ccd cl outer).deeper env) (storeName env (Str.ofString "char") (.str c tc)) (fun _ s₂ => wpAny (model PySem.Challenge.rw_un0033_01.prog w) ((ktrTop dp un gd cn ⟨.function, nm, ig, ic, mr⟩ L1 a ccd cl outer).deeper env) (execs (bodyOf fmIn) env) (fun fl s₃ => match fl with
          | .ret v => False
          | .brk => KeepIt (FmT x i b ∧ ∃ (h' : Heap) (tk' : Nat) (m1 : Str → Option Value), s₃ = { s with heap := h', toks := tk' } ∧ Fr h₀ L h' (fmMap pl x t i ti m1) ∧ News h₀ L h' ((I, oI) :: (e, oe) :: (it, oi) :: (pl, W.listOf (cs ++ [Value.str c tc]).toArray (n + 1)) :: rest))
          | _ => KeepIt (¬ FmT x i b ∧ ∃ (h' : Heap) (tk' : Nat) (m1 : Str → Option Value), s₃ = { s with heap := h', toks := tk' } ∧ Fr h₀ L h' (fmMap pl x t i ti m1) ∧ News h₀ L h' ((I, oI) :: (e, oe) :: (it, oi) :: (pl, W.listOf cs.toArray n) :: rest))) (fun _ _ => False) s₂) (fun _ _ => False) s₁) (fun _ _ => False) s := by
  k_with_none
  k_with "call builtin:issubclass" => (k_here; k_dflt (refine' iss_str ?k1 ?k2 ?k3 ?_; (case k1 => k_asm); (case k2 => k_asm); (case k3 => k_mem); k_whole); intro h' tk' F' N'; (try k_sweep))
  k_with "call type:list" => (k_here; (with_reducible show wpAny _ _ (call (Value.type _) [Value.str _ _]) _ _ _); k_dflt (refine' list_strK ?k0 ?k1 ?k2 ?k3 ?_; (case k0 => exact rfl); (case k1 => k_asm); (case k2 => k_asm); (case k3 => (rw [sizeLine_eq]; omega)); k_whole); intro l' h' tk' its' n' hch' F' N' l1; (try k_lt l1); (try k_sweep))
  k_with "truthy ref" => (k_here; (with_reducible show wpAny _ _ (truthy (Value.ref _)) _ _ _); k_dflt (first
        | (refine' truthy_cons ?N ?m ?z ?_; (case N => k_asm); (case m => k_mem); (case z => omega); k_whole)
        | (refine' truthy_nil ?N ?m ?_; (case N => k_asm); (case m => k_mem); k_whole)))
  k_with "call builtin:list.pop" => (k_here; (with_reducible show wpAny _ _ (call (Value.builtin _) [Value.ref _, Value.int _ _]) _ _ _); k_dflt (refine' pop0 ?F ?N ?U ?z ?_; (case F => k_asm); (case N => k_asm); (case U => k_upd); (case z => omega); k_whole); intro h' F' N'; (try dsimp only [List.nil_append, List.cons_append] at N'); (try k_sweep))
  k_with "binaryOp BitAnd int int" => (k_here; k_dflt (with_reducible refine' sg_and ?_); intro y9 t9 k9 e9)
  revert X; k_fill; intro X
  (conv => pattern (execs (bodyOf fmIn) _); arg 1; whnf)
  subst henv
  k_steps
  all_goals rename Fr h₀ L _ _ => FF9
  all_goals rename News h₀ L _ _ => NN9
  all_goals first
    | exact ⟨fmT_1 (by assumption) (by assumption) (by assumption), _, _, _, rfl, fr_eq FF9 (fm_map_self rfl rfl rfl), by simpa only [List.push_toArray] using NN9⟩
    | exact ⟨fmT_2 (by assumption) (by assumption) (by assumption), _, _, _, rfl, fr_eq FF9 (fm_map_self rfl rfl rfl), NN9⟩
    | exact ⟨fmT_3 (by assumption) (by assumption) (by assumption), _, _, _, rfl, fr_eq FF9 (fm_map_self rfl rfl rfl), by simpa only [List.push_toArray] using NN9⟩
    | exact ⟨fmT_4 (by assumption) (by assumption) (by assumption), _, _, _, rfl, fr_eq FF9 (fm_map_self rfl rfl rfl), NN9⟩
end
section
def tupD (K : Frag) (a : Nat) : Option (List Value) := match List.lookup a K with
  | some o => (match o.cls, o.data with | .type n, .seq items _ => if n = "tuple" then some items.toList else none | _, _ => none)
  | none => none
theorem tupD_is {K : Frag} {a : Nat} {vs : List Value} {h₀ h : Heap} {L : Addr} {m : Str → Option Value} (F : Fr h₀ L h m) (X : K.In h₀) (e : tupD K a = some vs) : h.IsTuple a vs.toArray ∧ ∃ o, h₀.get? a = some o := by
  unfold tupD at e
  split at e
  · rename_i o ho
    split at e
    · rename_i n items k hc hd
      split at e
      · rename_i hn
        have e' := Option.some.inj e
        subst e' hn
        have g := X _ _ ho
        exact ⟨⟨o, F.keep _ _ g, hc, k, by rw [hd, Array.toArray_toList]⟩, o, g⟩
      · cases e
    · cases e
  · cases e
structure FmP where
  a : Nat
  b : Int
  tb : Tok
  c : Str
  tc : Tok
def fmD : List (Nat × List FmP) := [
  (186, [⟨179, 40960, 424, ⟨#[108]⟩, 452⟩, ⟨180, 49152, 426, ⟨#[115]⟩, 453⟩, ⟨181, 32768, 420, ⟨#[45]⟩, 454⟩, ⟨182, 24576, 418, ⟨#[98]⟩, 455⟩, ⟨183, 16384, 414, ⟨#[100]⟩, 456⟩, ⟨184, 8192, 416, ⟨#[99]⟩, 457⟩, ⟨185, 4096, 422, ⟨#[112]⟩, 458⟩]),
  (188, [⟨187, 256, 434, ⟨#[114]⟩, 459⟩]),
  (190, [⟨189, 128, 436, ⟨#[119]⟩, 460⟩]),
  (194, [⟨191, 2112, 461, ⟨#[115]⟩, 462⟩, ⟨192, 2048, 428, ⟨#[83]⟩, 463⟩, ⟨193, 64, 438, ⟨#[120]⟩, 464⟩]),
  (196, [⟨195, 32, 440, ⟨#[114]⟩, 465⟩]),
  (198, [⟨197, 16, 442, ⟨#[119]⟩, 466⟩]),
  (202, [⟨199, 1032, 467, ⟨#[115]⟩, 468⟩, ⟨200, 1024, 430, ⟨#[83]⟩, 469⟩, ⟨201, 8, 444, ⟨#[120]⟩, 470⟩]),
  (204, [⟨203, 4, 446, ⟨#[114]⟩, 471⟩]),
  (206, [⟨205, 2, 448, ⟨#[119]⟩, 472⟩]),
  (210, [⟨207, 513, 473, ⟨#[116]⟩, 474⟩, ⟨208, 512, 432, ⟨#[84]⟩, 475⟩, ⟨209, 1, 450, ⟨#[120]⟩, 476⟩])]
theorem fm_d0 (p : Params) : tupD (Mine.hd.heap_39 p) 211 = some (fmD.map fun e => Value.ref e.1) := by kernel_rfl
theorem fm_d1 (p : Params) : fmD.map (fun e => tupD (Mine.hd.heap_39 p) e.1) = fmD.map (fun e => some (e.2.map fun q => Value.ref q.a)) := by kernel_rfl
theorem fm_d2 (p : Params) : fmD.map (fun e => e.2.map fun q => tupD (Mine.hd.heap_39 p) q.a) = fmD.map (fun e => e.2.map fun q => some [Value.int q.b q.tb, Value.str q.c q.tc]) := by kernel_rfl
theorem map_at {α β : Type} {f g : α → β} : ∀ {l : List α}, l.map f = l.map g → ∀ a ∈ l, f a = g a
  | [], _, _, h => by cases h
  | x :: l, e, a, h => by
    rw [List.map_cons, List.map_cons] at e
    injection e with e1 e2
    rcases List.mem_cons.mp h with rfl | h
    · exact e1
    · exact map_at e2 a h
def fmCh (x i : Int) : List FmP → Str
  | [] => if i = 0 then Str.ofString "?" else Str.ofString "-"
  | q :: r => if (if i = 0 then Builtin.bitAnd x 61440 = q.b else Builtin.bitAnd x q.b = q.b) then q.c else fmCh x i r
theorem fmCh_yes {x i : Int} {q : FmP} {r : List FmP} (h : FmT x i q.b) : fmCh x i (q :: r) = q.c := if_pos h.e
theorem fmCh_no {x i : Int} {q : FmP} {r : List FmP} (h : ¬ FmT x i q.b) : fmCh x i (q :: r) = fmCh x i r := if_neg fun e => h ⟨e⟩
theorem fmIn_is : ∃ pb pc tp kk pi oe pos, fmIn = .For (.Tuple [.Name (Str.ofString "bit") pb, .Name (Str.ofString "char") pc] kk tp) (.Name (Str.ofString "table") pi) (bodyOf fmIn) oe pos := ⟨_, _, _, _, _, _, _, rfl⟩
def fmEl : List Stmt := match fmIn with | .For _ _ _ e _ => e | _ => []
theorem fm_else (w : World) (mean : ExcName → Option Value) (mg mb : Str → Option Value) (rest : List (Addr × Obj)) {dp un : Nat} {gd : Option (List Code)} {cn : Str} {nm : List (Str × NameKind)} {ig ic : Bool} {mr : List (Str × Const)} {a : Addr} {ccd : Value} {cl : List (Str × Addr)} {outer : List Env} {A₀ : Around} {base h₀ : Heap} {L : Addr} {m0 : Str → Option Value}
    {L1 e it pl n : Nat} {oe oi : Obj} {cs : List Value} {x i : Int} {t ti : Tok} {s : Shared}
    (env : Env) (henv : env = envOf (Str.ofString "filemode") (scopeOf (topSt 41)) L 218 (.ref 217))
    (B : Below A₀ base (envX cn ⟨.function, nm, ig, ic, mr⟩ L1 a ccd cl :: outer) h₀) (X : (Mine.hd.heap_39 w.params).In h₀) (T : Top topProg LOOSE mean mg mb h₀) (hd : dp + 8 < recursionLimit) (hu : un + 140 < cLine)
    (hcs : cs.length < 100) (hord : pl < it ∧ it < e) (offp : ∀ p ∈ rest, p.1 ≠ pl)
    (F : Fr h₀ L s.heap (fmMap pl x t i ti m0)) (N : News h₀ L s.heap ((e, oe) :: (it, oi) :: (pl, W.listOf cs.toArray n) :: rest)) :
    wpAny (model PySem.Challenge.rw_un0033_01.prog w) ((ktrTop dp un gd cn ⟨.function, nm, ig, ic, mr⟩ L1 a ccd cl outer).deeper env) (execs fmEl env) (fun fl s₃ => match fl with
          | .next => KeepIt (∃ (h' : Heap) (tk' tc : Nat) (m1 : Str → Option Value), s₃ = { s with heap := h', toks := tk' } ∧ Fr h₀ L h' (fmMap pl x t i ti m1) ∧ News h₀ L h' ((e, oe) :: (it, oi) :: (pl, W.listOf (cs ++ [Value.str (if i = 0 then Str.ofString "?" else Str.ofString "-") tc]).toArray (n + 1)) :: rest))
          | _ => False) (fun _ _ => False) s := by
  k_with_none
  k_with "call builtin:issubclass" => (k_here; k_dflt (refine' iss_str ?k1 ?k2 ?k3 ?_; (case k1 => k_asm); (case k2 => k_asm); (case k3 => k_mem); k_whole); intro h' tk' F' N'; (try k_sweep))
  k_with "call type:list" => (k_here; (with_reducible show wpAny _ _ (call (Value.type _) [Value.str _ _]) _ _ _); k_dflt (refine' list_strK ?k0 ?k1 ?k2 ?k3 ?_; (case k0 => exact rfl); (case k1 => k_asm); (case k2 => k_asm); (case k3 => (rw [sizeLine_eq]; omega)); k_whole); intro l' h' tk' its' n' hch' F' N' l1; (try k_lt l1); (try k_sweep))
  k_with "truthy ref" => (k_here; (with_reducible show wpAny _ _ (truthy (Value.ref _)) _ _ _); k_dflt (first
        | (refine' truthy_cons ?N ?m ?z ?_; (case N => k_asm); (case m => k_mem); (case z => omega); k_whole)
        | (refine' truthy_nil ?N ?m ?_; (case N => k_asm); (case m => k_mem); k_whole)))
  k_with "call builtin:list.pop" => (k_here; (with_reducible show wpAny _ _ (call (Value.builtin _) [Value.ref _, Value.int _ _]) _ _ _); k_dflt (refine' pop0 ?F ?N ?U ?z ?_; (case F => k_asm); (case N => k_asm); (case U => k_upd); (case z => omega); k_whole); intro h' F' N'; (try dsimp only [List.nil_append, List.cons_append] at N'); (try k_sweep))
  revert X; k_fill; intro X
  (conv => pattern (execs fmEl _); arg 1; whnf)
  subst henv
  k_steps
  all_goals rename Fr h₀ L _ _ => FF9
  all_goals rename News h₀ L _ _ => NN9
  · exact ⟨_, _, _, _, rfl, fr_eq FF9 (fm_map_self rfl rfl rfl), by rw [if_pos (by assumption)]; simpa only [List.push_toArray] using NN9⟩
  · exact ⟨_, _, _, _, rfl, fr_eq FF9 (fm_map_self rfl rfl rfl), by rw [if_neg (by assumption)]; simpa only [List.push_toArray] using NN9⟩
theorem fm_inner (w : World) (mean : ExcName → Option Value) (mg mb : Str → Option Value) (rest : List (Addr × Obj)) {dp un : Nat} {gd : Option (List Code)} {cn : Str} {nm : List (Str × NameKind)} {ig ic : Bool} {mr : List (Str × Const)} {a : Addr} {ccd : Value} {cl : List (Str × Addr)} {outer : List Env} {A₀ : Around} {base h₀ : Heap} {L : Addr} {m0 : Str → Option Value}
    {L1 e it pl n : Nat} {oe oi : Obj} {cs : List Value} {x i : Int} {t ti : Tok} {s : Shared} {Q : Flow → Shared → Prop} {E : Value → Shared → Prop} {tab : Nat × List FmP}
    (env : Env) (henv : env = envOf (Str.ofString "filemode") (scopeOf (topSt 41)) L 218 (.ref 217))
    (B : Below A₀ base (envX cn ⟨.function, nm, ig, ic, mr⟩ L1 a ccd cl :: outer) h₀) (X : (Mine.hd.heap_39 w.params).In h₀) (T : Top topProg LOOSE mean mg mb h₀) (hd : dp + 8 < recursionLimit) (hu : un + 140 < cLine)
    (hcs : cs.length < 100) (hord : pl < it ∧ it < e) (offp : ∀ p ∈ rest, p.1 ≠ pl) (ht : tab ∈ fmD)
    (F : Fr h₀ L s.heap (fun y => if y = Str.ofString "table" then some (.ref tab.1) else fmMap pl x t i ti m0 y)) (N : News h₀ L s.heap ((e, oe) :: (it, oi) :: (pl, W.listOf cs.toArray n) :: rest))
    (hQ : ∀ (h' : Heap) (tk' tc n' : Nat) (m1 : Str → Option Value), Fr h₀ L h' (fmMap pl x t i ti m1) → News h₀ L h' ((e, oe) :: (it, oi) :: (pl, W.listOf (cs ++ [Value.str (fmCh x i tab.2) tc]).toArray n') :: rest) → Q .next { s with heap := h', toks := tk' }) :
    wpAny (model PySem.Challenge.rw_un0033_01.prog w) ((ktrTop dp un gd cn ⟨.function, nm, ig, ic, mr⟩ L1 a ccd cl outer).deeper env) (exec fmIn env) Q E s := by
  refine wpAny_mono (Q := Q) (E := fun _ _ => False) ?_ (fun _ _ x => x) (fun _ _ x => x.elim)
  obtain ⟨pb, pc, tp, kk, pi, oe', pos, e1⟩ := fmIn_is
  have hel : fmEl = oe' := by unfold fmEl; rw [e1]
  rw [e1]
  have hL : env.locals = L := by rw [henv]; rfl
  subst hL
  obtain ⟨hT, hT0⟩ := tupD_is F X (map_at (fm_d1 w.params) _ ht)
  refine for_tup (vs := tab.2.map fun q => Value.ref q.a) rfl (fun k m' n' => n' = ((e, oe) :: (it, oi) :: (pl, W.listOf cs.toArray n) :: rest) ∧ (∃ m1, m' = fmMap pl x t i ti m1) ∧ fmCh x i tab.2 = fmCh x i (tab.2.drop k)) F N
    ⟨rfl, ⟨fun y => if y = Str.ofString "table" then some (.ref tab.1) else m0 y, ?_⟩, rfl⟩ ?_ hT (.inl hT0) ?_ ?_ (hE := PassesOwn.never)
  · funext y
    unfold fmMap
    by_cases h1 : y = Str.ofString "table"
    · subst h1; rfl
    · simp only [if_neg h1]
  · intro Q' hQ'
    rw [henv] at F ⊢
    exact ld F (by rfl) hQ'
  · rintro k v I oI m' n' h tk hv ⟨rfl, ⟨m1, rfl⟩, hch⟩ hn hlt F1 N1
    obtain ⟨q, hq, rfl⟩ : ∃ q, tab.2[k]? = some q ∧ Value.ref q.a = v := by
      rw [List.getElem?_map] at hv
      cases hq : tab.2[k]? with
      | none => rw [hq] at hv; cases hv
      | some q => rw [hq] at hv; exact ⟨q, rfl, Option.some.inj hv⟩
    have hqm : q ∈ tab.2 := List.mem_of_getElem? hq
    obtain ⟨hP, _⟩ := tupD_is F1 X (map_at (map_at (fm_d2 w.params) _ ht) _ hqm)
    have hdr : tab.2.drop k = q :: tab.2.drop (k + 1) := by
      obtain ⟨hk, hk'⟩ := List.getElem?_eq_some_iff.mp hq
      rw [← hk', List.drop_eq_getElem_cons hk]
    refine assign_Tuple_tuple rfl hP rfl rfl fun g he => ?_
    have kg : ∀ b o, h.get? b = some o → g.get? b = some o := fun b o e => he b o (Nat.ne_of_lt (Heap.lt_size e)) e
    have F2 := F1.keeps kg
    have N2 := news_keeps N1 kg
    have hI : pl < it ∧ it < e ∧ e < I := ⟨hord.1, hord.2, hlt _ List.mem_cons_self⟩
    refine assignInOrder_cons (wpAny_assign_Name ?_)
    refine wpAny_mono (fm_step w mean mg mb rest (b := q.b) (c := q.c) (tb := q.tb) (tc := q.tc) env henv B X T hd hu hcs hI offp F2 N2) (fun _ s₁ h₁ => ?_) fun _ _ x => x
    refine assignInOrder_cons (wpAny_assign_Name (wpAny_mono h₁ (fun _ s₂ h₂ => ?_) fun _ _ x => x))
    refine assignInOrder_nil ?_
    refine wpAny_mono h₂ (fun fl s₃ h₃ => ?_) fun _ _ x => x
    have fin : (¬ FmT x i q.b ∧ ∃ (h' : Heap) (tk' : Nat) (m1 : Str → Option Value), s₃ = { s with heap := h', toks := tk' } ∧ Fr h₀ env.locals h' (fmMap pl x t i ti m1) ∧ News h₀ env.locals h' ((I, oI) :: (e, oe) :: (it, oi) :: (pl, W.listOf cs.toArray n) :: rest)) →
        TurnEnd h₀ env.locals I oI (fun m' n' => n' = ((e, oe) :: (it, oi) :: (pl, W.listOf cs.toArray n) :: rest) ∧ (∃ m1, m' = fmMap pl x t i ti m1) ∧ fmCh x i tab.2 = fmCh x i (tab.2.drop (k + 1))) { s with heap := h, toks := tk } s₃ := by
      rintro ⟨hno, h', tk', m2, rfl, F3, N3⟩
      exact ⟨h', tk', _, _, rfl, F3, N3, hn, rfl, ⟨m2, rfl⟩, by rw [hch, hdr, fmCh_no hno]⟩
    cases fl with
    | ret v => exact h₃.elim
    | brk =>
      obtain ⟨hyes, h', tk', m2, rfl, F3, N3⟩ := h₃
      refine hQ h' tk' q.tc (n + 1) m2 F3 ?_
      rw [hch, hdr, fmCh_yes hyes]
      exact news_sub N3 fun p hp => List.mem_cons_of_mem _ hp
    | next => exact fin h₃
    | cont => exact fin h₃
  · rintro h tk m' n' ⟨rfl, ⟨m1, rfl⟩, hch⟩ F1 N1
    rw [← hel]
    refine wpAny_mono (fm_else w mean mg mb rest env henv B X T hd hu hcs hord offp F1 N1) (fun fl s₃ h₃ => ?_) fun _ _ x => x
    cases fl with
    | next =>
      obtain ⟨h', tk', tc, m2, rfl, F3, N3⟩ := h₃
      refine hQ h' tk' tc (n + 1) m2 F3 ?_
      rw [hch, List.drop_of_length_le (by rw [List.length_map]; exact Nat.le_refl _)]
      exact N3
    | ret v => exact h₃.elim
    | brk => exact h₃.elim
    | cont => exact h₃.elim
end
section
structure Stop (p : Prop) : Prop where
  h : p
def fmStrs (x : Int) (k : Nat) : List Str := (List.range k).map fun (j : Nat) => fmCh x (j : Int) (fmD.getD j (0, [])).2
theorem fmStrs_succ (x : Int) (k : Nat) : fmStrs x (k + 1) = fmStrs x k ++ [fmCh x (k : Int) (fmD.getD k (0, [])).2] := by
  unfold fmStrs
  rw [List.range_succ, List.map_append]
  rfl
theorem fmCh_len (x i : Int) : ∀ ps : List FmP, (∀ q ∈ ps, q.c.length = 1) → (fmCh x i ps).length = 1
  | [], _ => by unfold fmCh; split <;> decide +kernel
  | q :: r, h => by
    by_cases h1 : FmT x i q.b
    · rw [fmCh_yes h1]; exact h q List.mem_cons_self
    · rw [fmCh_no h1]; exact fmCh_len x i r fun p hp => h p (List.mem_cons_of_mem _ hp)
theorem fmD_len : ∀ e ∈ fmD, ∀ q ∈ e.2, q.c.length = 1 := by decide +kernel
theorem fmStrs_sum (x : Int) : ∀ k, ((fmStrs x k).map (·.length)).sum = k ∧ (fmStrs x k).length = k
  | 0 => ⟨rfl, rfl⟩
  | k + 1 => by
    obtain ⟨a, b⟩ := fmStrs_sum x k
    have h1 : (fmCh x (k : Int) (fmD.getD k (0, [])).2).length = 1 := fmCh_len _ _ _ (by
      rw [List.getD_eq_getElem?_getD]
      cases e : fmD[k]? with
      | none => intro q hq; cases hq
      | some p => exact fmD_len p (List.mem_of_getElem? e))
    rw [fmStrs_succ]
    constructor
    · rw [List.map_append, List.sum_append, a, List.map_cons, h1]; rfl
    · rw [List.length_append, b]; rfl
structure SgL (S T : List Str) : Prop where
  e : S = T
theorem strs_snoc : ∀ {vs : List Value} {ns : List Str} {n : Str} {t : Tok}, StrsAre vs ns → StrsAre (vs ++ [.str n t]) (ns ++ [n])
  | _, _, _, _, .nil => .cons _ _ .nil
  | _, _, _, _, .cons _ _ h => .cons _ _ (strs_snoc h)
abbrev fmMap0 (pl : Nat) (x : Int) (t : Tok) (m0 : Str → Option Value) : Str → Option Value := fun y =>
  if y = Str.ofString "perm" then some (.ref pl) else if y = Str.ofString "mode" then some (.int x t) else m0 y
theorem fm_map0_self {m : Str → Option Value} {pl : Nat} {x : Int} {t : Tok} (h1 : m (Str.ofString "perm") = some (.ref pl)) (h2 : m (Str.ofString "mode") = some (.int x t)) :
    ∀ y, m y = fmMap0 pl x t m y := by
  intro y
  unfold fmMap0
  split
  · rename_i e; rw [e, h1]
  split
  · rename_i e; rw [e, h2]
  rfl
theorem fmOut_is : ∃ pb pc tp kk pf pi pca pos, fmOut = .For (.Tuple [.Name (Str.ofString "index") pb, .Name (Str.ofString "table") pc] kk tp) (.Call (.Name (Str.ofString "enumerate") pf) [.Name (Str.ofString "_filemode_table") pi] [] pca) (bodyOf fmOut) [] pos ∧ bodyOf fmOut = [fmIn] := ⟨_, _, _, _, _, _, _, _, rfl, rfl⟩
theorem stN2 {M : Model} {A : Around} {E : Value → Shared → Prop} {s : Shared} {h₀ : Heap} {env : Env} {m : Str → Option Value} {news : List (Addr × Obj)} {x : Str} {v : Value} {Q : Unit → Shared → Prop}
    (F : Fr h₀ env.locals s.heap m) (N : News h₀ env.locals s.heap news) (hk : env.kindOf x = some .local) (hp : (env.scope.kind == .class || (env.scope.kind == .module && env.locals != env.globals)) = false)
    (h : ∀ h', Fr h₀ env.locals h' (fun y => if y = x then some v else m y) → News h₀ env.locals h' news → Q () { s with heap := h', toks := s.toks + 1 }) : wpAny M A (storeName env x v) Q E s :=
  wpAny_storeName_local hk F.ns (fun h' hn hs => h h' (F.set hn hs) fun p hp => ⟨hs.extBut _ _ (N p hp).2.1 (N p hp).1, (N p hp).2⟩) hp
theorem fm_call (w : World) (mean : ExcName → Option Value) (mg mb : Str → Option Value) (rest : List (Addr × Obj)) {dp un : Nat} {gd : Option (List Code)} {cn : Str} {nm : List (Str × NameKind)} {ig ic : Bool} {mr : List (Str × Const)} {a : Addr} {ccd : Value} {cl : List (Str × Addr)} {outer : List Env} {A₀ : Around} {base h₀ : Heap} {L : Addr} {m0 : Str → Option Value}
    {L1 : Nat} {s : Shared} {Q : Value → Shared → Prop} {pf pi pca : Pos}
    (env : Env) (henv : env = envOf (Str.ofString "filemode") (scopeOf (topSt 41)) L 218 (.ref 217))
    (B : Below A₀ base (envX cn ⟨.function, nm, ig, ic, mr⟩ L1 a ccd cl :: outer) h₀) (X : (Mine.hd.heap_39 w.params).In h₀) (T : Top topProg LOOSE mean mg mb h₀) (hd : dp + 8 < recursionLimit) (hu : un + 140 < cLine)
    (F : Fr h₀ L s.heap m0) (hQ : wpAny (model PySem.Challenge.rw_un0033_01.prog w) ((ktrTop dp un gd cn ⟨.function, nm, ig, ic, mr⟩ L1 a ccd cl outer).deeper env) (call (.type "enumerate") [.ref 211]) Q (fun _ _ => False) s) :
    wpAny (model PySem.Challenge.rw_un0033_01.prog w) ((ktrTop dp un gd cn ⟨.function, nm, ig, ic, mr⟩ L1 a ccd cl outer).deeper env) (eval (.Call (.Name (Str.ofString "enumerate") pf) [.Name (Str.ofString "_filemode_table") pi] [] pca) env) Q (fun _ _ => False) s := by
  k_with_none
  k_with "call builtin:issubclass" => (k_here; k_dflt (refine' iss_str ?k1 ?k2 ?k3 ?_; (case k1 => k_asm); (case k2 => k_asm); (case k3 => k_mem); k_whole); intro h' tk' F' N'; (try k_sweep))
  k_with "call type:list" => (k_here; (with_reducible show wpAny _ _ (call (Value.type _) [Value.str _ _]) _ _ _); k_dflt (refine' list_strK ?k0 ?k1 ?k2 ?k3 ?_; (case k0 => exact rfl); (case k1 => k_asm); (case k2 => k_asm); (case k3 => (rw [sizeLine_eq]; omega)); k_whole); intro l' h' tk' its' n' hch' F' N' l1; (try k_lt l1); (try k_sweep))
  k_with "truthy ref" => (k_here; (with_reducible show wpAny _ _ (truthy (Value.ref _)) _ _ _); k_dflt (first
        | (refine' truthy_cons ?N ?m ?z ?_; (case N => k_asm); (case m => k_mem); (case z => omega); k_whole)
        | (refine' truthy_nil ?N ?m ?_; (case N => k_asm); (case m => k_mem); k_whole)))
  k_with "call builtin:list.pop" => (k_here; (with_reducible show wpAny _ _ (call (Value.builtin _) [Value.ref _, Value.int _ _]) _ _ _); k_dflt (refine' pop0 ?F ?N ?U ?z ?_; (case F => k_asm); (case N => k_asm); (case U => k_upd); (case z => omega); k_whole); intro h' F' N'; (try dsimp only [List.nil_append, List.cons_append] at N'); (try k_sweep))
  revert X hQ; k_fill; intro X hQ
  subst henv
  have hQ' := Stop.mk hQ
  clear hQ
  k_steps
  exact hQ'.h
theorem fm_for (w : World) (mean : ExcName → Option Value) (mg mb : Str → Option Value) (rest : List (Addr × Obj)) {dp un : Nat} {gd : Option (List Code)} {cn : Str} {nm : List (Str × NameKind)} {ig ic : Bool} {mr : List (Str × Const)} {a : Addr} {ccd : Value} {cl : List (Str × Addr)} {outer : List Env} {A₀ : Around} {base h₀ : Heap} {L : Addr} {m0 : Str → Option Value}
    {L1 pl n : Nat} {x : Int} {t : Tok} {s : Shared} {Q : Flow → Shared → Prop} {E : Value → Shared → Prop}
    (env : Env) (henv : env = envOf (Str.ofString "filemode") (scopeOf (topSt 41)) L 218 (.ref 217))
    (B : Below A₀ base (envX cn ⟨.function, nm, ig, ic, mr⟩ L1 a ccd cl :: outer) h₀) (X : (Mine.hd.heap_39 w.params).In h₀) (T : Top topProg LOOSE mean mg mb h₀) (hd : dp + 8 < recursionLimit) (hu : un + 140 < cLine)
    (offp : ∀ p ∈ rest, p.1 ≠ pl)
    (F : Fr h₀ L s.heap (fmMap0 pl x t m0)) (N : News h₀ L s.heap ((pl, W.listOf #[] n) :: rest))
    (hQ : ∀ (h' : Heap) (tk' n' : Nat) (cs : List Value) (m1 : Str → Option Value) (SS : List Str), SgL SS (fmStrs x 10) → cs.length < 100 → (SS.map (·.length)).sum + SS.length ≤ 1048576 → StrsAre cs SS → Fr h₀ L h' (fmMap0 pl x t m1) → News h₀ L h' ((pl, W.listOf cs.toArray n') :: rest) → Q .next { s with heap := h', toks := tk' }) :
    wpAny (model PySem.Challenge.rw_un0033_01.prog w) ((ktrTop dp un gd cn ⟨.function, nm, ig, ic, mr⟩ L1 a ccd cl outer).deeper env) (exec fmOut env) Q E s := by
  refine wpAny_mono (Q := Q) (E := fun _ _ => False) ?_ (fun _ _ x => x) (fun _ _ x => x.elim)
  obtain ⟨pb, pc, tp, kk, pf, pi, pca, pos, e1, e2⟩ := fmOut_is
  rw [e1, e2]
  have hL : env.locals = L := by rw [henv]; rfl
  subst hL
  obtain ⟨hT, hT0⟩ := tupD_is F X (fm_d0 w.params)
  have hT1 : @LT.lt Nat _ 211 s.heap.objs.size := by obtain ⟨o, e, _⟩ := hT; exact Heap.lt_size e
  have hpl : @LT.lt Nat _ pl s.heap.objs.size := Heap.lt_size (N _ List.mem_cons_self).1
  refine wpAny_For (fm_call w mean mg mb rest env henv B X T hd hu F (call_enum_tup hT fun h' he hit hsz hk => ?_)) (by intro _; rfl)
  refine wpAny_pyIter_enum he ?_
  have hLs : @LT.lt Nat _ env.locals s.heap.objs.size := F.ns.lt
  have F1 := F.keeps hk
  have N1 := news_keeps N hk
  have hnl : ∀ p ∈ (pl, W.listOf #[] n) :: rest, @LT.lt Nat _ p.1 s.heap.objs.size := fun p hp => Heap.lt_size (N p hp).1
  have hnew : ∀ y : Nat, s.heap.objs.size ≤ y → h₀.get? y = none := fun y hy => by
    cases e : h₀.get? y with
    | none => rfl
    | some o => exact absurd (Heap.lt_size (F.keep y o e)) (Nat.not_lt.mpr hy)
  generalize s.heap.objs.size = z at *
  refine pair_loop (e := z + 1) (it := z) (m := fmMap0 pl x t m0) (news := (pl, W.listOf #[] n) :: rest) (WalksT.enumerateD (drawsTup (A := _) rfl z 211 (Nat.ne_of_lt hT1) _) (z + 1) (Nat.succ_ne_self _) (fun h => ?_) (by simp)) rfl
    (fun i m' n' => ∃ cs nn m1, m' = fmMap0 pl x t m1 ∧ n' = (pl, W.listOf (cs : List Value).toArray nn) :: rest ∧ StrsAre cs (fmStrs x i) ∧ cs.length = i)
    (fun i vals ⟨t, x, _, e⟩ => ⟨_, _, e⟩) (fun i h st => ?_) ⟨?_, hnew _ (by omega), fun p hp => ?_⟩ ⟨?_, hnew _ (by omega), fun p hp => ?_⟩ (fun b hb => ?_)
    ⟨⟨_, by simpa using he⟩, hit, hT.at fun o e => hk _ _ e⟩ F1 N1 ⟨[], n, m0, rfl, rfl, .nil, rfl⟩ ?_ ?_
  · rcases List.mem_cons.mp h with e | h
    · exact Nat.succ_ne_self _ e
    · have h2 : z + 1 = 211 := List.mem_singleton.mp h
      omega
  · obtain ⟨⟨old, e⟩, ⟨o, e', _⟩, _⟩ := st
    exact ⟨⟨_, e⟩, ⟨_, e'⟩⟩
  · show @Ne Nat _ _; omega
  · have := hnl p hp; show @Ne Nat _ _; omega
  · show @Ne Nat _ _; omega
  · have := hnl p hp; show @Ne Nat _ _; omega
  · rcases List.mem_cons.mp hb with rfl | hb
    · exact .inl rfl
    · rcases List.mem_cons.mp hb with rfl | hb
      · exact .inr (.inl rfl)
      · rw [List.mem_singleton.mp hb]; exact .inr (.inr hT0)
  · rintro i v₁ v₂ oe oi m' n' h tk hi hP ⟨cs, nn, m1, rfl, rfl, hS, hcl⟩ hn F2 N2
    obtain ⟨ti, x2, hx2, e⟩ := hP
    have e1 : v₁ = .int i ti := by have := congrArg (·[0]?) e; simpa using this
    have e2 : v₂ = x2 := by have := congrArg (·[1]?) e; simpa using this
    subst e1 e2
    have hx3 : (fmD.map fun e => Value.ref e.1)[i]? = some v₂ := by simpa using hx2
    obtain ⟨tab, htab, rfl⟩ : ∃ q, fmD[i]? = some q ∧ Value.ref q.1 = v₂ := by
      rw [List.getElem?_map] at hx3
      cases hq : fmD[i]? with
      | none => rw [hq] at hx3; cases hx3
      | some q => rw [hq] at hx3; exact ⟨q, rfl, Option.some.inj hx3⟩
    have hmem : tab ∈ fmD := List.mem_of_getElem? htab
    have hi10 : i < 10 := by simpa [fmD] using hi
    have hgD : fmD.getD i (0, []) = tab := by rw [List.getD_eq_getElem?_getD, htab]; rfl
    rw [show (StrsAre cs (fmStrs x i)) = StrsAre cs (fmStrs x i) from rfl] at hS
    refine wpAny_assign_Name (stN2 F2 N2 (by rw [henv]; rfl) (by rw [henv]; rfl) fun h3 F3 N3 => ?_)
    refine wpAny_assign_Name (stN2 F3 N3 (by rw [henv]; rfl) (by rw [henv]; rfl) fun h4 F4 N4 => ?_)
    refine wpAny_execs_cons ?_
    refine fm_inner w mean mg mb rest (ti := ti) (t := t) (x := x) (i := (i : Int)) (m0 := m1) env henv B X T hd hu (by rw [hcl]; omega) ⟨hpl, Nat.lt_succ_self _⟩ offp hmem (fr_eq F4 fun y => ?_) N4 fun h5 tk5 tc5 n5 m5 F5 N5 => ?_
    · unfold fmMap fmMap0
      by_cases h1 : y = Str.ofString "table"
      · simp only [if_pos h1]
      · simp only [if_neg h1]
        by_cases h2 : y = Str.ofString "index"
        · subst h2; rfl
        · simp only [if_neg h2]
    · refine wpAny_execs_nil ?_
      refine ⟨h5, tk5, _, _, rfl, F5, N5, fun p hp => ?_, cs ++ [Value.str (fmCh x i tab.2) tc5], n5, fun y => if y = Str.ofString "index" then some (.int i ti) else m5 y, rfl, rfl, ?_, ?_⟩
      · rcases List.mem_cons.mp hp with rfl | hp
        · have q9 := hn _ List.mem_cons_self
          exact q9
        · exact hn _ (List.mem_cons_of_mem _ hp)
      · rw [fmStrs_succ, hgD]; exact strs_snoc hS
      · rw [List.length_append, hcl]; rfl
  · rintro h tk m' n' ⟨cs, nn, m1, rfl, rfl, hS, hcl⟩ F2 N2
    refine hQ h tk nn cs m1 _ ⟨rfl⟩ ?_ ?_ ?_ F2 N2
    · rw [hcl]; simp [fmD]
    · rw [(fmStrs_sum x 10).1, (fmStrs_sum x 10).2]; omega
    · simpa [fmD] using hS
theorem c_fm0 (w : World) (mean : ExcName → Option Value) (mg mb : Str → Option Value) (rest : List (Addr × Obj)) (t : Tok) (x : Int) :
  CC w mean mg mb 218 10 rest [.int x t] (fun r n' => (∃ (t' : Tok) (SS : List Str), SgL SS (fmStrs x 10) ∧ r = .str (Txt.join (Str.ofString "") SS) t') ∧ n' = rest) := by
  k_with_none
  k_with "call builtin:issubclass" => (k_here; k_dflt (refine' iss_str ?k1 ?k2 ?k3 ?_; (case k1 => k_asm); (case k2 => k_asm); (case k3 => k_mem); k_whole); intro h' tk' F' N'; (try k_sweep))
  k_with "call type:list" => (k_here; (with_reducible show wpAny _ _ (call (Value.type _) [Value.str _ _]) _ _ _); k_dflt (refine' list_strK ?k0 ?k1 ?k2 ?k3 ?_; (case k0 => exact rfl); (case k1 => k_asm); (case k2 => k_asm); (case k3 => (rw [sizeLine_eq]; omega)); k_whole); intro l' h' tk' its' n' hch' F' N' l1; (try k_lt l1); (try k_sweep))
  k_with "truthy ref" => (k_here; (with_reducible show wpAny _ _ (truthy (Value.ref _)) _ _ _); k_dflt (first
        | (refine' truthy_cons ?N ?m ?z ?_; (case N => k_asm); (case m => k_mem); (case z => omega); k_whole)
        | (refine' truthy_nil ?N ?m ?_; (case N => k_asm); (case m => k_mem); k_whole)))
  k_with "call builtin:list.pop" => (k_here; (with_reducible show wpAny _ _ (call (Value.builtin _) [Value.ref _, Value.int _ _]) _ _ _); k_dflt (refine' pop0 ?F ?N ?U ?z ?_; (case F => k_asm); (case N => k_asm); (case U => k_upd); (case z => omega); k_whole); intro h' F' N'; (try dsimp only [List.nil_append, List.cons_append] at N'); (try k_sweep))
  k_with "exec For Tuple Call" => (k_here; refine Stop.h ?_)
  dsimp only [CC]
  k_fill
  intros
  rename_i hret
  have hC := codeHd_of_K (c := 224) (P := 220) (by assumption) (by kernel_rfl)
  k_dflt k_enter
  k_steps
  refine ⟨?_⟩
  rename Fr _ _ _ _ => FF9
  rename News _ _ _ _ => NN9
  k_dflt (refine' fm_for w mean mg mb rest _ rfl ?B ?X ?T ?hd ?hu ?off (fr_eq FF9 (fm_map0_self rfl rfl)) NN9 ?hQ)
  case B => k_asm
  case X => k_asm
  case T => k_asm
  case hd => ktr_room
  case hu => ktr_units
  case off => k_all
  intro h' tk' n' cs m1 SS hSS hcs hw hst F' N'
  k_steps
  refine join_listW ⟨_, N'.get List.mem_cons_self, rfl, n', rfl⟩ hst (by decide +kernel) hw fun tk9 => ?_
  k_steps
  exact hret _ _ _ _ ⟨⟨_, _, hSS, rfl⟩, rfl⟩ (by assumption) (news_sub (by assumption) (fun p hp => by simp [hp]))
theorem CC_mono {w : World} {mean : ExcName → Option Value} {mg mb : Str → Option Value} {f : Addr} {d : Nat} {news : List (Addr × Obj)} {vs : List Value} {R R' : Value → List (Addr × Obj) → Prop} (e : ∀ v n, R v n → R' v n) (h : CC w mean mg mb f d news vs R) : CC w mean mg mb f d news vs R' := by
  intro dp un gd cn nm ig ic mr a ccd cl outer A₀ base h₀ L m s RR B F X N T hd hu hret
  exact h dp un gd cn nm ig ic mr a ccd cl outer A₀ base h₀ L m s RR B F X N T hd hu fun v h' tk' news' hR => hret v h' tk' news' (e v news' hR)
theorem fm_all : ∀ k : Fin 16, Txt.join (Str.ofString "") (fmStrs ((32768 : Int) + (rgT k.val : Int)) 10) = sigT k.val := by decide +kernel
theorem c_fm (w : World) (mean : ExcName → Option Value) (mg mb : Str → Option Value) (rest : List (Addr × Obj)) (t : Tok) (k : Nat) (hk : k < 16) :
  CC w mean mg mb 218 10 rest [.int (((32768 + rgT k : Nat)) : Int) t] (fun r n' => (∃ t' : Tok, r = .str (sigT k) t') ∧ n' = rest) := by
  have h := c_fm0 w mean mg mb rest t (((32768 + rgT k : Nat)) : Int)
  have e : ∀ r n', ((∃ (t' : Tok) (SS : List Str), SgL SS (fmStrs (((32768 + rgT k : Nat)) : Int) 10) ∧ r = Value.str (Txt.join (Str.ofString "") SS) t') ∧ n' = rest) → ((∃ t' : Tok, r = Value.str (sigT k) t') ∧ n' = rest) := by
    rintro r n' ⟨⟨t', SS, ⟨rfl⟩, rfl⟩, h⟩
    exact ⟨⟨t', congrArg (Value.str · t') (by rw [Int.natCast_add]; exact fm_all ⟨k, hk⟩)⟩, h⟩
  exact CC_mono e h
end
section
section
open Sem (wp)
structure ZApart (z TI TO i1 i2 l2 : Addr) : Prop where
  TIz : TI ≠ z
  TOz : TO ≠ z
  i1z : i1 ≠ z
  i2z : i2 ≠ z
  TITO : TI ≠ TO
  TIi1 : TI ≠ i1
  TIi2 : TI ≠ i2
  TOi1 : TO ≠ i1
  TOi2 : TO ≠ i2
  i12 : i1 ≠ i2
  l2z : l2 ≠ z
  l2TO : l2 ≠ TO
  l2i1 : l2 ≠ i1
  l2i2 : l2 ≠ i2
variable {prog : Program} {w : World} {A : Around} {E : Value → Shared → Prop} {s : Shared}
theorem zs_item {z TI TO i1 i2 l2 : Addr} {k1 k2 c : Nat} {X : Str} {tX : Tok} {ys : Array Value} {y a b : Value} {Q : Value → Shared → Prop} (D : ZApart z TI TO i1 i2 l2)
    (hz : IsZip s.heap z TI TO .none) (hTI : IsPair s.heap TI (.ref i1) (.ref i2)) (hTO : IsPair s.heap TO a b)
    (h1 : s.heap.IsStrIter i1 "str_ascii_iterator" X tX k1) (h2 : s.heap.IsListIter i2 l2 k2) (hl2 : s.heap.IsList l2 ys) (hx : X.cps[k1]? = some c) (hy : ys[k2]? = some y)
    (hQ : ∀ h' tk u, IsZip h' z TI TO (rawInt s.heap.objs.size) → IsPair h' TO (.str ⟨#[c]⟩ u) y → h'.IsStrIter i1 "str_ascii_iterator" X tX (k1 + 1) → h'.IsListIter i2 l2 (k2 + 1) → IsPair h' s.heap.objs.size (.str ⟨#[c]⟩ u) y → h'.objs.size = s.heap.objs.size + 1 →
      (∀ c o, c ≠ z → c ≠ TO → c ≠ i1 → c ≠ i2 → s.heap.get? c = some o → h'.get? c = some o) → Q (.ref s.heap.objs.size) { s with heap := h', toks := tk }) :
    wpAny (model prog w) A (Builtin.«zip.__next__» ⟨[.ref z], []⟩) (fun fin s' => ∃ v, fin = .done (.ret v) ∧ Q v s') E s := by
  show wpAny _ _ (field (.ref z) 2 >>= _) _ _ _
  refine wpAny_bind (wpAny_field hz rfl (x := .bool false) rfl ?_)
  show wpAny _ _ (field (.ref z) 3 >>= _) _ _ _
  refine wpAny_bind (wpAny_field hz rfl (x := .ref TI) rfl ?_)
  refine wpAny_bind (wpAny_seqItems hTI rfl ?_)
  show wpAny _ _ (Builtin.SmallTypes.ownedTupleIsFree (.ref z) >>= _) _ _ _
  refine wpAny_bind ?_
  unfold Builtin.SmallTypes.ownedTupleIsFree
  refine wpAny_bind (wpAny_field hz rfl (x := .none) rfl (wpAny_pure ?_))
  simp only [if_true]
  refine wpAny_bind (wpAny_rule ?_)
  refine wpAny_bind (wpAny_field hz rfl (x := .ref TO) rfl ?_)
  refine wpAny_bind (wpAny_setField_rec hz (by simp) fun h₁ hz₁ hs₁ => ?_)
  replace hz₁ : IsZip h₁ z TI TO .ellipsis := hz₁
  refine wpAny_bind ?_
  simp only [List.zipIdx_cons, List.zipIdx_nil, List.forIn_cons, List.forIn_nil]
  refine wpAny_bind (wpAny_bind (wpAny_onRaise ?_))
  show wpAny _ _ (Builtin.SmallTypes.nextOf (.ref i1) >>= _) _ _ _
  refine wpAny_bind (wpAny_nextOf_ascii_item (h1.extBut hs₁.extBut D.i1z) hx fun h₂ h1₂ hs₂ => wpAny_pure ?_)
  have hTO₂ : IsPair h₂ TO a b := hs₂.extBut _ _ D.TOi1 (hs₁.extBut _ _ D.TOz hTO)
  refine wpAny_bind (wpAny_seqItems hTO₂ rfl ?_)
  refine wpAny_bind (wpAny_updateSeq_pair hTO₂ fun h₃ hTO₃ hs₃ => ?_)
  replace hTO₃ : IsPair h₃ TO (.str ⟨#[c]⟩ s.toks) b := hTO₃
  refine wpAny_bind (wpAny_letGo (wpAny_pure ?_))
  refine wpAny_bind (wpAny_bind (wpAny_onRaise ?_))
  show wpAny _ _ (Builtin.SmallTypes.nextOf (.ref i2) >>= _) _ _ _
  refine wpAny_bind (wpAny_nextOf_list_item (((h2.extBut hs₁.extBut D.i2z).extBut hs₂.extBut D.i12.symm).extBut hs₃.extBut D.TOi2.symm)
    (((hl2.extBut hs₁.extBut D.l2z).extBut hs₂.extBut D.l2i1).extBut hs₃.extBut D.l2TO) hy fun h₄ h2₄ hs₄ => wpAny_pure ?_)
  have hTO₄ : IsPair h₄ TO (.str ⟨#[c]⟩ s.toks) b := hs₄.extBut _ _ D.TOi2 hTO₃
  refine wpAny_bind (wpAny_seqItems hTO₄ rfl ?_)
  refine wpAny_bind (wpAny_updateSeq_pair hTO₄ fun h₅ hTO₅ hs₅ => ?_)
  replace hTO₅ : IsPair h₅ TO (.str ⟨#[c]⟩ s.toks) y := hTO₅
  refine wpAny_bind (wpAny_letGo (wpAny_pure (wpAny_pure ?_)))
  refine wpAny_bind (wpAny_seqItems hTO₅ rfl ?_)
  refine wpAny_bind (wpAny_newTuple ?_)
  have hsz : h₅.objs.size = s.heap.objs.size := by rw [hs₅.1, hs₄.1, hs₃.1, hs₂.1, hs₁.1]
  have hz₅ : IsZip h₅ z TI TO .ellipsis := hs₅.extBut _ _ D.TOz.symm (hs₄.extBut _ _ D.i2z.symm (hs₃.extBut _ _ D.TOz.symm (hs₂.extBut _ _ D.i1z.symm hz₁)))
  have hk₅ : ∀ c o, c ≠ z → c ≠ TO → c ≠ i1 → c ≠ i2 → s.heap.get? c = some o → h₅.get? c = some o := fun c o c1 c2 c3 c4 e =>
    hs₅.extBut _ _ c2 (hs₄.extBut _ _ c4 (hs₃.extBut _ _ c2 (hs₂.extBut _ _ c3 (hs₁.extBut _ _ c1 e))))
  have h1₅ : h₅.IsStrIter i1 "str_ascii_iterator" X tX (k1 + 1) := ((h1₂.extBut hs₃.extBut D.TOi1.symm).extBut hs₄.extBut D.i12).extBut hs₅.extBut D.TOi1.symm
  have h2₅ : h₅.IsListIter i2 l2 (k2 + 1) := h2₄.extBut hs₅.extBut D.TOi2.symm
  have hzlt : z < h₅.objs.size := Heap.lt_size hz₅
  show wpAny _ _ (Builtin.SmallTypes.ownedTupleHandOut (.ref z) (.ref h₅.objs.size) >>= _) _ _ _
  refine wpAny_bind ?_
  unfold Builtin.SmallTypes.ownedTupleHandOut
  have hz₆ : IsZip (h₅.push { cls := .type "tuple", data := .seq #[.str ⟨#[c]⟩ s.toks, y] }) z TI TO .ellipsis := Heap.get?_push_of_some _ hz₅
  refine wpAny_bind (wpAny_setField_rec hz₆ (by simp) fun h₇ hz₇ hs₇ => ?_)
  replace hz₇ : IsZip h₇ z TI TO (rawInt h₅.objs.size) := hz₇
  refine wpAny_setField_rec hz₇ (by simp) fun h₈ hz₈ hs₈ => ?_
  replace hz₈ : IsZip h₈ z TI TO (rawInt h₅.objs.size) := hz₈
  have up : ∀ c o, c ≠ z → h₅.get? c = some o → h₈.get? c = some o := fun c o c1 e => hs₈.extBut _ _ c1 (hs₇.extBut _ _ c1 (Heap.get?_push_of_some _ e))
  have hT₈ : IsPair h₈ h₅.objs.size (.str ⟨#[c]⟩ s.toks) y := hs₈.extBut _ _ (Nat.ne_of_gt hzlt) (hs₇.extBut _ _ (Nat.ne_of_gt hzlt) (Heap.get?_push_size _ rfl))
  have hz8 : h₈.objs.size = h₅.objs.size + 1 := by rw [hs₈.1, hs₇.1, Heap.size_push]
  rw [hsz] at hz₈ hT₈ hz8
  refine wpAny_pure ⟨_, rfl, ?_⟩
  show Q (.ref h₅.objs.size) _
  rw [hsz]
  exact hQ h₈ _ _ hz₈ (up _ _ D.TOz hTO₅) (let ⟨o, e, r⟩ := h1₅; ⟨o, up _ o D.i1z e, r⟩) (h2₅.at fun o e => up _ o D.i2z e) hT₈ hz8 fun c o c1 c2 c3 c4 e => up c o c1 (hk₅ c o c1 c2 c3 c4 e)
theorem zs_end {z TI TO i1 i2 l2 : Addr} {k1 k2 : Nat} {X : Str} {tX : Tok} {ys : Array Value} {a b : Value} {Q : Fin → Shared → Prop} (hh : A.handled = none) (D : ZApart z TI TO i1 i2 l2)
    (hz : IsZip s.heap z TI TO .none) (hTI : IsPair s.heap TI (.ref i1) (.ref i2)) (hTO : IsPair s.heap TO a b)
    (h1 : s.heap.IsStrIter i1 "str_ascii_iterator" X tX k1) (hend : X.cps[k1]? = none)
    (hE : ∀ h' e, (∀ c o, c ≠ z → c ≠ TO → c ≠ i1 → c ≠ i2 → s.heap.get? c = some o → h'.get? c = some o) → (∃ o, h'.get? e = some o ∧ o.cls = .type "StopIteration") → E (.ref e) { s with heap := h' }) :
    wpAny (model prog w) A (Builtin.«zip.__next__» ⟨[.ref z], []⟩) Q E s := by
  show wpAny _ _ (field (.ref z) 2 >>= _) _ _ _
  refine wpAny_bind (wpAny_field hz rfl (x := .bool false) rfl ?_)
  show wpAny _ _ (field (.ref z) 3 >>= _) _ _ _
  refine wpAny_bind (wpAny_field hz rfl (x := .ref TI) rfl ?_)
  refine wpAny_bind (wpAny_seqItems hTI rfl ?_)
  show wpAny _ _ (Builtin.SmallTypes.ownedTupleIsFree (.ref z) >>= _) _ _ _
  refine wpAny_bind ?_
  unfold Builtin.SmallTypes.ownedTupleIsFree
  refine wpAny_bind (wpAny_field hz rfl (x := .none) rfl (wpAny_pure ?_))
  simp only [if_true]
  refine wpAny_bind (wpAny_rule ?_)
  refine wpAny_bind (wpAny_field hz rfl (x := .ref TO) rfl ?_)
  refine wpAny_bind (wpAny_setField_rec hz (by simp) fun h₁ hz₁ hs₁ => ?_)
  replace hz₁ : IsZip h₁ z TI TO .ellipsis := hz₁
  refine wpAny_bind ?_
  simp only [List.zipIdx_cons, List.zipIdx_nil, List.forIn_cons, List.forIn_nil]
  refine wpAny_bind (wpAny_bind (wpAny_onRaise ?_))
  show wpAny _ _ (Builtin.SmallTypes.nextOf (.ref i1) >>= _) _ _ _
  refine wpAny_bind (wpAny_nextOf_ascii_end hh (h1.extBut hs₁.extBut D.i1z) hend fun h₂ e hs₂ he => ?_)
  obtain ⟨oe, hoe, hce⟩ := he
  have hz₂ : IsZip h₂ z TI TO .ellipsis := hs₂ _ _ D.i1z.symm hz₁
  have hez : e ≠ z := fun x => by subst x; rw [hz₂] at hoe; cases hoe; simp at hce
  refine wpAny_setField_rec hz₂ (by simp) fun h₃ _ hs₃ => hE h₃ e (fun c o c1 _ c3 _ x => hs₃.extBut _ _ c1 (hs₂ _ _ c3 (hs₁.extBut _ _ c1 x))) ⟨oe, hs₃.extBut _ _ hez hoe, hce⟩
theorem zs_pn_item {z TI TO i1 i2 l2 : Addr} {k1 k2 c : Nat} {X : Str} {tX : Tok} {ys : Array Value} {y a b : Value} {Q : Option Value → Shared → Prop} (D : ZApart z TI TO i1 i2 l2)
    (hz : IsZip s.heap z TI TO .none) (hTI : IsPair s.heap TI (.ref i1) (.ref i2)) (hTO : IsPair s.heap TO a b)
    (h1 : s.heap.IsStrIter i1 "str_ascii_iterator" X tX k1) (h2 : s.heap.IsListIter i2 l2 k2) (hl2 : s.heap.IsList l2 ys) (hx : X.cps[k1]? = some c) (hy : ys[k2]? = some y)
    (hQ : ∀ h' tk u, IsZip h' z TI TO (rawInt s.heap.objs.size) → IsPair h' TO (.str ⟨#[c]⟩ u) y → h'.IsStrIter i1 "str_ascii_iterator" X tX (k1 + 1) → h'.IsListIter i2 l2 (k2 + 1) → IsPair h' s.heap.objs.size (.str ⟨#[c]⟩ u) y → h'.objs.size = s.heap.objs.size + 1 →
      (∀ c o, c ≠ z → c ≠ TO → c ≠ i1 → c ≠ i2 → s.heap.get? c = some o → h'.get? c = some o) → Q (some (.ref s.heap.objs.size)) { s with heap := h', toks := tk }) :
    wpAny (model prog w) A (pyNext (.ref z)) Q E s := by
  have hT : s.TypeIs (.ref z) "zip" := ⟨_, hz, rfl⟩
  unfold pyNext
  exact wpAny_bind (wpAny_attempt (wpAny_callSpecial?_slot (name := Str.ofString "__next__") hT F.slot_zip_next
    (wpAny_call_entry F.slot_zip_next hT F.entry_zip_next
      (zs_item D hz hTI hTO h1 h2 hl2 hx hy fun h' tk u a1 a2 a3 a4 a5 a6 a7 => wpAny_pure (hQ h' tk u a1 a2 a3 a4 a5 a6 a7)) (F.args_zip_next_1 _))))
theorem zs_pn_end {z TI TO i1 i2 l2 : Addr} {k1 k2 : Nat} {X : Str} {tX : Tok} {a b : Value} {Q : Option Value → Shared → Prop} (hh : A.handled = none) (D : ZApart z TI TO i1 i2 l2)
    (hz : IsZip s.heap z TI TO .none) (hTI : IsPair s.heap TI (.ref i1) (.ref i2)) (hTO : IsPair s.heap TO a b)
    (h1 : s.heap.IsStrIter i1 "str_ascii_iterator" X tX k1) (hend : X.cps[k1]? = none)
    (hQ : ∀ h', (∀ c o, c ≠ z → c ≠ TO → c ≠ i1 → c ≠ i2 → s.heap.get? c = some o → h'.get? c = some o) → Q none { s with heap := h' }) : wpAny (model prog w) A (pyNext (.ref z)) Q E s := by
  have hT : s.TypeIs (.ref z) "zip" := ⟨_, hz, rfl⟩
  unfold pyNext
  refine wpAny_bind (wpAny_attempt (wpAny_callSpecial?_slot (name := Str.ofString "__next__") hT F.slot_zip_next
    (wpAny_call_entry F.slot_zip_next hT F.entry_zip_next (zs_end (ys := #[]) (k2 := 0) hh D hz hTI hTO h1 hend fun h' e hk he => ?_) (F.args_zip_next_1 _))))
  obtain ⟨o, ho, hc⟩ := he
  refine wpAny_bind (wpAny_isInstance (T := "StopIteration") (b := true) ⟨o, ho, hc⟩ isSubtype_stop ?_)
  exact wpAny_pure (hQ _ hk)
theorem strIter_at {h h' : Heap} {a : Addr} {X : Str} {t : Tok} {i : Nat} (x : h.IsStrIter a "str_ascii_iterator" X t i) (hk : ∀ o, h.get? a = some o → h'.get? a = some o) : h'.IsStrIter a "str_ascii_iterator" X t i :=
  let ⟨o, e, r⟩ := x; ⟨o, hk o e, r⟩
theorem walksZS (hh : A.handled = none) (z TI TO i1 i2 l2 : Addr) (D : ZApart z TI TO i1 i2 l2) (X : Str) (tX : Tok) (ys : Array Value) (hlen : X.cps.size ≤ ys.size) :
    WalksT prog w A z [z, TI, TO, i1, i2, l2] [z, TO, i1, i2] X.cps.size
      (fun i vals => ∃ c u y, X.cps[i]? = some c ∧ ys[i]? = some y ∧ vals = #[.str ⟨#[c]⟩ u, y])
      (fun i h => IsZip h z TI TO .none ∧ IsPair h TI (.ref i1) (.ref i2) ∧ (∃ a b, IsPair h TO a b) ∧ h.IsStrIter i1 "str_ascii_iterator" X tX i ∧ h.IsListIter i2 l2 i ∧ h.IsList l2 ys)
      (fun i T h => IsZip h z TI TO (rawInt T) ∧ IsPair h TI (.ref i1) (.ref i2) ∧ (∃ a b, IsPair h TO a b) ∧ h.IsStrIter i1 "str_ascii_iterator" X tX (i + 1) ∧ h.IsListIter i2 l2 (i + 1) ∧ h.IsList l2 ys ∧
        T ≠ z ∧ T ≠ TO ∧ T ≠ i1 ∧ T ≠ i2) where
  sub := fun c hc => by simp at hc ⊢; rcases hc with rfl | rfl | rfl | rfl <;> simp
  frame := fun i h h' hst hk => by
    obtain ⟨hz, hTI, ⟨a, b, hTO⟩, h1, h2, hl2⟩ := hst
    exact ⟨hk z (by simp) _ hz, hk TI (by simp) _ hTI, ⟨a, b, hk TO (by simp) _ hTO⟩, strIter_at h1 fun o e => hk i1 (by simp) o e, h2.at fun o e => hk i2 (by simp) o e,
      hl2.at fun o e => hk l2 (by simp) o e⟩
  item := fun i s Q E hi hst hQ => by
    obtain ⟨hz, hTI, ⟨a, b, hTO⟩, h1, h2, hl2⟩ := hst
    have hiy : i < ys.size := Nat.lt_of_lt_of_le hi hlen
    refine zs_pn_item D hz hTI hTO h1 h2 hl2 (Array.getElem?_eq_getElem hi) (Array.getElem?_eq_getElem hiy) fun h' tk u a1 a2 a3 a4 a5 a6 hk => ?_
    have lt : ∀ {c o}, s.heap.get? c = some o → s.heap.objs.size ≠ c := fun e => Nat.ne_of_gt (Heap.lt_size e)
    exact hQ s.heap.objs.size #[_, ys[i]] h' tk ⟨_, _, _, Array.getElem?_eq_getElem hi, Array.getElem?_eq_getElem hiy, rfl⟩ (Nat.le_refl _) ⟨_, a5, rfl, _, rfl⟩
      ⟨a1, hk _ _ D.TIz D.TITO D.TIi1 D.TIi2 hTI, ⟨_, _, a2⟩, a3, a4, hl2.at fun o e => hk _ o D.l2z D.l2TO D.l2i1 D.l2i2 e,
        lt hz, lt hTO, (by obtain ⟨_, e, _⟩ := h1; exact lt e), (by obtain ⟨_, e, _⟩ := h2; exact lt e)⟩
      fun c o hc e => hk c o (fun x => hc (by simp [x])) (fun x => hc (by simp [x])) (fun x => hc (by simp [x])) (fun x => hc (by simp [x])) e
  go := fun elts k pos i T s Q E hm hQ => by
    obtain ⟨hz, hTI, ⟨a, b, hTO⟩, h1, h2, hl2, _⟩ := hm
    refine wpAny_letOwnedTupleGo_zip hz fun h' hz' hs' => hQ h' ⟨hz', hs'.extBut _ _ D.TIz hTI, ⟨a, b, hs'.extBut _ _ D.TOz hTO⟩, h1.extBut hs'.extBut D.i1z, h2.extBut hs'.extBut D.i2z,
      hl2.extBut hs'.extBut D.l2z⟩ fun c o hc e => hs'.extBut _ _ (fun x => hc (by simp [x])) e
  apart := fun i T h hm hT => by
    obtain ⟨_, _, _, _, _, _, t1, t2, t3, t4⟩ := hm
    simp at hT
    rcases hT with rfl | rfl | rfl | rfl
    · exact t1 rfl
    · exact t2 rfl
    · exact t3 rfl
    · exact t4 rfl
  done := fun s Q E hst hQ => by
    obtain ⟨hz, hTI, ⟨a, b, hTO⟩, h1, h2, hl2⟩ := hst
    exact zs_pn_end (i2 := i2) (l2 := l2) (k2 := 0) hh D hz hTI hTO h1 (Array.getElem?_eq_none (Nat.le_refl _)) fun h' hk => hQ h' s.toks fun c o hc e =>
      hk c o (fun x => hc (by simp [x])) (fun x => hc (by simp [x])) (fun x => hc (by simp [x])) (fun x => hc (by simp [x])) e
  self := fun i s Q E hst hQ => wpAny_pyIter_zip hst.1 hQ
abbrev zsH1 (h : Heap) (X : Str) (t : Tok) : Heap := h.push { cls := .type "str_ascii_iterator", data := .fields #[.str X t, .int 0 0] }
abbrev zsH2 (h : Heap) (X : Str) (t : Tok) (l2 : Addr) : Heap := (zsH1 h X t).push { cls := .type "list_iterator", data := .fields #[.ref l2, .int 0 0] }
abbrev zsH3 (h : Heap) (X : Str) (t : Tok) (l2 : Addr) : Heap := (zsH2 h X t l2).push { cls := .type "tuple", data := .seq #[.ref h.objs.size, .ref (zsH1 h X t).objs.size] }
abbrev zsH4 (h : Heap) (X : Str) (t : Tok) (l2 : Addr) : Heap := (zsH3 h X t l2).push { cls := .type "tuple", data := .seq #[.none, .none] }
abbrev zsH5 (h : Heap) (X : Str) (t : Tok) (l2 : Addr) : Heap := (zsH4 h X t l2).push { cls := .type "zip", data := .fields #[.none, .bool false, .bool false, .ref (zsH2 h X t l2).objs.size, .ref (zsH3 h X t l2).objs.size] }
theorem meets_zs_new (X : Str) (t : Tok) (hX : X.cps.all (· < 128) = true) (l2 : Addr) (ys : Array Value) :
    Meets (Builtin.«zip.__new__» ⟨[.type "zip", .str X t, .ref l2], []⟩) (fun _ R s => s.heap.IsList l2 ys ∧
      R (.ok (.ret (.ref (zsH4 s.heap X t l2).objs.size))) { s with heap := zsH5 s.heap X t l2 }) :=
  .of_wp fun prog w A R s h => by
    obtain ⟨hp, g, d, tk, os⟩ := s; obtain ⟨hl2, h⟩ := h
    have hsub := sub_zip
    have hL2 : Heap.IsList (Shared.heap ⟨hp.push { cls := .type "str_ascii_iterator", data := .fields #[.str X t, .int 0 0] }, g, d, tk, os⟩) l2 ys := Heap.IsList.push hl2 _
    wp_walk using wpAny_pyIter_ascii hX, wpAny_pyIter_list hL2
    exact ⟨_, rfl, h⟩
theorem call_zs {X : Str} {t : Tok} {l2 : Addr} {ys : Array Value} {Q : Value → Shared → Prop} (hX : X.cps.all (· < 128) = true) (hl2 : s.heap.IsList l2 ys)
    (h : ∀ h', IsZip h' (s.heap.objs.size + 4) (s.heap.objs.size + 2) (s.heap.objs.size + 3) .none → IsPair h' (s.heap.objs.size + 2) (.ref s.heap.objs.size) (.ref (s.heap.objs.size + 1)) →
      IsPair h' (s.heap.objs.size + 3) .none .none → h'.IsStrIter s.heap.objs.size "str_ascii_iterator" X t 0 → h'.IsListIter (s.heap.objs.size + 1) l2 0 → h'.objs.size = s.heap.objs.size + 5 →
      (∀ c o, s.heap.get? c = some o → h'.get? c = some o) → Q (.ref (s.heap.objs.size + 4)) { s with heap := h' }) :
    wpAny (model prog w) A (call (.type "zip") [.str X t, .ref l2]) Q E s := by
  refine callType_new F.called_zip (by decide) (F.typeCall_zip_2 _ _) (F.newCall_zip_2 _ _) (fun obj => F.args_object_init_3 obj _ _) F.entry_zip_new
    (meets_zs_new X t hX l2 ys) ⟨hl2, ?_⟩
  have z1 : (zsH1 s.heap X t).objs.size = s.heap.objs.size + 1 := Heap.size_push ..
  have z2 : (zsH2 s.heap X t l2).objs.size = s.heap.objs.size + 2 := by rw [Heap.size_push, z1]
  have z3 : (zsH3 s.heap X t l2).objs.size = s.heap.objs.size + 3 := by rw [Heap.size_push, z2]
  have z4 : (zsH4 s.heap X t l2).objs.size = s.heap.objs.size + 4 := by rw [Heap.size_push, z3]
  have z5 : (zsH5 s.heap X t l2).objs.size = s.heap.objs.size + 5 := by rw [Heap.size_push, z4]
  have g5 : (zsH5 s.heap X t l2).get? (zsH4 s.heap X t l2).objs.size = some _ := Heap.get?_push_size _ rfl
  have g4 : (zsH5 s.heap X t l2).get? (zsH3 s.heap X t l2).objs.size = some _ := Heap.get?_push_of_some _ (Heap.get?_push_size _ rfl)
  have g3 : (zsH5 s.heap X t l2).get? (zsH2 s.heap X t l2).objs.size = some _ := Heap.get?_push_of_some _ (Heap.get?_push_of_some _ (Heap.get?_push_size _ rfl))
  have g2 : (zsH5 s.heap X t l2).get? (zsH1 s.heap X t).objs.size = some _ := Heap.get?_push_of_some _ (Heap.get?_push_of_some _ (Heap.get?_push_of_some _ (Heap.get?_push_size _ rfl)))
  have g1 : (zsH5 s.heap X t l2).get? s.heap.objs.size = some _ := Heap.get?_push_of_some _ (Heap.get?_push_of_some _ (Heap.get?_push_of_some _ (Heap.get?_push_of_some _ (Heap.get?_push_size _ rfl))))
  show _ ∧ _
  rw [z2, z3, z4] at g5
  rw [z1, z2] at g3
  rw [z3] at g4
  rw [z1] at g2
  rw [z4]
  exact ⟨⟨_, g5, rfl⟩, h _ g5 g3 g4 ⟨_, g1, rfl, rfl⟩ ⟨_, g2, rfl, rfl⟩ z5 fun c o x =>
    Heap.get?_push_of_some _ (Heap.get?_push_of_some _ (Heap.get?_push_of_some _ (Heap.get?_push_of_some _ (Heap.get?_push_of_some _ x))))⟩
end
end
section
section
open PyProof.Rows.LCg
variable {prog : Program} {w : World} {A : Around} {E : Value → Shared → Prop} {s : Shared} {h₀ : Heap} {L : Addr} {m : Str → Option Value} {env : Env}
theorem zip_Z {elt iter : PySem.Expr} {ifs : List PySem.Expr} {a b : Str} {pa pb tp : Pos} {kk : Nat} {scope : Scope} {cl : List (Str × Addr)} {pos : Pos} {Q : Value → Shared → Prop}
    {l : Nat} {X : Str} {tX : Tok} {its : List Value} {nn : Nat} {news : List (Addr × Obj)} (hh : A.handled = none) (J : Nat → List Value → Prop)
    (hcell : ∀ y ∈ scope.names, y.2 ≠ .cell) (hkind : scope.kind = .function) (hxa : scope.names.lookup a = some .local) (hxb : scope.names.lookup b = some .local) (hab : a ≠ b)
    (hX : X.cps.all (· < 128) = true) (hXs : X.cps.size ≤ sizeLine) (hlen : X.cps.size ≤ its.length)
    (F : Fr h₀ L s.heap m) (N : News h₀ L s.heap news) (hm : (l, W.listOf its.toArray nn) ∈ news) (h0 : J 0 [])
    (step : ∀ i c u v ys (C D : Nat) oC m₂ h tk (nw : List (Addr × Obj)) E', X.cps[i]? = some c → its[i]? = some v → J i ys → NsObj oC m₂ → m₂ a = some (.str ⟨#[c]⟩ u) → m₂ b = some v → Fr h₀ L h m → News h₀ L h ((C, oC) :: (D, lst ys) :: nw) → (∀ p ∈ news, p ∈ nw) → (∀ p ∈ nw, p.1 < D) → D < C →
      Tst prog w A ifs (compEnvC scope cl C env)
        (fun s₃ => wpAny (model prog w) A (eval elt (compEnvC scope cl C env)) (fun y s₄ => ∃ h' tk', s₄ = { s with heap := h', toks := tk' } ∧ Fr h₀ L h' m ∧ News h₀ L h' ((C, oC) :: (D, lst ys) :: nw) ∧ J (i + 1) (ys ++ [y])) E' s₃)
        (fun s₃ => ∃ h' tk', s₃ = { s with heap := h', toks := tk' } ∧ Fr h₀ L h' m ∧ News h₀ L h' ((C, oC) :: (D, lst ys) :: nw) ∧ J (i + 1) ys) E' { s with heap := h, toks := tk })
    (done : ∀ D h tk ys, Fr h₀ L h m → News h₀ L h ((D, lst ys) :: news) → (∀ p ∈ news, p.1 < D) → J X.cps.size ys → Q (.ref D) { s with heap := h, toks := tk }) :
    wpAny (model prog w) A (call (.type "zip") [.str X tX, .ref l]) (SrcZ prog w A E (.ListComp elt [⟨.Tuple [.Name a pa, .Name b pb] kk tp, iter, ifs, 0⟩] scope pos) scope cl env Q) E s := by
  have hl : s.heap.IsList l its.toArray := ⟨_, N.get hm, rfl, nn, rfl⟩
  have hll : @LT.lt Nat _ l s.heap.objs.size := Heap.lt_size (N.get hm)
  have hLL : @LT.lt Nat _ L s.heap.objs.size := F.ns.lt
  have hnl : ∀ p ∈ news, @LT.lt Nat _ p.1 s.heap.objs.size := fun p hp => Heap.lt_size (N p hp).1
  have hnew : ∀ x : Nat, s.heap.objs.size ≤ x → h₀.get? x = none := fun x hx => by
    cases e : h₀.get? x with
    | none => rfl
    | some o => exact absurd (Heap.lt_size (F.keep x o e)) (Nat.not_lt.mpr hx)
  refine call_zs hX hl fun h' hz hTI hTO h1 h2 hsz' hk => ?_
  unfold SrcZ
  refine wpAny_pyIter_zip hz ?_
  have Fk := fr_keeps F hk
  have Nk := news_keeps N hk
  generalize s.heap.objs.size = z at *
  have D : ZApart (z + 4) (z + 2) (z + 3) z (z + 1) l := by
    constructor <;> (show @Ne Nat _ _; omega)
  have wr : ∀ b : Nat, b ∈ [z + 4, z + 3, z, z + 1] → z ≤ b ∧ b ≠ z + 2 := fun b hb => by
    simp only [List.mem_cons, List.not_mem_nil, or_false] at hb
    rcases hb with rfl | rfl | rfl | rfl <;> constructor <;> omega
  refine comp_pairs (s₂ := { s with heap := h' }) (I := z + 4) (news := (z + 2, { cls := .type "tuple", data := .seq #[.ref z, .ref (z + 1)] }) :: news) (walksZS (A := A) hh (z + 4) (z + 2) (z + 3) z (z + 1) l D X tX its.toArray (by simpa using hlen)) hXs hh J hcell hkind hxa hxb hab
    ⟨hz, hTI, ⟨_, _, hTO⟩, h1, h2, hl.at fun o e => hk _ _ e⟩ Fk (fun p hp => ?_) h0 (fun i vals ⟨c, u, y, _, _, e⟩ => ⟨_, _, e⟩) (fun i h st b hb => ?_) (fun b hb => ?_) (fun b hb => ?_)
    (fun i v₁ v₂ ys C D oC m₂ h tk nw E' hi hP hJ hoC ha hb F₁ N₁ hsb hn hD => ?_) (fun D C h tk m' ys F₁ N₁ hD hC e1 e2 n1 n2 n3 hne hJ => ?_)
  · rcases List.mem_cons.mp hp with rfl | hp
    · exact ⟨hTI, (by show @Ne Nat _ _; omega), hnew _ (by omega)⟩
    · exact Nk p hp
  · obtain ⟨a1, a2, ⟨_, _, a3⟩, ⟨o4, a4, _⟩, ⟨o5, a5, _⟩, _⟩ := st
    simp only [List.mem_cons, List.not_mem_nil, or_false] at hb
    rcases hb with rfl | rfl | rfl | rfl
    · exact ⟨_, a1⟩
    · exact ⟨_, a3⟩
    · exact ⟨_, a4⟩
    · exact ⟨_, a5⟩
  · obtain ⟨w1, w2⟩ := wr b hb
    refine ⟨(by show @Ne Nat _ _; omega), hnew _ w1, fun p hp => ?_⟩
    rcases List.mem_cons.mp hp with rfl | hp
    · exact fun q => w2 q.symm
    · have := hnl p hp; show @Ne Nat _ _; omega
  · simp only [List.mem_cons, List.not_mem_nil, or_false] at hb ⊢
    rcases hb with rfl | rfl | rfl | rfl | rfl | rfl
    · exact .inl (.inl rfl)
    · exact .inr (.inr ⟨_, .inl rfl⟩)
    · exact .inl (.inr (.inl rfl))
    · exact .inl (.inr (.inr (.inl rfl)))
    · exact .inl (.inr (.inr (.inr rfl)))
    · exact .inr (.inr ⟨_, .inr hm⟩)
  · obtain ⟨c, u, y, hc, hy, e⟩ := hP
    have e1 : v₁ = .str ⟨#[c]⟩ u := by have := congrArg (·[0]?) e; simpa using this
    have e2 : v₂ = y := by have := congrArg (·[1]?) e; simpa using this
    subst e1 e2
    exact step i c u v₂ ys C D oC m₂ h tk nw E' hc (by simpa using hy) hJ hoC ha hb F₁ N₁ (fun p hp => hsb p (List.mem_cons_of_mem _ hp)) hn hD
  · refine ⟨m', hC, fun h'' hs'' => done D h'' tk ys (F₁.change hs'' n1 e1) (fun p hp => ?_) (fun p hp => hD p (List.mem_cons_of_mem _ hp)) hJ⟩
    refine ⟨hs''.extBut _ _ ?_ (N₁ p ?_).1, (N₁ p ?_).2⟩
    · rcases List.mem_cons.mp hp with rfl | hp
      · exact Ne.symm n3
      · exact hne p (List.mem_cons_of_mem _ hp)
    · rcases List.mem_cons.mp hp with rfl | hp
      · exact List.mem_cons_self
      · exact List.mem_cons_of_mem _ (List.mem_cons_of_mem _ hp)
    · rcases List.mem_cons.mp hp with rfl | hp
      · exact List.mem_cons_self
      · exact List.mem_cons_of_mem _ (List.mem_cons_of_mem _ hp)
end
end
section
def octL (k : Nat) : Str := Str.ofString ([" 0\n", " 400\n", " 100\n", " 500\n", " 4000\n", " 4400\n", " 4100\n", " 4500\n", " 2\n", " 402\n", " 102\n", " 502\n", " 4002\n", " 4402\n", " 4102\n", " 4502\n"].getD k "")
section
variable {prog : Program} {w : World} {A : Around} {E : Value → Shared → Prop} {s : Shared} {t u : Tok} {Q : Value → Shared → Prop}
theorem po_0 (h : ∀ t' k, Q (.str (Str.ofString " 0\n") t') { s with toks := k }) : wpAny (model prog w) A (binaryOp .Mod (.str (Str.ofString " %o\n") t) (.int 0 u)) Q E s := by
  refine' KPc.mod_lit ?kpcF ?kpcd ?kpcm ?_
  case kpcF => kpc_eq
  case kpcd => decide +kernel
  case kpcm => kpc_run
  exact h
theorem po_1 (h : ∀ t' k, Q (.str (Str.ofString " 400\n") t') { s with toks := k }) : wpAny (model prog w) A (binaryOp .Mod (.str (Str.ofString " %o\n") t) (.int 256 u)) Q E s := by
  refine' KPc.mod_lit ?kpcF ?kpcd ?kpcm ?_
  case kpcF => kpc_eq
  case kpcd => decide +kernel
  case kpcm => kpc_run
  exact h
theorem po_2 (h : ∀ t' k, Q (.str (Str.ofString " 100\n") t') { s with toks := k }) : wpAny (model prog w) A (binaryOp .Mod (.str (Str.ofString " %o\n") t) (.int 64 u)) Q E s := by
  refine' KPc.mod_lit ?kpcF ?kpcd ?kpcm ?_
  case kpcF => kpc_eq
  case kpcd => decide +kernel
  case kpcm => kpc_run
  exact h
theorem po_3 (h : ∀ t' k, Q (.str (Str.ofString " 500\n") t') { s with toks := k }) : wpAny (model prog w) A (binaryOp .Mod (.str (Str.ofString " %o\n") t) (.int 320 u)) Q E s := by
  refine' KPc.mod_lit ?kpcF ?kpcd ?kpcm ?_
  case kpcF => kpc_eq
  case kpcd => decide +kernel
  case kpcm => kpc_run
  exact h
theorem po_4 (h : ∀ t' k, Q (.str (Str.ofString " 4000\n") t') { s with toks := k }) : wpAny (model prog w) A (binaryOp .Mod (.str (Str.ofString " %o\n") t) (.int 2048 u)) Q E s := by
  refine' KPc.mod_lit ?kpcF ?kpcd ?kpcm ?_
  case kpcF => kpc_eq
  case kpcd => decide +kernel
  case kpcm => kpc_run
  exact h
theorem po_5 (h : ∀ t' k, Q (.str (Str.ofString " 4400\n") t') { s with toks := k }) : wpAny (model prog w) A (binaryOp .Mod (.str (Str.ofString " %o\n") t) (.int 2304 u)) Q E s := by
  refine' KPc.mod_lit ?kpcF ?kpcd ?kpcm ?_
  case kpcF => kpc_eq
  case kpcd => decide +kernel
  case kpcm => kpc_run
  exact h
theorem po_6 (h : ∀ t' k, Q (.str (Str.ofString " 4100\n") t') { s with toks := k }) : wpAny (model prog w) A (binaryOp .Mod (.str (Str.ofString " %o\n") t) (.int 2112 u)) Q E s := by
  refine' KPc.mod_lit ?kpcF ?kpcd ?kpcm ?_
  case kpcF => kpc_eq
  case kpcd => decide +kernel
  case kpcm => kpc_run
  exact h
theorem po_7 (h : ∀ t' k, Q (.str (Str.ofString " 4500\n") t') { s with toks := k }) : wpAny (model prog w) A (binaryOp .Mod (.str (Str.ofString " %o\n") t) (.int 2368 u)) Q E s := by
  refine' KPc.mod_lit ?kpcF ?kpcd ?kpcm ?_
  case kpcF => kpc_eq
  case kpcd => decide +kernel
  case kpcm => kpc_run
  exact h
theorem po_8 (h : ∀ t' k, Q (.str (Str.ofString " 2\n") t') { s with toks := k }) : wpAny (model prog w) A (binaryOp .Mod (.str (Str.ofString " %o\n") t) (.int 2 u)) Q E s := by
  refine' KPc.mod_lit ?kpcF ?kpcd ?kpcm ?_
  case kpcF => kpc_eq
  case kpcd => decide +kernel
  case kpcm => kpc_run
  exact h
theorem po_9 (h : ∀ t' k, Q (.str (Str.ofString " 402\n") t') { s with toks := k }) : wpAny (model prog w) A (binaryOp .Mod (.str (Str.ofString " %o\n") t) (.int 258 u)) Q E s := by
  refine' KPc.mod_lit ?kpcF ?kpcd ?kpcm ?_
  case kpcF => kpc_eq
  case kpcd => decide +kernel
  case kpcm => kpc_run
  exact h
theorem po_10 (h : ∀ t' k, Q (.str (Str.ofString " 102\n") t') { s with toks := k }) : wpAny (model prog w) A (binaryOp .Mod (.str (Str.ofString " %o\n") t) (.int 66 u)) Q E s := by
  refine' KPc.mod_lit ?kpcF ?kpcd ?kpcm ?_
  case kpcF => kpc_eq
  case kpcd => decide +kernel
  case kpcm => kpc_run
  exact h
theorem po_11 (h : ∀ t' k, Q (.str (Str.ofString " 502\n") t') { s with toks := k }) : wpAny (model prog w) A (binaryOp .Mod (.str (Str.ofString " %o\n") t) (.int 322 u)) Q E s := by
  refine' KPc.mod_lit ?kpcF ?kpcd ?kpcm ?_
  case kpcF => kpc_eq
  case kpcd => decide +kernel
  case kpcm => kpc_run
  exact h
theorem po_12 (h : ∀ t' k, Q (.str (Str.ofString " 4002\n") t') { s with toks := k }) : wpAny (model prog w) A (binaryOp .Mod (.str (Str.ofString " %o\n") t) (.int 2050 u)) Q E s := by
  refine' KPc.mod_lit ?kpcF ?kpcd ?kpcm ?_
  case kpcF => kpc_eq
  case kpcd => decide +kernel
  case kpcm => kpc_run
  exact h
theorem po_13 (h : ∀ t' k, Q (.str (Str.ofString " 4402\n") t') { s with toks := k }) : wpAny (model prog w) A (binaryOp .Mod (.str (Str.ofString " %o\n") t) (.int 2306 u)) Q E s := by
  refine' KPc.mod_lit ?kpcF ?kpcd ?kpcm ?_
  case kpcF => kpc_eq
  case kpcd => decide +kernel
  case kpcm => kpc_run
  exact h
theorem po_14 (h : ∀ t' k, Q (.str (Str.ofString " 4102\n") t') { s with toks := k }) : wpAny (model prog w) A (binaryOp .Mod (.str (Str.ofString " %o\n") t) (.int 2114 u)) Q E s := by
  refine' KPc.mod_lit ?kpcF ?kpcd ?kpcm ?_
  case kpcF => kpc_eq
  case kpcd => decide +kernel
  case kpcm => kpc_run
  exact h
theorem po_15 (h : ∀ t' k, Q (.str (Str.ofString " 4502\n") t') { s with toks := k }) : wpAny (model prog w) A (binaryOp .Mod (.str (Str.ofString " %o\n") t) (.int 2370 u)) Q E s := by
  refine' KPc.mod_lit ?kpcF ?kpcd ?kpcm ?_
  case kpcF => kpc_eq
  case kpcd => decide +kernel
  case kpcm => kpc_run
  exact h
theorem po_all (k : Nat) (hk : k < 16) (h : ∀ t' tk, Q (.str (octL k) t') { s with toks := tk }) : wpAny (model prog w) A (binaryOp .Mod (.str (Str.ofString " %o\n") t) (.int (rgT k : Int) u)) Q E s := by
  match k, hk with
  | 0, _ => exact po_0 h
  | 1, _ => exact po_1 h
  | 2, _ => exact po_2 h
  | 3, _ => exact po_3 h
  | 4, _ => exact po_4 h
  | 5, _ => exact po_5 h
  | 6, _ => exact po_6 h
  | 7, _ => exact po_7 h
  | 8, _ => exact po_8 h
  | 9, _ => exact po_9 h
  | 10, _ => exact po_10 h
  | 11, _ => exact po_11 h
  | 12, _ => exact po_12 h
  | 13, _ => exact po_13 h
  | 14, _ => exact po_14 h
  | 15, _ => exact po_15 h
  | n + 16, hk => exact absurd hk (by omega)
end
end
section
def letS (i : Nat) : Str := ⟨#[97 + i]⟩
def pathS (w : List Nat) : Str := if w.isEmpty then Str.ofString "/" else ⟨(w.flatMap fun i => [47, 97 + i]).toArray⟩
structure PathOk (w : List Nat) (i : Nat) : Prop where
  bn : baseS (pathS (w ++ [i])) = letS i
  dn : dirS (pathS (w ++ [i])) = pathS w
  jn : joinS (pathS w) (letS i) = pathS (w ++ [i])
  ln : (pathS (w ++ [i])).length < 20
  l0 : (pathS w).length < 20 ∧ ((pathS w).length : Int) ≠ 0
  ne : (pathS (w ++ [i]) != Str.ofString "/") = true
theorem path_tab : ∀ w ∈ shortlex, ∀ i : Fin 4, baseS (pathS (w ++ [i.val])) = letS i.val ∧ dirS (pathS (w ++ [i.val])) = pathS w ∧ joinS (pathS w) (letS i.val) = pathS (w ++ [i.val]) ∧ (pathS (w ++ [i.val])).length < 20 ∧ ((pathS w).length < 20 ∧ ((pathS w).length : Int) ≠ 0) ∧ (pathS (w ++ [i.val]) != Str.ofString "/") = true := by decide +kernel
theorem path_ok {w : List Nat} (hw : w ∈ shortlex) {i : Nat} (hi : i < 4) : PathOk w i :=
  let ⟨a, b, c, d, e, f⟩ := path_tab w hw ⟨i, hi⟩; ⟨a, b, c, d, e, f⟩
theorem let_tab : ∀ i : Fin 4, Txt.startswith (letS i.val) (Str.ofString "/") = false ∧ (letS i.val).length < 100 := by decide +kernel
theorem short_init : ∀ w ∈ shortlex, w = [] ∨ (w.dropLast ∈ shortlex ∧ ∃ i, i < 4 ∧ w = w.dropLast ++ [i]) := by
  intro w hw
  have h : ∀ w ∈ shortlex, w = [] ∨ (w.dropLast ∈ shortlex ∧ ∃ i : Fin 4, w = w.dropLast ++ [i.val]) := by decide +kernel
  rcases h w hw with h | ⟨h, i, e⟩
  · exact .inl h
  · exact .inr ⟨h, i.val, i.isLt, e⟩
theorem due_sub (sm : List Nat → List Nat → Bool) : ∀ ws ns : List (List Nat), ∀ q ∈ bDue sm ns ws, q ∈ ns ∨ q ∈ ws
  | [], ns, q, h => .inl h
  | w :: ws, ns, q, h => by
    unfold bDue at h
    rcases due_sub sm ws _ q h with h | h
    · split at h
      · exact .inl h
      · rcases List.mem_append.mp h with h | h
        · exact .inl h
        · rw [List.mem_singleton.mp h]; exact .inr List.mem_cons_self
    · exact .inr (List.mem_cons_of_mem _ h)
theorem run_grow (sm : List Nat → List Nat → Bool) : ∀ st : List (List Nat) × List (List Nat), ∀ q ∈ st.2, q ∈ (bStep sm st).2
  | ([], ns), q, h => h
  | (p :: Q, ns), q, h => by
    unfold bStep
    dsimp only
    split
    · exact h
    · exact List.mem_append_left _ h
theorem run_sub (sm : List Nat → List Nat → Bool) : ∀ n j, ∀ q ∈ (bRun sm j).2, q ∈ (bRun sm (j + n)).2
  | 0, _, _, h => h
  | n + 1, j, q, h => run_grow sm _ _ (run_sub sm n j q h)
theorem run_short (x : Nat → Nat) (j : Nat) (hj : j ≤ 66) : ∀ q ∈ (bRun (smX x) j).2, q ∈ shortlex := by
  intro q hq
  have h := run_sub (smX x) (66 - j) j q hq
  rw [show j + (66 - j) = 66 by omega, (plain_end x).2] at h
  rcases due_sub _ _ _ q h with h | h
  · cases h
  · exact h
theorem run_queue (sm : List Nat → List Nat → Bool) : ∀ j, ∀ q ∈ (bRun sm j).1, q = [] ∨ ∃ n ∈ (bRun sm j).2, ∃ i, i < 4 ∧ q = n ++ [i]
  | 0, q, h => .inl (List.mem_singleton.mp h)
  | j + 1, q, h => by
    have ih := run_queue sm j
    show q = [] ∨ ∃ n ∈ (bStep sm (bRun sm j)).2, ∃ i, i < 4 ∧ q = n ++ [i]
    have h' : q ∈ (bStep sm (bRun sm j)).1 := h
    revert ih h'
    generalize bRun sm j = st
    obtain ⟨Q, ns⟩ := st
    intro ih h'
    cases Q with
    | nil => exact absurd h' (by simp [bStep])
    | cons p Q =>
      unfold bStep at h' ⊢
      dsimp only at h' ⊢
      split at h'
      · rename_i hc
        rw [if_pos hc]
        exact ih q (List.mem_cons_of_mem _ h')
      · rename_i hc
        rw [if_neg hc]
        rcases List.mem_append.mp h' with h' | h'
        · rcases ih q (List.mem_cons_of_mem _ h') with h | ⟨n, hn, i, hi, e⟩
          · exact .inl h
          · exact .inr ⟨n, List.mem_append_left _ hn, i, hi, e⟩
        · simp only [List.mem_cons, List.not_mem_nil, or_false] at h'
          have hp : p ∈ ns ++ [p] := List.mem_append_right _ (List.mem_singleton.mpr rfl)
          rcases h' with rfl | rfl | rfl | rfl
          · exact .inr ⟨p, hp, 0, by omega, rfl⟩
          · exact .inr ⟨p, hp, 1, by omega, rfl⟩
          · exact .inr ⟨p, hp, 2, by omega, rfl⟩
          · exact .inr ⟨p, hp, 3, by omega, rfl⟩
theorem queue_word (x : Nat → Nat) (j : Nat) (hj : j ≤ 66) : ∀ q ∈ (bRun (smX x) j).1, q = [] ∨ ∃ n ∈ shortlex, ∃ i, i < 4 ∧ q = n ++ [i] := by
  intro q hq
  rcases run_queue _ j q hq with h | ⟨n, hn, i, hi, e⟩
  · exact .inl h
  · exact .inr ⟨n, run_short x j hj n hn, i, hi, e⟩
/-- the rights that a word leaves -/
def chX (x : Nat → Nat) (k : Nat) (w : List Nat) : Nat := k ^^^ wX x w
theorem wX_lt (x : Nat → Nat) (hx : ∀ i, x i < 16) : ∀ w, wX x w < 16
  | [] => by simp [wX]
  | i :: w => Nat.xor_lt_two_pow (n := 4) (hx i) (wX_lt x hx w)
theorem chX_lt (x : Nat → Nat) (k : Nat) (hx : ∀ i, x i < 16) (hk : k < 16) (w : List Nat) : chX x k w < 16 := Nat.xor_lt_two_pow (n := 4) hk (wX_lt x hx w)
theorem wX_snoc (x : Nat → Nat) (i : Nat) : ∀ w, wX x (w ++ [i]) = x i ^^^ wX x w
  | [] => by simp [wX]
  | a :: w => by
    show x a ^^^ wX x (w ++ [i]) = x i ^^^ (x a ^^^ wX x w)
    rw [wX_snoc x i w]; ac_rfl
theorem chX_snoc (x : Nat → Nat) (k i : Nat) (w : List Nat) : chX x k (w ++ [i]) = chX x (k ^^^ x i) w := by
  unfold chX; rw [wX_snoc, Nat.xor_assoc]
theorem sig_inj : ∀ a b : Fin 16, sigT a.val = sigT b.val → a = b := by decide +kernel
theorem row_same (x : Nat → Nat) (k : Nat) (hx : ∀ i, x i < 16) (hk : k < 16) (u v : List Nat) : sigT (chX x k u) = sigT (chX x k v) ↔ smX x u v = true := by
  unfold smX
  rw [decide_eq_true_iff]
  constructor
  · intro h
    have e := congrArg Fin.val (sig_inj ⟨_, chX_lt x k hx hk u⟩ ⟨_, chX_lt x k hx hk v⟩ h)
    dsimp only [chX] at e
    have e2 := congrArg (k ^^^ ·) e
    simpa only [← Nat.xor_assoc, Nat.xor_self, Nat.zero_xor] using e2
  · intro h
    unfold chX; rw [h]
end
section
theorem cc_use {w : World} {mean : ExcName → Option Value} {mg mb : Str → Option Value} {f d : Nat} {news : List (Addr × Obj)} {vs : List Value} {R : Value → List (Addr × Obj) → Prop} (C : CC w mean mg mb f d news vs R)
    {dp un : Nat} {gd : Option (List Code)} {cn : Str} {nm : List (Str × NameKind)} {ig ic : Bool} {mr : List (Str × Const)} {a : Addr} {ccd : Value} {cl : List (Str × Addr)} {outer : List Env} {A₀ : Around} {base h₀ : Heap} {L : Addr} {m : Str → Option Value} {s : Shared} {Q E : Value → Shared → Prop}
    (B : Below A₀ base outer h₀) (F : Fr h₀ L s.heap m) (X : (Mine.hd.heap_39 w.params).In h₀) (N : News h₀ L s.heap news) (T : Top topProg LOOSE mean mg mb h₀) (hd : dp + d < recursionLimit) (hu : un + 101 + 8 * d < cLine)
    (hQ : ∀ (v : Value) (h' : Heap) (tk' : Nat) (news' : List (Addr × Obj)), R v news' → Fr h₀ L h' m → News h₀ L h' news' → Q v { s with heap := h', toks := tk' }) :
    wpAny (model PySem.Challenge.rw_un0033_01.prog w) (ktrTop dp un gd cn ⟨.function, nm, ig, ic, mr⟩ L a ccd cl outer) (call (.ref f) vs) Q E s := by
  refine wpAny_call ?_
  refine C dp un gd cn nm ig ic mr a ccd cl outer A₀ base h₀ L m s _ B F X N T hd (by omega) fun v h' tk' news' hR F' N' => ?_
  exact hQ v h' tk' news' hR F' N'
def ntOuter : Stmt := kidOf (topSt 46) 6
def ntIn : Stmt := kidOf ntOuter 2
abbrev ntMap (D : Nat) (c : Int) (tc : Tok) (S : Str) (tS : Tok) (m0 : Str → Option Value) : Str → Option Value := fun y =>
  if y = Str.ofString "changes" then some (.ref D) else if y = Str.ofString "changed" then some (.int c tc) else if y = Str.ofString "step" then some (.str S tS) else m0 y
theorem nt_map_self {m : Str → Option Value} {D : Nat} {c : Int} {tc : Tok} {S : Str} {tS : Tok} (h1 : m (Str.ofString "changes") = some (.ref D)) (h2 : m (Str.ofString "changed") = some (.int c tc)) (h3 : m (Str.ofString "step") = some (.str S tS)) :
    ∀ y, m y = ntMap D c tc S tS m y := by
  intro y
  unfold ntMap
  split
  · rename_i e; rw [e, h1]
  split
  · rename_i e; rw [e, h2]
  split
  · rename_i e; rw [e, h3]
  rfl
theorem nt_map_up {m0 : Str → Option Value} {D : Nat} {c c' : Int} {tc tc' : Tok} {S S' : Str} {tS tS' : Tok} :
    ∀ y, (if y = Str.ofString "step" then some (Value.str S' tS') else if y = Str.ofString "changed" then some (Value.int c' tc') else ntMap D c tc S tS m0 y) = ntMap D c' tc' S' tS' m0 y := by
  intro y
  unfold ntMap
  by_cases h1 : y = Str.ofString "step"
  · subst h1; rfl
  · by_cases h2 : y = Str.ofString "changed"
    · subst h2; rfl
    · simp only [if_neg h1, if_neg h2]
theorem ntIn_is : ∃ (test : PySem.Expr) (pos : Pos), ntIn = .While test (bodyOf ntIn) [] pos := ⟨_, _, rfl⟩
def testOf (st : Stmt) : PySem.Expr := match st with | .While t _ _ _ => t | .If t _ _ _ => t | _ => default
section
variable {prog : Program} {w : World} {A : Around} {E : Value → Shared → Prop} {s : Shared} {a b : Int} {t u : Tok} {Q : Value → Shared → Prop}
theorem sg_xor (h : ∀ y t' tk, SgI y (Builtin.bitXor a b) → Q (.int y t') { s with toks := tk }) : wpAny (model prog w) A (inplaceOp .BitXor (.int a t) (.int b u)) Q E s := ixor_int (h _ _ _ ⟨rfl⟩)
end
theorem nt_turn (w : World) (mean : ExcName → Option Value) (mg mb : Str → Option Value) (rest : List (Addr × Obj)) {dp un : Nat} {gd : Option (List Code)} {cn : Str} {nm : List (Str × NameKind)} {ig ic : Bool} {mr : List (Str × Const)} {a : Addr} {ccd : Value} {cl : List (Str × Addr)} {outer : List Env} {A₀ : Around} {base h₀ : Heap} {L : Addr} {m0 : Str → Option Value}
    {L1 D : Nat} {c r : Int} {tc tS tr : Tok} {S : Str} {o1 : Obj} {kvs : List (Str × Value)} {s : Shared}
    (env : Env) (henv : env = envOf (Str.ofString "_law_noted") (scopeOf (topSt 46)) L 244 (.ref 243))
    (B : Below A₀ base (envX cn ⟨.function, nm, ig, ic, mr⟩ L1 a ccd cl :: outer) h₀) (X : (Mine.hd.heap_39 w.params).In h₀) (T : Top topProg LOOSE mean mg mb h₀) (hd : dp + 12 < recursionLimit) (hu : un + 160 < cLine)
    (hS : S.length < 100) (hne : (S != Str.ofString "/") = true) (hm : (D, o1) ∈ rest) (hD : o1.IsDictOf (PySem.strKind PySem.Challenge.rw_un0033_01.prog w) kvs) (hv : valueAt kvs (baseS S) = some (.int r tr))
    (F : Fr h₀ L s.heap (ntMap D c tc S tS m0)) (N : News h₀ L s.heap rest) :
    wpAny (model PySem.Challenge.rw_un0033_01.prog w) ((ktrTop dp un gd cn ⟨.function, nm, ig, ic, mr⟩ L1 a ccd cl outer).deeper env) (isTrue (testOf ntIn) env (eval (testOf ntIn) env)) (fun b s₂ => b = true ∧ wpAny (model PySem.Challenge.rw_un0033_01.prog w) ((ktrTop dp un gd cn ⟨.function, nm, ig, ic, mr⟩ L1 a ccd cl outer).deeper env) (execs (bodyOf ntIn) env) (fun fl s₃ => match fl with
          | .next => KeepIt (∃ (h' : Heap) (tk' tc' tS' : Nat) (y : Int), s₃ = { s with heap := h', toks := tk' } ∧ SgI y (Builtin.bitXor c r) ∧ Fr h₀ L h' (ntMap D y tc' (dirS S) tS' m0) ∧ News h₀ L h' rest)
          | _ => False) (fun _ _ => False) s₂) (fun _ _ => False) s := by
  k_with_none
  k_with "call builtin:issubclass" => (k_here; k_dflt (refine' iss_str ?k1 ?k2 ?k3 ?_; (case k1 => k_asm); (case k2 => k_asm); (case k3 => k_mem); k_whole); intro h' tk' F' N'; (try k_sweep))
  k_with "call type:list" => (k_here; (with_reducible show wpAny _ _ (call (Value.type _) [Value.str _ _]) _ _ _); k_dflt (refine' list_strK ?k0 ?k1 ?k2 ?k3 ?_; (case k0 => exact rfl); (case k1 => k_asm); (case k2 => k_asm); (case k3 => (rw [sizeLine_eq]; omega)); k_whole); intro l' h' tk' its' n' hch' F' N' l1; (try k_lt l1); (try k_sweep))
  k_with "truthy ref" => (k_here; (with_reducible show wpAny _ _ (truthy (Value.ref _)) _ _ _); k_dflt (first
        | (refine' truthy_cons ?N ?m ?z ?_; (case N => k_asm); (case m => k_mem); (case z => omega); k_whole)
        | (refine' truthy_nil ?N ?m ?_; (case N => k_asm); (case m => k_mem); k_whole)))
  k_with "call builtin:list.pop" => (k_here; (with_reducible show wpAny _ _ (call (Value.builtin _) [Value.ref _, Value.int _ _]) _ _ _); k_dflt (refine' pop0 ?F ?N ?U ?z ?_; (case F => k_asm); (case N => k_asm); (case U => k_upd); (case z => omega); k_whole); intro h' F' N'; (try dsimp only [List.nil_append, List.cons_append] at N'); (try k_sweep))
  k_with "inplaceOp BitXor int int" => (k_here; k_dflt (with_reducible refine' sg_xor ?_); intro y9 t9 k9 e9)
  k_with "subscriptTail" => (k_here; (with_reducible show wpAny _ _ (subscriptTail _ _ (Value.ref _) (Value.str _ _)) _ _ _); k_dflt (refine' kda_item (knd := PySem.strKind _ _) ?N ?m ?d (strKind_is _ _ _ _) ?v ?_; (case N => k_asm); (case m => assumption); (case d => assumption); (case v => assumption)))
  k_with "call ref" => (k_here; (with_reducible show wpAny _ _ (call (Value.ref 164) _) _ _ _); k_dflt (refine' cc_use (c_bn _ _ _ _ _ _ _ (by assumption)) ?B ?F ?X ?N ?T ?hd ?hu ?_; (case B => k_asm); (case F => k_asm); (case X => k_asm); (case N => k_asm); (case T => k_asm); (case hd => ktr_room); (case hu => ktr_units)); rintro v9 h9 tk9 n9 ⟨⟨t9, q9⟩, q8⟩ F9 N9; subst q9 q8; (try k_sweep))
  k_with "call ref" => (k_here; (with_reducible show wpAny _ _ (call (Value.ref 171) _) _ _ _); k_dflt (refine' cc_use (c_dn _ _ _ _ _ _ _ (by assumption)) ?B ?F ?X ?N ?T ?hd ?hu ?_; (case B => k_asm); (case F => k_asm); (case X => k_asm); (case N => k_asm); (case T => k_asm); (case hd => ktr_room); (case hu => ktr_units)); rintro v9 h9 tk9 n9 ⟨⟨t9, q9⟩, q8⟩ F9 N9; subst q9 q8; (try k_sweep))
  revert X; k_fill; intro X
  (conv => pattern (isTrue (testOf ntIn) _ _); arg 1; whnf)
  (conv => pattern (eval (testOf ntIn) _); arg 1; whnf)
  (conv => pattern (execs (bodyOf ntIn) _); arg 1; whnf)
  subst henv
  k_steps
  rename Fr _ _ _ _ => FF9
  rename News _ _ _ _ => NN9
  exact ⟨_, _, _, _, _, rfl, by assumption, fr_eq FF9 nt_map_up, NN9⟩
theorem nt_stop (w : World) (mean : ExcName → Option Value) (mg mb : Str → Option Value) (rest : List (Addr × Obj)) {dp un : Nat} {gd : Option (List Code)} {cn : Str} {nm : List (Str × NameKind)} {ig ic : Bool} {mr : List (Str × Const)} {a : Addr} {ccd : Value} {cl : List (Str × Addr)} {outer : List Env} {A₀ : Around} {base h₀ : Heap} {L : Addr} {m0 : Str → Option Value}
    {L1 D : Nat} {c : Int} {tc tS : Tok} {s : Shared}
    (env : Env) (henv : env = envOf (Str.ofString "_law_noted") (scopeOf (topSt 46)) L 244 (.ref 243))
    (B : Below A₀ base (envX cn ⟨.function, nm, ig, ic, mr⟩ L1 a ccd cl :: outer) h₀) (X : (Mine.hd.heap_39 w.params).In h₀) (T : Top topProg LOOSE mean mg mb h₀) (hd : dp + 12 < recursionLimit) (hu : un + 160 < cLine)
    (F : Fr h₀ L s.heap (ntMap D c tc (Str.ofString "/") tS m0)) (N : News h₀ L s.heap rest) :
    wpAny (model PySem.Challenge.rw_un0033_01.prog w) ((ktrTop dp un gd cn ⟨.function, nm, ig, ic, mr⟩ L1 a ccd cl outer).deeper env) (isTrue (testOf ntIn) env (eval (testOf ntIn) env)) (fun b s₂ => b = false ∧ KeepIt (∃ (h' : Heap) (tk' : Nat), s₂ = { s with heap := h', toks := tk' } ∧ Fr h₀ L h' (ntMap D c tc (Str.ofString "/") tS m0) ∧ News h₀ L h' rest)) (fun _ _ => False) s := by
  k_with_none
  k_with "call builtin:issubclass" => (k_here; k_dflt (refine' iss_str ?k1 ?k2 ?k3 ?_; (case k1 => k_asm); (case k2 => k_asm); (case k3 => k_mem); k_whole); intro h' tk' F' N'; (try k_sweep))
  k_with "call type:list" => (k_here; (with_reducible show wpAny _ _ (call (Value.type _) [Value.str _ _]) _ _ _); k_dflt (refine' list_strK ?k0 ?k1 ?k2 ?k3 ?_; (case k0 => exact rfl); (case k1 => k_asm); (case k2 => k_asm); (case k3 => (rw [sizeLine_eq]; omega)); k_whole); intro l' h' tk' its' n' hch' F' N' l1; (try k_lt l1); (try k_sweep))
  k_with "truthy ref" => (k_here; (with_reducible show wpAny _ _ (truthy (Value.ref _)) _ _ _); k_dflt (first
        | (refine' truthy_cons ?N ?m ?z ?_; (case N => k_asm); (case m => k_mem); (case z => omega); k_whole)
        | (refine' truthy_nil ?N ?m ?_; (case N => k_asm); (case m => k_mem); k_whole)))
  k_with "call builtin:list.pop" => (k_here; (with_reducible show wpAny _ _ (call (Value.builtin _) [Value.ref _, Value.int _ _]) _ _ _); k_dflt (refine' pop0 ?F ?N ?U ?z ?_; (case F => k_asm); (case N => k_asm); (case U => k_upd); (case z => omega); k_whole); intro h' F' N'; (try dsimp only [List.nil_append, List.cons_append] at N'); (try k_sweep))
  k_with "inplaceOp BitXor int int" => (k_here; k_dflt (with_reducible refine' sg_xor ?_); intro y9 t9 k9 e9)
  k_with "subscriptTail" => (k_here; (with_reducible show wpAny _ _ (subscriptTail _ _ (Value.ref _) (Value.str _ _)) _ _ _); k_dflt (refine' kda_item (knd := PySem.strKind _ _) ?N ?m ?d (strKind_is _ _ _ _) ?v ?_; (case N => k_asm); (case m => assumption); (case d => assumption); (case v => assumption)))
  k_with "call ref" => (k_here; (with_reducible show wpAny _ _ (call (Value.ref 164) _) _ _ _); k_dflt (refine' cc_use (c_bn _ _ _ _ _ _ _ (by assumption)) ?B ?F ?X ?N ?T ?hd ?hu ?_; (case B => k_asm); (case F => k_asm); (case X => k_asm); (case N => k_asm); (case T => k_asm); (case hd => ktr_room); (case hu => ktr_units)); rintro v9 h9 tk9 n9 ⟨⟨t9, q9⟩, q8⟩ F9 N9; subst q9 q8; (try k_sweep))
  k_with "call ref" => (k_here; (with_reducible show wpAny _ _ (call (Value.ref 171) _) _ _ _); k_dflt (refine' cc_use (c_dn _ _ _ _ _ _ _ (by assumption)) ?B ?F ?X ?N ?T ?hd ?hu ?_; (case B => k_asm); (case F => k_asm); (case X => k_asm); (case N => k_asm); (case T => k_asm); (case hd => ktr_room); (case hu => ktr_units)); rintro v9 h9 tk9 n9 ⟨⟨t9, q9⟩, q8⟩ F9 N9; subst q9 q8; (try k_sweep))
  revert X; k_fill; intro X
  (conv => pattern (isTrue (testOf ntIn) _ _); arg 1; whnf)
  (conv => pattern (eval (testOf ntIn) _); arg 1; whnf)
  subst henv
  k_steps
  exact ⟨_, _, rfl, F, N⟩
theorem ntIn_test : ∃ pos : Pos, ntIn = .While (testOf ntIn) (bodyOf ntIn) [] pos := ⟨_, rfl⟩
theorem rg_xor : ∀ k j : Fin 16, Builtin.bitXor (((32768 + rgT k.val : Nat)) : Int) ((rgT j.val : Nat) : Int) = (((32768 + rgT (k.val ^^^ j.val) : Nat)) : Int) := by decide +kernel
def wordOk (w : List Nat) : Prop := w = [] ∨ ∃ v ∈ shortlex, ∃ i, i < 4 ∧ w = v ++ [i]
theorem wordOk_short {v : List Nat} (h : v ∈ shortlex) : wordOk v := by
  rcases short_init v h with h | ⟨h1, i, hi, e⟩
  · exact .inl h
  · exact .inr ⟨_, h1, i, hi, e⟩
theorem nt_loop (w : World) (mean : ExcName → Option Value) (mg mb : Str → Option Value) (rest : List (Addr × Obj)) {dp un : Nat} {gd : Option (List Code)} {cn : Str} {nm : List (Str × NameKind)} {ig ic : Bool} {mr : List (Str × Const)} {a : Addr} {ccd : Value} {cl : List (Str × Addr)} {outer : List Env} {A₀ : Around} {base h₀ : Heap} {L : Addr} {m0 : Str → Option Value}
    {L1 D k : Nat} {tc tS : Tok} {wd : List Nat} {x : Nat → Nat} {o1 : Obj} {kvs : List (Str × Value)} {s : Shared} {Q : Flow → Shared → Prop} {E : Value → Shared → Prop}
    (env : Env) (henv : env = envOf (Str.ofString "_law_noted") (scopeOf (topSt 46)) L 244 (.ref 243))
    (B : Below A₀ base (envX cn ⟨.function, nm, ig, ic, mr⟩ L1 a ccd cl :: outer) h₀) (X : (Mine.hd.heap_39 w.params).In h₀) (T : Top topProg LOOSE mean mg mb h₀) (hd : dp + 12 < recursionLimit) (hu : un + 160 < cLine)
    (hx : ∀ i, x i < 16) (hk : k < 16) (hw : wordOk wd) (hm : (D, o1) ∈ rest) (hD : o1.IsDictOf (PySem.strKind PySem.Challenge.rw_un0033_01.prog w) kvs) (hv : ∀ i, i < 4 → ∃ t, valueAt kvs (letS i) = some (.int ((rgT (x i) : Nat) : Int) t))
    (F : Fr h₀ L s.heap (ntMap D (((32768 + rgT k : Nat)) : Int) tc (pathS wd) tS m0)) (N : News h₀ L s.heap rest)
    (hQ : ∀ (h' : Heap) (tk' tc' tS' : Nat), Fr h₀ L h' (ntMap D (((32768 + rgT (chX x k wd) : Nat)) : Int) tc' (Str.ofString "/") tS' m0) → News h₀ L h' rest → Q .next { s with heap := h', toks := tk' }) :
    wpAny (model PySem.Challenge.rw_un0033_01.prog w) ((ktrTop dp un gd cn ⟨.function, nm, ig, ic, mr⟩ L1 a ccd cl outer).deeper env) (exec ntIn env) Q E s := by
  refine wpAny_mono (Q := Q) (E := fun _ _ => False) ?_ (fun _ _ x => x) (fun _ _ x => x.elim)
  obtain ⟨pos, e1⟩ := ntIn_test
  rw [e1]
  refine While_inv (n₀ := wd.length) (fun n m' n' => n' = rest ∧ ∃ u k' tc' tS', m' = ntMap D (((32768 + rgT k' : Nat)) : Int) tc' (pathS u) tS' m0 ∧ n = u.length ∧ k' < 16 ∧ wordOk u ∧ chX x k' u = chX x k wd) F N ⟨rfl, wd, k, tc, tS, rfl, rfl, hk, hw, rfl⟩ ?_ (hE := PassesOwn.never)
  rintro n m₁ news₁ h₁ tk₁ F1 N1 ⟨rfl, u, k', tc', tS', rfl, rfl, hk', hu', hch⟩
  rcases hu' with rfl | ⟨v, hvs, i, hi, rfl⟩
  · refine wpAny_mono (nt_stop w mean mg mb news₁ (s := { s with heap := h₁, toks := tk₁ }) (c := (((32768 + rgT k' : Nat)) : Int)) env henv B X T hd hu F1 N1) (fun b s₂ h => ?_) fun _ _ x => x
    obtain ⟨rfl, h', tk', rfl, F2, N2⟩ := h
    rw [if_neg Bool.false_ne_true]
    have e2 : chX x k' [] = k' := by simp [chX, wX]
    rw [e2] at hch
    rw [hch] at F2
    exact hQ h' tk' tc' tS' F2 N2
  · have P := path_ok hvs hi
    obtain ⟨tr, hvi⟩ := hv i hi
    refine wpAny_mono (nt_turn w mean mg mb news₁ (s := { s with heap := h₁, toks := tk₁ }) (S := pathS (v ++ [i])) (r := ((rgT (x i) : Nat) : Int)) (tr := tr) env henv B X T hd hu (Nat.lt_trans P.ln (by omega)) P.ne hm hD (by rw [P.bn]; exact hvi) F1 N1) (fun b s₂ h => ?_) fun _ _ x => x
    obtain ⟨rfl, h⟩ := h
    rw [if_pos rfl]
    refine wpAny_mono h (fun fl s₃ h₃ => ?_) fun _ _ x => x
    cases fl with
    | next =>
      obtain ⟨h', tk', tc2, tS2, y, rfl, ⟨rfl⟩, F2, N2⟩ := h₃
      rw [P.dn, rg_xor ⟨k', hk'⟩ ⟨x i, hx i⟩] at F2
      exact WhileStep.intro F2 N2 (n' := v.length) (by rw [List.length_append]; exact Nat.lt_succ_self _) ⟨rfl, v, k' ^^^ x i, tc2, tS2, rfl, rfl, Nat.xor_lt_two_pow (n := 4) hk' (hx i), wordOk_short hvs, by rw [← chX_snoc]; exact hch⟩
    | ret v => exact h₃.elim
    | brk => exact h₃.elim
    | cont => exact h₃.elim
end
section
section
variable {prog : Program} {w : World} {A : Around} {E : Value → Shared → Prop} {s : Shared} {h₀ : Heap} {env : Env} {m : Str → Option Value} {news : List (Addr × Obj)}
theorem for_walk {target iter : Expr} {body : List Stmt} {pos : Pos} {Q : Flow → Shared → Prop} {xv : Value} {fp : Nat → List Addr} {n : Nat} {P : Nat → Nat → Value → Prop} {St : Nat → Nat → Heap → Prop}
    (J : Nat → (Str → Option Value) → List (Addr × Obj) → Prop) (F : Fr h₀ env.locals s.heap m) (N : News h₀ env.locals s.heap news) (h0 : J 0 m news)
    (start : ∀ Q', Q' xv s → wpAny (model prog w) A (eval iter env) Q' E s)
    (it : ∀ Q' : Value → Shared → Prop, (∀ (I : Nat) (h' : Heap), (∀ p ∈ news, p.1 < I) → env.locals < I → h₀.get? I = none → (∀ b o, s.heap.get? b = some o → h'.get? b = some o) → St I 0 h' → Walks prog w A I (fp I) [I] n (P I) (St I) → Q' (.ref I) { s with heap := h' }) → wpAny (model prog w) A (pyIter xv) Q' E s)
    (hobj : ∀ I i h, St I i h → ∃ o, h.get? I = some o)
    (hgo : ∀ I i v (s : Shared) (Q : Unit → Shared → Prop) (E : Value → Shared → Prop), St I i s.heap → Q () s → wpAny (model prog w) A (letOwnedTupleGo target (.ref I) v) Q E s)
    (src : ∀ I, ∀ b ∈ fp I, b = I ∨ (∃ o, h₀.get? b = some o) ∨ ∃ o, ∀ i m' n', J i m' n' → ((b, o) : Addr × Obj) ∈ n')
    (step : ∀ i v I oI m' n' h tk, P I i v → i < n → J i m' n' → (∀ p ∈ n', p.1 ≠ I) → (∀ p ∈ news, p.1 < I) → Fr h₀ env.locals h m' → News h₀ env.locals h ((I, oI) :: n') →
      wpAny (model prog w) A (assign target env v) (fun _ s₂ => wpAny (model prog w) A (execs body env) (fun fl s₃ => match fl with
        | .ret v => Q (.ret v) s₃
        | .brk => Q .next s₃
        | _ => TurnEnd h₀ env.locals I oI (J (i + 1)) { s with heap := h, toks := tk } s₃) E s₂) E { s with heap := h, toks := tk })
    (done : ∀ h tk m' n', J n m' n' → Fr h₀ env.locals h m' → News h₀ env.locals h n' → Q .next { s with heap := h, toks := tk })
    (hs : ∀ x, foldedSetIterable iter env x = pure x := by intro _; rfl)
    (hE : PassesOwn (model prog w) A env E := by passes_own) :
    wpAny (model prog w) A (exec (.For target iter body [] pos) env) Q E s := by
  refine wpAny_For (start _ (it _ fun I h' hI hL hI0 hk st W => ?_)) hs
  refine loop_seq (s := { s with heap := h' }) (news := news) (m := m) W J (src I) (hgo I) (hobj I) (Nat.ne_of_gt hL) hI0 (fun p hp => Nat.ne_of_lt (hI p hp))
    st (fr_keeps F hk) (news_keeps N hk) h0 ?_ ?_
  · intro i v oI m' n' h tk hi hP hJ hn' F₁ N₁
    exact wpAny_mono (step i v _ oI m' n' h tk hP hi hJ hn' hI F₁ N₁) (fun _ s₂ h₂ => wpAny_passesOwn hE (wpAny_mono h₂ (fun fl s₃ h₃ => by cases fl <;> exact h₃) fun _ _ e => e)) hE
  · intro h tk m' n' hJ _ F₁ N₁
    exact wpAny_execs_nil (done h tk m' n' hJ F₁ N₁)
end
end
section
section
variable {prog : Program} {w : World} {A : Around} {E : Value → Shared → Prop} {s : Shared} {h₀ : Heap} {env : Env} {m : Str → Option Value} {news : List (Addr × Obj)}
theorem letGo_nm {a : Str} {p : Pos} {I v : Value} {Q : Unit → Shared → Prop} (h : Q () s) : wpAny (model prog w) A (letOwnedTupleGo (.Name a p) I v) Q E s := by
  unfold letOwnedTupleGo
  exact wpAny_pure h
theorem fresh_none {L : Addr} (F : Fr h₀ L s.heap m) : h₀.get? s.heap.objs.size = none := by
  cases e : h₀.get? s.heap.objs.size with
  | none => rfl
  | some o => exact absurd (Heap.lt_size (F.keep _ _ e)) (Nat.lt_irrefl _)
theorem for_dict {K : Type} [DecidableEq K] {knd : KeyKind prog w K} {a : Str} {pa : Pos} {iter : Expr} {body : List Stmt} {pos : Pos} {Q : Flow → Shared → Prop} {d : Nat} {o : Obj} {kvs : List (K × Value)} (hh : A.handled = none)
    (J : Nat → (Str → Option Value) → List (Addr × Obj) → Prop) (F : Fr h₀ env.locals s.heap m) (N : News h₀ env.locals s.heap news) (h0 : J 0 m news)
    (start : ∀ Q', Q' (.ref d) s → wpAny (model prog w) A (eval iter env) Q' E s) (hp : (d, o) ∈ news) (hd : o.IsDictOf knd kvs) (lo : (d == sysModules) = false)
    (keep : ∀ i m' n', J i m' n' → ((d, o) : Addr × Obj) ∈ n')
    (step : ∀ i k x v I oI m' n' h tk, kvs[i]? = some (k, x) → knd.is k v = true → J i m' n' → (∀ p ∈ n', p.1 ≠ I) → (∀ p ∈ news, p.1 < I) → Fr h₀ env.locals h m' → News h₀ env.locals h ((I, oI) :: n') →
      wpAny (model prog w) A (assign (.Name a pa) env v) (fun _ s₂ => wpAny (model prog w) A (execs body env) (fun fl s₃ => match fl with
        | .ret v => Q (.ret v) s₃
        | .brk => Q .next s₃
        | _ => TurnEnd h₀ env.locals I oI (J (i + 1)) { s with heap := h, toks := tk } s₃) E s₂) E { s with heap := h, toks := tk })
    (done : ∀ h tk m' n', J kvs.length m' n' → Fr h₀ env.locals h m' → News h₀ env.locals h n' → Q .next { s with heap := h, toks := tk })
    (hs : ∀ x, foldedSetIterable iter env x = pure x := by intro _; rfl)
    (hE : PassesOwn (model prog w) A env E := by passes_own) :
    wpAny (model prog w) A (exec (.For (.Name a pa) iter body [] pos) env) Q E s := by
  obtain ⟨ep, ha⟩ := KdkAt.of hd
  have hDA := ha.dictAt (N.get hp)
  have hdl : @LT.lt Nat _ d s.heap.objs.size := Heap.lt_size (N.get hp)
  refine for_walk (xv := .ref d) (fp := fun I => [I, d]) (n := kvs.length) (P := fun I i v => ∃ k x, kvs[i]? = some (k, x) ∧ knd.is k v = true) (St := fun I i h => h.IsKeyIter I d i kvs.length ep ∧ h.DictAt knd d kvs ep)
    J F N h0 start (fun Q' hQ' => ?_) (fun I i h st => ?_) (fun I i v s Q E _ q => letGo_nm q) (fun I b hb => ?_) (fun i v I oI m' n' h tk hP _ hJ hn hI F₁ N₁ => ?_) done hs hE
  · refine wpAny_pyIter_dict lo hDA (hQ' _ _ (fun p hp => Heap.lt_size (N p hp).1) F.ns.lt (fresh_none F) (fun b o e => Heap.get?_push_of_some _ e) ⟨⟨_, Heap.get?_push_size _ rfl, rfl, rfl⟩, hDA.at' fun o e => Heap.get?_push_of_some _ e⟩
      (Walks.dictKeys hh _ d (Nat.ne_of_lt hdl) kvs ep))
  · obtain ⟨o, e, _⟩ := st.1
    exact ⟨o, e⟩
  · rcases List.mem_cons.mp hb with rfl | hb
    · exact .inl rfl
    · rw [List.mem_singleton.mp hb]; exact .inr (.inr ⟨o, keep⟩)
  · obtain ⟨k, x, hk, hv⟩ := hP
    exact step i k x v I oI m' n' h tk hk hv hJ hn hI F₁ N₁
theorem for_lst {a : Str} {pa : Pos} {iter : Expr} {body : List Stmt} {pos : Pos} {Q : Flow → Shared → Prop} {l nn : Nat} {its : List Value} (hh : A.handled = none)
    (J : Nat → (Str → Option Value) → List (Addr × Obj) → Prop) (F : Fr h₀ env.locals s.heap m) (N : News h₀ env.locals s.heap news) (h0 : J 0 m news)
    (start : ∀ Q', Q' (.ref l) s → wpAny (model prog w) A (eval iter env) Q' E s) (hp : (l, W.listOf its.toArray nn) ∈ news)
    (keep : ∀ i m' n', J i m' n' → ((l, W.listOf its.toArray nn) : Addr × Obj) ∈ n')
    (step : ∀ i v I oI m' n' h tk, its[i]? = some v → J i m' n' → (∀ p ∈ n', p.1 ≠ I) → (∀ p ∈ news, p.1 < I) → Fr h₀ env.locals h m' → News h₀ env.locals h ((I, oI) :: n') →
      wpAny (model prog w) A (assign (.Name a pa) env v) (fun _ s₂ => wpAny (model prog w) A (execs body env) (fun fl s₃ => match fl with
        | .ret v => Q (.ret v) s₃
        | .brk => Q .next s₃
        | _ => TurnEnd h₀ env.locals I oI (J (i + 1)) { s with heap := h, toks := tk } s₃) E s₂) E { s with heap := h, toks := tk })
    (done : ∀ h tk m' n', J its.length m' n' → Fr h₀ env.locals h m' → News h₀ env.locals h n' → Q .next { s with heap := h, toks := tk })
    (hs : ∀ x, foldedSetIterable iter env x = pure x := by intro _; rfl)
    (hE : PassesOwn (model prog w) A env E := by passes_own) :
    wpAny (model prog w) A (exec (.For (.Name a pa) iter body [] pos) env) Q E s := by
  have hl : s.heap.IsList l its.toArray := ⟨_, N.get hp, rfl, nn, rfl⟩
  have hdl : @LT.lt Nat _ l s.heap.objs.size := Heap.lt_size (N.get hp)
  refine for_walk (xv := .ref l) (fp := fun I => [I, l]) (n := its.toArray.size) (P := fun I i v => its.toArray[i]? = some v) (St := fun I i h => h.IsListIter I l i ∧ h.IsList l its.toArray)
    J F N h0 start (fun Q' hQ' => ?_) (fun I i h st => ?_) (fun I i v s Q E _ q => letGo_nm q) (fun I b hb => ?_) (fun i v I oI m' n' h tk hP _ hJ hn hI F₁ N₁ => ?_) (by simpa using done) hs hE
  · refine wpAny_pyIter_list hl (hQ' _ _ (fun p hp => Heap.lt_size (N p hp).1) F.ns.lt (fresh_none F) (fun b o e => Heap.get?_push_of_some _ e) ⟨⟨_, Heap.get?_push_size _ rfl, rfl, rfl⟩, hl.at fun o e => Heap.get?_push_of_some _ e⟩
      (Walks.list hh _ l (Nat.ne_of_lt hdl) its.toArray))
  · obtain ⟨o, e, _⟩ := st.1
    exact ⟨o, e⟩
  · rcases List.mem_cons.mp hb with rfl | hb
    · exact .inl rfl
    · rw [List.mem_singleton.mp hb]; exact .inr (.inr ⟨_, keep⟩)
  · exact step i v I oI m' n' h tk (by simpa using hP) hJ hn hI F₁ N₁
theorem for_str {a : Str} {pa : Pos} {iter : Expr} {body : List Stmt} {pos : Pos} {Q : Flow → Shared → Prop} {S : Str} {t : Tok} (hh : A.handled = none) (hS : S.cps.all (· < 128) = true)
    (J : Nat → (Str → Option Value) → List (Addr × Obj) → Prop) (F : Fr h₀ env.locals s.heap m) (N : News h₀ env.locals s.heap news) (h0 : J 0 m news)
    (start : ∀ Q', Q' (.str S t) s → wpAny (model prog w) A (eval iter env) Q' E s)
    (step : ∀ i c u I oI m' n' h tk, S.cps[i]? = some c → J i m' n' → (∀ p ∈ n', p.1 ≠ I) → (∀ p ∈ news, p.1 < I) → Fr h₀ env.locals h m' → News h₀ env.locals h ((I, oI) :: n') →
      wpAny (model prog w) A (assign (.Name a pa) env (.str ⟨#[c]⟩ u)) (fun _ s₂ => wpAny (model prog w) A (execs body env) (fun fl s₃ => match fl with
        | .ret v => Q (.ret v) s₃
        | .brk => Q .next s₃
        | _ => TurnEnd h₀ env.locals I oI (J (i + 1)) { s with heap := h, toks := tk } s₃) E s₂) E { s with heap := h, toks := tk })
    (done : ∀ h tk m' n', J S.cps.size m' n' → Fr h₀ env.locals h m' → News h₀ env.locals h n' → Q .next { s with heap := h, toks := tk })
    (hs : ∀ x, foldedSetIterable iter env x = pure x := by intro _; rfl)
    (hE : PassesOwn (model prog w) A env E := by passes_own) :
    wpAny (model prog w) A (exec (.For (.Name a pa) iter body [] pos) env) Q E s := by
  refine for_walk (xv := .str S t) (fp := fun I => [I]) (n := S.cps.size) (P := fun I => SignAt S) (St := fun I i h => h.IsStrIter I "str_ascii_iterator" S t i)
    J F N h0 start (fun Q' hQ' => ?_) (fun I i h st => ?_) (fun I i v s Q E _ q => letGo_nm q) (fun I b hb => ?_) (fun i v I oI m' n' h tk hP _ hJ hn hI F₁ N₁ => ?_) done hs hE
  · exact wpAny_pyIter_ascii hS (hQ' _ _ (fun p hp => Heap.lt_size (N p hp).1) F.ns.lt (fresh_none F) (fun b o e => Heap.get?_push_of_some _ e) ⟨_, Heap.get?_push_size _ rfl, rfl, rfl⟩ (Walks.strAscii hh _ S t))
  · obtain ⟨o, e, _⟩ := st
    exact ⟨o, e⟩
  · exact .inl (List.mem_singleton.mp hb)
  · obtain ⟨c, u, hc, rfl⟩ := hP
    exact step i c u I oI m' n' h tk hc hJ hn hI F₁ N₁
end
end
section
def ntIf : Stmt := kidOf ntOuter 4
def ntFor : Stmt := kidOf ntIf 1
abbrev lpMap (x2 : Nat) (S : Str) (tS : Tok) (m0 : Str → Option Value) : Str → Option Value := fun y =>
  if y = Str.ofString "lexer" then some (.ref x2) else if y = Str.ofString "path" then some (.str S tS) else m0 y
theorem lp_map_up {m0 : Str → Option Value} {x2 : Nat} {S : Str} {tS : Tok} {v : Option Value} :
    ∀ y, (if y = Str.ofString "name" then v else lpMap x2 S tS m0 y) = lpMap x2 S tS (fun z => if z = Str.ofString "name" then v else m0 z) y := by
  intro y
  unfold lpMap
  by_cases h1 : y = Str.ofString "name"
  · subst h1; rfl
  · simp only [if_neg h1]
theorem fp_turn (w : World) (mean : ExcName → Option Value) (mg mb : Str → Option Value) (rest : List (Addr × Obj)) {dp un : Nat} {gd : Option (List Code)} {cn : Str} {nm : List (Str × NameKind)} {ig ic : Bool} {mr : List (Str × Const)} {a : Addr} {ccd : Value} {cl : List (Str × Addr)} {outer : List Env} {A₀ : Around} {base h₀ : Heap} {L : Addr} {m0 : Str → Option Value}
    {L1 : Nat} {tS tn : Tok} {S S' : Str} {s : Shared} {tl : Tok} {ln : Int} {lf pb : List Value} {nl np : Nat}
    {f cb c l x2 d2 p2 x1 d1 p1 : Nat} {ocb oc : Obj} {vs : Array Value} {q : Str} {tq : Tok} {dc pm ct : Value} {k1 k2 k3 k4 tw j1 j2 j3 j4 j5 tj tv : Tok}
  (hcb : ocb.data = .fields vs) (hvs : vs[1]? = some (.str q tq)) (hoc : oc.data = .cell (some (.ref l)))
  (hord : c < l ∧ l < d1 ∧ d1 < x1 ∧ x1 < p1 ∧ p1 < cb ∧ cb < f ∧ f < d2 ∧ d2 < x2 ∧ x2 < p2) (offl : ∀ p ∈ rest, p.1 ≠ l) (offd : ∀ p ∈ rest, p.1 ≠ d2) (offp : ∀ p ∈ rest, p.1 ≠ p2)
    (env : Env) (henv : env = envOf (Str.ofString "_law_noted") (scopeOf (topSt 46)) L 244 (.ref 243))
    (B : Below A₀ base (envX cn ⟨.function, nm, ig, ic, mr⟩ L1 a ccd cl :: outer) h₀) (X : (Mine.hd.heap_39 w.params).In h₀) (T : Top topProg LOOSE mean mg mb h₀) (hd : dp + 14 < recursionLimit) (hu : un + 260 < cLine)
    (hS : S.length < 100) (hS' : S'.length < 100) (hst : Txt.startswith S' (Str.ofString "/") = false) (hne : (S.length : Int) ≠ 0) (hz : pb.length < 1000)
    (F : Fr h₀ L s.heap (lpMap x2 S tS m0)) (N : News h₀ L s.heap ((f, oFn q dc pm ct cb c) :: (cb, ocb) :: (c, oc) :: (l, listOf lf.toArray nl) :: (x2, instObj 59 d2) :: (d2, oD2 w k1 k2 k3 k4 ln tl x1 tw p2) :: (p2, listOf pb.toArray np) :: (x1, instObj 59 d1) :: (d1, oD1 w j1 j2 j3 j4 j5 tj tv p1 f) :: rest)) :
    wpAny (model PySem.Challenge.rw_un0033_01.prog w) ((ktrTop dp un gd cn ⟨.function, nm, ig, ic, mr⟩ L1 a ccd cl outer).deeper env) (storeName env (Str.ofString "name") (.str S' tn)) (fun _ s₂ => wpAny (model PySem.Challenge.rw_un0033_01.prog w) ((ktrTop dp un gd cn ⟨.function, nm, ig, ic, mr⟩ L1 a ccd cl outer).deeper env) (execs (bodyOf ntFor) env) (fun fl s₃ => match fl with
          | .next => KeepIt (∃ (h' : Heap) (tk' t9 : Nat), s₃ = { s with heap := h', toks := tk' } ∧ Fr h₀ L h' (lpMap x2 S tS (fun z => if z = Str.ofString "name" then some (.str S' tn) else m0 z)) ∧ News h₀ L h' ((f, oFn q dc pm ct cb c) :: (cb, ocb) :: (c, oc) :: (l, listOf lf.toArray nl) :: (x2, instObj 59 d2) :: (d2, oD2 w k1 k2 k3 k4 ln tl x1 tw p2) :: (p2, listOf (pb ++ [Value.str (joinS S S') t9]).toArray (np + 1)) :: (x1, instObj 59 d1) :: (d1, oD1 w j1 j2 j3 j4 j5 tj tv p1 f) :: rest))
          | _ => False) (fun _ _ => False) s₂) (fun _ _ => False) s := by
  k_with_none
  k_with "call builtin:issubclass" => (k_here; k_dflt (refine' iss_str ?k1 ?k2 ?k3 ?_; (case k1 => k_asm); (case k2 => k_asm); (case k3 => k_mem); k_whole); intro h' tk' F' N'; (try k_sweep))
  k_with "call type:list" => (k_here; (with_reducible show wpAny _ _ (call (Value.type _) [Value.str _ _]) _ _ _); k_dflt (refine' list_strK ?k0 ?k1 ?k2 ?k3 ?_; (case k0 => exact rfl); (case k1 => k_asm); (case k2 => k_asm); (case k3 => (rw [sizeLine_eq]; omega)); k_whole); intro l' h' tk' its' n' hch' F' N' l1; (try k_lt l1); (try k_sweep))
  k_with "truthy ref" => (k_here; (with_reducible show wpAny _ _ (truthy (Value.ref _)) _ _ _); k_dflt (first
        | (refine' truthy_cons ?N ?m ?z ?_; (case N => k_asm); (case m => k_mem); (case z => omega); k_whole)
        | (refine' truthy_nil ?N ?m ?_; (case N => k_asm); (case m => k_mem); k_whole)))
  k_with "call builtin:list.pop" => (k_here; (with_reducible show wpAny _ _ (call (Value.builtin _) [Value.ref _, Value.int _ _]) _ _ _); k_dflt (refine' pop0 ?F ?N ?U ?z ?_; (case F => k_asm); (case N => k_asm); (case U => k_upd); (case z => omega); k_whole); intro h' F' N'; (try dsimp only [List.nil_append, List.cons_append] at N'); (try k_sweep))
  k_with "call ref" => (k_here; (with_reducible show wpAny _ _ (call (Value.ref 157) _) _ _ _); k_dflt (refine' cc_use (c_join _ _ _ _ _ _ _ _ _ (by assumption) (by assumption) (by assumption) (by assumption)) ?B ?F ?X ?N ?T ?hd ?hu ?_; (case B => k_asm); (case F => k_asm); (case X => k_asm); (case N => k_asm); (case T => k_asm); (case hd => ktr_room); (case hu => ktr_units)); rintro v9 h9 tk9 n9 ⟨⟨t9, q9⟩, q8⟩ F9 N9; subst q9 q8; (try k_sweep))
  revert X; k_fill; intro X
  (conv => pattern (execs (bodyOf ntFor) _); arg 1; whnf)
  subst henv
  k_steps
  rename Fr h₀ L _ _ => FF9
  rename News h₀ L _ _ => NN9
  exact ⟨_, _, _, rfl, fr_eq FF9 lp_map_up, by simpa only [List.push_toArray] using NN9⟩
theorem ntFor_is : ∃ pa pi pos, ntFor = .For (.Name (Str.ofString "name") pa) (.Name (Str.ofString "changes") pi) (bodyOf ntFor) [] pos := ⟨_, _, _, rfl⟩
theorem mem9 {α : Type} {a1 a2 a3 a4 a5 a6 a7 a8 a9 x p : α} {r : List α} : p ∈ a1 :: a2 :: a3 :: a4 :: a5 :: a6 :: a7 :: a8 :: a9 :: x :: r ↔ p ∈ x :: a1 :: a2 :: a3 :: a4 :: a5 :: a6 :: a7 :: a8 :: a9 :: r :=
  (List.perm_middle (l₁ := [a1, a2, a3, a4, a5, a6, a7, a8, a9])).mem_iff
theorem strsAre_len : ∀ {vs : List Value} {ns : List Str}, StrsAre vs ns → vs.length = ns.length
  | _, _, .nil => rfl
  | _, _, .cons _ _ h => congrArg (· + 1) (strsAre_len h)
theorem fp_loop (w : World) (mean : ExcName → Option Value) (mg mb : Str → Option Value) (rest : List (Addr × Obj)) {dp un : Nat} {gd : Option (List Code)} {cn : Str} {nm : List (Str × NameKind)} {ig ic : Bool} {mr : List (Str × Const)} {a : Addr} {ccd : Value} {cl : List (Str × Addr)} {outer : List Env} {A₀ : Around} {base h₀ : Heap} {L : Addr} {m0 : Str → Option Value}
    {L1 D : Nat} {tS : Tok} {wd : List Nat} {s : Shared} {tl : Tok} {ln : Int} {lf pb : List Value} {nl np : Nat} {o1 : Obj} {kvs : List (Str × Value)} {QS : List Str} {Q : Flow → Shared → Prop} {E : Value → Shared → Prop}
    {f cb c l x2 d2 p2 x1 d1 p1 : Nat} {ocb oc : Obj} {vs : Array Value} {q : Str} {tq : Tok} {dc pm ct : Value} {k1 k2 k3 k4 tw j1 j2 j3 j4 j5 tj tv : Tok}
  (hcb : ocb.data = .fields vs) (hvs : vs[1]? = some (.str q tq)) (hoc : oc.data = .cell (some (.ref l)))
  (hord : c < l ∧ l < d1 ∧ d1 < x1 ∧ x1 < p1 ∧ p1 < cb ∧ cb < f ∧ f < d2 ∧ d2 < x2 ∧ x2 < p2) (offl : ∀ p ∈ rest, p.1 ≠ l) (offd : ∀ p ∈ rest, p.1 ≠ d2) (offp : ∀ p ∈ rest, p.1 ≠ p2)
    (env : Env) (henv : env = envOf (Str.ofString "_law_noted") (scopeOf (topSt 46)) L 244 (.ref 243))
    (B : Below A₀ base (envX cn ⟨.function, nm, ig, ic, mr⟩ L1 a ccd cl :: outer) h₀) (X : (Mine.hd.heap_39 w.params).In h₀) (T : Top topProg LOOSE mean mg mb h₀) (hd : dp + 14 < recursionLimit) (hu : un + 260 < cLine)
    (hw : wd ∈ shortlex) (hm : (D, o1) ∈ rest) (hD : o1.IsDictOf (PySem.strKind PySem.Challenge.rw_un0033_01.prog w) kvs) (lo : (D == sysModules) = false) (hkv : kvs.map (·.1) = [letS 0, letS 1, letS 2, letS 3]) (hq : StrsAre pb QS) (hz : pb.length < 900)
    (F : Fr h₀ L s.heap (lpMap x2 (pathS wd) tS m0)) (hch : lpMap x2 (pathS wd) tS m0 (Str.ofString "changes") = some (.ref D)) (N : News h₀ L s.heap ((f, oFn q dc pm ct cb c) :: (cb, ocb) :: (c, oc) :: (l, listOf lf.toArray nl) :: (x2, instObj 59 d2) :: (d2, oD2 w k1 k2 k3 k4 ln tl x1 tw p2) :: (p2, listOf pb.toArray np) :: (x1, instObj 59 d1) :: (d1, oD1 w j1 j2 j3 j4 j5 tj tv p1 f) :: rest))
    (hQ : ∀ (h' : Heap) (tk' np' : Nat) (pb' : List Value) (v : Option Value), StrsAre pb' (QS ++ [pathS (wd ++ [0]), pathS (wd ++ [1]), pathS (wd ++ [2]), pathS (wd ++ [3])]) → Fr h₀ L h' (lpMap x2 (pathS wd) tS (fun z => if z = Str.ofString "name" then v else m0 z)) → News h₀ L h' ((f, oFn q dc pm ct cb c) :: (cb, ocb) :: (c, oc) :: (l, listOf lf.toArray nl) :: (x2, instObj 59 d2) :: (d2, oD2 w k1 k2 k3 k4 ln tl x1 tw p2) :: (p2, listOf pb'.toArray np') :: (x1, instObj 59 d1) :: (d1, oD1 w j1 j2 j3 j4 j5 tj tv p1 f) :: rest) → Q .next { s with heap := h', toks := tk' }) :
    wpAny (model PySem.Challenge.rw_un0033_01.prog w) ((ktrTop dp un gd cn ⟨.function, nm, ig, ic, mr⟩ L1 a ccd cl outer).deeper env) (exec ntFor env) Q E s := by
  refine wpAny_mono (Q := Q) (E := fun _ _ => False) ?_ (fun _ _ x => x) (fun _ _ x => x.elim)
  obtain ⟨pa, pi, pos, e1⟩ := ntFor_is
  rw [e1]
  have hL : env.locals = L := by rw [henv]; rfl
  subst hL
  have hm9 : ∀ (pb' : List Value) (np' : Nat), (D, o1) ∈ ((f, oFn q dc pm ct cb c) :: (cb, ocb) :: (c, oc) :: (l, listOf lf.toArray nl) :: (x2, instObj 59 d2) :: (d2, oD2 w k1 k2 k3 k4 ln tl x1 tw p2) :: (p2, listOf pb'.toArray np') :: (x1, instObj 59 d1) :: (d1, oD1 w j1 j2 j3 j4 j5 tj tv p1 f) :: rest) := fun pb' np' => by
    iterate 9 refine List.mem_cons_of_mem _ ?_
    exact hm
  have hlen : kvs.length = 4 := by have := congrArg List.length hkv; simpa using this
  refine for_dict (knd := PySem.strKind PySem.Challenge.rw_un0033_01.prog w) (d := D) (o := o1) (kvs := kvs) rfl (fun i m' n' => ∃ pb' np' v, m' = lpMap x2 (pathS wd) tS (fun z => if z = Str.ofString "name" then v else m0 z) ∧ n' = ((f, oFn q dc pm ct cb c) :: (cb, ocb) :: (c, oc) :: (l, listOf lf.toArray nl) :: (x2, instObj 59 d2) :: (d2, oD2 w k1 k2 k3 k4 ln tl x1 tw p2) :: (p2, listOf pb'.toArray np') :: (x1, instObj 59 d1) :: (d1, oD1 w j1 j2 j3 j4 j5 tj tv p1 f) :: rest) ∧ StrsAre pb' (QS ++ (List.range i).map fun (j : Nat) => pathS (wd ++ [j])) ∧ pb'.length = pb.length + i)
    F N ⟨pb, np, m0 (Str.ofString "name"), ?_, rfl, by simpa using hq, rfl⟩ ?_ (hm9 pb np) hD lo ?_ ?_ ?_ (hE := PassesOwn.never)
  · funext y
    unfold lpMap
    by_cases h1 : y = Str.ofString "name"
    · subst h1; rfl
    · simp only [if_neg h1]
  · intro Q' hQ'
    have F' := F
    rw [henv] at F' ⊢
    exact ld F' hch hQ'
  · rintro i m' n' ⟨pb', np', v, rfl, rfl, -⟩
    exact hm9 pb' np'
  · rintro i k x v I oI m' n' h tk hk hkv' ⟨pb', np', v0, rfl, rfl, hS, hl⟩ hn hlt F1 N1
    have hi : i < 4 := by rw [← hlen]; exact (List.getElem?_eq_some_iff.mp hk).1
    have hki : k = letS i := by
      have e2 : (kvs.map (·.1))[i]? = some k := by rw [List.getElem?_map, hk]; rfl
      rw [hkv] at e2
      match i, hi with
      | 0, _ => exact (Option.some.inj e2).symm
      | 1, _ => exact (Option.some.inj e2).symm
      | 2, _ => exact (Option.some.inj e2).symm
      | 3, _ => exact (Option.some.inj e2).symm
    subst hki
    obtain ⟨tv0, rfl⟩ : ∃ t, v = .str (letS i) t := (kdl_flat_str hkv').str_inv
    have P := path_ok hw hi
    have LT := let_tab ⟨i, hi⟩
    have hrest : ∀ z : Nat, (∀ p ∈ rest, p.1 ≠ z) → z ≠ I → ∀ p ∈ (I, oI) :: rest, p.1 ≠ z := fun z h1 h2 p hp => by
      rcases List.mem_cons.mp hp with rfl | hp
      · exact Ne.symm h2
      · exact h1 p hp
    have ne := fun (p : Addr × Obj) hp => hn p hp
    refine wpAny_assign_Name (wpAny_mono (fp_turn w mean mg mb ((I, oI) :: rest) (s := { s with heap := h, toks := tk }) (S := pathS wd) (S' := letS i) (tn := tv0) (tS := tS) (pb := pb') (np := np') (lf := lf) (nl := nl) (ln := ln) (tl := tl) (m0 := fun z => if z = Str.ofString "name" then v0 else m0 z) hcb hvs hoc hord
      (hrest l offl (by have := hn (l, listOf lf.toArray nl) (by simp); exact this)) (hrest d2 offd (by have := hn (d2, oD2 w k1 k2 k3 k4 ln tl x1 tw p2) (by simp); exact this)) (hrest p2 offp (by have := hn (p2, listOf pb'.toArray np') (by simp); exact this))
      env henv B X T hd hu (Nat.lt_trans P.l0.1 (by omega)) LT.2 LT.1 P.l0.2 (by omega) F1 (news_sub N1 fun p hp => mem9.mp hp)) (fun _ s₂ h₂ => wpAny_mono h₂ (fun fl s₃ h₃ => ?_) fun _ _ x => x) fun _ _ x => x)
    cases fl with
    | next =>
      obtain ⟨h', tk', t9, rfl, F2, N2⟩ := h₃
      refine ⟨h', tk', _, ((f, oFn q dc pm ct cb c) :: (cb, ocb) :: (c, oc) :: (l, listOf lf.toArray nl) :: (x2, instObj 59 d2) :: (d2, oD2 w k1 k2 k3 k4 ln tl x1 tw p2) :: (p2, listOf (pb' ++ [Value.str (joinS (pathS wd) (letS i)) t9]).toArray (np' + 1)) :: (x1, instObj 59 d1) :: (d1, oD1 w j1 j2 j3 j4 j5 tj tv p1 f) :: rest), rfl, F2, news_sub N2 (fun p hp => mem9.mpr hp), ?_, _, _, some (.str (letS i) tv0), ?_, rfl, ?_, ?_⟩
      · intro p hp
        by_cases hp2 : p.1 = p2
        · rw [hp2]; have := hn (p2, listOf pb'.toArray np') (by simp); exact this
        · refine hn p ?_
          simp only [List.mem_cons] at hp ⊢
          rcases hp with h1 | h1 | h1 | h1 | h1 | h1 | h1 | h1 | h1 | h1
          all_goals first | (refine absurd ?_ hp2; rw [h1]; done) | (simp [h1]; done)
      · congr 1; funext z; by_cases h1 : z = Str.ofString "name" <;> simp only [h1, if_true, if_false]
      · rw [List.range_succ, List.map_append, ← List.append_assoc, P.jn]
        exact strs_snoc hS
      · rw [List.length_append, hl]; rfl
    | ret v => exact h₃.elim
    | brk => exact h₃.elim
    | cont => exact h₃.elim
  · rintro h tk m' n' ⟨pb', np', v, rfl, rfl, hS, -⟩ F1 N1
    rw [hlen] at hS
    exact hQ h tk np' pb' v hS F1 N1
end
section
structure GtOut (pb : List Value) (v : Value) : Prop where
  c : ∀ v' r, pb = v' :: r → v = v'
  n : pb = [] → ∃ t, v = .str (Str.ofString "") t
theorem CC_depth {w : World} {mean : ExcName → Option Value} {mg mb : Str → Option Value} {f : Addr} {d d' : Nat} {news : List (Addr × Obj)} {vs : List Value} {R : Value → List (Addr × Obj) → Prop} (e : d ≤ d') (h : CC w mean mg mb f d news vs R) : CC w mean mg mb f d' news vs R := by
  intro dp un gd cn nm ig ic mr a ccd cl outer A₀ base h₀ L m s RR B F X N T hd hu hret
  exact h dp un gd cn nm ig ic mr a ccd cl outer A₀ base h₀ L m s RR B F X N T (by omega) (by omega) hret
theorem c_gt_any (w : World) (mean : ExcName → Option Value) (mg mb : Str → Option Value) (rest : List (Addr × Obj)) (tl : Tok) (ln : Int) (pb : List Value) (nl np : Nat) (hz : pb.length < 1000) (f cb c l x2 d2 p2 x1 d1 p1 : Nat) (ocb oc : Obj) (vs : Array Value) (q : Str) (tq : Tok) (dc pm ct : Value) (k1 k2 k3 k4 tw j1 j2 j3 j4 j5 tj tv : Tok)
  (hcb : ocb.data = .fields vs) (hvs : vs[1]? = some (.str q tq)) (hoc : oc.data = .cell (some (.ref l)))
  (hord : c < l ∧ l < d1 ∧ d1 < x1 ∧ x1 < p1 ∧ p1 < cb ∧ cb < f ∧ f < d2 ∧ d2 < x2 ∧ x2 < p2) (offl : ∀ p ∈ rest, p.1 ≠ l) (offd : ∀ p ∈ rest, p.1 ≠ d2) (offp : ∀ p ∈ rest, p.1 ≠ p2) :
  CC w mean mg mb 49 9 ((f, oFn q dc pm ct cb c) :: (cb, ocb) :: (c, oc) :: (l, listOf [].toArray nl) :: (x2, instObj 59 d2) :: (d2, oD2 w k1 k2 k3 k4 ln tl x1 tw p2) :: (p2, listOf pb.toArray np) :: (x1, instObj 59 d1) :: (d1, oD1 w j1 j2 j3 j4 j5 tj tv p1 f) :: rest) [.ref x2] (fun r n' => GtOut pb r ∧ ∃ ln' tl' nl' np', n' = ((f, oFn q dc pm ct cb c) :: (cb, ocb) :: (c, oc) :: (l, listOf [].toArray nl') :: (x2, instObj 59 d2) :: (d2, oD2 w k1 k2 k3 k4 ln' tl' x1 tw p2) :: (p2, listOf pb.tail.toArray np') :: (x1, instObj 59 d1) :: (d1, oD1 w j1 j2 j3 j4 j5 tj tv p1 f) :: rest)) := by
  cases pb with
  | nil => exact CC_mono (fun v n ⟨⟨t, e⟩, ln', tl', nl', e2⟩ => ⟨⟨fun _ _ h => (by cases h), fun _ => ⟨t, e⟩⟩, ln', tl', nl', np, e2⟩) (c_gt_end w mean mg mb rest tl ln nl np f cb c l x2 d2 p2 x1 d1 p1 ocb oc vs q tq dc pm ct k1 k2 k3 k4 tw j1 j2 j3 j4 j5 tj tv hcb hvs hoc hord offl offd offp)
  | cons v r => exact CC_mono (fun u n ⟨e, e2⟩ => ⟨⟨fun _ _ h => (by injection h with h1 h2; rw [e, h1]), fun h => (by cases h)⟩, ln, tl, nl, np + 1, e2⟩) (CC_depth (by omega) (c_gt_pop w mean mg mb rest v tl ln [] r nl np (by simp at hz; omega) f cb c l x2 d2 p2 x1 d1 p1 ocb oc vs q tq dc pm ct k1 k2 k3 k4 tw j1 j2 j3 j4 j5 tj tv hcb hvs hoc hord offl offd offp))
theorem off2 {z D1 D2 : Nat} {o1 o2 : Obj} {rest : List (Addr × Obj)} (h : ∀ p ∈ rest, p.1 ≠ z) (a : D1 ≠ z) (b : D2 ≠ z) : ∀ p ∈ (D1, o1) :: (D2, o2) :: rest, p.1 ≠ z := fun p hp => by
  rcases List.mem_cons.mp hp with rfl | hp
  · exact a
  · rcases List.mem_cons.mp hp with rfl | hp
    · exact b
    · exact h p hp
end
section
abbrev otMap (x2 D1 D2 : Nat) (st : Int) (tst : Tok) (P : Value) (m0 : Str → Option Value) : Str → Option Value := fun y =>
  if y = Str.ofString "lexer" then some (.ref x2) else if y = Str.ofString "start" then some (.int st tst) else if y = Str.ofString "changes" then some (.ref D1) else if y = Str.ofString "noted" then some (.ref D2) else if y = Str.ofString "path" then some P else m0 y
theorem ot_map_self {m : Str → Option Value} {x2 D1 D2 : Nat} {st : Int} {tst : Tok} {P : Value} (h1 : m (Str.ofString "lexer") = some (.ref x2)) (h2 : m (Str.ofString "start") = some (.int st tst)) (h3 : m (Str.ofString "changes") = some (.ref D1)) (h4 : m (Str.ofString "noted") = some (.ref D2)) (h5 : m (Str.ofString "path") = some P) :
    ∀ y, m y = otMap x2 D1 D2 st tst P m y := by
  intro y
  unfold otMap
  split
  · rename_i e; rw [e, h1]
  split
  · rename_i e; rw [e, h2]
  split
  · rename_i e; rw [e, h3]
  split
  · rename_i e; rw [e, h4]
  split
  · rename_i e; rw [e, h5]
  rfl
theorem lp_map_self {m : Str → Option Value} {x2 : Nat} {S : Str} {tS : Tok} (h1 : m (Str.ofString "lexer") = some (.ref x2)) (h2 : m (Str.ofString "path") = some (.str S tS)) : ∀ y, m y = lpMap x2 S tS m y := by
  intro y
  unfold lpMap
  split
  · rename_i e; rw [e, h1]
  split
  · rename_i e; rw [e, h2]
  rfl
structure SgC (a b : Nat) : Prop where
  e : a = b
theorem noE {P : Prop} : P → P := fun h => h
theorem ot_turn (w : World) (mean : ExcName → Option Value) (mg mb : Str → Option Value) (rest : List (Addr × Obj)) {dp un : Nat} {gd : Option (List Code)} {cn : Str} {nm : List (Str × NameKind)} {ig ic : Bool} {mr : List (Str × Const)} {a : Addr} {ccd : Value} {cl : List (Str × Addr)} {outer : List Env} {A₀ : Around} {base h₀ : Heap} {L : Addr} {m0 : Str → Option Value}
    {L1 D1 D2 k0 cc : Nat} {tS tst : Tok} {wd : List Nat} {x : Nat → Nat} {s : Shared} {tl : Tok} {ln : Int} {pb : List Value} {nl np : Nat} {o1 o2 : Obj} {kvs kvs2 : List (Str × Value)} {QS : List Str} {b : Bool}
    {f cb c l x2 d2 p2 x1 d1 p1 : Nat} {ocb oc : Obj} {vs : Array Value} {q : Str} {tq : Tok} {dc pm ct : Value} {k1 k2 k3 k4 tw j1 j2 j3 j4 j5 tj tv : Tok}
  (hcb : ocb.data = .fields vs) (hvs : vs[1]? = some (.str q tq)) (hoc : oc.data = .cell (some (.ref l)))
  (hord : c < l ∧ l < d1 ∧ d1 < x1 ∧ x1 < p1 ∧ p1 < cb ∧ cb < f ∧ f < d2 ∧ d2 < x2 ∧ x2 < p2) (offl : ∀ p ∈ rest, p.1 ≠ l) (offd : ∀ p ∈ rest, p.1 ≠ d2) (offp : ∀ p ∈ rest, p.1 ≠ p2)
    (env : Env) (henv : env = envOf (Str.ofString "_law_noted") (scopeOf (topSt 46)) L 244 (.ref 243))
    (B : Below A₀ base (envX cn ⟨.function, nm, ig, ic, mr⟩ L1 a ccd cl :: outer) h₀) (X : (Mine.hd.heap_39 w.params).In h₀) (T : Top topProg LOOSE mean mg mb h₀) (hd : dp + 16 < recursionLimit) (hu : un + 400 < cLine)
    (hx : ∀ i, x i < 16) (hk : k0 < 16) (hw : wordOk wd) (hws : b = false → wd ∈ shortlex) (hc : SgC (chX x k0 wd) cc) (hc16 : cc < 16) (hpl : (pathS wd).length < 100) (hpn : ((pathS wd).length : Int) ≠ 0)
    (hD : o1.IsDictOf (PySem.strKind PySem.Challenge.rw_un0033_01.prog w) kvs) (lo : (D1 == sysModules) = false) (hkv : kvs.map (·.1) = [letS 0, letS 1, letS 2, letS 3]) (hv : ∀ i, i < 4 → ∃ t, valueAt kvs (letS i) = some (.int ((rgT (x i) : Nat) : Int) t))
    (hD2 : o2.IsDictOf (PySem.strKind PySem.Challenge.rw_un0033_01.prog w) kvs2) (lo2 : (D2 == sysModules) = false) (hb : (valueAt kvs2 (sigT cc)).isSome = b) (hz2 : kvs2.length < 1000)
    (hDD : p2 < D1 ∧ D1 < D2) (off2' : ∀ p ∈ rest, p.1 ≠ D2) (hq : StrsAre pb QS) (hz : pb.length < 800)
    (F : Fr h₀ L s.heap (otMap x2 D1 D2 (((32768 + rgT k0 : Nat)) : Int) tst (.str (pathS wd) tS) m0)) (N : News h₀ L s.heap ((f, oFn q dc pm ct cb c) :: (cb, ocb) :: (c, oc) :: (l, listOf [].toArray nl) :: (x2, instObj 59 d2) :: (d2, oD2 w k1 k2 k3 k4 ln tl x1 tw p2) :: (p2, listOf pb.toArray np) :: (x1, instObj 59 d1) :: (d1, oD1 w j1 j2 j3 j4 j5 tj tv p1 f) :: (D1, o1) :: (D2, o2) :: rest)) :
    wpAny (model PySem.Challenge.rw_un0033_01.prog w) ((ktrTop dp un gd cn ⟨.function, nm, ig, ic, mr⟩ L1 a ccd cl outer).deeper env) (isTrue (testOf ntOuter) env (eval (testOf ntOuter) env)) (fun bb s₂ => bb = true ∧ wpAny (model PySem.Challenge.rw_un0033_01.prog w) ((ktrTop dp un gd cn ⟨.function, nm, ig, ic, mr⟩ L1 a ccd cl outer).deeper env) (execs (bodyOf ntOuter) env) (fun fl s₃ => match fl with
          | .next => KeepIt (∃ (h' : Heap) (tk' nl' np' tl' : Nat) (ln' : Int) (m1 : Str → Option Value) (vP : Value) (pb' : List Value) (o2' : Obj) (kvs2' : List (Str × Value)),
              ((b = true ∧ pb' = pb ∧ kvs2' = kvs2) ∨ (b = false ∧ StrsAre pb' (QS ++ [pathS (wd ++ [0]), pathS (wd ++ [1]), pathS (wd ++ [2]), pathS (wd ++ [3])]) ∧ kvs2' = stored kvs2 (sigT cc) (.str (pathS wd) tS))) ∧ GtOut pb' vP ∧ o2'.IsDictOf (PySem.strKind PySem.Challenge.rw_un0033_01.prog w) kvs2' ∧
              s₃ = { s with heap := h', toks := tk' } ∧ Fr h₀ L h' (otMap x2 D1 D2 (((32768 + rgT k0 : Nat)) : Int) tst vP m1) ∧ News h₀ L h' ((f, oFn q dc pm ct cb c) :: (cb, ocb) :: (c, oc) :: (l, listOf [].toArray nl') :: (x2, instObj 59 d2) :: (d2, oD2 w k1 k2 k3 k4 ln' tl' x1 tw p2) :: (p2, listOf pb'.tail.toArray np') :: (x1, instObj 59 d1) :: (d1, oD1 w j1 j2 j3 j4 j5 tj tv p1 f) :: (D1, o1) :: (D2, o2') :: rest))
          | _ => False) (fun _ _ => False) s₂) (fun _ _ => False) s := by
  k_with_none
  k_with "call builtin:issubclass" => (k_here; k_dflt (refine' iss_str ?k1 ?k2 ?k3 ?_; (case k1 => k_asm); (case k2 => k_asm); (case k3 => k_mem); k_whole); intro h' tk' F' N'; (try k_sweep))
  k_with "call type:list" => (k_here; (with_reducible show wpAny _ _ (call (Value.type _) [Value.str _ _]) _ _ _); k_dflt (refine' list_strK ?k0 ?k1 ?k2 ?k3 ?_; (case k0 => exact rfl); (case k1 => k_asm); (case k2 => k_asm); (case k3 => (rw [sizeLine_eq]; omega)); k_whole); intro l' h' tk' its' n' hch' F' N' l1; (try k_lt l1); (try k_sweep))
  k_with "truthy ref" => (k_here; (with_reducible show wpAny _ _ (truthy (Value.ref _)) _ _ _); k_dflt (first
        | (refine' truthy_cons ?N ?m ?z ?_; (case N => k_asm); (case m => k_mem); (case z => omega); k_whole)
        | (refine' truthy_nil ?N ?m ?_; (case N => k_asm); (case m => k_mem); k_whole)))
  k_with "call builtin:list.pop" => (k_here; (with_reducible show wpAny _ _ (call (Value.builtin _) [Value.ref _, Value.int _ _]) _ _ _); k_dflt (refine' pop0 ?F ?N ?U ?z ?_; (case F => k_asm); (case N => k_asm); (case U => k_upd); (case z => omega); k_whole); intro h' F' N'; (try dsimp only [List.nil_append, List.cons_append] at N'); (try k_sweep))
  k_with "exec While" => (k_here; refine Stop.h ?_)
  k_with "exec For Name Name cons nil" => (k_here; refine Stop.h ?_)
  k_with "compareOp NotIn str ref" => (k_here; k_dflt (refine' kdg_notin (knd := PySem.strKind _ _) ?N ?m ?d ?l (strKind_is _ _ _ _) _ ?v ?_; (case N => k_asm); (case m => k_mem); (case d => assumption); (case l => assumption); (case v => assumption)))
  k_with "setItem ref str" => (k_here; k_dflt (refine' kda_set (knd := PySem.strKind _ _) ?F ?N ?U ?d (strKind_is _ _ _ _) ?z ?_; (case F => k_asm); (case N => k_asm); (case U => k_updF); (case d => assumption); (case z => (rw [sizeLine_eq]; omega))); intro h9 o9 F9 N9 d9; (try dsimp only at N9); (try k_sweep))
  k_with "call ref" => (k_here; (with_reducible show wpAny _ _ (call (Value.ref 218) _) _ _ _); k_dflt (refine' cc_use (c_fm _ _ _ _ _ _ _ (by assumption)) ?B ?F ?X ?N ?T ?hd ?hu ?_; (case B => k_asm); (case F => k_asm); (case X => k_asm); (case N => k_asm); (case T => k_asm); (case hd => ktr_room); (case hu => ktr_units)); rintro v9 h9 tk9 n9 ⟨⟨t9, q9⟩, q8⟩ F9 N9; subst q9 q8; (try k_sweep))
  k_with "call ref" => (k_here; (with_reducible show wpAny _ _ (call (Value.ref 49) _) _ _ _); k_dflt (refine' cc_use (c_gt_any _ _ _ _ _ _ _ _ _ _ ?hz _ _ _ _ _ _ _ _ _ _ _ _ _ _ _ _ _ _ _ _ _ _ _ _ _ _ _ _ _ _ ?hcb ?hvs ?hoc ?hord ?offl ?offd ?offp) ?B ?F ?X ?N ?T ?hd ?hu ?_; (case B => k_asm); (case F => k_asm); (case X => k_asm); (case N => k_asm); (case T => k_asm); (case hd => ktr_room); (case hu => ktr_units); (case hz => omega); (case hcb => assumption); (case hvs => assumption); (case hoc => assumption); (case hord => assumption); (case offl => exact off2 (by assumption) (by omega) (by omega)); (case offd => exact off2 (by assumption) (by omega) (by omega)); (case offp => exact off2 (by assumption) (by omega) (by omega))); rintro v9 h9 tk9 n9 ⟨g9, ln9, tl9, nl9, np9, q8⟩ F9 N9; subst q8; (try k_sweep))
  have hpn' : Str.ofString "" ≠ pathS wd := fun e => hpn (by rw [← e]; rfl)
  revert X; k_fill; intro X
  (conv => pattern (isTrue (testOf ntOuter) _ _); arg 1; whnf)
  (conv => pattern (eval (testOf ntOuter) _); arg 1; whnf)
  (conv => pattern (execs (bodyOf ntOuter) _); arg 1; whnf)
  subst henv
  k_steps
  refine ⟨?_⟩
  rename Fr _ _ _ _ => FF9
  rename News _ _ _ _ => NN9
  k_dflt (refine' nt_loop w mean mg mb _ _ rfl ?B ?X ?T ?hd ?hu hx hk hw ?hm hD hv (fr_eq FF9 (nt_map_self rfl rfl rfl)) NN9 ?hQ)
  case B => k_asm
  case X => k_asm
  case T => k_asm
  case hd => ktr_room
  case hu => ktr_units
  case hm => k_mem
  intro h8 tk8 tc8 tS8 F8 N8
  rw [hc.e] at F8
  clear FF9 NN9
  k_steps
  · rename Fr _ _ _ _ => FF9
    rename News _ _ _ _ => NN9
    exact ⟨_, _, _, _, _, _, _, _, pb, o2, kvs2, .inl ⟨by assumption, rfl, rfl⟩, by assumption, hD2, rfl, fr_eq FF9 (ot_map_self rfl rfl rfl rfl rfl), NN9⟩
  · refine ⟨?_⟩
    rename Fr _ _ _ _ => FF9
    rename News _ _ _ _ => NN9
    have hws' := hws (by assumption)
    k_dflt (refine' fp_loop w mean mg mb ((D1, o1) :: (D2, _) :: rest) hcb hvs hoc hord ?offl ?offd ?offp _ rfl ?B ?X ?T ?hd ?hu hws' ?hm hD lo hkv hq ?hz (fr_eq FF9 (lp_map_self rfl rfl)) ?hch NN9 ?hQ2)
    case offl => exact off2 (by assumption) (by omega) (by omega)
    case offd => exact off2 (by assumption) (by omega) (by omega)
    case offp => exact off2 (by assumption) (by omega) (by omega)
    case B => k_asm
    case X => k_asm
    case T => k_asm
    case hd => ktr_room
    case hu => ktr_units
    case hm => exact List.mem_cons_self
    case hz => omega
    case hch => rfl
    intro h7 tk7 np7 pb7 v7 hq7 F7 N7
    clear FF9 NN9
    have hz7 : pb7.length < 1000 := by
      have e1 := strsAre_len hq7
      have e2 := strsAre_len hq
      rw [List.length_append] at e1
      simp only [List.length_cons, List.length_nil] at e1
      omega
    k_steps
    rename Fr _ _ _ _ => FF9
    rename News _ _ _ _ => NN9
    exact ⟨_, _, _, _, _, _, _, _, pb7, _, _, .inr ⟨by assumption, hq7, rfl⟩, by assumption, by assumption, rfl, fr_eq FF9 (ot_map_self rfl rfl rfl rfl rfl), NN9⟩
end
section
structure NotedIs (x : Nat → Nat) (k0 : Nat) (kvs : List (Str × Value)) (ns : List (List Nat)) : Prop where
  ks : kvs.map (·.1) = ns.map (fun u => sigT (chX x k0 u))
  vs : StrsAre (kvs.map (·.2)) (ns.map pathS)
theorem run_len (sm : List Nat → List Nat → Bool) : ∀ j, (bRun sm j).1.length ≤ 1 + 4 * j
  | 0 => Nat.le_refl _
  | j + 1 => by
    have ih := run_len sm j
    show (bStep sm (bRun sm j)).1.length ≤ _
    revert ih
    generalize bRun sm j = st
    obtain ⟨Q, ns⟩ := st
    intro ih
    cases Q with
    | nil => simp [bStep]
    | cons p Q =>
      unfold bStep
      dsimp only at ih ⊢
      split
      · simp at ih ⊢; omega
      · simp at ih ⊢; omega
theorem run_still (sm : List Nat → List Nat → Bool) (j : Nat) (h : (bRun sm j).1 = []) : ∀ n, bRun sm (j + n) = bRun sm j
  | 0 => rfl
  | n + 1 => by
    show bStep sm (bRun sm (j + n)) = _
    rw [run_still sm j h n]
    revert h
    generalize bRun sm j = st
    obtain ⟨Q, ns⟩ := st
    intro h
    dsimp only at h
    subst h
    rfl
theorem any_rows (x : Nat → Nat) (k : Nat) (hx : ∀ i, x i < 16) (hk : k < 16) (q : List Nat) : ∀ (kvs : List (Str × Value)) (ns : List (List Nat)), kvs.map (·.1) = ns.map (fun u => sigT (chX x k u)) → kvs.any (fun kv => kv.1 = sigT (chX x k q)) = ns.any (fun n => smX x n q)
  | [], [], _ => rfl
  | [], _ :: _, h => by cases h
  | _ :: _, [], h => by cases h
  | p :: kvs, n :: ns, h => by
    rw [List.map_cons, List.map_cons] at h
    injection h with h1 h2
    rw [List.any_cons, List.any_cons, any_rows x k hx hk q kvs ns h2]
    congr 1
    rw [h1]
    have := row_same x k hx hk n q
    by_cases e : smX x n q = true
    · rw [e]; exact decide_eq_true (this.mpr e)
    · rw [Bool.not_eq_true] at e
      rw [e]; exact decide_eq_false fun z => by rw [this.mp z] at e; cases e
theorem ot_stop (w : World) (mean : ExcName → Option Value) (mg mb : Str → Option Value) (rest : List (Addr × Obj)) {dp un : Nat} {gd : Option (List Code)} {cn : Str} {nm : List (Str × NameKind)} {ig ic : Bool} {mr : List (Str × Const)} {a : Addr} {ccd : Value} {cl : List (Str × Addr)} {outer : List Env} {A₀ : Around} {base h₀ : Heap} {L : Addr} {m0 : Str → Option Value}
    {L1 D1 D2 x2 : Nat} {k0 : Int} {tS tst : Tok} {s : Shared}
    (env : Env) (henv : env = envOf (Str.ofString "_law_noted") (scopeOf (topSt 46)) L 244 (.ref 243))
    (B : Below A₀ base (envX cn ⟨.function, nm, ig, ic, mr⟩ L1 a ccd cl :: outer) h₀) (X : (Mine.hd.heap_39 w.params).In h₀) (T : Top topProg LOOSE mean mg mb h₀) (hd : dp + 16 < recursionLimit) (hu : un + 400 < cLine)
    (F : Fr h₀ L s.heap (otMap x2 D1 D2 k0 tst (.str (Str.ofString "") tS) m0)) (N : News h₀ L s.heap rest) :
    wpAny (model PySem.Challenge.rw_un0033_01.prog w) ((ktrTop dp un gd cn ⟨.function, nm, ig, ic, mr⟩ L1 a ccd cl outer).deeper env) (isTrue (testOf ntOuter) env (eval (testOf ntOuter) env)) (fun b s₂ => b = false ∧ KeepIt (∃ (h' : Heap) (tk' : Nat), s₂ = { s with heap := h', toks := tk' } ∧ Fr h₀ L h' (otMap x2 D1 D2 k0 tst (.str (Str.ofString "") tS) m0) ∧ News h₀ L h' rest)) (fun _ _ => False) s := by
  k_with_none
  k_with "call builtin:issubclass" => (k_here; k_dflt (refine' iss_str ?k1 ?k2 ?k3 ?_; (case k1 => k_asm); (case k2 => k_asm); (case k3 => k_mem); k_whole); intro h' tk' F' N'; (try k_sweep))
  k_with "call type:list" => (k_here; (with_reducible show wpAny _ _ (call (Value.type _) [Value.str _ _]) _ _ _); k_dflt (refine' list_strK ?k0 ?k1 ?k2 ?k3 ?_; (case k0 => exact rfl); (case k1 => k_asm); (case k2 => k_asm); (case k3 => (rw [sizeLine_eq]; omega)); k_whole); intro l' h' tk' its' n' hch' F' N' l1; (try k_lt l1); (try k_sweep))
  k_with "truthy ref" => (k_here; (with_reducible show wpAny _ _ (truthy (Value.ref _)) _ _ _); k_dflt (first
        | (refine' truthy_cons ?N ?m ?z ?_; (case N => k_asm); (case m => k_mem); (case z => omega); k_whole)
        | (refine' truthy_nil ?N ?m ?_; (case N => k_asm); (case m => k_mem); k_whole)))
  k_with "call builtin:list.pop" => (k_here; (with_reducible show wpAny _ _ (call (Value.builtin _) [Value.ref _, Value.int _ _]) _ _ _); k_dflt (refine' pop0 ?F ?N ?U ?z ?_; (case F => k_asm); (case N => k_asm); (case U => k_upd); (case z => omega); k_whole); intro h' F' N'; (try dsimp only [List.nil_append, List.cons_append] at N'); (try k_sweep))
  revert X; k_fill; intro X
  (conv => pattern (isTrue (testOf ntOuter) _ _); arg 1; whnf)
  (conv => pattern (eval (testOf ntOuter) _); arg 1; whnf)
  subst henv
  k_steps
  exact ⟨_, _, rfl, F, N⟩
theorem ntOuter_test : ∃ pos : Pos, ntOuter = .While (testOf ntOuter) (bodyOf ntOuter) [] pos := ⟨_, rfl⟩
theorem shortlex_path : ∀ w ∈ shortlex, (pathS w).length < 100 ∧ ((pathS w).length : Int) ≠ 0 := by decide +kernel
theorem word_path {w : List Nat} (h : wordOk w) : (pathS w).length < 100 ∧ ((pathS w).length : Int) ≠ 0 := by
  rcases h with rfl | ⟨v, hv, i, hi, rfl⟩
  · exact shortlex_path [] (by decide)
  · have P := path_ok hv hi
    refine ⟨Nat.lt_trans P.ln (by omega), fun e => ?_⟩
    have := P.ne
    have t : ∀ w ∈ shortlex, ∀ i : Fin 4, ((pathS (w ++ [i.val])).length : Int) ≠ 0 := by decide +kernel
    exact t v hv ⟨i, hi⟩ e
/-- what stands at the head of a turn -/
def AtHead (st : List (List Nat) × List (List Nat)) (vP : Value) (pb : List Value) : Prop :=
  match st.1 with
  | [] => pb = [] ∧ ∃ t, vP = .str (Str.ofString "") t
  | q :: Q => (∃ t, vP = .str (pathS q) t) ∧ StrsAre pb (Q.map pathS)
theorem atHead_of {st : List (List Nat) × List (List Nat)} {vP : Value} {pb : List Value} (h : StrsAre pb (st.1.map pathS)) (g : GtOut pb vP) : AtHead st vP pb.tail := by
  unfold AtHead
  obtain ⟨Q, ns⟩ := st
  cases Q with
  | nil =>
    cases h
    exact ⟨rfl, g.n rfl⟩
  | cons q Q =>
    cases h with
    | cons y t h' => exact ⟨⟨t, g.c _ _ rfl⟩, h'⟩
theorem ot_loop (w : World) (mean : ExcName → Option Value) (mg mb : Str → Option Value) (rest : List (Addr × Obj)) {dp un : Nat} {gd : Option (List Code)} {cn : Str} {nm : List (Str × NameKind)} {ig ic : Bool} {mr : List (Str × Const)} {a : Addr} {ccd : Value} {cl : List (Str × Addr)} {outer : List Env} {A₀ : Around} {base h₀ : Heap} {L : Addr} {m0 : Str → Option Value}
    {L1 D1 D2 k0 : Nat} {tst : Tok} {vP : Value} {x : Nat → Nat} {s : Shared} {tl : Tok} {ln : Int} {nl np : Nat} {o1 o2 : Obj} {kvs : List (Str × Value)} {Q : Flow → Shared → Prop} {E : Value → Shared → Prop}
    {f cb c l x2 d2 p2 x1 d1 p1 : Nat} {ocb oc : Obj} {vs : Array Value} {q : Str} {tq : Tok} {dc pm ct : Value} {k1 k2 k3 k4 tw j1 j2 j3 j4 j5 tj tv : Tok}
  (hcb : ocb.data = .fields vs) (hvs : vs[1]? = some (.str q tq)) (hoc : oc.data = .cell (some (.ref l)))
  (hord : c < l ∧ l < d1 ∧ d1 < x1 ∧ x1 < p1 ∧ p1 < cb ∧ cb < f ∧ f < d2 ∧ d2 < x2 ∧ x2 < p2) (offl : ∀ p ∈ rest, p.1 ≠ l) (offd : ∀ p ∈ rest, p.1 ≠ d2) (offp : ∀ p ∈ rest, p.1 ≠ p2)
    (env : Env) (henv : env = envOf (Str.ofString "_law_noted") (scopeOf (topSt 46)) L 244 (.ref 243))
    (B : Below A₀ base (envX cn ⟨.function, nm, ig, ic, mr⟩ L1 a ccd cl :: outer) h₀) (X : (Mine.hd.heap_39 w.params).In h₀) (T : Top topProg LOOSE mean mg mb h₀) (hd : dp + 16 < recursionLimit) (hu : un + 400 < cLine)
    (hx : ∀ i, x i < 16) (hk : k0 < 16)
    (hD : o1.IsDictOf (PySem.strKind PySem.Challenge.rw_un0033_01.prog w) kvs) (lo : (D1 == sysModules) = false) (hkv : kvs.map (·.1) = [letS 0, letS 1, letS 2, letS 3]) (hv : ∀ i, i < 4 → ∃ t, valueAt kvs (letS i) = some (.int ((rgT (x i) : Nat) : Int) t))
    (hD2 : o2.IsDictOf (PySem.strKind PySem.Challenge.rw_un0033_01.prog w) []) (lo2 : (D2 == sysModules) = false)
    (hDD : p2 < D1 ∧ D1 < D2) (off2' : ∀ p ∈ rest, p.1 ≠ D2) (hP : ∃ t, vP = .str (Str.ofString "/") t)
    (F : Fr h₀ L s.heap (otMap x2 D1 D2 (((32768 + rgT k0 : Nat)) : Int) tst vP m0)) (N : News h₀ L s.heap ((f, oFn q dc pm ct cb c) :: (cb, ocb) :: (c, oc) :: (l, listOf [].toArray nl) :: (x2, instObj 59 d2) :: (d2, oD2 w k1 k2 k3 k4 ln tl x1 tw p2) :: (p2, listOf [].toArray np) :: (x1, instObj 59 d1) :: (d1, oD1 w j1 j2 j3 j4 j5 tj tv p1 f) :: (D1, o1) :: (D2, o2) :: rest))
    (hQ : ∀ (h' : Heap) (tk' nl' np' tl' : Nat) (ln' : Int) (m1 : Str → Option Value) (vP' : Value) (o2' : Obj) (kvs2' : List (Str × Value)), NotedIs x k0 kvs2' (bDue (smX x) [] shortlex) → o2'.IsDictOf (PySem.strKind PySem.Challenge.rw_un0033_01.prog w) kvs2' →
      Fr h₀ L h' (otMap x2 D1 D2 (((32768 + rgT k0 : Nat)) : Int) tst vP' m1) → News h₀ L h' ((f, oFn q dc pm ct cb c) :: (cb, ocb) :: (c, oc) :: (l, listOf [].toArray nl') :: (x2, instObj 59 d2) :: (d2, oD2 w k1 k2 k3 k4 ln' tl' x1 tw p2) :: (p2, listOf [].toArray np') :: (x1, instObj 59 d1) :: (d1, oD1 w j1 j2 j3 j4 j5 tj tv p1 f) :: (D1, o1) :: (D2, o2') :: rest) → Q .next { s with heap := h', toks := tk' }) :
    wpAny (model PySem.Challenge.rw_un0033_01.prog w) ((ktrTop dp un gd cn ⟨.function, nm, ig, ic, mr⟩ L1 a ccd cl outer).deeper env) (exec ntOuter env) Q E s := by
  refine wpAny_mono (Q := Q) (E := fun _ _ => False) ?_ (fun _ _ x => x) (fun _ _ x => x.elim)
  obtain ⟨pos, e1⟩ := ntOuter_test
  rw [e1]
  obtain ⟨t0, rfl⟩ := hP
  refine While_inv (n₀ := 66) (fun n m' n' => ∃ j vP' pb' o2' kvs2' m1 nl' np' tl' ln', j ≤ 66 ∧ n = 66 - j ∧ m' = otMap x2 D1 D2 (((32768 + rgT k0 : Nat)) : Int) tst vP' m1 ∧ n' = ((f, oFn q dc pm ct cb c) :: (cb, ocb) :: (c, oc) :: (l, listOf [].toArray nl') :: (x2, instObj 59 d2) :: (d2, oD2 w k1 k2 k3 k4 ln' tl' x1 tw p2) :: (p2, listOf pb'.toArray np') :: (x1, instObj 59 d1) :: (d1, oD1 w j1 j2 j3 j4 j5 tj tv p1 f) :: (D1, o1) :: (D2, o2') :: rest) ∧ o2'.IsDictOf (PySem.strKind PySem.Challenge.rw_un0033_01.prog w) kvs2' ∧ NotedIs x k0 kvs2' (bRun (smX x) j).2 ∧ AtHead (bRun (smX x) j) vP' pb')
    F N ⟨0, _, [], o2, [], m0, nl, np, tl, ln, by omega, rfl, rfl, rfl, hD2, ⟨rfl, .nil⟩, ⟨t0, rfl⟩, .nil⟩ ?_ (hE := PassesOwn.never)
  rintro n m₁ news₁ h₁ tk₁ F1 N1 ⟨j, vP', pb', o2', kvs2', m1, nl', np', tl', ln', hj, rfl, rfl, rfl, hD2', hN, hH⟩
  cases hst : (bRun (smX x) j).1 with
  | nil =>
    unfold AtHead at hH
    rw [hst] at hH
    obtain ⟨rfl, t, rfl⟩ := hH
    refine wpAny_mono (ot_stop w mean mg mb _ (s := { s with heap := h₁, toks := tk₁ }) env henv B X T hd hu F1 N1) (fun b s₂ h => ?_) fun _ _ x => x
    obtain ⟨rfl, h', tk', rfl, F2, N2⟩ := h
    rw [if_neg Bool.false_ne_true]
    have e2 : bRun (smX x) 66 = bRun (smX x) j := by
      have := run_still (smX x) j hst (66 - j)
      rwa [show j + (66 - j) = 66 by omega] at this
    rw [← e2, (plain_end x).2] at hN
    exact hQ h' tk' nl' np' tl' ln' m1 _ o2' kvs2' hN hD2' F2 N2
  | cons q Q9 =>
    unfold AtHead at hH
    rw [hst] at hH
    obtain ⟨⟨tS, rfl⟩, hq⟩ := hH
    have hj' : j < 66 := by
      rcases Nat.lt_or_ge j 66 with h | h
      · exact h
      · have : j = 66 := by omega
        subst this
        rw [(plain_end x).1] at hst
        cases hst
    have hqm : q ∈ (bRun (smX x) j).1 := by rw [hst]; exact List.mem_cons_self
    have hwq : wordOk q := queue_word x j hj q hqm
    obtain ⟨wp1, wp2⟩ := word_path hwq
    have hlen : Q9.length ≤ 1 + 4 * j := by
      have := run_len (smX x) j
      rw [hst, List.length_cons] at this
      omega
    have hpbl : pb'.length < 800 := by
      have := strsAre_len hq
      rw [List.length_map] at this
      omega
    have hkl : kvs2'.length < 1000 := by
      have h1 := congrArg List.length hN.ks
      rw [List.length_map, List.length_map] at h1
      have h2 := (plain_mid x j hj').2.1
      omega
    have hst2 : bRun (smX x) j = (q :: Q9, (bRun (smX x) j).2) := by rw [← hst]
    have hrun : bRun (smX x) (j + 1) = if ((bRun (smX x) j).2.any fun n => smX x n q) = true then (Q9, (bRun (smX x) j).2) else (Q9 ++ [q ++ [0], q ++ [1], q ++ [2], q ++ [3]], (bRun (smX x) j).2 ++ [q]) := by
      show bStep (smX x) (bRun (smX x) j) = _
      rw [hst2]
      rfl
    have hany : (valueAt kvs2' (sigT (chX x k0 q))).isSome = (bRun (smX x) j).2.any fun n => smX x n q := by
      rw [valueAt_isSome_eq_any, any_rows x k0 hx hk q _ _ hN.ks]
    refine wpAny_mono (ot_turn w mean mg mb rest (s := { s with heap := h₁, toks := tk₁ }) (b := (bRun (smX x) j).2.any fun n => smX x n q) (cc := chX x k0 q) (wd := q) (x := x) (QS := Q9.map pathS) hcb hvs hoc hord offl offd offp env henv B X T hd hu hx hk hwq (fun hb => ?_) ⟨rfl⟩ (chX_lt x k0 hx hk q) wp1 wp2 hD lo hkv hv hD2' lo2 hany hkl hDD off2' hq hpbl F1 N1) (fun b s₂ h => ?_) fun _ _ x => x
    · refine run_short x (j + 1) hj' q ?_
      rw [hrun, if_neg (by rw [hb]; exact Bool.false_ne_true)]
      exact List.mem_append_right _ (List.mem_singleton.mpr rfl)
    · obtain ⟨rfl, h⟩ := h
      rw [if_pos rfl]
      refine wpAny_mono h (fun fl s₃ h₃ => ?_) fun _ _ x => x
      cases fl with
      | ret v => exact h₃.elim
      | brk => exact h₃.elim
      | cont => exact h₃.elim
      | next =>
        obtain ⟨h', tk', nl2, np2, tl2, ln2, m2, vP2, pb2, o3, kvs3, hor, hg, hD3, rfl, F2, N2⟩ := h₃
        refine WhileStep.intro F2 N2 (n' := 66 - (j + 1)) (by omega) ⟨j + 1, vP2, pb2.tail, o3, kvs3, m2, nl2, np2, tl2, ln2, hj', rfl, rfl, rfl, hD3, ?_, ?_⟩
        · rcases hor with ⟨hb, rfl, rfl⟩ | ⟨hb, hq2, rfl⟩
          · rw [hrun, if_pos hb]; exact hN
          · rw [hrun, if_neg (by rw [hb]; exact Bool.false_ne_true)]
            have hnone : valueAt kvs2' (sigT (chX x k0 q)) = none := by
              rw [hb] at hany
              cases e : valueAt kvs2' (sigT (chX x k0 q)) with
              | none => rfl
              | some v => rw [e] at hany; cases hany
            rw [stored_absent hnone]
            refine ⟨?_, ?_⟩
            · rw [List.map_append, List.map_append, hN.ks]; rfl
            · rw [List.map_append, List.map_append]; exact strs_snoc hN.vs
        · refine atHead_of ?_ hg
          rcases hor with ⟨hb, rfl, rfl⟩ | ⟨hb, hq2, rfl⟩
          · rw [hrun, if_pos hb]; exact hq
          · rw [hrun, if_neg (by rw [hb]; exact Bool.false_ne_true)]
            dsimp only
            rw [List.map_append]; exact hq2
end
section
open PySem.Calls PySem.NumText
theorem oct_text {M : Model} {A : Around} {E : Value → Shared → Prop} {s : Shared} {Q : Value → Shared → Prop} {v : Value} {text : List Nat} {n : Int}
    (hs : (text.takeWhile (· != 0)).length ≤ 640) (hr : (int_private% "readNumeral") 0 8 (text.takeWhile (· != 0)) = (int_private% "Numeral.value") n)
    (ha : ((text.takeWhile (· != 0)).length == text.length) = true) (h : Q (.int n s.toks) { s with toks := s.toks + 1 }) :
    wpAny M A ((int_private% "intFromText") v text 8) Q E s := by
  obtain ⟨hp, g, d, tk, os⟩ := s
  repeat (any_goals (first
    | assumption
    | (with_reducible refine wpAny_ite_true (decide_eq_true hs) ?_)
    | (with_reducible refine wpAny_ite_true (decide_eq_true ha) ?_)
    | wp_step))
  all_goals (try rw [hr])
  all_goals (try dsimp only)
  repeat (any_goals (first
    | assumption
    | (with_reducible refine wpAny_ite_true (decide_eq_true hs) ?_)
    | (with_reducible refine wpAny_ite_true (decide_eq_true ha) ?_)
    | wp_step))
structure HidO (p : Prop) : Prop where
  out : p
theorem gives_oct {x : PySem.Str} {u v : Tok} {n : Int} (hk : HidO ((numSeenOf x).length ≤ 640 ∧ (int_private% "readNumeral") 0 8 (numSeenOf x) = (int_private% "Numeral.value") n ∧ ((numSeenOf x).length == (numTextOf x).length) = true)) :
    Gives (Builtin.«int.__new__» ⟨[.type "int", .str x u, .int 8 v], []⟩) (.int n) :=
  .of_wp fun M A E s Q h => by
    obtain ⟨hp, g, d, tk, os⟩ := s
    have f1 := F.conv_sub_int
    have f2 := F.madeHere_int
    have f3 := KIN.str_int
    have f4 := KIN.str_idx
    have f5 := KIN.str_trunc
    have f6 : typeOf (.str x u) = pure (.type "str") := rfl
    repeat (any_goals (first
      | assumption
      | ((with_reducible show wpAny _ _ ((int_private% "intFromText") _ _ _) _ _ _); refine oct_text hk.out.1 hk.out.2.1 hk.out.2.2 ?_)
      | wp_step))
    all_goals first | exact ⟨_, rfl, h⟩ | skip
end
section
open PySem.Calls PySem.NumText
def octD (k : Nat) : Str := Str.ofString (["0", "400", "100", "500", "4000", "4400", "4100", "4500", "2", "402", "102", "502", "4002", "4402", "4102", "4502"].getD k "")
theorem oct_hid (k : Nat) (hk : k < 16) : HidO ((numSeenOf (octD k)).length ≤ 640 ∧ (int_private% "readNumeral") 0 8 (numSeenOf (octD k)) = (int_private% "Numeral.value") ((rgT k : Nat) : Int) ∧ ((numSeenOf (octD k)).length == (numTextOf (octD k)).length) = true) := by
  match k, hk with
  | 0, _ => exact ⟨by decide +kernel, by kernel_rfl, by decide +kernel⟩
  | 1, _ => exact ⟨by decide +kernel, by kernel_rfl, by decide +kernel⟩
  | 2, _ => exact ⟨by decide +kernel, by kernel_rfl, by decide +kernel⟩
  | 3, _ => exact ⟨by decide +kernel, by kernel_rfl, by decide +kernel⟩
  | 4, _ => exact ⟨by decide +kernel, by kernel_rfl, by decide +kernel⟩
  | 5, _ => exact ⟨by decide +kernel, by kernel_rfl, by decide +kernel⟩
  | 6, _ => exact ⟨by decide +kernel, by kernel_rfl, by decide +kernel⟩
  | 7, _ => exact ⟨by decide +kernel, by kernel_rfl, by decide +kernel⟩
  | 8, _ => exact ⟨by decide +kernel, by kernel_rfl, by decide +kernel⟩
  | 9, _ => exact ⟨by decide +kernel, by kernel_rfl, by decide +kernel⟩
  | 10, _ => exact ⟨by decide +kernel, by kernel_rfl, by decide +kernel⟩
  | 11, _ => exact ⟨by decide +kernel, by kernel_rfl, by decide +kernel⟩
  | 12, _ => exact ⟨by decide +kernel, by kernel_rfl, by decide +kernel⟩
  | 13, _ => exact ⟨by decide +kernel, by kernel_rfl, by decide +kernel⟩
  | 14, _ => exact ⟨by decide +kernel, by kernel_rfl, by decide +kernel⟩
  | 15, _ => exact ⟨by decide +kernel, by kernel_rfl, by decide +kernel⟩
  | n + 16, h => exact absurd h (by omega)
theorem typeCall_int_2 (a b : Value) : checkTypeCall "int" ⟨[a, b], []⟩ = pure () := by kernel_rfl
theorem newCall_int_2 (a b : Value) : checkBuiltinCall "int.__new__" ⟨[.type "int", a, b], []⟩ = pure () := by kernel_rfl
theorem call_oct {prog : Program} {w : World} {A : Around} {E : Value → Shared → Prop} {s : Shared} {Q : Value → Shared → Prop} {t u : Tok} (k : Nat) (hk : k < 16) (h : Q (.int ((rgT k : Nat) : Int) s.toks) { s with toks := s.toks + 1 }) :
    wpAny (model prog w) A (call (.type "int") [.str (octD k) t, .int 8 u]) Q E s :=
  callType_new F.called_int F.newNe_int (typeCall_int_2 _ _) (newCall_int_2 _ _) (fun obj => F.args_object_init_3 obj _ _) F.entry_int_new (gives_oct (oct_hid k hk)).meets (show (Made.int _).post _ s from ⟨rfl, h⟩)
/-- what a change's line is made of -/
def octC (k : Nat) : List Nat := (octD k).cps.toList
theorem octL_is : ∀ k : Fin 16, (octL k.val).cps.toList = 32 :: (octC k.val ++ [10]) := by decide +kernel
def chrS (c : Nat) : Str := ⟨#[c]⟩
theorem octC_good : ∀ k : Fin 16, ∃ d, ∃ ds, octC k.val = d :: ds ∧ ds.length < 10 ∧ (48 ≤ d ∧ d ≤ 55) ∧ (∀ c ∈ ds, 48 ≤ c ∧ c ≤ 55) ∧ (ds.map chrS).foldl (fun T S => T ++ S) (Str.ofString "" ++ chrS d) = octD k.val := by
  intro k
  refine ⟨(octC k.val).headD 0, (octC k.val).tail, ?_⟩
  revert k
  decide +kernel
theorem good_dig : ∀ i : Fin 8, GoodS (chrS (48 + i.val)) := fun i => ⟨by revert i; decide +kernel, by revert i; decide +kernel, by revert i; decide +kernel, by revert i; decide +kernel, by revert i; decide +kernel⟩
theorem good_let : ∀ i : Fin 4, GoodS (chrS (97 + i.val)) := fun i => ⟨by revert i; decide +kernel, by revert i; decide +kernel, by revert i; decide +kernel, by revert i; decide +kernel, by revert i; decide +kernel⟩
theorem ws_sp : WsS (chrS 32) := ⟨by decide +kernel, by decide +kernel, by decide +kernel⟩
theorem ws_nl : WsS (chrS 10) := ⟨by decide +kernel, by decide +kernel, by decide +kernel⟩
theorem good_d {c : Nat} (h : 48 ≤ c ∧ c ≤ 55) : GoodS (chrS c) := by
  have := good_dig ⟨c - 48, by omega⟩
  rwa [show 48 + (c - 48) = c by omega] at this
theorem chs_cons {its : List Value} {c : Nat} {cs : List Nat} (h : Chs its (c :: cs)) : ∃ t its', its = Value.str (chrS c) t :: its' ∧ Chs its' cs := by
  obtain ⟨hl, ha⟩ := h
  cases its with
  | nil => cases hl
  | cons v its' =>
    obtain ⟨c', t, e1, e2⟩ := ha 0 v rfl
    have : c' = c := (Option.some.inj e1).symm
    subst this
    exact ⟨t, its', by rw [e2]; rfl, Nat.succ.inj hl, fun i v hv => ha (i + 1) v hv⟩
theorem chs_app : ∀ {ds : List Nat} {its : List Value} {cs : List Nat}, Chs its (ds ++ cs) → ∃ (ch : List (Str × Tok)) (its' : List Value), its = strsV ch ++ its' ∧ ch.map (·.1) = ds.map chrS ∧ Chs its' cs
  | [], its, cs, h => ⟨[], its, rfl, rfl, h⟩
  | d :: ds, its, cs, h => by
    obtain ⟨t, its', rfl, h'⟩ := chs_cons h
    obtain ⟨ch, its2, rfl, e, h2⟩ := chs_app h'
    exact ⟨(chrS d, t) :: ch, its2, rfl, by rw [List.map_cons, e]; rfl, h2⟩
theorem tokT_map : ∀ (ch : List (Str × Tok)) (T : Str), tokT T ch = (ch.map (·.1)).foldl (fun T S => T ++ S) T
  | [], _ => rfl
  | p :: ch, T => by
    show tokT (T ++ p.1) ch = _
    rw [tokT_map ch]; rfl
end
section
open PySem.Calls PySem.NumText
def lineC (x : Nat → Nat) (i : Nat) : List Nat := (97 + i) :: 32 :: (octC (x i) ++ [10])
def remF (x : Nat → Nat) : Nat → List Nat
  | 0 => []
  | n + 1 => lineC x (3 - n) ++ remF x n
theorem octC_len (k : Nat) (hk : k < 16) : (octC k).length ≤ 10 := by
  obtain ⟨d, ds, e, h, _⟩ := octC_good ⟨k, hk⟩
  dsimp only at e
  rw [e, List.length_cons]; omega
theorem remF_len (x : Nat → Nat) (hx : ∀ i, x i < 16) : ∀ n, (remF x n).length ≤ 13 * n
  | 0 => Nat.le_refl _
  | n + 1 => by
    have := remF_len x hx n
    have h2 := octC_len (x (3 - n)) (hx _)
    show (lineC x (3 - n) ++ remF x n).length ≤ _
    unfold lineC
    simp only [List.length_append, List.length_cons, List.length_nil]
    omega
theorem c_gt_oct (w : World) (mean : ExcName → Option Value) (mg mb : Str → Option Value) (rest : List (Addr × Obj)) (tl : Tok) (ln : Int) (lf : List Value) (nl np k : Nat) (cs : List Nat) (hk : k < 16) (hcs : Chs lf (octC k ++ 10 :: cs)) (hcl : cs.length < 300) (f cb c l x2 d2 p2 x1 d1 p1 : Nat) (ocb oc : Obj) (vs : Array Value) (q : Str) (tq : Tok) (dc pm ct : Value) (k1 k2 k3 k4 tw j1 j2 j3 j4 j5 tj tv : Tok)
  (hcb : ocb.data = .fields vs) (hvs : vs[1]? = some (.str q tq)) (hoc : oc.data = .cell (some (.ref l)))
  (hord : c < l ∧ l < d1 ∧ d1 < x1 ∧ x1 < p1 ∧ p1 < cb ∧ cb < f ∧ f < d2 ∧ d2 < x2 ∧ x2 < p2) (offl : ∀ p ∈ rest, p.1 ≠ l) (offd : ∀ p ∈ rest, p.1 ≠ d2) (offp : ∀ p ∈ rest, p.1 ≠ p2) :
  CC w mean mg mb 49 9 ((f, oFn q dc pm ct cb c) :: (cb, ocb) :: (c, oc) :: (l, listOf lf.toArray nl) :: (x2, instObj 59 d2) :: (d2, oD2 w k1 k2 k3 k4 ln tl x1 tw p2) :: (p2, listOf [].toArray np) :: (x1, instObj 59 d1) :: (d1, oD1 w j1 j2 j3 j4 j5 tj tv p1 f) :: rest) [.ref x2] (fun r n' => (∃ t, r = .str (octD k) t) ∧ ∃ lf' ln' tl' nl', Chs lf' cs ∧ n' = ((f, oFn q dc pm ct cb c) :: (cb, ocb) :: (c, oc) :: (l, listOf lf'.toArray nl') :: (x2, instObj 59 d2) :: (d2, oD2 w k1 k2 k3 k4 ln' tl' x1 tw p2) :: (p2, listOf [].toArray np) :: (x1, instObj 59 d1) :: (d1, oD1 w j1 j2 j3 j4 j5 tj tv p1 f) :: rest)) := by
  obtain ⟨d, ds, e, hl, hd, hds, ht⟩ := octC_good ⟨k, hk⟩
  dsimp only at e ht
  rw [e] at hcs
  obtain ⟨t0, its1, rfl, h1⟩ := chs_cons hcs
  obtain ⟨ch, its2, rfl, ech, h2⟩ := chs_app h1
  obtain ⟨tW, lf', rfl, h3⟩ := chs_cons h2
  have hchl : ch.length < 100 := by
    have := congrArg List.length ech
    rw [List.length_map, List.length_map] at this
    omega
  refine CC_mono (fun v n ⟨a, ln', tl', nl', b⟩ => ⟨a, lf', ln', tl', nl', h3, b⟩) (c_gt_read w mean mg mb rest tl t0 tW ln lf' nl np (chrS d) (chrS 10) (octD k) ch (good_d hd) ws_nl (fun p hp => ?_) ?_ hchl (by rw [h3.1]; exact hcl) f cb c l x2 d2 p2 x1 d1 p1 ocb oc vs q tq dc pm ct k1 k2 k3 k4 tw j1 j2 j3 j4 j5 tj tv hcb hvs hoc hord offl offd offp)
  · have : p.1 ∈ ds.map chrS := by rw [← ech]; exact List.mem_map.mpr ⟨p, hp, rfl⟩
    obtain ⟨c', hc', e'⟩ := List.mem_map.mp this
    rw [← e']; exact good_d (hds c' hc')
  · rw [tokT_map, ech]; exact ht
structure GtName (x : Nat → Nat) (n : Nat) (r : Value) (lf' : List Value) : Prop where
  z : n = 0 → (∃ t, r = .str (Str.ofString "") t) ∧ lf' = []
  s : ∀ n', n = n' + 1 → (∃ t, r = .str (letS (3 - n')) t) ∧ Chs lf' (octC (x (3 - n')) ++ 10 :: remF x n')
theorem tokT_let : ∀ i : Fin 4, tokT (Str.ofString "" ++ chrS (97 + i.val)) [] = letS i.val := by decide +kernel
theorem c_gt_name (w : World) (mean : ExcName → Option Value) (mg mb : Str → Option Value) (rest : List (Addr × Obj)) (tl : Tok) (ln : Int) (lf : List Value) (nl np n : Nat) (x : Nat → Nat) (hx : ∀ i, x i < 16) (hn : n ≤ 4) (hcs : Chs lf (remF x n)) (f cb c l x2 d2 p2 x1 d1 p1 : Nat) (ocb oc : Obj) (vs : Array Value) (q : Str) (tq : Tok) (dc pm ct : Value) (k1 k2 k3 k4 tw j1 j2 j3 j4 j5 tj tv : Tok)
  (hcb : ocb.data = .fields vs) (hvs : vs[1]? = some (.str q tq)) (hoc : oc.data = .cell (some (.ref l)))
  (hord : c < l ∧ l < d1 ∧ d1 < x1 ∧ x1 < p1 ∧ p1 < cb ∧ cb < f ∧ f < d2 ∧ d2 < x2 ∧ x2 < p2) (offl : ∀ p ∈ rest, p.1 ≠ l) (offd : ∀ p ∈ rest, p.1 ≠ d2) (offp : ∀ p ∈ rest, p.1 ≠ p2) :
  CC w mean mg mb 49 9 ((f, oFn q dc pm ct cb c) :: (cb, ocb) :: (c, oc) :: (l, listOf lf.toArray nl) :: (x2, instObj 59 d2) :: (d2, oD2 w k1 k2 k3 k4 ln tl x1 tw p2) :: (p2, listOf [].toArray np) :: (x1, instObj 59 d1) :: (d1, oD1 w j1 j2 j3 j4 j5 tj tv p1 f) :: rest) [.ref x2] (fun r n' => ∃ lf', GtName x n r lf' ∧ ∃ ln' tl' nl', n' = ((f, oFn q dc pm ct cb c) :: (cb, ocb) :: (c, oc) :: (l, listOf lf'.toArray nl') :: (x2, instObj 59 d2) :: (d2, oD2 w k1 k2 k3 k4 ln' tl' x1 tw p2) :: (p2, listOf [].toArray np) :: (x1, instObj 59 d1) :: (d1, oD1 w j1 j2 j3 j4 j5 tj tv p1 f) :: rest)) := by
  cases n with
  | zero =>
    have : lf = [] := List.eq_nil_of_length_eq_zero hcs.1
    subst this
    exact CC_mono (fun v n ⟨a, ln', tl', nl', b⟩ => ⟨[], ⟨fun _ => ⟨a, rfl⟩, fun _ h => (by cases h)⟩, ln', tl', nl', b⟩) (c_gt_end w mean mg mb rest tl ln nl np f cb c l x2 d2 p2 x1 d1 p1 ocb oc vs q tq dc pm ct k1 k2 k3 k4 tw j1 j2 j3 j4 j5 tj tv hcb hvs hoc hord offl offd offp)
  | succ n =>
    obtain ⟨t0, its1, rfl, h1⟩ := chs_cons hcs
    obtain ⟨tW, lf', rfl, h3⟩ := chs_cons h1
    have h4 : Chs lf' (octC (x (3 - n)) ++ 10 :: remF x n) := by
      have e : octC (x (3 - n)) ++ 10 :: remF x n = (octC (x (3 - n)) ++ [10]) ++ remF x n := by rw [List.append_assoc]; rfl
      rw [e]; exact h3
    have hl9 : lf'.length < 300 := by
      rw [h4.1, List.length_append, List.length_cons]
      have := octC_len (x (3 - n)) (hx _)
      have := remF_len x hx n
      omega
    exact CC_mono (fun v m ⟨a, ln', tl', nl', b⟩ => ⟨lf', ⟨fun h => (by cases h), fun n' h => (by injection h with h; subst h; exact ⟨a, h4⟩)⟩, ln', tl', nl', b⟩) (c_gt_read w mean mg mb rest tl t0 tW ln lf' nl np (chrS (97 + (3 - n))) (chrS 32) (letS (3 - n)) [] (good_let ⟨3 - n, by omega⟩) ws_sp (fun p hp => by cases hp) (tokT_let ⟨3 - n, by omega⟩) (by simp) hl9 f cb c l x2 d2 p2 x1 d1 p1 ocb oc vs q tq dc pm ct k1 k2 k3 k4 tw j1 j2 j3 j4 j5 tj tv hcb hvs hoc hord offl offd offp)
end
section
open PySem.Calls PySem.NumText
def ntW1 : Stmt := kidOf (topSt 46) 2
abbrev rdMap (x2 D : Nat) (P : Value) (m0 : Str → Option Value) : Str → Option Value := fun y =>
  if y = Str.ofString "name" then some P else if y = Str.ofString "lexer" then some (.ref x2) else if y = Str.ofString "changes" then some (.ref D) else m0 y
theorem rd_map_up {x2 D : Nat} {P P' : Value} {m0 : Str → Option Value} : ∀ y, (if y = Str.ofString "name" then some P' else rdMap x2 D P m0 y) = rdMap x2 D P' m0 y := by
  intro y
  unfold rdMap
  by_cases h : y = Str.ofString "name"
  · simp only [if_pos h]
  · simp only [if_neg h]
theorem off1 {z D : Nat} {o : Obj} {rest : List (Addr × Obj)} (h : ∀ p ∈ rest, p.1 ≠ z) (a : D ≠ z) : ∀ p ∈ (D, o) :: rest, p.1 ≠ z := fun p hp => by
  rcases List.mem_cons.mp hp with rfl | hp
  · exact a
  · exact h p hp
theorem rd_turn (w : World) (mean : ExcName → Option Value) (mg mb : Str → Option Value) (rest : List (Addr × Obj)) {dp un : Nat} {gd : Option (List Code)} {cn : Str} {nm : List (Str × NameKind)} {ig ic : Bool} {mr : List (Str × Const)} {a : Addr} {ccd : Value} {cl : List (Str × Addr)} {outer : List Env} {A₀ : Around} {base h₀ : Heap} {L : Addr} {m0 : Str → Option Value}
    {L1 D n k : Nat} {tn : Tok} {S : Str} {x : Nat → Nat} {s : Shared} {tl : Tok} {ln : Int} {lf : List Value} {nl np : Nat} {o1 : Obj} {kvs : List (Str × Value)}
    {f cb c l x2 d2 p2 x1 d1 p1 : Nat} {ocb oc : Obj} {vs : Array Value} {q : Str} {tq : Tok} {dc pm ct : Value} {k1 k2 k3 k4 tw j1 j2 j3 j4 j5 tj tv : Tok}
  (hcb : ocb.data = .fields vs) (hvs : vs[1]? = some (.str q tq)) (hoc : oc.data = .cell (some (.ref l)))
  (hord : c < l ∧ l < d1 ∧ d1 < x1 ∧ x1 < p1 ∧ p1 < cb ∧ cb < f ∧ f < d2 ∧ d2 < x2 ∧ x2 < p2) (offl : ∀ p ∈ rest, p.1 ≠ l) (offd : ∀ p ∈ rest, p.1 ≠ d2) (offp : ∀ p ∈ rest, p.1 ≠ p2)
    (env : Env) (henv : env = envOf (Str.ofString "_law_noted") (scopeOf (topSt 46)) L 244 (.ref 243))
    (B : Below A₀ base (envX cn ⟨.function, nm, ig, ic, mr⟩ L1 a ccd cl :: outer) h₀) (X : (Mine.hd.heap_39 w.params).In h₀) (T : Top topProg LOOSE mean mg mb h₀) (hd : dp + 16 < recursionLimit) (hu : un + 400 < cLine)
    (hx : ∀ i, x i < 16) (hk : k < 16) (hS : Str.ofString "" ≠ S) (hS2 : S.length < 100) (hS3 : (S.length : Int) ≠ 0) (hn : n ≤ 4) (hcs : Chs lf (octC k ++ 10 :: remF x n)) (hcl : (remF x n).length < 300)
    (hD : o1.IsDictOf (PySem.strKind PySem.Challenge.rw_un0033_01.prog w) kvs) (hz2 : kvs.length < 1000) (hDD : p2 < D) (offD : ∀ p ∈ rest, p.1 ≠ D)
    (F : Fr h₀ L s.heap (rdMap x2 D (.str S tn) m0)) (N : News h₀ L s.heap ((f, oFn q dc pm ct cb c) :: (cb, ocb) :: (c, oc) :: (l, listOf lf.toArray nl) :: (x2, instObj 59 d2) :: (d2, oD2 w k1 k2 k3 k4 ln tl x1 tw p2) :: (p2, listOf [].toArray np) :: (x1, instObj 59 d1) :: (d1, oD1 w j1 j2 j3 j4 j5 tj tv p1 f) :: (D, o1) :: rest)) :
    wpAny (model PySem.Challenge.rw_un0033_01.prog w) ((ktrTop dp un gd cn ⟨.function, nm, ig, ic, mr⟩ L1 a ccd cl outer).deeper env) (isTrue (testOf ntW1) env (eval (testOf ntW1) env)) (fun bb s₂ => bb = true ∧ wpAny (model PySem.Challenge.rw_un0033_01.prog w) ((ktrTop dp un gd cn ⟨.function, nm, ig, ic, mr⟩ L1 a ccd cl outer).deeper env) (execs (bodyOf ntW1) env) (fun fl s₃ => match fl with
          | .next => KeepIt (∃ (h' : Heap) (tk' nl' np' tl' : Nat) (ln' : Int) (vP : Value) (o1' : Obj) (lf' : List Value) (tv' : Tok), GtName x n vP lf' ∧ o1'.IsDictOf (PySem.strKind PySem.Challenge.rw_un0033_01.prog w) (stored kvs S (.int ((rgT k : Nat) : Int) tv')) ∧
              s₃ = { s with heap := h', toks := tk' } ∧ Fr h₀ L h' (rdMap x2 D vP m0) ∧ News h₀ L h' ((f, oFn q dc pm ct cb c) :: (cb, ocb) :: (c, oc) :: (l, listOf lf'.toArray nl') :: (x2, instObj 59 d2) :: (d2, oD2 w k1 k2 k3 k4 ln' tl' x1 tw p2) :: (p2, listOf [].toArray np') :: (x1, instObj 59 d1) :: (d1, oD1 w j1 j2 j3 j4 j5 tj tv p1 f) :: (D, o1') :: rest))
          | _ => False) (fun _ _ => False) s₂) (fun _ _ => False) s := by
  k_with_none
  k_with "call builtin:issubclass" => (k_here; k_dflt (refine' iss_str ?k1 ?k2 ?k3 ?_; (case k1 => k_asm); (case k2 => k_asm); (case k3 => k_mem); k_whole); intro h' tk' F' N'; (try k_sweep))
  k_with "call type:list" => (k_here; (with_reducible show wpAny _ _ (call (Value.type _) [Value.str _ _]) _ _ _); k_dflt (refine' list_strK ?k0 ?k1 ?k2 ?k3 ?_; (case k0 => exact rfl); (case k1 => k_asm); (case k2 => k_asm); (case k3 => (rw [sizeLine_eq]; omega)); k_whole); intro l' h' tk' its' n' hch' F' N' l1; (try k_lt l1); (try k_sweep))
  k_with "truthy ref" => (k_here; (with_reducible show wpAny _ _ (truthy (Value.ref _)) _ _ _); k_dflt (first
        | (refine' truthy_cons ?N ?m ?z ?_; (case N => k_asm); (case m => k_mem); (case z => omega); k_whole)
        | (refine' truthy_nil ?N ?m ?_; (case N => k_asm); (case m => k_mem); k_whole)))
  k_with "call builtin:list.pop" => (k_here; (with_reducible show wpAny _ _ (call (Value.builtin _) [Value.ref _, Value.int _ _]) _ _ _); k_dflt (refine' pop0 ?F ?N ?U ?z ?_; (case F => k_asm); (case N => k_asm); (case U => k_upd); (case z => omega); k_whole); intro h' F' N'; (try dsimp only [List.nil_append, List.cons_append] at N'); (try k_sweep))
  k_with "setItem ref str" => (k_here; k_dflt (refine' kda_set (knd := PySem.strKind _ _) ?F ?N ?U ?d (strKind_is _ _ _ _) ?z ?_; (case F => k_asm); (case N => k_asm); (case U => k_updF); (case d => assumption); (case z => (rw [sizeLine_eq]; omega))); intro h9 o9 F9 N9 d9; (try dsimp only at N9); (try k_sweep))
  k_with "call type:int" => (k_here; (with_reducible show wpAny _ _ (call (Value.type "int") [Value.str _ _, Value.int _ _]) _ _ _); k_dflt (refine' call_oct _ (by assumption) ?_))
  k_with "call ref" => (k_here; (with_reducible show wpAny _ _ (call (Value.ref 49) _) _ _ _); k_dflt (first
       | (refine' cc_use (c_gt_oct _ _ _ _ _ _ _ _ _ _ _ _ (by assumption) (by assumption) ?hz _ _ _ _ _ _ _ _ _ _ _ _ _ _ _ _ _ _ _ _ _ _ _ _ _ _ _ _ _ _ ?hcb ?hvs ?hoc ?hord ?offl ?offd ?offp) ?B ?F ?X ?N ?T ?hd ?hu ?_; (case B => k_asm); (case F => k_asm); (case X => k_asm); (case N => k_asm); (case T => k_asm); (case hd => ktr_room); (case hu => ktr_units); (case hz => assumption); (case hcb => assumption); (case hvs => assumption); (case hoc => assumption); (case hord => assumption); (case offl => exact off1 (by assumption) (by omega)); (case offd => exact off1 (by assumption) (by omega)); (case offp => exact off1 (by assumption) (by omega)); rintro v9 h9 tk9 n9 ⟨⟨t9, q9⟩, lf9, ln9, tl9, nl9, c9, q8⟩ F9 N9; subst q9 q8; (try k_sweep))
       | (refine' cc_use (c_gt_name _ _ _ _ _ _ _ _ _ _ _ _ (by assumption) (by assumption) (by assumption) _ _ _ _ _ _ _ _ _ _ _ _ _ _ _ _ _ _ _ _ _ _ _ _ _ _ _ _ _ _ ?hcb ?hvs ?hoc ?hord ?offl ?offd ?offp) ?B ?F ?X ?N ?T ?hd ?hu ?_; (case B => k_asm); (case F => k_asm); (case X => k_asm); (case N => k_asm); (case T => k_asm); (case hd => ktr_room); (case hu => ktr_units); (case hcb => assumption); (case hvs => assumption); (case hoc => assumption); (case hord => assumption); (case offl => exact off1 (by assumption) (by omega)); (case offd => exact off1 (by assumption) (by omega)); (case offp => exact off1 (by assumption) (by omega)); rintro v9 h9 tk9 n9 ⟨lf9, g9, ln9, tl9, nl9, q8⟩ F9 N9; subst q8; (try k_sweep))))
  revert X; k_fill; intro X
  (conv => pattern (isTrue (testOf ntW1) _ _); arg 1; whnf)
  (conv => pattern (eval (testOf ntW1) _); arg 1; whnf)
  (conv => pattern (execs (bodyOf ntW1) _); arg 1; whnf)
  subst henv
  k_steps
  rename Fr _ _ _ _ => FF9
  rename News _ _ _ _ => NN9
  exact ⟨_, _, _, _, _, _, _, _, _, _, by assumption, by assumption, rfl, fr_eq FF9 rd_map_up, NN9⟩
theorem rd_stop (w : World) (mean : ExcName → Option Value) (mg mb : Str → Option Value) (rest : List (Addr × Obj)) {dp un : Nat} {gd : Option (List Code)} {cn : Str} {nm : List (Str × NameKind)} {ig ic : Bool} {mr : List (Str × Const)} {a : Addr} {ccd : Value} {cl : List (Str × Addr)} {outer : List Env} {A₀ : Around} {base h₀ : Heap} {L : Addr} {m0 : Str → Option Value}
    {L1 D x2 : Nat} {tn : Tok} {s : Shared}
    (env : Env) (henv : env = envOf (Str.ofString "_law_noted") (scopeOf (topSt 46)) L 244 (.ref 243))
    (B : Below A₀ base (envX cn ⟨.function, nm, ig, ic, mr⟩ L1 a ccd cl :: outer) h₀) (X : (Mine.hd.heap_39 w.params).In h₀) (T : Top topProg LOOSE mean mg mb h₀) (hd : dp + 16 < recursionLimit) (hu : un + 400 < cLine)
    (F : Fr h₀ L s.heap (rdMap x2 D (.str (Str.ofString "") tn) m0)) (N : News h₀ L s.heap rest) :
    wpAny (model PySem.Challenge.rw_un0033_01.prog w) ((ktrTop dp un gd cn ⟨.function, nm, ig, ic, mr⟩ L1 a ccd cl outer).deeper env) (isTrue (testOf ntW1) env (eval (testOf ntW1) env)) (fun b s₂ => b = false ∧ KeepIt (∃ (h' : Heap) (tk' : Nat), s₂ = { s with heap := h', toks := tk' } ∧ Fr h₀ L h' (rdMap x2 D (.str (Str.ofString "") tn) m0) ∧ News h₀ L h' rest)) (fun _ _ => False) s := by
  k_with_none
  k_with "call builtin:issubclass" => (k_here; k_dflt (refine' iss_str ?k1 ?k2 ?k3 ?_; (case k1 => k_asm); (case k2 => k_asm); (case k3 => k_mem); k_whole); intro h' tk' F' N'; (try k_sweep))
  k_with "call type:list" => (k_here; (with_reducible show wpAny _ _ (call (Value.type _) [Value.str _ _]) _ _ _); k_dflt (refine' list_strK ?k0 ?k1 ?k2 ?k3 ?_; (case k0 => exact rfl); (case k1 => k_asm); (case k2 => k_asm); (case k3 => (rw [sizeLine_eq]; omega)); k_whole); intro l' h' tk' its' n' hch' F' N' l1; (try k_lt l1); (try k_sweep))
  k_with "truthy ref" => (k_here; (with_reducible show wpAny _ _ (truthy (Value.ref _)) _ _ _); k_dflt (first
        | (refine' truthy_cons ?N ?m ?z ?_; (case N => k_asm); (case m => k_mem); (case z => omega); k_whole)
        | (refine' truthy_nil ?N ?m ?_; (case N => k_asm); (case m => k_mem); k_whole)))
  k_with "call builtin:list.pop" => (k_here; (with_reducible show wpAny _ _ (call (Value.builtin _) [Value.ref _, Value.int _ _]) _ _ _); k_dflt (refine' pop0 ?F ?N ?U ?z ?_; (case F => k_asm); (case N => k_asm); (case U => k_upd); (case z => omega); k_whole); intro h' F' N'; (try dsimp only [List.nil_append, List.cons_append] at N'); (try k_sweep))
  k_with "setItem ref str" => (k_here; k_dflt (refine' kda_set (knd := PySem.strKind _ _) ?F ?N ?U ?d (strKind_is _ _ _ _) ?z ?_; (case F => k_asm); (case N => k_asm); (case U => k_updF); (case d => assumption); (case z => (rw [sizeLine_eq]; omega))); intro h9 o9 F9 N9 d9; (try dsimp only at N9); (try k_sweep))
  k_with "call type:int" => (k_here; (with_reducible show wpAny _ _ (call (Value.type "int") [Value.str _ _, Value.int _ _]) _ _ _); k_dflt (refine' call_oct _ (by assumption) ?_))
  k_with "call ref" => (k_here; (with_reducible show wpAny _ _ (call (Value.ref 49) _) _ _ _); k_dflt (first
       | (refine' cc_use (c_gt_oct _ _ _ _ _ _ _ _ _ _ _ _ (by assumption) (by assumption) ?hz _ _ _ _ _ _ _ _ _ _ _ _ _ _ _ _ _ _ _ _ _ _ _ _ _ _ _ _ _ _ ?hcb ?hvs ?hoc ?hord ?offl ?offd ?offp) ?B ?F ?X ?N ?T ?hd ?hu ?_; (case B => k_asm); (case F => k_asm); (case X => k_asm); (case N => k_asm); (case T => k_asm); (case hd => ktr_room); (case hu => ktr_units); (case hz => assumption); (case hcb => assumption); (case hvs => assumption); (case hoc => assumption); (case hord => assumption); (case offl => exact off1 (by assumption) (by omega)); (case offd => exact off1 (by assumption) (by omega)); (case offp => exact off1 (by assumption) (by omega)); rintro v9 h9 tk9 n9 ⟨⟨t9, q9⟩, lf9, ln9, tl9, nl9, c9, q8⟩ F9 N9; subst q9 q8; (try k_sweep))
       | (refine' cc_use (c_gt_name _ _ _ _ _ _ _ _ _ _ _ _ (by assumption) (by assumption) (by assumption) _ _ _ _ _ _ _ _ _ _ _ _ _ _ _ _ _ _ _ _ _ _ _ _ _ _ _ _ _ _ ?hcb ?hvs ?hoc ?hord ?offl ?offd ?offp) ?B ?F ?X ?N ?T ?hd ?hu ?_; (case B => k_asm); (case F => k_asm); (case X => k_asm); (case N => k_asm); (case T => k_asm); (case hd => ktr_room); (case hu => ktr_units); (case hcb => assumption); (case hvs => assumption); (case hoc => assumption); (case hord => assumption); (case offl => exact off1 (by assumption) (by omega)); (case offd => exact off1 (by assumption) (by omega)); (case offp => exact off1 (by assumption) (by omega)); rintro v9 h9 tk9 n9 ⟨lf9, g9, ln9, tl9, nl9, q8⟩ F9 N9; subst q8; (try k_sweep))))
  revert X; k_fill; intro X
  (conv => pattern (isTrue (testOf ntW1) _ _); arg 1; whnf)
  (conv => pattern (eval (testOf ntW1) _); arg 1; whnf)
  subst henv
  k_steps
  exact ⟨_, _, rfl, F, N⟩
theorem ntW1_test : ∃ pos : Pos, ntW1 = .While (testOf ntW1) (bodyOf ntW1) [] pos := ⟨_, rfl⟩
structure ChIs (x : Nat → Nat) (j : Nat) (kvs : List (Str × Value)) : Prop where
  ks : kvs.map (·.1) = (List.range j).map letS
  vs : ∀ i, i < j → ∃ t, valueAt kvs (letS i) = some (.int ((rgT (x i) : Nat) : Int) t)
theorem letS_inj {i j : Nat} (h : letS i = letS j) : i = j := by
  have h1 := congrArg (fun S : Str => S.cps.toList) h
  simp only [letS] at h1
  injection h1 with h2
  omega
theorem valueAt_snoc (kvs : List (Str × Value)) (k k' : Str) (v : Value) : valueAt (kvs ++ [(k, v)]) k' = (valueAt kvs k').or (if k = k' then some v else none) := by
  unfold valueAt
  rw [List.find?_append]
  cases h : kvs.find? fun kv => decide (kv.1 = k') with
  | some p => rfl
  | none =>
    by_cases e : k = k'
    · simp [e, List.find?]
    · simp [e, List.find?]
theorem chIs_step {x : Nat → Nat} {j : Nat} {kvs : List (Str × Value)} {t : Tok} (h : ChIs x j kvs) : ChIs x (j + 1) (stored kvs (letS j) (.int ((rgT (x j) : Nat) : Int) t)) := by
  have hnone : valueAt kvs (letS j) = none := valueAt_none_of_not_mem (by
    rw [h.ks]
    intro hm
    obtain ⟨i, hi, e⟩ := List.mem_map.mp hm
    have := letS_inj e
    rw [this] at hi
    exact absurd (List.mem_range.mp hi) (by omega))
  rw [stored_absent hnone]
  refine ⟨by rw [List.map_append, h.ks, List.range_succ, List.map_append]; rfl, fun i hi => ?_⟩
  rw [valueAt_snoc]
  by_cases e : i = j
  · subst e
    rw [hnone, if_pos rfl]
    exact ⟨t, rfl⟩
  · obtain ⟨t', e'⟩ := h.vs i (by omega)
    exact ⟨t', by rw [e']; rfl⟩
theorem letS_ok : ∀ i : Fin 4, Str.ofString "" ≠ letS i.val ∧ (letS i.val).length < 100 ∧ ((letS i.val).length : Int) ≠ 0 := by decide +kernel
theorem rd_loop (w : World) (mean : ExcName → Option Value) (mg mb : Str → Option Value) (rest : List (Addr × Obj)) {dp un : Nat} {gd : Option (List Code)} {cn : Str} {nm : List (Str × NameKind)} {ig ic : Bool} {mr : List (Str × Const)} {a : Addr} {ccd : Value} {cl : List (Str × Addr)} {outer : List Env} {A₀ : Around} {base h₀ : Heap} {L : Addr} {m0 : Str → Option Value}
    {L1 D : Nat} {x : Nat → Nat} {s : Shared} {tl : Tok} {ln : Int} {lf : List Value} {nl np : Nat} {o1 : Obj} {vP : Value} {Q : Flow → Shared → Prop} {E : Value → Shared → Prop}
    {f cb c l x2 d2 p2 x1 d1 p1 : Nat} {ocb oc : Obj} {vs : Array Value} {q : Str} {tq : Tok} {dc pm ct : Value} {k1 k2 k3 k4 tw j1 j2 j3 j4 j5 tj tv : Tok}
  (hcb : ocb.data = .fields vs) (hvs : vs[1]? = some (.str q tq)) (hoc : oc.data = .cell (some (.ref l)))
  (hord : c < l ∧ l < d1 ∧ d1 < x1 ∧ x1 < p1 ∧ p1 < cb ∧ cb < f ∧ f < d2 ∧ d2 < x2 ∧ x2 < p2) (offl : ∀ p ∈ rest, p.1 ≠ l) (offd : ∀ p ∈ rest, p.1 ≠ d2) (offp : ∀ p ∈ rest, p.1 ≠ p2)
    (env : Env) (henv : env = envOf (Str.ofString "_law_noted") (scopeOf (topSt 46)) L 244 (.ref 243))
    (B : Below A₀ base (envX cn ⟨.function, nm, ig, ic, mr⟩ L1 a ccd cl :: outer) h₀) (X : (Mine.hd.heap_39 w.params).In h₀) (T : Top topProg LOOSE mean mg mb h₀) (hd : dp + 16 < recursionLimit) (hu : un + 400 < cLine)
    (hx : ∀ i, x i < 16) (hg : GtName x 4 vP lf)
    (hD : o1.IsDictOf (PySem.strKind PySem.Challenge.rw_un0033_01.prog w) []) (hDD : p2 < D) (offD : ∀ p ∈ rest, p.1 ≠ D)
    (F : Fr h₀ L s.heap (rdMap x2 D vP m0)) (N : News h₀ L s.heap ((f, oFn q dc pm ct cb c) :: (cb, ocb) :: (c, oc) :: (l, listOf lf.toArray nl) :: (x2, instObj 59 d2) :: (d2, oD2 w k1 k2 k3 k4 ln tl x1 tw p2) :: (p2, listOf [].toArray np) :: (x1, instObj 59 d1) :: (d1, oD1 w j1 j2 j3 j4 j5 tj tv p1 f) :: (D, o1) :: rest))
    (hQ : ∀ (h' : Heap) (tk' nl' np' tl' : Nat) (ln' : Int) (vP' : Value) (o1' : Obj) (kvs' : List (Str × Value)), ChIs x 4 kvs' → o1'.IsDictOf (PySem.strKind PySem.Challenge.rw_un0033_01.prog w) kvs' → Fr h₀ L h' (rdMap x2 D vP' m0) → News h₀ L h' ((f, oFn q dc pm ct cb c) :: (cb, ocb) :: (c, oc) :: (l, listOf [].toArray nl') :: (x2, instObj 59 d2) :: (d2, oD2 w k1 k2 k3 k4 ln' tl' x1 tw p2) :: (p2, listOf [].toArray np') :: (x1, instObj 59 d1) :: (d1, oD1 w j1 j2 j3 j4 j5 tj tv p1 f) :: (D, o1') :: rest) → Q .next { s with heap := h', toks := tk' }) :
    wpAny (model PySem.Challenge.rw_un0033_01.prog w) ((ktrTop dp un gd cn ⟨.function, nm, ig, ic, mr⟩ L1 a ccd cl outer).deeper env) (exec ntW1 env) Q E s := by
  refine wpAny_mono (Q := Q) (E := fun _ _ => False) ?_ (fun _ _ x => x) (fun _ _ x => x.elim)
  obtain ⟨pos, e1⟩ := ntW1_test
  rw [e1]
  refine While_inv (n₀ := 4) (fun n m' n' => ∃ vP' lf' o1' kvs' nl' np' tl' ln', n ≤ 4 ∧ m' = rdMap x2 D vP' m0 ∧ n' = ((f, oFn q dc pm ct cb c) :: (cb, ocb) :: (c, oc) :: (l, listOf lf'.toArray nl') :: (x2, instObj 59 d2) :: (d2, oD2 w k1 k2 k3 k4 ln' tl' x1 tw p2) :: (p2, listOf [].toArray np') :: (x1, instObj 59 d1) :: (d1, oD1 w j1 j2 j3 j4 j5 tj tv p1 f) :: (D, o1') :: rest) ∧ o1'.IsDictOf (PySem.strKind PySem.Challenge.rw_un0033_01.prog w) kvs' ∧ ChIs x (4 - n) kvs' ∧ GtName x n vP' lf')
    F N ⟨vP, lf, o1, [], nl, np, tl, ln, Nat.le_refl _, rfl, rfl, hD, ⟨rfl, fun i h => absurd h (by omega)⟩, hg⟩ ?_ (hE := PassesOwn.never)
  rintro n m₁ news₁ h₁ tk₁ F1 N1 ⟨vP', lf', o1', kvs', nl', np', tl', ln', hn, rfl, rfl, hD', hC, hG⟩
  cases n with
  | zero =>
    obtain ⟨⟨t, rfl⟩, rfl⟩ := hG.z rfl
    refine wpAny_mono (rd_stop w mean mg mb _ (s := { s with heap := h₁, toks := tk₁ }) env henv B X T hd hu F1 N1) (fun b s₂ h => ?_) fun _ _ x => x
    obtain ⟨rfl, h', tk', rfl, F2, N2⟩ := h
    rw [if_neg Bool.false_ne_true]
    exact hQ h' tk' nl' np' tl' ln' _ o1' kvs' hC hD' F2 N2
  | succ n =>
    obtain ⟨⟨t, rfl⟩, hcs⟩ := hG.s n rfl
    obtain ⟨L1', L2', L3'⟩ := letS_ok ⟨3 - n, by omega⟩
    have hkl : kvs'.length < 1000 := by
      have h1 := congrArg List.length hC.ks
      rw [List.length_map, List.length_map, List.length_range] at h1
      omega
    have hrl := remF_len x hx n
    refine wpAny_mono (rd_turn w mean mg mb rest (s := { s with heap := h₁, toks := tk₁ }) (n := n) (k := x (3 - n)) (x := x) hcb hvs hoc hord offl offd offp env henv B X T hd hu hx (hx _) L1' L2' L3' (by omega) hcs (by omega) hD' hkl hDD offD F1 N1) (fun b s₂ h => ?_) fun _ _ x => x
    obtain ⟨rfl, h⟩ := h
    rw [if_pos rfl]
    refine wpAny_mono h (fun fl s₃ h₃ => ?_) fun _ _ x => x
    cases fl with
    | ret v => exact h₃.elim
    | brk => exact h₃.elim
    | cont => exact h₃.elim
    | next =>
      obtain ⟨h', tk', nl2, np2, tl2, ln2, vP2, o2, lf2, tv2, hG2, hD2, rfl, F2, N2⟩ := h₃
      refine WhileStep.intro F2 N2 (n' := n) (Nat.lt_succ_self _) ⟨vP2, lf2, o2, _, nl2, np2, tl2, ln2, by omega, rfl, rfl, hD2, ?_, hG2⟩
      have := chIs_step (t := tv2) hC
      rwa [show 4 - (n + 1) = 3 - n by omega, show 3 - n + 1 = 4 - n by omega] at this
end
section
def itemsD (ks vs : List Str) : List Dat := List.zipWith (fun k s => Dat.tuple [.str k, .str s]) ks vs
theorem datAll_items {prog : Program} {w : World} {h : Heap} {tups : List (Addr × Obj)} : ∀ (as : List Addr) (kvs : List (Str × Value)) (vsS : List Str),
    (∀ (j : Nat) (a : Addr), as[j]? = some a → ∃ key k x, kvs[j]? = some (k, x) ∧ (PySem.strKind prog w).is k key = true ∧ h.get? a = some { cls := .type "tuple", data := .seq #[key, x] }) →
    as.length = kvs.length → StrsAre (kvs.map (·.2)) vsS → (∀ a ∈ as, ∀ o, h.get? a = some o → (a, o) ∈ tups) → DatAll tups (as.map Value.ref) (itemsD (kvs.map (·.1)) vsS)
  | [], [], vsS, _, _, hS, _ => by cases hS; exact .nil
  | [], _ :: _, _, _, hl, _, _ => by cases hl
  | _ :: _, [], _, _, hl, _, _ => by cases hl
  | a :: as, p :: kvs, vsS, hp, hl, hS, ht => by
    obtain ⟨key, k, x, e1, e2, e3⟩ := hp 0 a rfl
    have e1' := Option.some.inj e1
    subst e1'
    obtain ⟨t, rfl⟩ := (kdl_flat_str e2).str_inv
    have hS' : StrsAre (x :: kvs.map (·.2)) vsS := hS
    cases hS' with
    | cons y u h' =>
      refine .cons (.tuple (vs := [Value.str k t, Value.str y u]) (n := 0) (ht a List.mem_cons_self _ e3) (.cons (.str k t) (.cons (.str y u) .nil))) ?_
      exact datAll_items as kvs _ (fun j b hj => hp (j + 1) b (by simpa using hj)) (by simpa using hl) h' fun b hb => ht b (List.mem_cons_of_mem _ hb)
theorem items_list {prog : Program} {w : World} {A : Around} {E : Value → Shared → Prop} {s : Shared} {h₀ : Heap} {L v d : Nat} {m : Str → Option Value} {news : List (Addr × Obj)} {od : Obj} {kvs : List (Str × Value)} {vsS : List Str} {Q : Value → Shared → Prop}
    (hh : A.handled = none) (F : Fr h₀ L s.heap m) (N : News h₀ L s.heap news) (hvw : (v, { cls := .type "dict_items", data := .fields #[.ref d] }) ∈ news) (hmd : (d, od) ∈ news) (hod : od.IsDictOf (PySem.strKind prog w) kvs) (hn : kvs.length ≤ 16777216) (hS : StrsAre (kvs.map (·.2)) vsS)
    (h : ∀ (B : Nat) (h' : Heap) (tk c : Nat) (tups : List (Addr × Obj)) (vs : List Value), DatAll tups vs (itemsD (kvs.map (·.1)) vsS) → (∀ q ∈ news, q.1 < B) → (∀ q ∈ tups, B < q.1) → Fr h₀ L h' m → News h₀ L h' (tups ++ (B, W.listOf vs.toArray c) :: news) → Q (.ref B) { s with heap := h', toks := tk }) :
    wpAny (model prog w) A (call (.type "list") [.ref v]) Q E s := by
  obtain ⟨ep, hat⟩ := KdkAt.of hod
  refine kdx_call (knd := PySem.strKind prog w) (kvs := kvs) (ep := ep) hh ⟨_, (N _ hvw).1, rfl, rfl⟩ (hat.dictAt (N _ hmd).1) (kdl_size hn) fun h' tk acc c as hk hS' hl hG hacc => ?_
  have ea : acc = (as.map Value.ref).toArray := by rw [← hacc, Array.toArray_toList]
  refine h s.heap.objs.size h' tk c (as.map fun a => (a, (h'.get? a).getD default)) (as.map Value.ref) (datAll_items as kvs vsS hG.pairs hl hS fun a ha o e => List.mem_map.mpr ⟨a, ha, by rw [e]; rfl⟩) (fun q hq => Heap.lt_size (N q hq).1) (fun q hq => ?_) (F.keeps hk) fun q hq => ?_
  · obtain ⟨a, ha, rfl⟩ := List.mem_map.mp hq
    exact hG.above a ha
  · rcases List.mem_append.mp hq with hq | hq
    · obtain ⟨a, ha, rfl⟩ := List.mem_map.mp hq
      obtain ⟨j, hj⟩ := List.mem_iff_getElem?.mp ha
      obtain ⟨key, k, x, _, _, e⟩ := hG.pairs j a hj
      exact ⟨by dsimp only; rw [e]; rfl, kdx_fresh F (Nat.le_of_lt (hG.above _ ha))⟩
    · rcases List.mem_cons.mp hq with rfl | hq
      · exact ⟨by rw [← ea]; exact hS', kdx_fresh F (Nat.le_refl _)⟩
      · exact ⟨hk _ _ (N q hq).1, (N q hq).2⟩
end
section
open PySem.Calls PySem.NumText
theorem mem10 {α : Type} {a1 a2 a3 a4 a5 a6 a7 a8 a9 b x p : α} {r : List α} : p ∈ a1 :: a2 :: a3 :: a4 :: a5 :: a6 :: a7 :: a8 :: a9 :: b :: x :: r ↔ p ∈ x :: a1 :: a2 :: a3 :: a4 :: a5 :: a6 :: a7 :: a8 :: a9 :: b :: r :=
  (List.perm_middle (l₁ := [a1, a2, a3, a4, a5, a6, a7, a8, a9, b])).mem_iff
theorem rd_map_self {m : Str → Option Value} {x2 D : Nat} {P : Value} (h1 : m (Str.ofString "name") = some P) (h2 : m (Str.ofString "lexer") = some (.ref x2)) (h3 : m (Str.ofString "changes") = some (.ref D)) : ∀ y, m y = rdMap x2 D P m y := by
  intro y
  unfold rdMap
  split
  · rename_i e; rw [e, h1]
  split
  · rename_i e; rw [e, h2]
  split
  · rename_i e; rw [e, h3]
  rfl
theorem due_len (sm : List Nat → List Nat → Bool) : ∀ ws ns : List (List Nat), (bDue sm ns ws).length ≤ ns.length + ws.length
  | [], ns => Nat.le_refl _
  | w :: ws, ns => by
    unfold bDue
    refine Nat.le_trans (due_len sm ws _) ?_
    split
    · simp
    · simp; omega
theorem c_noted (w : World) (mean : ExcName → Option Value) (mg mb : Str → Option Value) (rest : List (Addr × Obj)) (t : Tok) (k0 : Nat) (hk : k0 < 16) (x : Nat → Nat) (hx : ∀ i, x i < 16) (lf : List Value) (nl np : Nat) (ln : Int) (tl : Tok) (hcs : Chs lf (remF x 4)) (f cb c l x2 d2 p2 x1 d1 p1 : Nat) (ocb oc : Obj) (vs : Array Value) (q : Str) (tq : Tok) (dc pm ct : Value) (k1 k2 k3 k4 tw j1 j2 j3 j4 j5 tj tv : Tok)
  (hcb : ocb.data = .fields vs) (hvs : vs[1]? = some (.str q tq)) (hoc : oc.data = .cell (some (.ref l)))
  (hord : c < l ∧ l < d1 ∧ d1 < x1 ∧ x1 < p1 ∧ p1 < cb ∧ cb < f ∧ f < d2 ∧ d2 < x2 ∧ x2 < p2) (offl : ∀ p ∈ rest, p.1 ≠ l) (offd : ∀ p ∈ rest, p.1 ≠ d2) (offp : ∀ p ∈ rest, p.1 ≠ p2) :
  CC w mean mg mb 244 60 ((f, oFn q dc pm ct cb c) :: (cb, ocb) :: (c, oc) :: (l, listOf lf.toArray nl) :: (x2, instObj 59 d2) :: (d2, oD2 w k1 k2 k3 k4 ln tl x1 tw p2) :: (p2, listOf [].toArray np) :: (x1, instObj 59 d1) :: (d1, oD1 w j1 j2 j3 j4 j5 tj tv p1 f) :: rest) [.ref x2, .int (((32768 + rgT k0 : Nat)) : Int) t] (fun r n' => ∃ (B c : Nat) (tups : List (Addr × Obj)) (vs : List Value), r = .ref B ∧ DatAll tups vs (itemsD ((bDue (smX x) [] shortlex).map (fun u => sigT (chX x k0 u))) ((bDue (smX x) [] shortlex).map pathS)) ∧ (∀ q ∈ rest, q.1 < B) ∧ (∀ q ∈ tups, B < q.1) ∧ n' = tups ++ (B, W.listOf vs.toArray c) :: rest) := by
  k_with_none
  k_with "call builtin:issubclass" => (k_here; k_dflt (refine' iss_str ?k1 ?k2 ?k3 ?_; (case k1 => k_asm); (case k2 => k_asm); (case k3 => k_mem); k_whole); intro h' tk' F' N'; (try k_sweep))
  k_with "call type:list" => (k_here; (with_reducible show wpAny _ _ (call (Value.type _) [Value.str _ _]) _ _ _); k_dflt (refine' list_strK ?k0 ?k1 ?k2 ?k3 ?_; (case k0 => exact rfl); (case k1 => k_asm); (case k2 => k_asm); (case k3 => (rw [sizeLine_eq]; omega)); k_whole); intro l' h' tk' its' n' hch' F' N' l1; (try k_lt l1); (try k_sweep))
  k_with "truthy ref" => (k_here; (with_reducible show wpAny _ _ (truthy (Value.ref _)) _ _ _); k_dflt (first
        | (refine' truthy_cons ?N ?m ?z ?_; (case N => k_asm); (case m => k_mem); (case z => omega); k_whole)
        | (refine' truthy_nil ?N ?m ?_; (case N => k_asm); (case m => k_mem); k_whole)))
  k_with "call builtin:list.pop" => (k_here; (with_reducible show wpAny _ _ (call (Value.builtin _) [Value.ref _, Value.int _ _]) _ _ _); k_dflt (refine' pop0 ?F ?N ?U ?z ?_; (case F => k_asm); (case N => k_asm); (case U => k_upd); (case z => omega); k_whole); intro h' F' N'; (try dsimp only [List.nil_append, List.cons_append] at N'); (try k_sweep))
  k_with "exec While" => (k_here; refine Stop.h ?_)
  k_with "call ref" => (k_here; (with_reducible show wpAny _ _ (call (Value.ref 49) _) _ _ _); refine Stop.h ?_)
  k_with "getMethod ref" => (k_here; (with_reducible show wpAny _ _ (getMethod (Value.ref _) (Str.ofString "items") _) _ _ _); k_dflt (refine' kdl_method (knd := PySem.strKind _ _) PySem.F.slot_dict_items PySem.F.type_dict_items ?N ?m ?d ?_; (case N => k_asm); (case m => k_mem); (case d => assumption)))
  k_with "call builtin:dict.items" => (k_here; (with_reducible show wpAny _ _ (call (Value.builtin "dict.items") [Value.ref _]) _ _ _); k_dflt (refine' kdx_view (knd := PySem.strKind _ _) ?F ?N ?m ?d ?l ?_; (case F => k_asm); (case N => k_asm); (case m => k_mem); (case d => assumption); (case l => assumption)); intro D9 h9 F9 N9 l9)
  k_with "call type:list" => (k_here; (with_reducible show wpAny _ _ (call (Value.type "list") [Value.ref _]) _ _ _); refine Stop.h ?_)
  dsimp only [CC]
  k_fill
  intros
  rename_i hret
  have hC := codeHd_of_K (c := 224) (P := 220) (by assumption) (by kernel_rfl)
  k_dflt k_enter
  k_steps
  refine ⟨?_⟩
  rename Obj.IsDictOf (PySem.strKind _ _) _ _ => dd9
  rename (_ == sysModules) = false => lo9
  rename News _ _ _ _ => NN9
  have NN8 := news_sub NN9 (fun p hp => mem9.mp hp)
  clear NN9
  k_dflt (refine' cc_use (c_gt_name w mean mg mb _ tl ln lf nl np 4 x hx (by omega) hcs _ _ _ _ _ _ _ _ _ _ _ _ _ _ _ _ _ _ _ _ _ _ _ _ _ _ _ _ _ _ hcb hvs hoc hord ?offl ?offd ?offp) ?B ?F ?X NN8 ?T ?hd ?hu ?_)
  case offl => exact off1 offl (by omega)
  case offd => exact off1 offd (by omega)
  case offp => exact off1 offp (by omega)
  case B => k_asm
  case F => k_asm
  case X => k_asm
  case T => k_asm
  case hd => ktr_room
  case hu => ktr_units
  rintro v9 h9 tk9 n9 ⟨lf9, g9, ln9, tl9, nl9, q8⟩ F9 N9
  subst q8
  k_steps
  refine ⟨?_⟩
  rename Fr _ _ _ _ => FF9
  rename News _ _ _ _ => NN9
  k_dflt (refine' rd_loop w mean mg mb rest hcb hvs hoc hord offl offd offp _ rfl ?B ?X ?T ?hd ?hu hx g9 dd9 ?hDD ?offD (fr_eq FF9 (rd_map_self rfl rfl rfl)) NN9 ?hQ)
  case B => k_asm
  case X => k_asm
  case T => k_asm
  case hd => ktr_room
  case hu => ktr_units
  case hDD => omega
  case offD => k_all
  intro h8 tk8 nl8 np8 tl8 ln8 vP8 o8 kvs8 hC8 dd8 F8 N8
  clear FF9 NN9
  k_steps
  refine ⟨?_⟩
  rename Obj.IsDictOf (PySem.strKind _ _) _ [] => dd7
  rename (_ == sysModules) = false => lo7
  rename News _ _ _ _ => NN9
  have NN8 := news_sub NN9 (fun p hp => mem10.mp hp)
  clear NN9
  rw [List.push_toArray] at NN8
  k_dflt (refine' cc_use (c_gt_any w mean mg mb _ _ _ _ _ _ ?hz _ _ _ _ _ _ _ _ _ _ _ _ _ _ _ _ _ _ _ _ _ _ _ _ _ _ _ _ _ _ hcb hvs hoc hord ?offl ?offd ?offp) ?B ?F ?X NN8 ?T ?hd ?hu ?_)
  case hz => simp
  case offl => exact off2 offl (by omega) (by omega)
  case offd => exact off2 offd (by omega) (by omega)
  case offp => exact off2 offp (by omega) (by omega)
  case B => k_asm
  case F => k_asm
  case X => k_asm
  case T => k_asm
  case hd => ktr_room
  case hu => ktr_units
  rintro v6 h6 tk6 n6 ⟨g6, ln6, tl6, nl6, np6, q8⟩ F6 N6
  subst q8
  k_steps
  refine ⟨?_⟩
  rename Fr _ _ _ _ => FF9
  rename News _ _ _ _ => NN9
  have hP6 : ∃ t, v6 = .str (Str.ofString "/") t := ⟨_, g6.c _ [] rfl⟩
  k_dflt (refine' ot_loop w mean mg mb rest hcb hvs hoc hord offl offd offp _ rfl ?B ?X ?T ?hd ?hu hx hk dd8 lo9 hC8.ks hC8.vs dd7 lo7 ?hDD ?off2' hP6 (fr_eq FF9 (ot_map_self rfl rfl rfl rfl rfl)) NN9 ?hQ7)
  case B => k_asm
  case X => k_asm
  case T => k_asm
  case hd => ktr_room
  case hu => ktr_units
  case hDD => omega
  case off2' => k_all
  intro h5 tk5 nl5 np5 tl5 ln5 m5 vP5 o5 kvs5 hN5 dd5 F5 N5
  clear FF9 NN9
  k_steps
  refine ⟨?_⟩
  rename Fr _ _ _ _ => FF9
  rename News _ _ _ _ => NN9
  have hkl5 : kvs5.length ≤ 16777216 := by
    have h1 := congrArg List.length hN5.ks
    rw [List.length_map, List.length_map] at h1
    have h2 := due_len (smX x) shortlex []
    rw [h1]
    exact Nat.le_trans h2 (by decide)
  k_dflt (refine' items_list rfl FF9 NN9 ?mv ?md dd5 hkl5 hN5.vs ?hQ8)
  case mv => k_mem
  case md => k_mem
  intro B4 h4 tk4 c4 tups4 vs4 da4 lt4 gt4 F4 N4
  clear FF9 NN9
  have lt4' : ∀ q ∈ rest, q.1 < B4 := fun q hq => lt4 q (by iterate 12 refine List.mem_cons_of_mem _ ?_
                                                            exact hq)
  generalize hn4 : tups4 ++ _ = n4 at N4
  k_steps
  rename News _ _ _ _ => NN9
  refine hret _ _ _ (tups4 ++ (B4, W.listOf vs4.toArray c4) :: rest) ⟨B4, c4, tups4, vs4, rfl, ?_, lt4', gt4, rfl⟩ (by assumption) (news_sub NN9 fun p hp => ?_)
  · rw [← hN5.ks]; exact da4
  · rw [← hn4]
    rcases List.mem_append.mp hp with hp | hp
    · exact List.mem_append_left _ hp
    · refine List.mem_append_right _ ?_
      rcases List.mem_cons.mp hp with rfl | hp
      · exact List.mem_cons_self
      · refine List.mem_cons_of_mem _ ?_
        iterate 12 refine List.mem_cons_of_mem _ ?_
        exact hp
end
section
def LexOut (w : World) (rest : List (Addr × Obj)) (S : Str) (r : Value) (n' : List (Addr × Obj)) : Prop :=
  ∃ (f cb c l x2 d2 p2 x1 d1 p1 : Nat) (ocb oc : Obj) (vs : Array Value) (q : Str) (tq : Tok) (dc pm ct : Value) (k1 k2 k3 k4 tw j1 j2 j3 j4 j5 tj tv : Tok) (its : List Value) (nl : Nat) (tl : Tok) (np : Nat),
    (ocb.data = .fields vs ∧ vs[1]? = some (.str q tq) ∧ oc.data = .cell (some (.ref l)) ∧ (c < l ∧ l < d1 ∧ d1 < x1 ∧ x1 < p1 ∧ p1 < cb ∧ cb < f ∧ f < d2 ∧ d2 < x2 ∧ x2 < p2) ∧ (∀ p ∈ rest, p.1 ≠ l) ∧ (∀ p ∈ rest, p.1 ≠ d2) ∧ (∀ p ∈ rest, p.1 ≠ p2)) ∧ (∀ p ∈ rest, p.1 < l) ∧ Chs its S.cps.toList ∧ r = .ref x2 ∧ n' = ((f, oFn q dc pm ct cb c) :: (cb, ocb) :: (c, oc) :: (l, listOf its.toArray nl) :: (x2, instObj 59 d2) :: (d2, oD2 w k1 k2 k3 k4 1 tl x1 tw p2) :: (p2, listOf [].toArray np) :: (x1, instObj 59 d1) :: (d1, oD1 w j1 j2 j3 j4 j5 tj tv p1 f) :: rest)
theorem lex_take {h₀ h : Heap} {L : Addr} {b1 b2 b3 b4 b5 b6 b7 b8 b9 b10 z : Addr × Obj} {r : List (Addr × Obj)} (N : News h₀ L h (b1 :: b2 :: b3 :: b4 :: b5 :: b6 :: b7 :: b8 :: b9 :: b10 :: z :: r)) : News h₀ L h (b4 :: b5 :: b10 :: b9 :: b2 :: b3 :: b1 :: b7 :: b8 :: z :: r) :=
  news_sub N fun p hp => by
    simp only [List.mem_cons] at hp ⊢
    rcases hp with h | h | h | h | h | h | h | h | h | h | h <;> simp [h]
theorem allLt_mem {b : Nat} : ∀ {r : List (Addr × Obj)}, AllLt b r → ∀ p ∈ r, p.1 < b
  | [], _, _, h => by cases h
  | q :: r, h, p, hp => by
    rcases List.mem_cons.mp hp with rfl | hp
    · exact h.1
    · exact allLt_mem h.2 p hp
theorem c_lexer (w : World) (mean : ExcName → Option Value) (mg mb : Str → Option Value) (rest : List (Addr × Obj)) (t : Tok) (S : Str) (hS : S.length < 1000) (off : ∀ p ∈ rest, p.1 ≠ 220) :
  CC w mean mg mb 225 12 ((220, tabObj #[]) :: rest) [.str S t] (fun v n' => ∃ ps, LexOut w ((220, tabObj ps) :: rest) S v n') := by
  k_with_none
  k_with "call builtin:issubclass" => (k_here; k_dflt (refine' iss_str ?k1 ?k2 ?k3 ?_; (case k1 => k_asm); (case k2 => k_asm); (case k3 => k_mem); k_whole); intro h' tk' F' N'; (try k_sweep))
  k_with "call type:list" => (k_here; (with_reducible show wpAny _ _ (call (Value.type _) [Value.str _ _]) _ _ _); k_dflt (refine' list_strK ?k0 ?k1 ?k2 ?k3 ?_; (case k0 => exact rfl); (case k1 => k_asm); (case k2 => k_asm); (case k3 => (rw [sizeLine_eq]; omega)); k_whole); intro l' h' tk' its' n' hch' F' N' l1; (try k_lt l1); (try k_sweep))
  k_with "truthy ref" => (k_here; (with_reducible show wpAny _ _ (truthy (Value.ref _)) _ _ _); k_dflt (first
        | (refine' truthy_cons ?N ?m ?z ?_; (case N => k_asm); (case m => k_mem); (case z => omega); k_whole)
        | (refine' truthy_nil ?N ?m ?_; (case N => k_asm); (case m => k_mem); k_whole)))
  k_with "call builtin:list.pop" => (k_here; (with_reducible show wpAny _ _ (call (Value.builtin _) [Value.ref _, Value.int _ _]) _ _ _); k_dflt (refine' pop0 ?F ?N ?U ?z ?_; (case F => k_asm); (case N => k_asm); (case U => k_upd); (case z => omega); k_whole); intro h' F' N'; (try dsimp only [List.nil_append, List.cons_append] at N'); (try k_sweep))
  dsimp only [CC]
  k_fill
  intros
  rename_i hret
  have hC := codeHd_of_K (c := 224) (P := 220) (by assumption) (by kernel_rfl)
  k_dflt k_enter
  k_steps
  rename News _ _ _ _ => NN9
  refine hret _ _ _ _ ?_ (by assumption) (lex_take NN9)
  rename Chs _ _ => ch9
  refine ⟨_, _, _, _, _, _, _, _, _, _, _, _, _, _, _, _, _, _, _, _, _, _, _, _, _, _, _, _, _, _, _, _, _, _, _, ⟨by assumption, by assumption, by assumption, ?_, ?_, ?_, ?_⟩, ?_, ch9, rfl, rfl⟩
  · omega
  all_goals
    rename (_ < _ ∧ AllLt _ rest) => q9
    intro p hp
    rcases List.mem_cons.mp hp with rfl | hp
    · have q8 := q9.1
      first | omega | (show @Ne Nat _ _; omega) | (show @LT.lt Nat _ _ _; omega)
    have q8 : @LT.lt Nat _ p.1 _ := allLt_mem q9.2 p hp
    first | omega | (show @Ne Nat _ _; omega) | (show @LT.lt Nat _ _ _; omega)
end
section
section
open PyProof.Rows.LCg
variable {prog : Program} {w : World} {A : Around} {E : Value → Shared → Prop} {s : Shared} {h₀ : Heap} {L : Addr} {m : Str → Option Value} {env : Env}
theorem comp_one {elt iter : PySem.Expr} {ifs : List PySem.Expr} {a : Str} {pa : Pos} {scope : Scope} {cl : List (Str × Addr)} {pos : Pos} {s₂ : Shared} {I : Nat} {fp wr : List Addr} {n : Nat}
    {P : Nat → Value → Prop} {St : Nat → Heap → Prop} {news : List (Addr × Obj)} {RR : Value → Addr → Result → Shared → Prop}
    (W : Walks prog w A I fp wr n P St) (hsz : n ≤ sizeLine) (hh : A.handled = none) (J : Nat → List Value → Prop)
    (hcell : ∀ y ∈ scope.names, y.2 ≠ .cell) (hkind : scope.kind = .function) (hxa : scope.names.lookup a = some .local)
    (hst : St 0 s₂.heap) (F : Fr h₀ L s₂.heap m) (N : News h₀ L s₂.heap news) (h0 : J 0 [])
    (live : ∀ i h, St i h → ∀ b ∈ wr, ∃ o, h.get? b = some o)
    (hwr : ∀ b ∈ wr, b ≠ L ∧ h₀.get? b = none ∧ ∀ p ∈ news, p.1 ≠ b)
    (src : ∀ b ∈ fp, b ∈ wr ∨ (∃ o, h₀.get? b = some o) ∨ ∃ o, ((b, o) : Addr × Obj) ∈ news)
    (step : ∀ i v ys (C D : Nat) oC m₂ h tk (nw : List (Addr × Obj)) E', i < n → P i v → J i ys → NsObj oC m₂ → m₂ a = some v → Fr h₀ L h m → News h₀ L h ((C, oC) :: (D, lst ys) :: nw) → (∀ p ∈ news, p ∈ nw) → (∀ p ∈ nw, p.1 < D) → D < C →
      Tst prog w A ifs (compEnvC scope cl C env)
        (fun s₃ => wpAny (model prog w) A (eval elt (compEnvC scope cl C env)) (fun y s₄ => ∃ h' tk', s₄ = { s₂ with heap := h', toks := tk' } ∧ Fr h₀ L h' m ∧ News h₀ L h' ((C, oC) :: (D, lst ys) :: nw) ∧ J (i + 1) (ys ++ [y])) E' s₃)
        (fun s₃ => ∃ h' tk', s₃ = { s₂ with heap := h', toks := tk' } ∧ Fr h₀ L h' m ∧ News h₀ L h' ((C, oC) :: (D, lst ys) :: nw) ∧ J (i + 1) ys) E' { s₂ with heap := h, toks := tk })
    (hRR : ∀ D C h tk m' ys, Fr h₀ L h m → News h₀ L h ((D, lst ys) :: news) → (∀ p ∈ news, p.1 < D) → h.Ns C m' → h₀.get? C = none → h₀.get? D = none → C ≠ L → D ≠ L → C ≠ D → (∀ p ∈ news, p.1 ≠ C) → J n ys → RR (.ref D) C (.ok .next) { s₂ with heap := h, toks := tk }) :
    wpAny (model prog w) A (newList []) (fun acc s₃ => wpAny (model prog w) A (newFunctionEnv scope env.globals cl [] env.qual none .none (some env)) (fun cenv s₄ =>
      codeAny (model prog w) A (.compStart (.ListComp elt [⟨.Name a pa, iter, ifs, 0⟩] scope pos) 0 (.ref I) acc { cenv with scope := relabel scope env }) (RR acc cenv.locals) s₄) E s₃) E s₂ := by
  refine wpAny_newObj_type (wpAny_newFunctionEnv hcell (by intro y hy; simp at hy) (fun h₁ hns₁ hsb₁ => ?_) hkind)
  dsimp only at hns₁ hsb₁ ⊢
  generalize hH2 : s₂.heap.push { cls := .type "list", dict := none, data := .seq ([] : List Value).toArray } = H2 at hns₁ hsb₁ ⊢
  have hCe : H2.objs.size = s₂.heap.objs.size + 1 := by rw [← hH2, Heap.size_push]
  generalize hCn : H2.objs.size = C at hns₁ hsb₁ hCe ⊢
  generalize hDn : s₂.heap.objs.size = D at hCe ⊢
  have low : ∀ (b : Nat) o, s₂.heap.get? b = some o → @LT.lt Nat _ b D := fun b o e => hDn ▸ Heap.lt_size e
  have up₁ : ∀ b o, s₂.heap.get? b = some o → h₁.get? b = some o := fun b o e => hsb₁.extBut b o (by have := low b o e; (first | omega | (show @Ne Nat _ _; omega) | (show @LT.lt Nat _ _ _; omega))) (Heap.get?_push_of_some _ (hH2 ▸ Heap.get?_push_of_some _ e))
  have hacc : h₁.get? D = some (lst []) := hsb₁.extBut _ _ (by (first | omega | (show @Ne Nat _ _; omega) | (show @LT.lt Nat _ _ _; omega))) (Heap.get?_push_of_some _ (hH2 ▸ (hDn ▸ Heap.get?_push_size _ rfl)))
  have new : ∀ x : Nat, D ≤ x → h₀.get? x = none := fun x hx => by
    cases e : h₀.get? x with
    | none => rfl
    | some o => exact absurd (low _ _ (F.keep x o e)) (by (first | omega | (show @Ne Nat _ _; omega) | (show @LT.lt Nat _ _ _; omega)))
  have hLD : @LT.lt Nat _ L D := hDn ▸ F.ns.lt
  have hnD : ∀ p ∈ news, @LT.lt Nat _ p.1 D := fun p hp => low _ _ (N p hp).1
  have hwD : ∀ b ∈ wr, @LT.lt Nat _ b D := fun b hb => by obtain ⟨o, e⟩ := live _ _ hst b hb; exact low _ _ e
  have hfD : ∀ b ∈ fp, @LT.lt Nat _ b D := fun b hb => by
    rcases src b hb with h | ⟨o, h⟩ | ⟨o, h⟩
    · exact hwD b h
    · exact low _ _ (F.keep _ _ h)
    · exact hnD _ h
  have loop : ∀ s₃ : Shared, s₃ = { s₂ with heap := h₁, toks := s₂.toks + ([] : List (Str × Value)).length } →
      codeAny (model prog w) A (.compLoop (.ListComp elt [⟨.Name a pa, iter, ifs, 0⟩] scope pos) 0 (.ref I) (.ref D) (compEnvC scope cl C env)) (RR (.ref D) C) s₃ := by
    rintro s₃ rfl
    refine comp_loop (fun k s' => ∃ h' tk i ys m', s' = { s₂ with heap := h', toks := tk } ∧ i ≤ n ∧ k = n + 1 - i ∧ ys.length ≤ i ∧ St i h' ∧ Fr h₀ L h' m ∧ h'.Ns C m' ∧ News h₀ L h' ((D, lst ys) :: news) ∧ J i ys) ?_ (n + 1)
      ⟨h₁, _, 0, [], _, rfl, Nat.zero_le _, rfl, Nat.le_refl _, W.frame _ _ _ hst fun b _ o e => up₁ b o e, F.keeps up₁, hns₁, fun p hp => ?_, h0⟩
    · rintro k s' ⟨h', tk, i, ys, m', rfl, hi, rfl, hyl, hst', F', hn', N', hJ⟩
      by_cases hlt : i < n
      · refine W.item i _ _ _ hlt hst' fun v g₂ tk₂ hP st₂ k₂ => ?_
        refine letGo_nm ?_
        have hCw : C ∉ wr := fun h => by have := hwD _ h; (first | omega | (show @Ne Nat _ _; omega) | (show @LT.lt Nat _ _ _; omega))
        have nsC : g₂.Ns C m' := hn'.at' fun o e => k₂ _ _ hCw e
        refine wpAny_assign_Name (wpAny_storeName_local (lookup_relabel_local hxa) nsC (fun g₆ hn₆ hs₆ => ?_) (by simp [compEnvC, relabel, hkind]))
        have u₆ : ∀ b o, b ≠ C → g₂.get? b = some o → g₆.get? b = some o := fun b o hb e => hs₆.extBut b o hb e
        have up : ∀ b o, b ∉ wr → b ≠ C → h'.get? b = some o → g₆.get? b = some o := fun b o hw hb e => u₆ b o hb (k₂ _ _ hw e)
        have st₆ : St (i + 1) g₆ := W.frame _ _ _ st₂ fun b hb o e => u₆ b o (by have := hfD b hb; (first | omega | (show @Ne Nat _ _; omega) | (show @LT.lt Nat _ _ _; omega))) e
        obtain ⟨oC, heC, hoC⟩ := ns_obj hn₆
        have F₆ : Fr h₀ L g₆ m := ⟨F'.ns.at' fun o e => up _ o (fun h => (hwr _ h).1 rfl) (by (first | omega | (show @Ne Nat _ _; omega) | (show @LT.lt Nat _ _ _; omega))) e, fun c o e => up c o (fun q => by rw [(hwr _ q).2.1] at e; cases e) (fun q => by rw [q, new C (by (first | omega | (show @Ne Nat _ _; omega) | (show @LT.lt Nat _ _ _; omega)))] at e; cases e) (F'.keep c o e), F'.above⟩
        let nw : List (Addr × Obj) := news ++ wr.map fun b => (b, (g₆.get? b).getD default)
        have N₆ : News h₀ L g₆ ((C, oC) :: (D, lst ys) :: nw) := fun p hp => by
          rcases List.mem_cons.mp hp with rfl | hp
          · exact ⟨heC, by dsimp only; (first | omega | (show @Ne Nat _ _; omega) | (show @LT.lt Nat _ _ _; omega)), new C (by (first | omega | (show @Ne Nat _ _; omega) | (show @LT.lt Nat _ _ _; omega)))⟩
          · rcases List.mem_cons.mp hp with rfl | hp
            · exact ⟨up _ _ (fun h => by have := hwD _ h; (first | omega | (show @Ne Nat _ _; omega) | (show @LT.lt Nat _ _ _; omega))) (by dsimp only; (first | omega | (show @Ne Nat _ _; omega) | (show @LT.lt Nat _ _ _; omega))) (N' _ List.mem_cons_self).1, (N' _ List.mem_cons_self).2⟩
            · rcases List.mem_append.mp hp with hp | hp
              · have q := N' p (List.mem_cons_of_mem _ hp)
                exact ⟨up _ _ (fun h => (hwr _ h).2.2 p hp rfl) (by have := hnD p hp; (first | omega | (show @Ne Nat _ _; omega) | (show @LT.lt Nat _ _ _; omega))) q.1, q.2⟩
              · obtain ⟨b, hb, rfl⟩ := List.mem_map.mp hp
                obtain ⟨o, e⟩ := live _ _ st₆ b hb
                exact ⟨by dsimp only; rw [e]; rfl, (hwr b hb).1, (hwr b hb).2.1⟩
        have hnw : ∀ p ∈ nw, @LT.lt Nat _ p.1 D := fun p hp => by
          rcases List.mem_append.mp hp with hp | hp
          · exact hnD p hp
          · obtain ⟨b, hb, rfl⟩ := List.mem_map.mp hp
            exact hwD b hb
        have fin : ∀ g, Fr h₀ L g m → News h₀ L g ((C, oC) :: (D, lst ys) :: nw) → St (i + 1) g := fun g Fg Ng => W.frame _ _ _ st₆ fun b hb o e => by
          rcases src b hb with h | ⟨o', h⟩ | ⟨o', h⟩
          · have q := (Ng (b, (g₆.get? b).getD default) (List.mem_cons_of_mem _ (List.mem_cons_of_mem _ (List.mem_append_right _ (List.mem_map.mpr ⟨b, h, rfl⟩))))).1
            dsimp only at q
            rw [e] at q
            exact q
          · have q := F₆.keep b o' h
            rw [e] at q
            cases q
            exact Fg.keep b _ h
          · have hm : ((b, o') : Addr × Obj) ∈ (C, oC) :: (D, lst ys) :: nw := List.mem_cons_of_mem _ (List.mem_cons_of_mem _ (List.mem_append_left _ h))
            have q := (N₆ _ hm).1
            dsimp only at q
            rw [e] at q
            cases q
            exact (Ng _ hm).1
        have hstep := step i v ys C D oC _ g₆ (tk₂ + 1) nw (notedBy (model prog w) A (compEnvC scope cl C env) fun e s' => RR (.ref D) C (.error e) s') hlt hP hJ hoC (by simp) F₆ N₆ (fun p hp => List.mem_append_left _ hp) hnw (by (first | omega | (show @Ne Nat _ _; omega) | (show @LT.lt Nat _ _ _; omega)))
        refine wpAny_mono hstep (fun ok s₃ g => ?_) fun _ _ q => q
        split
        · rename_i hok
          rw [if_pos hok] at g
          refine wpAny_mono g (fun y s₄ g₄' => ?_) fun _ _ q => q
          obtain ⟨h₇, tk₇, rfl, F₇, N₇, J₇⟩ := g₄'
          have st₇ := fin h₇ F₇ N₇
          refine append_at (hsz := by show ys.toArray.size ≤ sizeLine; rw [List.size_toArray]; (first | omega | (show @Ne Nat _ _; omega) | (show @LT.lt Nat _ _ _; omega))) (N₇ (D, lst ys) (List.mem_cons_of_mem _ List.mem_cons_self)).1 fun h₈ hs₈ hD₈ => ?_
          refine ⟨n + 1 - (i + 1), by (first | omega | (show @Ne Nat _ _; omega) | (show @LT.lt Nat _ _ _; omega)), h₈, tk₇, i + 1, ys ++ [y], _, rfl, hlt, rfl, by rw [List.length_append, List.length_singleton]; (first | omega | (show @Ne Nat _ _; omega) | (show @LT.lt Nat _ _ _; omega)), W.frame _ _ _ st₇ fun b hb o e => hs₈.extBut b o (by have := hfD b hb; (first | omega | (show @Ne Nat _ _; omega) | (show @LT.lt Nat _ _ _; omega))) e,
            F₇.change hs₈ (by (first | omega | (show @Ne Nat _ _; omega) | (show @LT.lt Nat _ _ _; omega))) (new D (by (first | omega | (show @Ne Nat _ _; omega) | (show @LT.lt Nat _ _ _; omega)))), (hoC.ns (N₇ (C, oC) List.mem_cons_self).1).sameBut hs₈ (by (first | omega | (show @Ne Nat _ _; omega) | (show @LT.lt Nat _ _ _; omega))), fun p hp => ?_, J₇⟩
          rcases List.mem_cons.mp hp with rfl | hp
          · exact ⟨hD₈.trans (congrArg some (lst_snoc ys y)), by dsimp only; (first | omega | (show @Ne Nat _ _; omega) | (show @LT.lt Nat _ _ _; omega)), new D (by (first | omega | (show @Ne Nat _ _; omega) | (show @LT.lt Nat _ _ _; omega)))⟩
          · have q := N₇ p (List.mem_cons_of_mem _ (List.mem_cons_of_mem _ (List.mem_append_left _ hp)))
            exact ⟨hs₈.extBut _ _ (by have := hnD p hp; (first | omega | (show @Ne Nat _ _; omega) | (show @LT.lt Nat _ _ _; omega))) q.1, q.2⟩
        · rename_i hok
          rw [if_neg hok] at g
          obtain ⟨h₇, tk₇, rfl, F₇, N₇, J₇⟩ := g
          refine ⟨n + 1 - (i + 1), by (first | omega | (show @Ne Nat _ _; omega) | (show @LT.lt Nat _ _ _; omega)), h₇, tk₇, i + 1, ys, _, rfl, hlt, rfl, by (first | omega | (show @Ne Nat _ _; omega) | (show @LT.lt Nat _ _ _; omega)), fin h₇ F₇ N₇, F₇, hoC.ns (N₇ (C, oC) List.mem_cons_self).1, fun p hp => ?_, J₇⟩
          rcases List.mem_cons.mp hp with rfl | hp
          · exact N₇ _ (List.mem_cons_of_mem _ List.mem_cons_self)
          · exact N₇ p (List.mem_cons_of_mem _ (List.mem_cons_of_mem _ (List.mem_append_left _ hp)))
      · obtain rfl : i = n := Nat.le_antisymm hi (Nat.not_lt.mp hlt)
        refine W.done _ _ _ hst' fun g₂ tk₂ k₂ => ?_
        refine hRR D C g₂ tk₂ m' ys ⟨F'.ns.at' fun o e => k₂ _ o (fun h => (hwr _ h).1 rfl) e, fun c o e => k₂ c o (fun q => by rw [(hwr _ q).2.1] at e; cases e) (F'.keep c o e), F'.above⟩ (fun p hp => ?_) hnD
          (hn'.at' fun o e => k₂ _ _ (fun h => by have := hwD _ h; (first | omega | (show @Ne Nat _ _; omega) | (show @LT.lt Nat _ _ _; omega))) e) (new C (by (first | omega | (show @Ne Nat _ _; omega) | (show @LT.lt Nat _ _ _; omega)))) (new D (by (first | omega | (show @Ne Nat _ _; omega) | (show @LT.lt Nat _ _ _; omega)))) (by (first | omega | (show @Ne Nat _ _; omega) | (show @LT.lt Nat _ _ _; omega))) (by (first | omega | (show @Ne Nat _ _; omega) | (show @LT.lt Nat _ _ _; omega))) (by (first | omega | (show @Ne Nat _ _; omega) | (show @LT.lt Nat _ _ _; omega))) (fun p hp => by have := hnD p hp; (first | omega | (show @Ne Nat _ _; omega) | (show @LT.lt Nat _ _ _; omega))) hJ
        refine ⟨k₂ _ _ (fun h => ?_) (N' p hp).1, (N' p hp).2⟩
        rcases List.mem_cons.mp hp with rfl | hp
        · have := hwD _ h; dsimp only at this; (first | omega | (show @Ne Nat _ _; omega) | (show @LT.lt Nat _ _ _; omega))
        · exact (hwr _ h).2.2 p hp rfl
    · rcases List.mem_cons.mp hp with rfl | hp
      · exact ⟨hacc, by dsimp only; (first | omega | (show @Ne Nat _ _; omega) | (show @LT.lt Nat _ _ _; omega)), new D (by (first | omega | (show @Ne Nat _ _; omega) | (show @LT.lt Nat _ _ _; omega)))⟩
      · exact ⟨up₁ _ _ (N p hp).1, (N p hp).2⟩
  have hst₁ : St 0 h₁ := W.frame _ _ _ hst fun b _ o e => up₁ b o e
  exact codeAny_compStart_list (loop _ rfl) (W.self 0 _ _ _ hst₁ (loop _ rfl))
theorem list_Z {elt iter : PySem.Expr} {ifs : List PySem.Expr} {a : Str} {pa : Pos} {scope : Scope} {cl : List (Str × Addr)} {pos : Pos} {Q : Value → Shared → Prop}
    {l : Nat} {its : List Value} {nn : Nat} {news : List (Addr × Obj)} (hh : A.handled = none) (J : Nat → List Value → Prop)
    (hcell : ∀ y ∈ scope.names, y.2 ≠ .cell) (hkind : scope.kind = .function) (hxa : scope.names.lookup a = some .local)
    (F : Fr h₀ L s.heap m) (N : News h₀ L s.heap news) (hm : (l, W.listOf its.toArray nn) ∈ news) (hsz : its.length ≤ sizeLine) (h0 : J 0 [])
    (step : ∀ i v ys (C D : Nat) oC m₂ h tk (nw : List (Addr × Obj)) E', its[i]? = some v → J i ys → NsObj oC m₂ → m₂ a = some v → Fr h₀ L h m → News h₀ L h ((C, oC) :: (D, lst ys) :: nw) → (∀ p ∈ news, p ∈ nw) → (∀ p ∈ nw, p.1 < D) → D < C →
      Tst prog w A ifs (compEnvC scope cl C env)
        (fun s₃ => wpAny (model prog w) A (eval elt (compEnvC scope cl C env)) (fun y s₄ => ∃ h' tk', s₄ = { s with heap := h', toks := tk' } ∧ Fr h₀ L h' m ∧ News h₀ L h' ((C, oC) :: (D, lst ys) :: nw) ∧ J (i + 1) (ys ++ [y])) E' s₃)
        (fun s₃ => ∃ h' tk', s₃ = { s with heap := h', toks := tk' } ∧ Fr h₀ L h' m ∧ News h₀ L h' ((C, oC) :: (D, lst ys) :: nw) ∧ J (i + 1) ys) E' { s with heap := h, toks := tk })
    (done : ∀ D h tk ys, Fr h₀ L h m → News h₀ L h ((D, lst ys) :: news) → (∀ p ∈ news, p.1 < D) → J its.length ys → Q (.ref D) { s with heap := h, toks := tk }) :
    SrcZ prog w A E (.ListComp elt [⟨.Name a pa, iter, ifs, 0⟩] scope pos) scope cl env Q (.ref l) s := by
  have hl : s.heap.IsList l its.toArray := ⟨_, N.get hm, rfl, nn, rfl⟩
  have hll : @LT.lt Nat _ l s.heap.objs.size := Heap.lt_size (N.get hm)
  have hLL : @LT.lt Nat _ L s.heap.objs.size := F.ns.lt
  have hnl : ∀ p ∈ news, @LT.lt Nat _ p.1 s.heap.objs.size := fun p hp => Heap.lt_size (N p hp).1
  have hnew : h₀.get? s.heap.objs.size = none := fresh_none F
  unfold SrcZ
  refine wpAny_pyIter_list hl ?_
  have hk : ∀ b o, s.heap.get? b = some o → (s.heap.push { cls := .type "list_iterator", data := .fields #[.ref l, .int 0 0] }).get? b = some o := fun b o e => Heap.get?_push_of_some _ e
  have hit : (s.heap.push { cls := .type "list_iterator", data := .fields #[.ref l, .int 0 0] }).IsListIter s.heap.objs.size l 0 := ⟨_, Heap.get?_push_size _ rfl, rfl, rfl⟩
  have Fk := fr_keeps F hk
  have Nk := news_keeps N hk
  have hlk := hl.at (fun o e => hk _ _ e)
  generalize hH : s.heap.push { cls := .type "list_iterator", data := .fields #[.ref l, .int 0 0] } = h' at *
  generalize s.heap.objs.size = z at *
  refine comp_one (s₂ := { s with heap := h' }) (I := z) (news := news) (Walks.list (A := A) hh z l (Nat.ne_of_lt hll) its.toArray) (by simpa using hsz) hh J hcell hkind hxa
    ⟨hit, hlk⟩ Fk Nk h0 (fun i h st b hb => ?_) (fun b hb => ?_) (fun b hb => ?_)
    (fun i v ys C D oC m₂ h tk nw E' hi hP hJ hoC ha F₁ N₁ hsb hn hD => ?_) (fun D C h tk m' ys F₁ N₁ hD hC e1 e2 n1 n2 n3 hne hJ => ?_)
  · obtain ⟨⟨o, e, _⟩, _⟩ := st
    rw [List.mem_singleton.mp hb]; exact ⟨_, e⟩
  · rw [List.mem_singleton.mp hb]
    exact ⟨(by show @Ne Nat _ _; omega), hnew, fun p hp => by have := hnl p hp; show @Ne Nat _ _; omega⟩
  · rcases List.mem_cons.mp hb with rfl | hb
    · exact .inl (by simp)
    · rw [List.mem_singleton.mp hb]; exact .inr (.inr ⟨_, hm⟩)
  · exact step i v ys C D oC m₂ h tk nw E' (by simpa using hP) hJ hoC ha F₁ N₁ hsb hn hD
  · refine ⟨m', hC, fun h'' hs'' => done D h'' tk ys (F₁.change hs'' n1 e1) (fun p hp => ?_) hD (by simpa using hJ)⟩
    refine ⟨hs''.extBut _ _ ?_ (N₁ p hp).1, (N₁ p hp).2⟩
    rcases List.mem_cons.mp hp with rfl | hp
    · exact Ne.symm n3
    · exact hne p hp
end
end
section
def kasRun {α : Type} (lt : Nat → Nat → Bool) : KasT α → α
  | .ret a => a
  | .ask i j k => kasRun lt (k (lt i j))
def kasOk {α : Type} (n : Nat) (lt : Nat → Nat → Bool) : KasT α → Bool
  | .ret _ => true
  | .ask i j k => decide (i < n) && decide (j < n) && kasOk n lt (k (lt i j))
theorem kas_eval {prog : Program} {w : World} {A : Around} {κ : SortKind} {vs : List Value} {n : Nat} {lt : Nat → Nat → Bool} {α : Type} {Q : α → Shared → Prop}
    (hc : ∀ i j, i < n → j < n → ∀ (C : Bool → Shared → Prop) (s : Shared), C (lt i j) s → kas_ask prog w A κ vs i j C s) :
    ∀ (t : KasT α) (s : Shared), kasOk n lt t = true → Q (kasRun lt t) s → t.kasWp (kas_ask prog w A κ vs) Q s
  | .ret a, s, _, h => h
  | .ask i j k, s, ho, h => by
    have ho' : (decide (i < n) && decide (j < n) && kasOk n lt (k (lt i j))) = true := ho
    rw [Bool.and_eq_true, Bool.and_eq_true] at ho'
    exact hc i j (of_decide_eq_true ho'.1.1) (of_decide_eq_true ho'.1.2) _ s (kas_eval hc (k (lt i j)) s ho'.2 h)
def ltStr (WS : List Str) (i j : Nat) : Bool := decide ((WS.getD i (Str.ofString "")).cps.toList < (WS.getD j (Str.ofString "")).cps.toList)
theorem strsAre_get : ∀ {vs : List Value} {WS : List Str} {i : Nat}, StrsAre vs WS → i < WS.length → ∃ t, vs.getD i Value.none = .str (WS.getD i (Str.ofString "")) t
  | _, _, _, .nil, h => absurd h (Nat.not_lt_zero _)
  | _, _, 0, .cons y t r, _ => ⟨t, rfl⟩
  | _, _, i + 1, .cons y t r, h => by
    obtain ⟨u, e⟩ := strsAre_get (i := i) r (Nat.lt_of_succ_lt_succ h)
    exact ⟨u, by simpa using e⟩
theorem strsAre_map {vs : List Value} {WS : List Str} (h : StrsAre vs WS) : ∀ (l : List Nat), (∀ i ∈ l, i < WS.length) → StrsAre (l.map fun i => vs.getD i Value.none) (l.map fun i => WS.getD i (Str.ofString ""))
  | [], _ => .nil
  | i :: l, hl => by
    obtain ⟨t, e⟩ := strsAre_get h (hl i List.mem_cons_self)
    rw [List.map_cons, List.map_cons, e]
    exact .cons _ _ (strsAre_map h l fun j hj => hl j (List.mem_cons_of_mem _ hj))
theorem looks_strs {M : Model} {h : Heap} : ∀ {vs : List Value} {WS : List Str}, StrsAre vs WS → ∀ v ∈ vs, Looks M h (typeOf v) (.type "str")
  | _, _, .nil, _, hv => by cases hv
  | _, _, .cons y t r, v, hv => by
    rcases List.mem_cons.mp hv with rfl | hv
    · exact Looks.of_pure rfl
    · exact looks_strs r v hv
theorem sorted_strs {prog : Program} {w : World} {A : Around} {E : Value → Shared → Prop} {s : Shared} {h₀ : Heap} {L l : Nat} {m : Str → Option Value} {news : List (Addr × Obj)} {vs : List Value} {WS SS : List Str} {p : List Nat} {nn : Nat} {Q : Value → Shared → Prop}
    (F : Fr h₀ L s.heap m) (N : News h₀ L s.heap news) (hm : (l, W.listOf vs.toArray nn) ∈ news) (hS : StrsAre vs WS) (h2 : 2 ≤ WS.length) (h64 : WS.length < 64)
    (hok : kasOk WS.length (ltStr WS) (kas_sort WS.length) = true) (hr : (kasRun (ltStr WS) (kas_sort WS.length)).toList = p) (hp : ∀ i ∈ p, i < WS.length) (hSS : p.map (fun i => WS.getD i (Str.ofString "")) = SS)
    (h : ∀ (D : Nat) h' c out, StrsAre out SS → Fr h₀ L h' m → News h₀ L h' ((D, W.listOf out.toArray c) :: news) → (∀ q ∈ news, q.1 < D) → Q (.ref D) { s with heap := h' }) :
    wpAny (model prog w) A (call (.builtin "sorted") [.ref l]) Q E s := by
  have hl := strsAre_len hS
  refine kas_sorted F N ⟨_, N.get hm, rfl, nn, rfl⟩ (by rw [hl]; exact h2) (by rw [hl]; exact h64) (fun h' _ _ => looks_strs hS) (by decide) fun D e1 h' F' N' lt => ?_
  rw [hl]
  refine kas_eval (n := WS.length) (lt := ltStr WS) (fun i j hi hj C s' hC => ?_) _ _ hok ?_
  · obtain ⟨t, e⟩ := strsAre_get hS hi
    obtain ⟨u, e'⟩ := strsAre_get hS hj
    unfold kas_ask
    rw [e, e']
    exact kas_lt_str hC
  · refine KasFin.intro F' N' (UpdF.head ?_) fun h'' c F'' N'' => ?_
    · exact fun q hq => Nat.ne_of_lt (lt q hq)
    · refine h D h'' c _ ?_ F'' N'' lt
      rw [hr, ← hSS]
      exact strsAre_map hS p hp
end
section
section
open PyProof.Rows.LCg
def dl1 : Stmt := kidOf (topSt 47) 1
theorem strsAre_get? : ∀ {vs : List Value} {WS : List Str} {i : Nat} {v : Value}, StrsAre vs WS → vs[i]? = some v → ∃ S t, WS[i]? = some S ∧ v = .str S t
  | _, _, _, _, .nil, h => by simp at h
  | _, _, 0, _, .cons y t r, h => ⟨y, t, rfl, (Option.some.inj h).symm⟩
  | _, _, i + 1, _, .cons y t r, h => by
    obtain ⟨S, u, e, e'⟩ := strsAre_get? (i := i) r (by simpa using h)
    exact ⟨S, u, by simpa using e, e'⟩
theorem strsAre_app : ∀ {vs us : List Value} {WS US : List Str}, StrsAre vs WS → StrsAre us US → StrsAre (vs ++ us) (WS ++ US)
  | _, _, _, _, .nil, h => h
  | _, _, _, _, .cons y t r, h => .cons y t (strsAre_app r h)
theorem allLt_mem1 {b : Nat} : ∀ {r : List (Addr × Obj)}, AllLt b r → ∀ p ∈ r, p.1 < b
  | [], _, _, h => by cases h
  | q :: r, h, p, hp => by
    rcases List.mem_cons.mp hp with rfl | hp
    · exact h.1
    · exact allLt_mem1 h.2 p hp
theorem d_take {h₀ h : Heap} {L : Addr} {x a b c : Addr × Obj} {r : List (Addr × Obj)} (N : News h₀ L h (x :: a :: b :: c :: r)) : News h₀ L h (x :: c :: r) := news_sub N fun p hp => by
  simp only [List.mem_cons] at hp ⊢
  rcases hp with h1 | h1 | h1
  · exact .inl h1
  · exact .inr (.inr (.inr (.inl h1)))
  · exact .inr (.inr (.inr (.inr h1)))
theorem dl1_turn (w : World) (mean : ExcName → Option Value) (mg mb : Str → Option Value) (rest : List (Addr × Obj)) {dp un : Nat} {gd : Option (List Code)} {cn : Str} {nm : List (Str × NameKind)} {ig ic : Bool} {mr : List (Str × Const)} {a : Addr} {ccd : Value} {cl : List (Str × Addr)} {outer : List Env} {A₀ : Around} {base h₀ : Heap} {L : Nat} {m0 : Str → Option Value}
    {L1 lW nW : Nat} {oc : Obj} {ws : List Value} {WS : List Str} {S : Str} {t : Tok} {s : Shared}
    (env : Env) (henv : env = envOfC (Str.ofString "_law_due") (scopeOf (topSt 47)) L 249 (.ref 248))
    (B : Below A₀ base (envX cn ⟨.function, nm, ig, ic, mr⟩ L1 a ccd cl :: outer) h₀) (X : (Mine.hd.heap_39 w.params).In h₀) (T : Top topProg LOOSE mean mg mb h₀) (hd : dp + 8 < recursionLimit) (hu : un + 140 < cLine)
    (hS : StrsAre ws WS) (hlen : ws.length < 100) (hcd : ∃ vo, oc.data = .cell vo) (hlt : L + 1 < lW) (hSl : S.length < 100) (hWl : ∀ W ∈ WS, W.length < 100) (offc : ∀ p ∈ rest, p.1 ≠ L + 1)
    (F : Fr h₀ L s.heap (fun y => if y = Str.ofString "words" then some (.ref lW) else m0 y)) (N : News h₀ L s.heap ((lW, W.listOf ws.toArray nW) :: (L + 1, oc) :: rest)) :
    wpAny (model PySem.Challenge.rw_un0033_01.prog w) ((ktrTop dp un gd cn ⟨.function, nm, ig, ic, mr⟩ L1 a ccd cl outer).deeper env) (storeName env (Str.ofString "name") (.str S t)) (fun _ s₁ => wpAny (model PySem.Challenge.rw_un0033_01.prog w) ((ktrTop dp un gd cn ⟨.function, nm, ig, ic, mr⟩ L1 a ccd cl outer).deeper env) (execs (bodyOf dl1) env) (fun fl s₃ => match fl with
          | .next => KeepIt (∃ (h' : Heap) (tk' lW' nW' : Nat) (ws' : List Value) (oc' : Obj), StrsAre ws' (WS ++ WS.map (· ++ S)) ∧ (∃ vo, oc'.data = .cell vo) ∧ L + 1 < lW' ∧ (∀ p ∈ rest, p.1 < lW') ∧ s₃ = { s with heap := h', toks := tk' } ∧ Fr h₀ L h' (fun y => if y = Str.ofString "words" then some (.ref lW') else m0 y) ∧ News h₀ L h' ((lW', W.listOf ws'.toArray nW') :: (L + 1, oc') :: rest))
          | _ => False) (fun _ _ => False) s₁) (fun _ _ => False) s := by
  k_with_none
  k_with "call builtin:issubclass" => (k_here; k_dflt (refine' iss_str ?k1 ?k2 ?k3 ?_; (case k1 => k_asm); (case k2 => k_asm); (case k3 => k_mem); k_whole); intro h' tk' F' N'; (try k_sweep))
  k_with "call type:list" => (k_here; (with_reducible show wpAny _ _ (call (Value.type _) [Value.str _ _]) _ _ _); k_dflt (refine' list_strK ?k0 ?k1 ?k2 ?k3 ?_; (case k0 => exact rfl); (case k1 => k_asm); (case k2 => k_asm); (case k3 => (rw [sizeLine_eq]; omega)); k_whole); intro l' h' tk' its' n' hch' F' N' l1; (try k_lt l1); (try k_sweep))
  k_with "truthy ref" => (k_here; (with_reducible show wpAny _ _ (truthy (Value.ref _)) _ _ _); k_dflt (first
        | (refine' truthy_cons ?N ?m ?z ?_; (case N => k_asm); (case m => k_mem); (case z => omega); k_whole)
        | (refine' truthy_nil ?N ?m ?_; (case N => k_asm); (case m => k_mem); k_whole)))
  k_with "call builtin:list.pop" => (k_here; (with_reducible show wpAny _ _ (call (Value.builtin _) [Value.ref _, Value.int _ _]) _ _ _); k_dflt (refine' pop0 ?F ?N ?U ?z ?_; (case F => k_asm); (case N => k_asm); (case U => k_upd); (case z => omega); k_whole); intro h' F' N'; (try dsimp only [List.nil_append, List.cons_append] at N'); (try k_sweep))
  k_with "eval ListComp" => (k_here; k_dflt (refine' ListComp_Z ?z1 ?z2 ?z3 ?_ ?z4; (case z1 => with_unfolding_all rfl); (case z2 => rfl); (case z3 => decide); (case z4 => (intro _; rfl))))
  k_with "eval Name" => (k_here; (with_reducible show wpAny _ _ (eval (Expr.Name _ _) (compEnvC _ _ _ _)) _ _ _); k_dflt (first | (refine' LCgL.ld_own ?N ?m ?C ?v ?_; (case N => k_asm); (case m => exact List.mem_cons_self); (case C => assumption); (case v => assumption)) | (refine' lcf_free ?N ?c ?m ?d ?_ ?a ?b; (case N => k_asm); (case c => with_unfolding_all rfl); (case m => assumption); (case d => assumption); (case a => rfl); (case b => with_unfolding_all rfl))))
  k_with "binaryOp Add ref ref" => (k_here; (with_reducible show wpAny _ _ (binaryOp _ (Value.ref _) (Value.ref _)) _ _ _); k_dflt (refine' kmk_add_lit ?F ?N ?a ?b rfl ?_ ?z; (case F => k_asm); (case N => k_asm); (case a => exact ⟨_, News.get (by k_asm) (by k_mem), rfl, _, rfl⟩); (case b => exact ⟨_, News.get (by k_asm) (by k_mem), rfl, _, rfl⟩); (case z => (rw [sizeLine_eq]; simp only [List.toList_toArray]; omega))); intro D' h' F' N' l1; (try k_lt l1); (try k_sweep))
  obtain ⟨vo, hcd⟩ := hcd
  revert X; k_fill; intro X
  (conv => pattern (execs (bodyOf dl1) _); arg 1; whnf)
  subst henv
  k_steps
  rename Fr _ _ _ _ => FF9
  rename News _ _ _ _ => NN9
  rename (_ = Data.cell (some _)) => dd9
  have hlW := strsAre_len hS
  k_dflt (refine' list_Z rfl (fun i ys => StrsAre ys ((WS.take i).map (· ++ S))) ?ec ?ek ?ea FF9 NN9 List.mem_cons_self ?es .nil ?step ?done)
  case ec => decide
  case ek => rfl
  case ea => rfl
  case es => rw [sizeLine_eq]; omega
  case step =>
    intro i v ys C D oC m₂ h tk nw E' hi hJ hoC ha F₁ N₁ hsb hn hD
    have hmx := hsb _ (List.mem_cons_of_mem _ List.mem_cons_self)
    have hmx' := List.mem_cons_of_mem (C, oC) (List.mem_cons_of_mem (D, lst ys) hmx)
    obtain ⟨S', t', hS', rfl⟩ := strsAre_get? hS hi
    have hSl' : S'.length < 100 := hWl S' (List.mem_of_getElem? hS')
    refine Tst.nil ?_
    k_steps
    any_goals first | exact F₁ | exact N₁
    have e9 : (WS.take (i + 1)).map (· ++ S) = (WS.take i).map (· ++ S) ++ [S' ++ S] := by
      rw [List.take_add_one, hS', List.map_append]; rfl
    rw [e9]
    exact strs_snoc hJ
  case done =>
    intro D h tk ys F₁ N₁ hn hJ
    rw [hlW, List.take_length] at hJ
    have hyl := strsAre_len hJ
    rw [List.length_map] at hyl
    clear FF9 NN9
    k_steps
    rename Fr _ _ _ _ => FF9
    rename News _ _ _ _ => NN9
    have NN8 := d_take NN9
    rename (_ ∧ _ ∧ _ ∧ AllLt _ rest) => q9
    refine ⟨_, _, _, 0, ws ++ ys, _, strsAre_app hS hJ, ⟨_, dd9⟩, ?_, allLt_mem1 q9.2.2.2, rfl, fr_eq FF9 (fun y => ?_), NN8⟩
    · omega
    · by_cases h1 : y = Str.ofString "words" <;> simp only [h1, if_true, if_false]
end
end
section
section
variable {prog : Program} {w : World} {A : Around} {E : Value → Shared → Prop} {s : Shared} {h₀ : Heap} {env : Env} {m : Str → Option Value} {news : List (Addr × Obj)}
theorem walk_it {a : Str} {pa : Pos} {body : List Stmt} {Q : Flow → Shared → Prop} {s0 : Shared} {I : Nat} {fp : List Addr} {n : Nat} {P : Nat → Value → Prop} {St : Nat → Heap → Prop}
    (J : Nat → (Str → Option Value) → List (Addr × Obj) → Prop) (F : Fr h₀ env.locals s.heap m) (N : News h₀ env.locals s.heap news) (h0 : J 0 m news)
    (hI : ∀ p ∈ news, p.1 < I) (hL : env.locals < I) (hI0 : h₀.get? I = none) (st : St 0 s.heap) (W : Walks prog w A I fp [I] n P St)
    (hobj : ∀ i h, St i h → ∃ o, h.get? I = some o)
    (src : ∀ b ∈ fp, b = I ∨ (∃ o, h₀.get? b = some o) ∨ ∃ o, ∀ i m' n', J i m' n' → ((b, o) : Addr × Obj) ∈ n')
    (step : ∀ i v oI m' n' h tk, P i v → i < n → J i m' n' → (∀ p ∈ n', p.1 ≠ I) → Fr h₀ env.locals h m' → News h₀ env.locals h ((I, oI) :: n') →
      wpAny (model prog w) A (assign (.Name a pa) env v) (fun _ s₂ => wpAny (model prog w) A (execs body env) (fun fl s₃ => match fl with
        | .ret v => Q (.ret v) s₃
        | .brk => Q .next s₃
        | _ => TurnEnd h₀ env.locals I oI (J (i + 1)) { s with heap := h, toks := tk } s₃) E s₂) E { s with heap := h, toks := tk })
    (done : ∀ h tk m' n', J n m' n' → Fr h₀ env.locals h m' → News h₀ env.locals h n' → Q .next { s with heap := h, toks := tk })
    (hE : PassesOwn (model prog w) A env E := by passes_own) :
    codeAny (model prog w) A (.forLoop (.Name a pa) (.ref I) body [] env) (fun r s' => match r with | .ok f => Q f s' | .error e => cameBackBy (model prog w) A env E e s') s := by
  refine loop_seq (news := news) (m := m) W J src (fun i v s Q E _ q => letGo_nm q) hobj (Nat.ne_of_gt hL) hI0 (fun p hp => Nat.ne_of_lt (hI p hp)) st F N h0 ?_ ?_
  · intro i v oI m' n' h tk hi hP hJ hn' F₁ N₁
    exact wpAny_mono (step i v oI m' n' h tk hP hi hJ hn' F₁ N₁) (fun _ s₂ h₂ => wpAny_passesOwn hE (wpAny_mono h₂ (fun fl s₃ h₃ => by cases fl <;> exact h₃) fun _ _ e => e)) hE
  · intro h tk m' n' hJ _ F₁ N₁
    exact wpAny_execs_nil (done h tk m' n' hJ F₁ N₁)
theorem str_it {a : Str} {pa : Pos} {body : List Stmt} {Q : Flow → Shared → Prop} {S : Str} {t : Tok} (hh : A.handled = none) (hS : S.cps.all (· < 128) = true)
    (J : Nat → (Str → Option Value) → List (Addr × Obj) → Prop) (F : Fr h₀ env.locals s.heap m) (N : News h₀ env.locals s.heap news) (h0 : J 0 m news)
    (step : ∀ i c u (I : Nat) oI m' n' h tk, S.cps[i]? = some c → J i m' n' → (∀ p ∈ n', p.1 ≠ I) → (∀ p ∈ news, p.1 < I) → Fr h₀ env.locals h m' → News h₀ env.locals h ((I, oI) :: n') →
      wpAny (model prog w) A (assign (.Name a pa) env (.str ⟨#[c]⟩ u)) (fun _ s₂ => wpAny (model prog w) A (execs body env) (fun fl s₃ => match fl with
        | .ret v => Q (.ret v) s₃
        | .brk => Q .next s₃
        | _ => TurnEnd h₀ env.locals I oI (J (i + 1)) { s with heap := h, toks := tk } s₃) E s₂) E { s with heap := h, toks := tk })
    (done : ∀ h tk m' n', J S.cps.size m' n' → Fr h₀ env.locals h m' → News h₀ env.locals h n' → Q .next { s with heap := h, toks := tk })
    (hE : PassesOwn (model prog w) A env E := by passes_own) :
    wpAny (model prog w) A (pyIter (.str S t)) (fun it s₂ => codeAny (model prog w) A (.forLoop (.Name a pa) it body [] env) (fun r s' => match r with | .ok f => Q f s' | .error e => cameBackBy (model prog w) A env E e s') s₂) E s := by
  refine wpAny_pyIter_ascii hS ?_
  have hk : ∀ b o, s.heap.get? b = some o → (s.heap.push { cls := .type "str_ascii_iterator", data := .fields #[.str S t, .int 0 0] }).get? b = some o := fun b o e => Heap.get?_push_of_some _ e
  refine walk_it (s0 := s) (news := news) (m := m) (s := { s with heap := s.heap.push { cls := .type "str_ascii_iterator", data := .fields #[.str S t, .int 0 0] } }) J (fr_keeps F hk) (news_keeps N hk) h0 (fun p hp => Heap.lt_size (N p hp).1) F.ns.lt (fresh_none F)
    ⟨_, Heap.get?_push_size _ rfl, rfl, rfl⟩ (Walks.strAscii hh _ S t) (fun i h st => by obtain ⟨o, e, _⟩ := st; exact ⟨o, e⟩) (fun b hb => .inl (List.mem_singleton.mp hb)) ?_ done hE
  rintro i v oI m' n' h tk ⟨c, u, hc, rfl⟩ _ hJ hn F₁ N₁
  exact step i c u _ oI m' n' h tk hc hJ hn (fun p hp => Heap.lt_size (N p hp).1) F₁ N₁
theorem lst_it {a : Str} {pa : Pos} {body : List Stmt} {Q : Flow → Shared → Prop} {l nn : Nat} {its : List Value} (hh : A.handled = none)
    (J : Nat → (Str → Option Value) → List (Addr × Obj) → Prop) (F : Fr h₀ env.locals s.heap m) (N : News h₀ env.locals s.heap news) (h0 : J 0 m news)
    (hp : (l, W.listOf its.toArray nn) ∈ news) (keep : ∀ i m' n', J i m' n' → ((l, W.listOf its.toArray nn) : Addr × Obj) ∈ n')
    (step : ∀ i v (I : Nat) oI m' n' h tk, its[i]? = some v → J i m' n' → (∀ p ∈ n', p.1 ≠ I) → (∀ p ∈ news, p.1 < I) → Fr h₀ env.locals h m' → News h₀ env.locals h ((I, oI) :: n') →
      wpAny (model prog w) A (assign (.Name a pa) env v) (fun _ s₂ => wpAny (model prog w) A (execs body env) (fun fl s₃ => match fl with
        | .ret v => Q (.ret v) s₃
        | .brk => Q .next s₃
        | _ => TurnEnd h₀ env.locals I oI (J (i + 1)) { s with heap := h, toks := tk } s₃) E s₂) E { s with heap := h, toks := tk })
    (done : ∀ h tk m' n', J its.length m' n' → Fr h₀ env.locals h m' → News h₀ env.locals h n' → Q .next { s with heap := h, toks := tk })
    (hE : PassesOwn (model prog w) A env E := by passes_own) :
    wpAny (model prog w) A (pyIter (.ref l)) (fun it s₂ => codeAny (model prog w) A (.forLoop (.Name a pa) it body [] env) (fun r s' => match r with | .ok f => Q f s' | .error e => cameBackBy (model prog w) A env E e s') s₂) E s := by
  have hl : s.heap.IsList l its.toArray := ⟨_, N.get hp, rfl, nn, rfl⟩
  have hdl : @LT.lt Nat _ l s.heap.objs.size := Heap.lt_size (N.get hp)
  refine wpAny_pyIter_list hl ?_
  have hk : ∀ b o, s.heap.get? b = some o → (s.heap.push { cls := .type "list_iterator", data := .fields #[.ref l, .int 0 0] }).get? b = some o := fun b o e => Heap.get?_push_of_some _ e
  refine walk_it (s0 := s) (news := news) (m := m) (s := { s with heap := s.heap.push { cls := .type "list_iterator", data := .fields #[.ref l, .int 0 0] } }) J (fr_keeps F hk) (news_keeps N hk) h0 (fun p hp => Heap.lt_size (N p hp).1) F.ns.lt (fresh_none F)
    ⟨⟨_, Heap.get?_push_size _ rfl, rfl, rfl⟩, hl.at fun o e => hk _ _ e⟩ (Walks.list hh _ l (Nat.ne_of_lt hdl) its.toArray) (fun i h st => by obtain ⟨o, e, _⟩ := st.1; exact ⟨o, e⟩) (fun b hb => ?_) ?_ (by simpa using done) hE
  · rcases List.mem_cons.mp hb with rfl | hb
    · exact .inl rfl
    · rw [List.mem_singleton.mp hb]; exact .inr (.inr ⟨_, keep⟩)
  · rintro i v oI m' n' h tk hP _ hJ hn F₁ N₁
    exact step i v _ oI m' n' h tk (by simpa using hP) hJ hn (fun p hp => Heap.lt_size (N p hp).1) F₁ N₁
theorem rng_it {a : Str} {pa : Pos} {body : List Stmt} {Q : Flow → Shared → Prop} {n : Nat} {t : Tok} (hh : A.handled = none) (hsm : Builtin.Range.small 0 n 1 = true) (hsz : Builtin.Range.rangeSize 0 n 1 = n)
    (J : Nat → (Str → Option Value) → List (Addr × Obj) → Prop) (F : Fr h₀ env.locals s.heap m) (N : News h₀ env.locals s.heap news) (h0 : J 0 m news)
    (step : ∀ (i : Nat) u (I : Nat) oI m' n' h tk, i < n → J i m' n' → (∀ p ∈ n', p.1 ≠ I) → (∀ p ∈ news, p.1 < I) → Fr h₀ env.locals h m' → News h₀ env.locals h ((I, oI) :: n') →
      wpAny (model prog w) A (assign (.Name a pa) env (.int i u)) (fun _ s₂ => wpAny (model prog w) A (execs body env) (fun fl s₃ => match fl with
        | .ret v => Q (.ret v) s₃
        | .brk => Q .next s₃
        | _ => TurnEnd h₀ env.locals I oI (J (i + 1)) { s with heap := h, toks := tk } s₃) E s₂) E { s with heap := h, toks := tk })
    (done : ∀ h tk m' n', J n m' n' → Fr h₀ env.locals h m' → News h₀ env.locals h n' → Q .next { s with heap := h, toks := tk })
    (hE : PassesOwn (model prog w) A env E := by passes_own) :
    wpAny (model prog w) A (call (.type "range") [.int n t]) (fun xv s₁ => wpAny (model prog w) A (pyIter xv) (fun it s₂ => codeAny (model prog w) A (.forLoop (.Name a pa) it body [] env) (fun r s' => match r with | .ok f => Q f s' | .error e => cameBackBy (model prog w) A env E e s') s₂) E s₁) E s := by
  refine call_range_1 ?_
  refine wpAny_pyIter_range (Heap.get?_push_size _ rfl) hsm ?_
  rw [hsz]
  have e1 : ∀ b o, s.heap.get? b = some o → ∀ o1 o2 : Obj, ((s.heap.push o1).push o2).get? b = some o := fun b o e o1 o2 => Heap.get?_push_of_some _ (Heap.get?_push_of_some _ e)
  have hz : (s.heap.push { cls := .type "range", data := .fields #[.int 0 s.toks, .int n t, .int 1 (s.toks + 1)] }).objs.size = s.heap.objs.size + 1 := Heap.size_push ..
  have hlt : ∀ p ∈ news, @LT.lt Nat _ p.1 s.heap.objs.size := fun p hp => Heap.lt_size (N p hp).1
  have hL : @LT.lt Nat _ env.locals s.heap.objs.size := F.ns.lt
  have hn0 : h₀.get? (s.heap.objs.size + 1) = none := by
    cases e : h₀.get? (s.heap.objs.size + 1) with
    | none => rfl
    | some o => exact absurd (Heap.lt_size (F.keep _ _ e)) (by show ¬ (s.heap.objs.size + 1 < s.heap.objs.size); omega)
  have hit : ((s.heap.push { cls := .type "range", data := .fields #[.int 0 s.toks, .int n t, .int 1 (s.toks + 1)] }).push { cls := .type "range_iterator", data := .fields #[rawInt 0, rawInt n, rawInt 1] }).get? (s.heap.objs.size + 1) = some { cls := .type "range_iterator", data := .fields #[rawInt 0, rawInt n, rawInt 1] } := by
    have := Heap.get?_push_size (s.heap.push { cls := .type "range", data := .fields #[.int 0 s.toks, .int n t, .int 1 (s.toks + 1)] }) (o := { cls := .type "range_iterator", data := .fields #[rawInt 0, rawInt n, rawInt 1] }) rfl
    rwa [hz] at this
  show codeAny _ _ _ _ { s with heap := (s.heap.push { cls := .type "range", data := .fields #[.int 0 s.toks, .int n t, .int 1 (s.toks + 1)] }).push { cls := .type "range_iterator", data := .fields #[rawInt 0, rawInt n, rawInt 1] }, toks := _ }
  rw [hz]
  have W := Walks.range (prog := prog) (w := w) (A := A) hh (s.heap.objs.size + 1) 0 1 n
  refine walk_it (s0 := s) (news := news) (m := m) (s := { s with heap := _, toks := _ }) J (fr_keeps F fun b o e => e1 b o e _ _) (news_keeps N fun b o e => e1 b o e _ _) h0 (fun p hp => by have := hlt p hp; show @LT.lt Nat _ _ _; omega) (by show @LT.lt Nat _ _ _; omega) hn0
    (by show IsRangeIter _ _ _ _ _; simpa using hit) W (fun i h st => ⟨_, st⟩) (fun b hb => .inl (List.mem_singleton.mp hb)) ?_ done hE
  rintro i v oI m' n' h tk ⟨u, rfl⟩ hi hJ hn F₁ N₁
  have := step i u _ oI m' n' h tk hi hJ hn (fun p hp => by have := hlt p hp; show @LT.lt Nat _ _ (s.heap.objs.size + 1); omega) F₁ N₁
  simpa using this
end
end
section
def dl2 : Stmt := kidOf (topSt 47) 3
def dl3 : Stmt := kidOf dl2 0
def dlIf : Stmt := kidOf dl3 0
def dl4 : Stmt := kidOf dlIf 1
theorem d_item {prog : Program} {w : World} {A : Around} {E : Value → Shared → Prop} {s : Shared} {h₀ : Heap} {L : Addr} {news : List (Addr × Obj)} {value slice : PySem.Expr} {D nn i : Nat} {its : List Value} {k : Int} {u : Tok} {v : Value} {Q : Value → Shared → Prop} (N : News h₀ L s.heap news) (hm : (D, W.listOf its.toArray nn) ∈ news)
    (hf : k = (i : Int)) (hi : i < 100) (hx : its[i]? = some v) (h : Q v s)
    (hs : ∀ j : Int, subscripted slice false (.ref D) (.int j u) = operate [.ref D, .int j u] (getItem (.ref D) (.int j u)) := by intro _; with_unfolding_all rfl) (hg : ∀ r, letTemporaryGo value (.ref D) r = pure () := by intro _; with_unfolding_all rfl) :
    wpAny (model prog w) A (subscriptTail value slice (.ref D) (.int k u)) Q E s := by
  subst hf
  exact item_listL ⟨_, N.get hm, rfl, nn, rfl⟩ (Int.natCast_nonneg _) (by omega) (by simpa using hx) h (hs _) hg
abbrev dmMap (c : Int) (tc : Tok) (D : Nat) (m0 : Str → Option Value) : Str → Option Value := fun y => if y = Str.ofString "made" then some (.int c tc) else if y = Str.ofString "figures" then some (.ref D) else m0 y
theorem dm_map_up {c c' : Int} {tc tc' : Tok} {D : Nat} {m0 : Str → Option Value} : ∀ y, (if y = Str.ofString "made" then some (Value.int c' tc') else dmMap c tc D m0 y) = dmMap c' tc' D m0 y := by
  intro y
  unfold dmMap
  by_cases h1 : y = Str.ofString "made" <;> simp only [h1, if_true, if_false]
theorem dl4_turn (w : World) (mean : ExcName → Option Value) (mg mb : Str → Option Value) (rest : List (Addr × Obj)) {dp un : Nat} {gd : Option (List Code)} {cn : Str} {nm : List (Str × NameKind)} {ig ic : Bool} {mr : List (Str × Const)} {a : Addr} {ccd : Value} {cl : List (Str × Addr)} {outer : List Env} {A₀ : Around} {base h₀ : Heap} {L : Nat} {m0 : Str → Option Value}
    {L1 D nn : Nat} {oc : Obj} {c xi : Int} {tc ti : Tok} {i : Nat} {its : List Value} {S : Str} {t : Tok} {s : Shared}
    (env : Env) (henv : env = envOfC (Str.ofString "_law_due") (scopeOf (topSt 47)) L 249 (.ref 248))
    (B : Below A₀ base (envX cn ⟨.function, nm, ig, ic, mr⟩ L1 a ccd cl :: outer) h₀) (X : (Mine.hd.heap_39 w.params).In h₀) (T : Top topProg LOOSE mean mg mb h₀) (hd : dp + 8 < recursionLimit) (hu : un + 140 < cLine)
    (hcd : ∃ vo, oc.data = .cell vo) (offc : ∀ p ∈ rest, p.1 ≠ L + 1) (hSl : S.length < 100) (hm : (D, W.listOf its.toArray nn) ∈ rest) (hf : Txt.find (Str.ofString "abcd") S = (i : Int)) (hi : i < 100) (hxi : its[i]? = some (.int xi ti))
    (F : Fr h₀ L s.heap (dmMap c tc D m0)) (N : News h₀ L s.heap ((L + 1, oc) :: rest)) :
    wpAny (model PySem.Challenge.rw_un0033_01.prog w) ((ktrTop dp un gd cn ⟨.function, nm, ig, ic, mr⟩ L1 a ccd cl outer).deeper env) (storeName env (Str.ofString "name") (.str S t)) (fun _ s₁ => wpAny (model PySem.Challenge.rw_un0033_01.prog w) ((ktrTop dp un gd cn ⟨.function, nm, ig, ic, mr⟩ L1 a ccd cl outer).deeper env) (execs (bodyOf dl4) env) (fun fl s₃ => match fl with
          | .next => KeepIt (∃ (h' : Heap) (tk' tc' : Nat) (y : Int) (oc' : Obj), SgI y (Builtin.bitXor c xi) ∧ (∃ vo, oc'.data = .cell vo) ∧ s₃ = { s with heap := h', toks := tk' } ∧ Fr h₀ L h' (dmMap y tc' D m0) ∧ News h₀ L h' ((L + 1, oc') :: rest))
          | _ => False) (fun _ _ => False) s₁) (fun _ _ => False) s := by
  k_with_none
  k_with "call builtin:issubclass" => (k_here; k_dflt (refine' iss_str ?k1 ?k2 ?k3 ?_; (case k1 => k_asm); (case k2 => k_asm); (case k3 => k_mem); k_whole); intro h' tk' F' N'; (try k_sweep))
  k_with "call type:list" => (k_here; (with_reducible show wpAny _ _ (call (Value.type _) [Value.str _ _]) _ _ _); k_dflt (refine' list_strK ?k0 ?k1 ?k2 ?k3 ?_; (case k0 => exact rfl); (case k1 => k_asm); (case k2 => k_asm); (case k3 => (rw [sizeLine_eq]; omega)); k_whole); intro l' h' tk' its' n' hch' F' N' l1; (try k_lt l1); (try k_sweep))
  k_with "truthy ref" => (k_here; (with_reducible show wpAny _ _ (truthy (Value.ref _)) _ _ _); k_dflt (first
        | (refine' truthy_cons ?N ?m ?z ?_; (case N => k_asm); (case m => k_mem); (case z => omega); k_whole)
        | (refine' truthy_nil ?N ?m ?_; (case N => k_asm); (case m => k_mem); k_whole)))
  k_with "call builtin:list.pop" => (k_here; (with_reducible show wpAny _ _ (call (Value.builtin _) [Value.ref _, Value.int _ _]) _ _ _); k_dflt (refine' pop0 ?F ?N ?U ?z ?_; (case F => k_asm); (case N => k_asm); (case U => k_upd); (case z => omega); k_whole); intro h' F' N'; (try dsimp only [List.nil_append, List.cons_append] at N'); (try k_sweep))
  k_with "inplaceOp BitXor int int" => (k_here; k_dflt (with_reducible refine' sg_xor ?_); intro y9 t9 k9 e9)
  k_with "subscriptTail" => (k_here; (with_reducible show wpAny _ _ (subscriptTail _ _ (Value.ref _) (Value.int _ _)) _ _ _); k_dflt (refine' d_item ?N ?m ?f ?i ?x ?_; (case N => k_asm); (case m => exact List.mem_cons_of_mem _ (by assumption)); (case f => assumption); (case x => assumption); (case i => assumption)))
  obtain ⟨vo, hcd⟩ := hcd
  revert X; k_fill; intro X
  (conv => pattern (execs (bodyOf dl4) _); arg 1; whnf)
  subst henv
  k_steps
  rename Fr _ _ _ _ => FF9
  rename News _ _ _ _ => NN9
  exact ⟨_, _, _, _, _, by assumption, ⟨_, by assumption⟩, rfl, fr_eq FF9 dm_map_up, NN9⟩
end
section
def wordS (w : List Nat) : Str := ⟨(w.map (97 + ·)).toArray⟩
theorem nm_local {M : Model} {A : Around} {E : Value → Shared → Prop} {s : Shared} {h₀ : Heap} {env : Env} {m : Str → Option Value} {x : Str} {p : Pos} {v : Value} {Q : Value → Shared → Prop} (hk : env.scope.kind = .function) (hl : env.kindOf x = some .local) (F : Fr h₀ env.locals s.heap m) (hv : m x = some v) (hb : (x == ("__debug__" : Str)) = false) (h : Q v s) :
    wpAny M A (eval (.Name x p) env) Q E s := wpAny_Name (wpAny_loadName_local hk hl F.ns hv h) hb
theorem nat_xor : ∀ a b : Fin 16, Builtin.bitXor ((a.val : Nat) : Int) ((b.val : Nat) : Int) = ((a.val ^^^ b.val : Nat) : Int) := by decide +kernel
theorem find_tab : ∀ i : Fin 4, Txt.find (Str.ofString "abcd") (⟨#[97 + i.val]⟩ : Str) = ((i.val : Nat) : Int) ∧ (⟨#[97 + i.val]⟩ : Str).length < 100 := by decide +kernel
theorem dl4_is : ∃ pa pi pos, dl4 = .For (.Name (Str.ofString "name") pa) (.Name (Str.ofString "word") pi) (bodyOf dl4) [] pos := ⟨_, _, _, rfl⟩
theorem short_let : ∀ w ∈ shortlex, (∀ i ∈ w, i < 4) ∧ (wordS w).cps.all (· < 128) = true := by decide +kernel
theorem dl4_loop (w : World) (mean : ExcName → Option Value) (mg mb : Str → Option Value) (rest : List (Addr × Obj)) {dp un : Nat} {gd : Option (List Code)} {cn : Str} {nm : List (Str × NameKind)} {ig ic : Bool} {mr : List (Str × Const)} {a : Addr} {ccd : Value} {cl : List (Str × Addr)} {outer : List Env} {A₀ : Around} {base h₀ : Heap} {L : Nat} {m0 : Str → Option Value}
    {L1 D nn k : Nat} {oc : Obj} {tc : Tok} {its : List Value} {x : Nat → Nat} {wd : List Nat} {t : Tok} {s : Shared} {Q : Flow → Shared → Prop} {E : Value → Shared → Prop}
    (env : Env) (henv : env = envOfC (Str.ofString "_law_due") (scopeOf (topSt 47)) L 249 (.ref 248))
    (B : Below A₀ base (envX cn ⟨.function, nm, ig, ic, mr⟩ L1 a ccd cl :: outer) h₀) (X : (Mine.hd.heap_39 w.params).In h₀) (T : Top topProg LOOSE mean mg mb h₀) (hd : dp + 8 < recursionLimit) (hu : un + 140 < cLine)
    (hcd : ∃ vo, oc.data = .cell vo) (offc : ∀ p ∈ rest, p.1 ≠ L + 1) (hm : (D, W.listOf its.toArray nn) ∈ rest) (hx : ∀ i, x i < 16) (hk : k < 16) (hw : wd ∈ shortlex) (hits : ∀ i, i < 4 → ∃ t, its[i]? = some (.int ((x i : Nat) : Int) t))
    (F : Fr h₀ L s.heap (dmMap (k : Int) tc D m0)) (hwd : dmMap (k : Int) tc D m0 (Str.ofString "word") = some (.str (wordS wd) t)) (N : News h₀ L s.heap ((L + 1, oc) :: rest))
    (hQ : ∀ (h' : Heap) (tk' tc' : Nat) (oc' : Obj), (∃ vo, oc'.data = .cell vo) → Fr h₀ L h' (dmMap ((k ^^^ wX x wd : Nat) : Int) tc' D m0) → News h₀ L h' ((L + 1, oc') :: rest) → Q .next { s with heap := h', toks := tk' }) :
    wpAny (model PySem.Challenge.rw_un0033_01.prog w) ((ktrTop dp un gd cn ⟨.function, nm, ig, ic, mr⟩ L1 a ccd cl outer).deeper env) (exec dl4 env) Q E s := by
  refine wpAny_mono (Q := Q) (E := fun _ _ => False) ?_ (fun _ _ x => x) (fun _ _ x => x.elim)
  obtain ⟨pa, pi, pos, e1⟩ := dl4_is
  rw [e1]
  have hL : env.locals = L := by rw [henv]; rfl
  subst hL
  obtain ⟨hlet, hasc⟩ := short_let wd hw
  have hsz : (wordS wd).cps.size = wd.length := by simp [wordS]
  refine for_str (S := wordS wd) (t := t) rfl hasc (fun i m' n' => ∃ oc' tc', m' = dmMap ((k ^^^ wX x (wd.take i) : Nat) : Int) tc' D m0 ∧ n' = (env.locals + 1, oc') :: rest ∧ ∃ vo, oc'.data = .cell vo) F N ⟨oc, tc, by simp [wX], rfl, hcd⟩ ?_ ?_ ?_ (hE := PassesOwn.never)
  · intro Q' hQ'
    exact nm_local (by rw [henv]; rfl) (by rw [henv]; rfl) F hwd (by decide) hQ'
  · rintro i c u I oI m' n' h tk hc ⟨oc', tc', rfl, rfl, hcd'⟩ hn hlt F1 N1
    have hc' : (wd.map (97 + ·))[i]? = some c := by simpa [wordS] using hc
    obtain ⟨j, hj, rfl⟩ : ∃ j, wd[i]? = some j ∧ 97 + j = c := by
      rw [List.getElem?_map] at hc'
      cases e : wd[i]? with
      | none => rw [e] at hc'; cases hc'
      | some j => rw [e] at hc'; exact ⟨j, rfl, Option.some.inj hc'⟩
    have hj4 : j < 4 := hlet j (List.mem_of_getElem? hj)
    obtain ⟨f1, f2⟩ := find_tab ⟨j, hj4⟩
    obtain ⟨ti, hti⟩ := hits j hj4
    have hIc : I ≠ env.locals + 1 := fun e => hn _ List.mem_cons_self e.symm
    refine wpAny_assign_Name (wpAny_mono (dl4_turn w mean mg mb ((I, oI) :: rest) (s := { s with heap := h, toks := tk }) (i := j) (xi := ((x j : Nat) : Int)) (S := ⟨#[97 + j]⟩) (t := u) (its := its) (nn := nn) (D := D) (m0 := m0) env henv B X T hd hu hcd' (fun p hp => ?_) f2 (List.mem_cons_of_mem _ hm) f1 (by omega) hti F1 (news_sub N1 fun p hp => ?_)) (fun _ s₂ h₂ => wpAny_mono h₂ (fun fl s₃ h₃ => ?_) fun _ _ x => x) fun _ _ x => x)
    · rcases List.mem_cons.mp hp with rfl | hp
      · exact hIc
      · exact offc p hp
    · simp only [List.mem_cons] at hp ⊢
      rcases hp with h1 | h1 | h1
      · exact .inr (.inl h1)
      · exact .inl h1
      · exact .inr (.inr h1)
    · cases fl with
      | next =>
        obtain ⟨h', tk', tc2, y, oc2, ⟨rfl⟩, hcd2, rfl, F2, N2⟩ := h₃
        refine ⟨h', tk', _, (env.locals + 1, oc2) :: rest, rfl, F2, news_sub N2 (fun p hp => ?_), (fun p hp => ?_), oc2, tc2, ?_, rfl, hcd2⟩
        · simp only [List.mem_cons] at hp ⊢
          rcases hp with h1 | h1 | h1
          · exact .inr (.inl h1)
          · exact .inl h1
          · exact .inr (.inr h1)
        · rcases List.mem_cons.mp hp with rfl | hp
          · exact hIc.symm
          · exact hn p (List.mem_cons_of_mem _ hp)
        · have hW : k ^^^ wX x (wd.take i) < 16 := Nat.xor_lt_two_pow (n := 4) hk (wX_lt x hx _)
          rw [nat_xor ⟨_, hW⟩ ⟨x j, hx j⟩, List.take_add_one, hj, Option.toList_some, wX_snoc]
          dsimp only
          rw [show (k ^^^ wX x (wd.take i)) ^^^ x j = k ^^^ (x j ^^^ wX x (wd.take i)) by ac_rfl]
      | ret v => exact h₃.elim
      | brk => exact h₃.elim
      | cont => exact h₃.elim
  · rintro h tk m' n' ⟨oc', tc', rfl, rfl, hcd'⟩ F1 N1
    rw [hsz, List.take_length] at F1
    exact hQ h tk tc' oc' hcd' F1 N1
end
section
abbrev duMap (D D2 lW : Nat) (k0 : Int) (tk : Tok) (n : Int) (tn : Tok) (m0 : Str → Option Value) : Str → Option Value := fun y =>
  if y = Str.ofString "figures" then some (.ref D) else if y = Str.ofString "first" then some (.int k0 tk) else if y = Str.ofString "due" then some (.ref D2) else if y = Str.ofString "size" then some (.int n tn) else if y = Str.ofString "words" then some (.ref lW) else m0 y
theorem du_map_self {m : Str → Option Value} {D D2 lW : Nat} {k0 n : Int} {tk tn : Tok} (h1 : m (Str.ofString "figures") = some (.ref D)) (h2 : m (Str.ofString "first") = some (.int k0 tk)) (h3 : m (Str.ofString "due") = some (.ref D2)) (h4 : m (Str.ofString "size") = some (.int n tn)) (h5 : m (Str.ofString "words") = some (.ref lW)) :
    ∀ y, m y = duMap D D2 lW k0 tk n tn m y := by
  intro y
  unfold duMap
  split
  · rename_i e; rw [e, h1]
  split
  · rename_i e; rw [e, h2]
  split
  · rename_i e; rw [e, h3]
  split
  · rename_i e; rw [e, h4]
  split
  · rename_i e; rw [e, h5]
  rfl
theorem dm_map_self {m : Str → Option Value} {c : Int} {tc : Tok} {D : Nat} (h1 : m (Str.ofString "made") = some (.int c tc)) (h2 : m (Str.ofString "figures") = some (.ref D)) : ∀ y, m y = dmMap c tc D m y := by
  intro y
  unfold dmMap
  split
  · rename_i e; rw [e, h1]
  split
  · rename_i e; rw [e, h2]
  rfl
theorem word_tab : ∀ w ∈ shortlex, Str.ofString "/" ++ Txt.join (Str.ofString "/") (PyProof.Rows.signs (wordS w)) = pathS w ∧ (wordS w).length < 100 ∧ (Txt.join (Str.ofString "/") (PyProof.Rows.signs (wordS w))).length < 100 ∧ (wordS w).length = w.length := by decide +kernel
structure WordIs (w : List Nat) (S : Str) : Prop where
  len : S.length < 100
  pth : Str.ofString "/" ++ Txt.join (Str.ofString "/") (PyProof.Rows.signs S) = pathS w
theorem dl3_turn (w : World) (mean : ExcName → Option Value) (mg mb : Str → Option Value) (rest : List (Addr × Obj)) {dp un : Nat} {gd : Option (List Code)} {cn : Str} {nm : List (Str × NameKind)} {ig ic : Bool} {mr : List (Str × Const)} {a : Addr} {ccd : Value} {cl : List (Str × Addr)} {outer : List Env} {A₀ : Around} {base h₀ : Heap} {L : Nat} {m0 : Str → Option Value}
    {L1 D D2 lW nn k0 n cc : Nat} {oc o2 : Obj} {tk0 tn : Tok} {its : List Value} {x : Nat → Nat} {wd : List Nat} {S : Str} {t : Tok} {kvs2 : List (Str × Value)} {s : Shared}
    (env : Env) (henv : env = envOfC (Str.ofString "_law_due") (scopeOf (topSt 47)) L 249 (.ref 248))
    (B : Below A₀ base (envX cn ⟨.function, nm, ig, ic, mr⟩ L1 a ccd cl :: outer) h₀) (X : (Mine.hd.heap_39 w.params).In h₀) (T : Top topProg LOOSE mean mg mb h₀) (hd : dp + 12 < recursionLimit) (hu : un + 240 < cLine)
    (hcd : ∃ vo, oc.data = .cell vo) (offc : ∀ p ∈ rest, p.1 ≠ L + 1) (hm : (D, W.listOf its.toArray nn) ∈ rest) (hx : ∀ i, x i < 16) (hk : k0 < 16) (hw : wd ∈ shortlex) (hits : ∀ i, i < 4 → ∃ t, its[i]? = some (.int ((x i : Nat) : Int) t))
    (hWS : S = wordS wd) (hWI : WordIs wd S) (hSl : S.length < 100) (hJ : (Txt.join (Str.ofString "/") (PyProof.Rows.signs S)).length < 100) (hc : SgC (k0 ^^^ wX x wd) cc) (hc16 : cc < 16)
    (hD2 : o2.IsDictOf (PySem.strKind PySem.Challenge.rw_un0033_01.prog w) kvs2) (lo2 : (D2 == sysModules) = false) (hz2 : kvs2.length < 1000) (hDc : D2 ≠ L + 1) (offD : ∀ p ∈ rest, p.1 ≠ D2)
    (F : Fr h₀ L s.heap (duMap D D2 lW (k0 : Int) tk0 (n : Int) tn m0)) (N : News h₀ L s.heap ((L + 1, oc) :: (D2, o2) :: rest)) :
    wpAny (model PySem.Challenge.rw_un0033_01.prog w) ((ktrTop dp un gd cn ⟨.function, nm, ig, ic, mr⟩ L1 a ccd cl outer).deeper env) (storeName env (Str.ofString "word") (.str S t)) (fun _ s₁ => wpAny (model PySem.Challenge.rw_un0033_01.prog w) ((ktrTop dp un gd cn ⟨.function, nm, ig, ic, mr⟩ L1 a ccd cl outer).deeper env) (execs (bodyOf dl3) env) (fun fl s₃ => match fl with
          | .next => KeepIt (∃ (h' : Heap) (tk' : Nat) (oc' o2' : Obj) (kvs2' : List (Str × Value)) (m1 : Str → Option Value),
              (((S.length : Int) ≠ (n : Int) ∧ kvs2' = kvs2) ∨ ((S.length : Int) = (n : Int) ∧ ((∃ v, valueAt kvs2 (sigT cc) = some v) ∧ kvs2' = kvs2 ∨ valueAt kvs2 (sigT cc) = none ∧ ∃ t', kvs2' = stored kvs2 (sigT cc) (.str (pathS wd) t')))) ∧
              o2'.IsDictOf (PySem.strKind PySem.Challenge.rw_un0033_01.prog w) kvs2' ∧ (∃ vo, oc'.data = .cell vo) ∧ s₃ = { s with heap := h', toks := tk' } ∧ Fr h₀ L h' (duMap D D2 lW (k0 : Int) tk0 (n : Int) tn m1) ∧ News h₀ L h' ((L + 1, oc') :: (D2, o2') :: rest))
          | _ => False) (fun _ _ => False) s₁) (fun _ _ => False) s := by
  k_with_none
  k_with "call builtin:issubclass" => (k_here; k_dflt (refine' iss_str ?k1 ?k2 ?k3 ?_; (case k1 => k_asm); (case k2 => k_asm); (case k3 => k_mem); k_whole); intro h' tk' F' N'; (try k_sweep))
  k_with "call type:list" => (k_here; (with_reducible show wpAny _ _ (call (Value.type _) [Value.str _ _]) _ _ _); k_dflt (refine' list_strK ?k0 ?k1 ?k2 ?k3 ?_; (case k0 => exact rfl); (case k1 => k_asm); (case k2 => k_asm); (case k3 => (rw [sizeLine_eq]; omega)); k_whole); intro l' h' tk' its' n' hch' F' N' l1; (try k_lt l1); (try k_sweep))
  k_with "truthy ref" => (k_here; (with_reducible show wpAny _ _ (truthy (Value.ref _)) _ _ _); k_dflt (first
        | (refine' truthy_cons ?N ?m ?z ?_; (case N => k_asm); (case m => k_mem); (case z => omega); k_whole)
        | (refine' truthy_nil ?N ?m ?_; (case N => k_asm); (case m => k_mem); k_whole)))
  k_with "call builtin:list.pop" => (k_here; (with_reducible show wpAny _ _ (call (Value.builtin _) [Value.ref _, Value.int _ _]) _ _ _); k_dflt (refine' pop0 ?F ?N ?U ?z ?_; (case F => k_asm); (case N => k_asm); (case U => k_upd); (case z => omega); k_whole); intro h' F' N'; (try dsimp only [List.nil_append, List.cons_append] at N'); (try k_sweep))
  k_with "exec For Name Name cons nil" => (k_here; refine Stop.h ?_)
  k_with "call ref" => (k_here; (with_reducible show wpAny _ _ (call (Value.ref 237) _) _ _ _); k_dflt (refine' cc_use (c_signs _ _ _ _ _ _ _ (by assumption)) ?B ?F ?X ?N ?T ?hd ?hu ?_; (case B => k_asm); (case F => k_asm); (case X => k_asm); (case N => k_asm); (case T => k_asm); (case hd => ktr_room); (case hu => ktr_units)); rintro v9 h9 tk9 n9 ⟨⟨t9, q9⟩, q8⟩ F9 N9; subst q9 q8; (try k_sweep))
  k_with "call builtin:dict.setdefault" => (k_here; refine Stop.h ?_)
  revert X; k_fill; intro X
  (conv => pattern (execs (bodyOf dl3) _); arg 1; whnf)
  subst henv
  k_steps
  · refine ⟨?_⟩
    rename Fr _ _ _ _ => FF9
    rename News _ _ _ _ => NN9
    subst hWS
    k_dflt (refine' dl4_loop w mean mg mb ((D2, o2) :: rest) _ rfl ?B ?X ?T ?hd ?hu hcd ?offc (List.mem_cons_of_mem _ hm) hx hk hw hits (fr_eq FF9 (dm_map_self rfl rfl)) rfl NN9 ?hQ)
    case B => k_asm
    case X => k_asm
    case T => k_asm
    case hd => ktr_room
    case hu => ktr_units
    case offc => exact off1 offc hDc
    intro h8 tk8 tc8 oc8 hcd8 F8 N8
    rw [hc.e] at F8
    clear FF9 NN9
    k_steps
    refine ⟨?_⟩
    rename Fr _ _ _ _ => FF9
    rename News _ _ _ _ => NN9
    have hkz : kvs2.length ≤ sizeLine := by rw [sizeLine_eq]; omega
    cases hv : valueAt kvs2 (sigT cc) with
    | some v =>
      refine kob_setdef_there NN9 (List.mem_cons_of_mem _ List.mem_cons_self) hD2 lo2 (strKind_is _ _ _ _) (PySem.F.args_dict_setdefault_3 _ _ _) hv hkz ?_
      k_steps
      exact ⟨_, _, _, _, kvs2, _, .inr ⟨by assumption, .inl ⟨⟨v, rfl⟩, rfl⟩⟩, hD2, hcd8, rfl, fr_eq FF9 (du_map_self rfl rfl rfl rfl rfl), NN9⟩
    | none =>
      refine kob_setdef_new FF9 NN9 (UpdF.tail (fun e => hDc e.symm) (UpdF.head offD)) hD2 lo2 (strKind_is _ _ _ _) (PySem.F.args_dict_setdefault_3 _ _ _) hv hkz ?_
      intro h7 o7 F7 N7 d7
      clear FF9 NN9
      k_steps
      rename Fr _ _ _ _ => FF9
      rename News _ _ _ _ => NN9
      rw [hWI.pth] at d7
      exact ⟨_, _, _, _, _, _, .inr ⟨by assumption, .inr ⟨rfl, _, rfl⟩⟩, d7, hcd8, rfl, fr_eq FF9 (du_map_self rfl rfl rfl rfl rfl), NN9⟩
  · rename Fr _ _ _ _ => FF9
    rename News _ _ _ _ => NN9
    exact ⟨_, _, _, _, kvs2, _, .inl ⟨by assumption, rfl⟩, hD2, hcd, rfl, fr_eq FF9 (du_map_self rfl rfl rfl rfl rfl), NN9⟩
end
section
def SO : List (List Nat) := [[], [0], [0,1], [0,1,2], [0,1,2,3], [0,1,3], [0,2], [0,2,3], [0,3], [1], [1,2], [1,2,3], [1,3], [2], [2,3], [3]]
def W16 : List Str := [[], [0], [1], [0,1], [2], [0,2], [1,2], [0,1,2], [3], [0,3], [1,3], [0,1,3], [2,3], [0,2,3], [1,2,3], [0,1,2,3]].map wordS
theorem so_short : ∀ w ∈ SO, w ∈ shortlex := by decide +kernel
def procS (n : Nat) : List (List Nat) := (List.range n).flatMap fun m => SO.filter fun w => w.length == m
theorem proc_all : procS 5 = shortlex := by decide +kernel
theorem proc_succ (n : Nat) : procS (n + 1) = procS n ++ SO.filter fun w => w.length == n := by
  unfold procS
  rw [List.range_succ, List.flatMap_append]
  simp
theorem due_snoc (sm : List Nat → List Nat → Bool) (w : List Nat) : ∀ ws ns : List (List Nat), bDue sm ns (ws ++ [w]) = if (bDue sm ns ws).any (fun n => sm n w) then bDue sm ns ws else bDue sm ns ws ++ [w]
  | [], ns => rfl
  | v :: ws, ns => due_snoc sm w ws _
theorem sort_ok : kasOk 16 (ltStr W16) (kas_sort 16) = true := by decide +kernel
theorem sort_run : (kasRun (ltStr W16) (kas_sort 16)).toList.map (fun i => W16.getD i (Str.ofString "")) = SO.map wordS := by decide +kernel
theorem sort_lt : ∀ i ∈ (kasRun (ltStr W16) (kas_sort 16)).toList, i < 16 := by decide +kernel
theorem W16_len : W16.length = 16 := by decide
theorem due_len2 (sm : List Nat → List Nat → Bool) : ∀ ws ns : List (List Nat), (bDue sm ns ws).length ≤ ns.length + ws.length
  | [], ns => Nat.le_refl _
  | w :: ws, ns => by
    unfold bDue
    refine Nat.le_trans (due_len2 sm ws _) ?_
    split
    · simp
    · simp; omega
theorem proc_len : ∀ n, (procS n).length ≤ 16 * n
  | 0 => Nat.le_refl _
  | n + 1 => by
    have := proc_len n
    have h2 : (SO.filter fun w => w.length == n).length ≤ SO.length := List.length_filter_le _ _
    have h3 : SO.length = 16 := by decide
    rw [proc_succ, List.length_append]; omega
theorem due_lenP (sm : List Nat → List Nat → Bool) (n i : Nat) (hn : n < 6) : (bDue sm [] (procS n ++ (SO.take i).filter fun w => w.length == n)).length < 1000 := by
  refine Nat.lt_of_le_of_lt (due_len2 sm _ _) ?_
  have h1 := proc_len n
  have h2 : ((SO.take i).filter fun w => w.length == n).length ≤ (SO.take i).length := List.length_filter_le _ _
  have h3 : (SO.take i).length ≤ SO.length := by rw [List.length_take]; exact Nat.min_le_right _ _
  have h4 : SO.length = 16 := by decide
  rw [List.length_append]
  simp only [List.length_nil]
  omega
theorem dl3_is : ∃ pa pf pi pc pos, dl3 = .For (.Name (Str.ofString "word") pa) (.Call (.Name (Str.ofString "sorted") pf) [.Name (Str.ofString "words") pi] [] pc) (bodyOf dl3) [] pos := ⟨_, _, _, _, _, rfl⟩
theorem dl3_iter (w : World) (mean : ExcName → Option Value) (mg mb : Str → Option Value) (rest : List (Addr × Obj)) {dp un : Nat} {gd : Option (List Code)} {cn : Str} {nm : List (Str × NameKind)} {ig ic : Bool} {mr : List (Str × Const)} {a : Addr} {ccd : Value} {cl : List (Str × Addr)} {outer : List Env} {A₀ : Around} {base h₀ : Heap} {L : Nat} {m0 : Str → Option Value}
    {L1 lW : Nat} {s : Shared} {Q : Value → Shared → Prop} {pf pi pc : Pos}
    (env : Env) (henv : env = envOfC (Str.ofString "_law_due") (scopeOf (topSt 47)) L 249 (.ref 248))
    (B : Below A₀ base (envX cn ⟨.function, nm, ig, ic, mr⟩ L1 a ccd cl :: outer) h₀) (X : (Mine.hd.heap_39 w.params).In h₀) (T : Top topProg LOOSE mean mg mb h₀) (hd : dp + 12 < recursionLimit) (hu : un + 240 < cLine)
    (F : Fr h₀ L s.heap m0) (hw : m0 (Str.ofString "words") = some (.ref lW)) (hQ : wpAny (model PySem.Challenge.rw_un0033_01.prog w) ((ktrTop dp un gd cn ⟨.function, nm, ig, ic, mr⟩ L1 a ccd cl outer).deeper env) (call (.builtin "sorted") [.ref lW]) Q (fun _ _ => False) s) :
    wpAny (model PySem.Challenge.rw_un0033_01.prog w) ((ktrTop dp un gd cn ⟨.function, nm, ig, ic, mr⟩ L1 a ccd cl outer).deeper env) (eval (.Call (.Name (Str.ofString "sorted") pf) [.Name (Str.ofString "words") pi] [] pc) env) Q (fun _ _ => False) s := by
  k_with_none
  k_with "call builtin:issubclass" => (k_here; k_dflt (refine' iss_str ?k1 ?k2 ?k3 ?_; (case k1 => k_asm); (case k2 => k_asm); (case k3 => k_mem); k_whole); intro h' tk' F' N'; (try k_sweep))
  k_with "call type:list" => (k_here; (with_reducible show wpAny _ _ (call (Value.type _) [Value.str _ _]) _ _ _); k_dflt (refine' list_strK ?k0 ?k1 ?k2 ?k3 ?_; (case k0 => exact rfl); (case k1 => k_asm); (case k2 => k_asm); (case k3 => (rw [sizeLine_eq]; omega)); k_whole); intro l' h' tk' its' n' hch' F' N' l1; (try k_lt l1); (try k_sweep))
  k_with "truthy ref" => (k_here; (with_reducible show wpAny _ _ (truthy (Value.ref _)) _ _ _); k_dflt (first
        | (refine' truthy_cons ?N ?m ?z ?_; (case N => k_asm); (case m => k_mem); (case z => omega); k_whole)
        | (refine' truthy_nil ?N ?m ?_; (case N => k_asm); (case m => k_mem); k_whole)))
  k_with "call builtin:list.pop" => (k_here; (with_reducible show wpAny _ _ (call (Value.builtin _) [Value.ref _, Value.int _ _]) _ _ _); k_dflt (refine' pop0 ?F ?N ?U ?z ?_; (case F => k_asm); (case N => k_asm); (case U => k_upd); (case z => omega); k_whole); intro h' F' N'; (try dsimp only [List.nil_append, List.cons_append] at N'); (try k_sweep))
  have F' : Fr h₀ L s.heap (fun y => if y = Str.ofString "words" then some (.ref lW) else m0 y) := fr_eq F fun y => by
    by_cases h1 : y = Str.ofString "words"
    · simp only [h1, if_true]; exact hw
    · simp only [h1, if_false]
  clear F
  revert X hQ; k_fill; intro X hQ
  subst henv
  have hQ' := Stop.mk hQ
  clear hQ
  k_steps
  exact hQ'.h
theorem take_filter {n i : Nat} {wd : List Nat} (h : SO[i]? = some wd) : (SO.take (i + 1)).filter (fun w => w.length == n) = (SO.take i).filter (fun w => w.length == n) ++ (if wd.length = n then [wd] else []) := by
  rw [List.take_add_one, h, List.filter_append]
  congr 1
  by_cases e : wd.length = n
  · simp [e]
  · simp [e]
theorem dl3_loop (w : World) (mean : ExcName → Option Value) (mg mb : Str → Option Value) (rest : List (Addr × Obj)) {dp un : Nat} {gd : Option (List Code)} {cn : Str} {nm : List (Str × NameKind)} {ig ic : Bool} {mr : List (Str × Const)} {a : Addr} {ccd : Value} {cl : List (Str × Addr)} {outer : List Env} {A₀ : Around} {base h₀ : Heap} {L : Nat} {m0 : Str → Option Value}
    {L1 D D2 lW nn nW k0 n : Nat} {oc o2 : Obj} {tk0 tn : Tok} {its ws : List Value} {x : Nat → Nat} {kvs2 : List (Str × Value)} {s : Shared} {Q : Flow → Shared → Prop} {E : Value → Shared → Prop}
    (env : Env) (henv : env = envOfC (Str.ofString "_law_due") (scopeOf (topSt 47)) L 249 (.ref 248))
    (B : Below A₀ base (envX cn ⟨.function, nm, ig, ic, mr⟩ L1 a ccd cl :: outer) h₀) (X : (Mine.hd.heap_39 w.params).In h₀) (T : Top topProg LOOSE mean mg mb h₀) (hd : dp + 12 < recursionLimit) (hu : un + 240 < cLine)
    (hcd : ∃ vo, oc.data = .cell vo) (offc : ∀ p ∈ rest, p.1 ≠ L + 1) (hm : (D, W.listOf its.toArray nn) ∈ rest) (hmW : (lW, W.listOf ws.toArray nW) ∈ rest) (hWs : StrsAre ws W16) (hx : ∀ i, x i < 16) (hk : k0 < 16) (hits : ∀ i, i < 4 → ∃ t, its[i]? = some (.int ((x i : Nat) : Int) t))
    (hD2 : o2.IsDictOf (PySem.strKind PySem.Challenge.rw_un0033_01.prog w) kvs2) (lo2 : (D2 == sysModules) = false) (hDc : D2 ≠ L + 1) (offD : ∀ p ∈ rest, p.1 ≠ D2) (hN : NotedIs x k0 kvs2 (bDue (smX x) [] (procS n))) (hn6 : n < 6)
    (F : Fr h₀ L s.heap (duMap D D2 lW (k0 : Int) tk0 (n : Int) tn m0)) (N : News h₀ L s.heap ((L + 1, oc) :: (D2, o2) :: rest))
    (hQ : ∀ (h' : Heap) (tk' : Nat) (oc' o2' : Obj) (kvs2' : List (Str × Value)) (m1 : Str → Option Value), (∃ vo, oc'.data = .cell vo) → o2'.IsDictOf (PySem.strKind PySem.Challenge.rw_un0033_01.prog w) kvs2' → NotedIs x k0 kvs2' (bDue (smX x) [] (procS (n + 1))) →
      Fr h₀ L h' (duMap D D2 lW (k0 : Int) tk0 (n : Int) tn m1) → News h₀ L h' ((L + 1, oc') :: (D2, o2') :: rest) → Q .next { s with heap := h', toks := tk' }) :
    wpAny (model PySem.Challenge.rw_un0033_01.prog w) ((ktrTop dp un gd cn ⟨.function, nm, ig, ic, mr⟩ L1 a ccd cl outer).deeper env) (exec dl3 env) Q E s := by
  refine wpAny_mono (Q := Q) (E := fun _ _ => False) ?_ (fun _ _ x => x) (fun _ _ x => x.elim)
  obtain ⟨pa, pf, pi, pc, pos, e1⟩ := dl3_is
  rw [e1]
  have hL : env.locals = L := by rw [henv]; rfl
  subst hL
  refine wpAny_For (dl3_iter w mean mg mb rest env henv B X T hd hu F rfl (sorted_strs (SS := SO.map wordS) (p := (kasRun (ltStr W16) (kas_sort 16)).toList) F N (List.mem_cons_of_mem _ (List.mem_cons_of_mem _ hmW)) hWs (by rw [W16_len]; omega) (by rw [W16_len]; omega) (by rw [W16_len]; exact sort_ok) (by rw [W16_len]) (by rw [W16_len]; exact sort_lt) sort_run fun lS h' c out hout F' N' hlS => ?_)) (by intro _; rfl)
  have hol : out.length = 16 := by have := strsAre_len hout; simpa [SO] using this
  have hSc : lS ≠ env.locals + 1 := fun e => by have : @LT.lt Nat _ (env.locals + 1) lS := hlS _ List.mem_cons_self; omega
  have hSD : lS ≠ D2 := fun e => by have : @LT.lt Nat _ D2 lS := hlS _ (List.mem_cons_of_mem _ List.mem_cons_self); omega
  refine lst_it (s := { s with heap := h' }) (l := lS) (nn := c) (its := out) (news := (env.locals + 1, oc) :: (D2, o2) :: (lS, W.listOf out.toArray c) :: rest) rfl
    (fun i m' n' => ∃ oc' o2' kvs' m1, m' = duMap D D2 lW (k0 : Int) tk0 (n : Int) tn m1 ∧ n' = (env.locals + 1, oc') :: (D2, o2') :: (lS, W.listOf out.toArray c) :: rest ∧ (∃ vo, oc'.data = .cell vo) ∧ o2'.IsDictOf (PySem.strKind PySem.Challenge.rw_un0033_01.prog w) kvs' ∧ NotedIs x k0 kvs' (bDue (smX x) [] (procS n ++ (SO.take i).filter fun w => w.length == n)))
    F' (news_sub N' fun p hp => ?_) ⟨oc, o2, kvs2, m0, rfl, rfl, hcd, hD2, by simpa using hN⟩ (List.mem_cons_of_mem _ (List.mem_cons_of_mem _ List.mem_cons_self)) ?_ ?_ ?_ (hE := PassesOwn.never)
  · simp only [List.mem_cons] at hp ⊢
    rcases hp with h1 | h1 | h1 | h1
    · exact .inr (.inl h1)
    · exact .inr (.inr (.inl h1))
    · exact .inl h1
    · exact .inr (.inr (.inr h1))
  · rintro i m' n' ⟨oc', o2', kvs', m1, rfl, rfl, -⟩
    exact List.mem_cons_of_mem _ (List.mem_cons_of_mem _ List.mem_cons_self)
  · rintro i v I oI m' n' h tk hv ⟨oc', o2', kvs', m1, rfl, rfl, hcd', hD2', hN'⟩ hn hlt F1 N1
    obtain ⟨S, t, hS, rfl⟩ := strsAre_get? hout hv
    obtain ⟨wd, hwd, rfl⟩ : ∃ wd, SO[i]? = some wd ∧ wordS wd = S := by
      rw [List.getElem?_map] at hS
      cases e : SO[i]? with
      | none => rw [e] at hS; cases hS
      | some wd => rw [e] at hS; exact ⟨wd, rfl, Option.some.inj hS⟩
    have hws : wd ∈ shortlex := so_short wd (List.mem_of_getElem? hwd)
    obtain ⟨w1, w2, w3, w4⟩ := word_tab wd hws
    have hkl : kvs'.length < 1000 := by
      have h1 := congrArg List.length hN'.ks
      rw [List.length_map, List.length_map] at h1
      have h2 := due_lenP (smX x) n i hn6
      omega
    have hany : (valueAt kvs' (sigT (k0 ^^^ wX x wd))).isSome = (bDue (smX x) [] (procS n ++ (SO.take i).filter fun w => w.length == n)).any fun m => smX x m wd := by
      rw [valueAt_isSome_eq_any]
      exact any_rows x k0 hx hk wd _ _ hN'.ks
    refine wpAny_assign_Name (wpAny_mono (dl3_turn w mean mg mb ((I, oI) :: (lS, W.listOf out.toArray c) :: rest) (s := { s with heap := h, toks := tk }) (wd := wd) (S := wordS wd) (t := t) (cc := k0 ^^^ wX x wd) (x := x) (n := n) (m0 := m1) (its := its) (nn := nn) env henv B X T hd hu hcd' (fun p hp => ?_) (List.mem_cons_of_mem _ (List.mem_cons_of_mem _ hm)) hx hk hws hits rfl ⟨w2, w1⟩ w2 w3 ⟨rfl⟩ (chX_lt x k0 hx hk wd) hD2' lo2 hkl hDc (fun p hp => ?_) F1 (news_sub N1 fun p hp => ?_)) (fun _ s₂ h₂ => wpAny_mono h₂ (fun fl s₃ h₃ => ?_) fun _ _ x => x) fun _ _ x => x)
    · rcases List.mem_cons.mp hp with rfl | hp
      · exact fun e => hn _ List.mem_cons_self e.symm
      · rcases List.mem_cons.mp hp with rfl | hp
        · exact hSc
        · exact offc p hp
    · rcases List.mem_cons.mp hp with rfl | hp
      · exact fun e => hn _ (List.mem_cons_of_mem _ List.mem_cons_self) e.symm
      · rcases List.mem_cons.mp hp with rfl | hp
        · exact hSD
        · exact offD p hp
    · simp only [List.mem_cons] at hp ⊢
      rcases hp with h1 | h1 | h1 | h1 | h1
      · exact .inr (.inl h1)
      · exact .inr (.inr (.inl h1))
      · exact .inl h1
      · exact .inr (.inr (.inr (.inl h1)))
      · exact .inr (.inr (.inr (.inr h1)))
    · cases fl with
      | ret v => exact h₃.elim
      | brk => exact h₃.elim
      | cont => exact h₃.elim
      | next =>
        obtain ⟨h2, tk2, oc2, o3, kvs3, m2, hor, hD3, hcd2, rfl, F2, N2⟩ := h₃
        refine ⟨h2, tk2, _, (env.locals + 1, oc2) :: (D2, o3) :: (lS, W.listOf out.toArray c) :: rest, rfl, F2, news_sub N2 (fun p hp => ?_), (fun p hp => ?_), oc2, o3, kvs3, m2, rfl, rfl, hcd2, hD3, ?_⟩
        · simp only [List.mem_cons] at hp ⊢
          rcases hp with h1 | h1 | h1 | h1 | h1
          · exact .inr (.inr (.inl h1))
          · exact .inl h1
          · exact .inr (.inl h1)
          · exact .inr (.inr (.inr (.inl h1)))
          · exact .inr (.inr (.inr (.inr h1)))
        · rcases List.mem_cons.mp hp with rfl | hp
          · have q9 := hn _ List.mem_cons_self; exact q9
          · rcases List.mem_cons.mp hp with rfl | hp
            · have q9 := hn _ (List.mem_cons_of_mem _ List.mem_cons_self); exact q9
            · exact hn p (List.mem_cons_of_mem _ (List.mem_cons_of_mem _ hp))
        · rw [take_filter hwd]
          rcases hor with ⟨hne, rfl⟩ | ⟨he, hor⟩
          · rw [if_neg (fun e => hne (by rw [w4, e])), List.append_nil]; exact hN'
          · have hwl : wd.length = n := by rw [w4] at he; exact Int.ofNat.inj he
            rw [if_pos hwl, ← List.append_assoc, due_snoc]
            rcases hor with ⟨⟨v, hv1⟩, rfl⟩ | ⟨hnone, t', rfl⟩
            · rw [hv1] at hany
              rw [if_pos (show _ = true from hany.symm)]; exact hN'
            · rw [hnone] at hany
              rw [if_neg (by rw [← hany]; exact Bool.false_ne_true), stored_absent hnone]
              refine ⟨?_, ?_⟩
              · rw [List.map_append, List.map_append, hN'.ks]; rfl
              · rw [List.map_append, List.map_append]; exact strs_snoc hN'.vs
  · rintro h tk m' n' ⟨oc', o2', kvs', m1, rfl, rfl, hcd', hD2', hN'⟩ F1 N1
    rw [hol] at hN'
    have e3 : SO.take 16 = SO := by decide
    rw [e3, ← proc_succ] at hN'
    exact hQ h tk oc' o2' kvs' m1 hcd' hD2' hN' F1 (news_sub N1 fun p hp => by
      simp only [List.mem_cons] at hp ⊢
      rcases hp with h1 | h1 | h1
      · exact .inl h1
      · exact .inr (.inl h1)
      · exact .inr (.inr (.inr h1)))
end
section
def wordsAt : Nat → List Str
  | 0 => [Str.ofString ""]
  | i + 1 => wordsAt i ++ (wordsAt i).map (· ++ (⟨#[97 + i]⟩ : Str))
theorem words_16 : wordsAt 4 = W16 := by decide +kernel
theorem words_ok : ∀ i : Fin 4, (wordsAt i.val).length < 100 ∧ (∀ W ∈ wordsAt i.val, W.length < 100) ∧ (⟨#[97 + i.val]⟩ : Str).length < 100 ∧ (Str.ofString "abcd").cps[i.val]? = some (97 + i.val) := by decide +kernel
theorem abcd_size : (Str.ofString "abcd").cps.size = 4 ∧ (Str.ofString "abcd").cps.all (· < 128) = true := by decide +kernel
abbrev wMap (lW : Nat) (m0 : Str → Option Value) : Str → Option Value := fun y => if y = Str.ofString "words" then some (.ref lW) else m0 y
theorem w_map_self {m : Str → Option Value} {lW : Nat} (h1 : m (Str.ofString "words") = some (.ref lW)) : ∀ y, m y = wMap lW m y := by
  intro y
  unfold wMap
  split
  · rename_i e; rw [e, h1]
  rfl
abbrev du0 (D D2 lW : Nat) (k0 : Int) (tk : Tok) (m0 : Str → Option Value) : Str → Option Value := fun y =>
  if y = Str.ofString "figures" then some (.ref D) else if y = Str.ofString "first" then some (.int k0 tk) else if y = Str.ofString "due" then some (.ref D2) else if y = Str.ofString "words" then some (.ref lW) else m0 y
theorem du0_self {m : Str → Option Value} {D D2 lW : Nat} {k0 : Int} {tk : Tok} (h1 : m (Str.ofString "figures") = some (.ref D)) (h2 : m (Str.ofString "first") = some (.int k0 tk)) (h3 : m (Str.ofString "due") = some (.ref D2)) (h5 : m (Str.ofString "words") = some (.ref lW)) :
    ∀ y, m y = du0 D D2 lW k0 tk m y := by
  intro y
  unfold du0
  split
  · rename_i e; rw [e, h1]
  split
  · rename_i e; rw [e, h2]
  split
  · rename_i e; rw [e, h3]
  split
  · rename_i e; rw [e, h5]
  rfl
theorem dl2_body : bodyOf dl2 = [dl3] := rfl
theorem dl1_loop (w : World) (mean : ExcName → Option Value) (mg mb : Str → Option Value) (rest : List (Addr × Obj)) {dp un : Nat} {gd : Option (List Code)} {cn : Str} {nm : List (Str × NameKind)} {ig ic : Bool} {mr : List (Str × Const)} {a : Addr} {ccd : Value} {cl : List (Str × Addr)} {outer : List Env} {A₀ : Around} {base h₀ : Heap} {L : Nat} {m0 : Str → Option Value}
    {L1 lW nW : Nat} {oc : Obj} {ws : List Value} {t : Tok} {s : Shared} {Q : Flow → Shared → Prop} {E : Value → Shared → Prop} {pa : Pos}
    (env : Env) (henv : env = envOfC (Str.ofString "_law_due") (scopeOf (topSt 47)) L 249 (.ref 248))
    (B : Below A₀ base (envX cn ⟨.function, nm, ig, ic, mr⟩ L1 a ccd cl :: outer) h₀) (X : (Mine.hd.heap_39 w.params).In h₀) (T : Top topProg LOOSE mean mg mb h₀) (hd : dp + 8 < recursionLimit) (hu : un + 140 < cLine)
    (hS : StrsAre ws (wordsAt 0)) (hcd : ∃ vo, oc.data = .cell vo) (hlt : L + 1 < lW) (offc : ∀ p ∈ rest, p.1 ≠ L + 1)
    (F : Fr h₀ L s.heap (wMap lW m0)) (N : News h₀ L s.heap ((lW, W.listOf ws.toArray nW) :: (L + 1, oc) :: rest))
    (hE : PassesOwn (model PySem.Challenge.rw_un0033_01.prog w) ((ktrTop dp un gd cn ⟨.function, nm, ig, ic, mr⟩ L1 a ccd cl outer).deeper env) env E)
    (hQ : ∀ (h' : Heap) (tk' lW' nW' : Nat) (ws' : List Value) (oc' : Obj), StrsAre ws' W16 → (∃ vo, oc'.data = .cell vo) → L + 1 < lW' → Fr h₀ L h' (wMap lW' m0) → News h₀ L h' ((lW', W.listOf ws'.toArray nW') :: (L + 1, oc') :: rest) → Q .next { s with heap := h', toks := tk' }) :
    wpAny (model PySem.Challenge.rw_un0033_01.prog w) ((ktrTop dp un gd cn ⟨.function, nm, ig, ic, mr⟩ L1 a ccd cl outer).deeper env) (pyIter (.str (Str.ofString "abcd") t)) (fun it s₂ => codeAny (model PySem.Challenge.rw_un0033_01.prog w) ((ktrTop dp un gd cn ⟨.function, nm, ig, ic, mr⟩ L1 a ccd cl outer).deeper env) (.forLoop (.Name (Str.ofString "name") pa) it (bodyOf dl1) [] env) (fun r s' => match r with | .ok f => Q f s' | .error e => cameBackBy (model PySem.Challenge.rw_un0033_01.prog w) ((ktrTop dp un gd cn ⟨.function, nm, ig, ic, mr⟩ L1 a ccd cl outer).deeper env) env E e s') s₂) E s := by
  have hL : env.locals = L := by rw [henv]; rfl
  subst hL
  refine str_it rfl abcd_size.2 (fun i m' n' => ∃ lW' nW' ws' oc', m' = wMap lW' m0 ∧ n' = (lW', W.listOf (ws' : List Value).toArray nW') :: (env.locals + 1, oc') :: rest ∧ StrsAre ws' (wordsAt i) ∧ (∃ vo, oc'.data = .cell vo) ∧ env.locals + 1 < lW')
    F N ⟨lW, nW, ws, oc, rfl, rfl, hS, hcd, hlt⟩ ?_ ?_ hE
  · rintro i c u I oI m' n' h tk hc ⟨lW', nW', ws', oc', rfl, rfl, hS', hcd', hlt'⟩ hn hI F1 N1
    have hi : i < 4 := by
      have := (Array.getElem?_eq_some_iff.mp hc).1
      rw [abcd_size.1] at this; exact this
    obtain ⟨w1, w2, w3, w4⟩ := words_ok ⟨i, hi⟩
    have hce : c = 97 + i := by
      dsimp only at w4
      rw [w4] at hc; exact (Option.some.inj hc).symm
    subst hce
    have hIc : I ≠ env.locals + 1 := fun e => hn _ (List.mem_cons_of_mem _ List.mem_cons_self) e.symm
    refine wpAny_assign_Name (wpAny_mono (wpAny_mono (dl1_turn w mean mg mb ((I, oI) :: rest) (s := { s with heap := h, toks := tk }) (S := ⟨#[97 + i]⟩) (t := u) (ws := ws') (WS := wordsAt i) (m0 := m0) (nW := nW') env henv B X T hd hu hS' (by rw [strsAre_len hS']; exact w1) hcd' hlt' w3 w2 (fun p hp => ?_) F1 (news_sub N1 fun p hp => ?_)) (fun _ s₂ h₂ => h₂) (fun _ _ x => x.elim)) (fun _ s₂ h₂ => wpAny_mono h₂ (fun fl s₃ h₃ => ?_) fun _ _ x => x.elim) fun _ _ x => x)
    · rcases List.mem_cons.mp hp with rfl | hp
      · exact hIc
      · exact offc p hp
    · simp only [List.mem_cons] at hp ⊢
      rcases hp with h1 | h1 | h1 | h1
      · exact .inr (.inl h1)
      · exact .inr (.inr (.inl h1))
      · exact .inl h1
      · exact .inr (.inr (.inr h1))
    · cases fl with
      | ret v => exact h₃.elim
      | brk => exact h₃.elim
      | cont => exact h₃.elim
      | next =>
        obtain ⟨h2, tk2, lW2, nW2, ws2, oc2, hS2, hcd2, hlt2, hltR, rfl, F2, N2⟩ := h₃
        have hI2 : I ≠ lW2 := Nat.ne_of_lt (hltR _ List.mem_cons_self)
        refine ⟨h2, tk2, _, (lW2, W.listOf ws2.toArray nW2) :: (env.locals + 1, oc2) :: rest, rfl, F2, news_sub N2 (fun p hp => ?_), (fun p hp => ?_), lW2, nW2, ws2, oc2, rfl, rfl, hS2, hcd2, hlt2⟩
        · simp only [List.mem_cons] at hp ⊢
          rcases hp with h1 | h1 | h1 | h1
          · exact .inr (.inr (.inl h1))
          · exact .inl h1
          · exact .inr (.inl h1)
          · exact .inr (.inr (.inr h1))
        · rcases List.mem_cons.mp hp with rfl | hp
          · exact hI2.symm
          · rcases List.mem_cons.mp hp with rfl | hp
            · exact hIc.symm
            · exact hn p (List.mem_cons_of_mem _ (List.mem_cons_of_mem _ hp))
  · rintro h tk m' n' ⟨lW', nW', ws', oc', rfl, rfl, hS', hcd', hlt'⟩ F1 N1
    rw [abcd_size.1, words_16] at hS'
    exact hQ h tk lW' nW' ws' oc' hS' hcd' hlt' F1 N1
theorem dl2_loop (w : World) (mean : ExcName → Option Value) (mg mb : Str → Option Value) (rest : List (Addr × Obj)) {dp un : Nat} {gd : Option (List Code)} {cn : Str} {nm : List (Str × NameKind)} {ig ic : Bool} {mr : List (Str × Const)} {a : Addr} {ccd : Value} {cl : List (Str × Addr)} {outer : List Env} {A₀ : Around} {base h₀ : Heap} {L : Nat} {m0 : Str → Option Value}
    {L1 D D2 lW nn nW k0 : Nat} {oc o2 : Obj} {tk0 t : Tok} {its ws : List Value} {x : Nat → Nat} {s : Shared} {Q : Flow → Shared → Prop} {E : Value → Shared → Prop} {pa : Pos}
    (env : Env) (henv : env = envOfC (Str.ofString "_law_due") (scopeOf (topSt 47)) L 249 (.ref 248))
    (B : Below A₀ base (envX cn ⟨.function, nm, ig, ic, mr⟩ L1 a ccd cl :: outer) h₀) (X : (Mine.hd.heap_39 w.params).In h₀) (T : Top topProg LOOSE mean mg mb h₀) (hd : dp + 12 < recursionLimit) (hu : un + 240 < cLine)
    (hcd : ∃ vo, oc.data = .cell vo) (offc : ∀ p ∈ rest, p.1 ≠ L + 1) (hm : (D, W.listOf its.toArray nn) ∈ rest) (hmW : (lW, W.listOf ws.toArray nW) ∈ rest) (hWs : StrsAre ws W16) (hx : ∀ i, x i < 16) (hk : k0 < 16) (hits : ∀ i, i < 4 → ∃ t, its[i]? = some (.int ((x i : Nat) : Int) t))
    (hD2 : o2.IsDictOf (PySem.strKind PySem.Challenge.rw_un0033_01.prog w) []) (lo2 : (D2 == sysModules) = false) (hDc : D2 ≠ L + 1) (offD : ∀ p ∈ rest, p.1 ≠ D2)
    (F : Fr h₀ L s.heap (du0 D D2 lW (k0 : Int) tk0 m0)) (N : News h₀ L s.heap ((L + 1, oc) :: (D2, o2) :: rest))
    (hE : PassesOwn (model PySem.Challenge.rw_un0033_01.prog w) ((ktrTop dp un gd cn ⟨.function, nm, ig, ic, mr⟩ L1 a ccd cl outer).deeper env) env E)
    (hQ : ∀ (h' : Heap) (tk' : Nat) (oc' o2' : Obj) (kvs2' : List (Str × Value)) (m1 : Str → Option Value), o2'.IsDictOf (PySem.strKind PySem.Challenge.rw_un0033_01.prog w) kvs2' → NotedIs x k0 kvs2' (bDue (smX x) [] shortlex) →
      Fr h₀ L h' (du0 D D2 lW (k0 : Int) tk0 m1) → News h₀ L h' ((L + 1, oc') :: (D2, o2') :: rest) → Q .next { s with heap := h', toks := tk' }) :
    wpAny (model PySem.Challenge.rw_un0033_01.prog w) ((ktrTop dp un gd cn ⟨.function, nm, ig, ic, mr⟩ L1 a ccd cl outer).deeper env) (call (.type "range") [.int 5 t]) (fun xv s₁ => wpAny (model PySem.Challenge.rw_un0033_01.prog w) ((ktrTop dp un gd cn ⟨.function, nm, ig, ic, mr⟩ L1 a ccd cl outer).deeper env) (pyIter xv) (fun it s₂ => codeAny (model PySem.Challenge.rw_un0033_01.prog w) ((ktrTop dp un gd cn ⟨.function, nm, ig, ic, mr⟩ L1 a ccd cl outer).deeper env) (.forLoop (.Name (Str.ofString "size") pa) it (bodyOf dl2) [] env) (fun r s' => match r with | .ok f => Q f s' | .error e => cameBackBy (model PySem.Challenge.rw_un0033_01.prog w) ((ktrTop dp un gd cn ⟨.function, nm, ig, ic, mr⟩ L1 a ccd cl outer).deeper env) env E e s') s₂) E s₁) E s := by
  have hL : env.locals = L := by rw [henv]; rfl
  subst hL
  rw [dl2_body]
  refine rng_it (n := 5) rfl (by decide) (by decide) (fun i m' n' => ∃ oc' o2' kvs' m1, m' = du0 D D2 lW (k0 : Int) tk0 m1 ∧ n' = (env.locals + 1, oc') :: (D2, o2') :: rest ∧ (∃ vo, oc'.data = .cell vo) ∧ o2'.IsDictOf (PySem.strKind PySem.Challenge.rw_un0033_01.prog w) kvs' ∧ NotedIs x k0 kvs' (bDue (smX x) [] (procS i)))
    F N ⟨oc, o2, [], m0, rfl, rfl, hcd, hD2, ⟨rfl, .nil⟩⟩ ?_ ?_ hE
  · rintro i u I oI m' n' h tk hi ⟨oc', o2', kvs', m1, rfl, rfl, hcd', hD2', hN'⟩ hn hI F1 N1
    refine wpAny_assign_Name (stN2 F1 N1 (by rw [henv]; rfl) (by rw [henv]; rfl) fun h3 F3 N3 => wpAny_execs_cons ?_)
    refine dl3_loop w mean mg mb ((I, oI) :: rest) (n := i) (tn := u) env henv B X T hd hu hcd' (fun p hp => ?_) (List.mem_cons_of_mem _ hm) (List.mem_cons_of_mem _ hmW) hWs hx hk hits hD2' lo2 hDc (fun p hp => ?_) hN' (by omega) (fr_eq F3 (du_map_self rfl rfl rfl rfl rfl)) (news_sub N3 fun p hp => ?_) fun h4 tk4 oc4 o4 kvs4 m4 hcd4 hD4 hN4 F4 N4 => wpAny_execs_nil ?_
    · rcases List.mem_cons.mp hp with rfl | hp
      · exact fun e => hn _ List.mem_cons_self e.symm
      · exact offc p hp
    · rcases List.mem_cons.mp hp with rfl | hp
      · exact fun e => hn _ (List.mem_cons_of_mem _ List.mem_cons_self) e.symm
      · exact offD p hp
    · simp only [List.mem_cons] at hp ⊢
      rcases hp with h1 | h1 | h1 | h1
      · exact .inr (.inl h1)
      · exact .inr (.inr (.inl h1))
      · exact .inl h1
      · exact .inr (.inr (.inr h1))
    · refine ⟨h4, tk4, _, (env.locals + 1, oc4) :: (D2, o4) :: rest, rfl, fr_eq F4 (du0_self rfl rfl rfl rfl), news_sub N4 (fun p hp => ?_), (fun p hp => ?_), oc4, o4, kvs4, _, rfl, rfl, hcd4, hD4, hN4⟩
      · simp only [List.mem_cons] at hp ⊢
        rcases hp with h1 | h1 | h1 | h1
        · exact .inr (.inr (.inl h1))
        · exact .inl h1
        · exact .inr (.inl h1)
        · exact .inr (.inr (.inr h1))
      · rcases List.mem_cons.mp hp with rfl | hp
        · have q9 := hn _ List.mem_cons_self; exact q9
        · rcases List.mem_cons.mp hp with rfl | hp
          · have q9 := hn _ (List.mem_cons_of_mem _ List.mem_cons_self); exact q9
          · exact hn p (List.mem_cons_of_mem _ (List.mem_cons_of_mem _ hp))
  · rintro h tk m' n' ⟨oc', o2', kvs', m1, rfl, rfl, hcd', hD2', hN'⟩ F1 N1
    rw [proc_all] at hN'
    exact hQ h tk oc' o2' kvs' m1 hD2' hN' F1 N1
theorem d_rot {h₀ h : Heap} {L : Addr} {x a b : Addr × Obj} {r : List (Addr × Obj)} (N : News h₀ L h (x :: a :: b :: r)) : News h₀ L h (b :: x :: a :: r) := news_sub N fun p hp => by
  simp only [List.mem_cons] at hp ⊢
  rcases hp with h1 | h1 | h1 | h1
  · exact .inr (.inr (.inl h1))
  · exact .inl h1
  · exact .inr (.inl h1)
  · exact .inr (.inr (.inr h1))
theorem c_due (w : World) (mean : ExcName → Option Value) (mg mb : Str → Option Value) (rest : List (Addr × Obj)) (u : Tok) (k0 : Nat) (hk : k0 < 16) (x : Nat → Nat) (hx : ∀ i, x i < 16) (D nn : Nat) (its : List Value) (hm : (D, W.listOf its.toArray nn) ∈ rest) (hits : ∀ i, i < 4 → ∃ t, its[i]? = some (.int ((x i : Nat) : Int) t)) :
  CC w mean mg mb 249 40 rest [.ref D, .int (k0 : Int) u] (fun r n' => ∃ (B c : Nat) (tups : List (Addr × Obj)) (vs : List Value), r = .ref B ∧ DatAll tups vs (itemsD ((bDue (smX x) [] shortlex).map (fun u => sigT (chX x k0 u))) ((bDue (smX x) [] shortlex).map pathS)) ∧ (∀ q ∈ rest, q.1 < B) ∧ (∀ q ∈ tups, B < q.1) ∧ n' = tups ++ (B, W.listOf vs.toArray c) :: rest) := by
  k_with_none
  k_with "call builtin:issubclass" => (k_here; k_dflt (refine' iss_str ?k1 ?k2 ?k3 ?_; (case k1 => k_asm); (case k2 => k_asm); (case k3 => k_mem); k_whole); intro h' tk' F' N'; (try k_sweep))
  k_with "call type:list" => (k_here; (with_reducible show wpAny _ _ (call (Value.type _) [Value.str _ _]) _ _ _); k_dflt (refine' list_strK ?k0 ?k1 ?k2 ?k3 ?_; (case k0 => exact rfl); (case k1 => k_asm); (case k2 => k_asm); (case k3 => (rw [sizeLine_eq]; omega)); k_whole); intro l' h' tk' its' n' hch' F' N' l1; (try k_lt l1); (try k_sweep))
  k_with "truthy ref" => (k_here; (with_reducible show wpAny _ _ (truthy (Value.ref _)) _ _ _); k_dflt (first
        | (refine' truthy_cons ?N ?m ?z ?_; (case N => k_asm); (case m => k_mem); (case z => omega); k_whole)
        | (refine' truthy_nil ?N ?m ?_; (case N => k_asm); (case m => k_mem); k_whole)))
  k_with "call builtin:list.pop" => (k_here; (with_reducible show wpAny _ _ (call (Value.builtin _) [Value.ref _, Value.int _ _]) _ _ _); k_dflt (refine' pop0 ?F ?N ?U ?z ?_; (case F => k_asm); (case N => k_asm); (case U => k_upd); (case z => omega); k_whole); intro h' F' N'; (try dsimp only [List.nil_append, List.cons_append] at N'); (try k_sweep))
  k_with "pyIter str" => (k_here; refine Stop.h ?_)
  k_with "exec For Name Call cons nil" => (k_here; refine Stop.h ?_)
  k_with "call type:range" => (k_here; refine Stop.h ?_)
  k_with "getMethod ref" => (k_here; (with_reducible show wpAny _ _ (getMethod (Value.ref _) (Str.ofString "items") _) _ _ _); k_dflt (refine' kdl_method (knd := PySem.strKind _ _) PySem.F.slot_dict_items PySem.F.type_dict_items ?N ?m ?d ?_; (case N => k_asm); (case m => k_mem); (case d => assumption)))
  k_with "call builtin:dict.items" => (k_here; (with_reducible show wpAny _ _ (call (Value.builtin "dict.items") [Value.ref _]) _ _ _); k_dflt (refine' kdx_view (knd := PySem.strKind _ _) ?F ?N ?m ?d ?l ?_; (case F => k_asm); (case N => k_asm); (case m => k_mem); (case d => assumption); (case l => assumption)); intro D9 h9 F9 N9 l9)
  k_with "call type:list" => (k_here; (with_reducible show wpAny _ _ (call (Value.type "list") [Value.ref _]) _ _ _); refine Stop.h ?_)
  dsimp only [CC]
  k_fill
  intros
  rename_i hret
  have hC := codeHd_of_K (c := 224) (P := 220) (by assumption) (by kernel_rfl)
  k_dflt k_enter
  k_steps
  refine wpAny_For ?_ (by intro _; rfl)
  k_steps
  refine ⟨?_⟩
  rename Fr _ _ _ _ => FF9
  rename News _ _ _ _ => NN9
  rename (_ < _ ∧ AllLt _ rest) => q9
  rename (∀ p, p ∈ rest → Prod.fst p < _) => q7
  k_dflt (refine' dl1_loop w mean mg mb rest _ rfl ?B ?X ?T ?hd ?hu (.cons _ _ .nil) ⟨_, by assumption⟩ ?hlt ?offc (fr_eq FF9 (w_map_self rfl)) NN9 ?hE ?hQ)
  case B => k_asm
  case X => k_asm
  case T => k_asm
  case hd => ktr_room
  case hu => ktr_units
  case hlt => exact q9.1
  case offc => exact fun p hp => Nat.ne_of_lt (Nat.lt_succ_of_lt (q7 p hp))
  case hE => passes_own
  intro h8 tk8 lW8 nW8 ws8 oc8 hS8 hcd8 hlt8 F8 N8
  clear FF9 NN9
  k_steps
  refine ⟨?_⟩
  refine wpAny_For ?_ (by intro _; rfl)
  rename Obj.IsDictOf (PySem.strKind _ _) _ [] => dd7
  rename (_ == sysModules) = false => lo7
  rename (_ < _ ∧ _ < _ ∧ AllLt _ rest) => q5
  k_steps
  refine ⟨?_⟩
  rename Fr _ _ _ _ => FF9
  rename News _ _ _ _ => NN9
  have NN8 := d_rot NN9
  clear NN9
  k_dflt (refine' dl2_loop w mean mg mb ((lW8, W.listOf ws8.toArray nW8) :: rest) _ rfl ?B ?X ?T ?hd ?hu hcd8 ?offc (List.mem_cons_of_mem _ hm) List.mem_cons_self hS8 hx hk hits dd7 lo7 ?hDc ?offD (fr_eq FF9 (du0_self rfl rfl rfl rfl)) NN8 ?hE ?hQ2)
  case B => k_asm
  case X => k_asm
  case T => k_asm
  case hd => ktr_room
  case hu => ktr_units
  case offc => exact off1 (fun p hp => Nat.ne_of_lt (Nat.lt_succ_of_lt (q7 p hp))) (Nat.ne_of_gt hlt8)
  case hDc => exact Nat.ne_of_gt q5.2.1
  case offD => exact off1 (fun p hp => Nat.ne_of_lt (allLt_mem1 q5.2.2 p hp)) (Nat.ne_of_lt q5.1)
  case hE => passes_own
  intro h6 tk6 oc6 o6 kvs6 m6 dd6 hN6 F6 N6
  clear FF9 NN8
  k_steps
  refine ⟨?_⟩
  rename Fr _ _ _ _ => FF9
  rename News _ _ _ _ => NN9
  have hkl6 : kvs6.length ≤ 16777216 := by
    have h1 := congrArg List.length hN6.ks
    rw [List.length_map, List.length_map] at h1
    have h2 := due_len2 (smX x) shortlex []
    rw [h1]
    exact Nat.le_trans h2 (by decide)
  k_dflt (refine' items_list rfl FF9 NN9 ?mv ?md dd6 hkl6 hN6.vs ?hQ8)
  case mv => k_mem
  case md => k_mem
  intro B4 h4 tk4 c4 tups4 vs4 da4 lt4 gt4 F4 N4
  clear FF9 NN9
  have lt4' : ∀ q ∈ rest, q.1 < B4 := fun q hq => lt4 q (by iterate 4 refine List.mem_cons_of_mem _ ?_
                                                            exact hq)
  generalize hn4 : tups4 ++ _ = n4 at N4
  k_steps
  rename News _ _ _ _ => NN9
  refine hret _ _ _ (tups4 ++ (B4, W.listOf vs4.toArray c4) :: rest) ⟨B4, c4, tups4, vs4, rfl, ?_, lt4', gt4, rfl⟩ (by assumption) (news_sub NN9 fun p hp => ?_)
  · rw [← hN6.ks]; exact da4
  · rw [← hn4]
    rcases List.mem_append.mp hp with hp | hp
    · exact List.mem_append_left _ hp
    · refine List.mem_append_right _ ?_
      rcases List.mem_cons.mp hp with rfl | hp
      · exact List.mem_cons_self
      · refine List.mem_cons_of_mem _ ?_
        iterate 4 refine List.mem_cons_of_mem _ ?_
        exact hp
end
section
section
open PyProof.Rows.LCg
def lineS (x : Nat → Nat) (i : Nat) : Str := (⟨#[97 + i]⟩ : Str) ++ octL (x i)
def linesAt (x : Nat → Nat) (i : Nat) : List Str := (List.range i).map (lineS x)
theorem linesAt_succ (x : Nat → Nat) (i : Nat) : linesAt x (i + 1) = linesAt x i ++ [lineS x i] := by
  unfold linesAt
  rw [List.range_succ, List.map_append]; rfl
theorem octL_ok : ∀ k : Fin 16, (octL k.val).length < 50 := by decide +kernel
theorem let_ok : ∀ i : Fin 4, (⟨#[97 + i.val]⟩ : Str).length < 50 ∧ (Str.ofString "abcd").cps[i.val]? = some (97 + i.val) := by decide +kernel
theorem lines_sum (x : Nat → Nat) (hx : ∀ i, x i < 16) : ∀ i, i ≤ 4 → ((linesAt x i).map (·.length)).sum ≤ 100 * i ∧ (linesAt x i).length = i
  | 0, _ => ⟨Nat.le_refl _, rfl⟩
  | i + 1, h => by
    obtain ⟨a, b⟩ := lines_sum x hx i (by omega)
    have h1 := (let_ok ⟨i, by omega⟩).1
    have h2 := octL_ok ⟨x i, hx i⟩
    dsimp only at h1 h2
    have h3 : (lineS x i).length ≤ 100 := by unfold lineS; rw [Str.length_append]; omega
    rw [linesAt_succ]
    constructor
    · rw [List.map_append, List.sum_append]
      simp only [List.map_cons, List.map_nil, List.sum_cons, List.sum_nil]
      omega
    · rw [List.length_append, b]; rfl
theorem lines_weight (x : Nat → Nat) (hx : ∀ i, x i < 16) : ((linesAt x 4).map (·.length)).sum + (linesAt x 4).length ≤ 1048576 := by
  obtain ⟨a, b⟩ := lines_sum x hx 4 (Nat.le_refl _)
  omega
def lwText : Stmt := kidOf (topSt 48) 1
structure FigsAre (x : Nat → Nat) (ys : List Value) : Prop where
  len : ys.length = 5
  lt : ∀ i, x i < 16
  at' : ∀ i, i < 5 → ∃ t, ys[i]? = some (.int ((x i : Nat) : Int) t)
theorem law_text (w : World) (mean : ExcName → Option Value) (mg mb : Str → Option Value) (rest : List (Addr × Obj)) {dp un : Nat} {gd : Option (List Code)} {outer : List Env} {A₀ : Around} {base h₀ : Heap} {L fa : Addr} {cd : Value} {m0 : Str → Option Value}
    {D nX : Nat} {ys : List Value} {x : Nat → Nat} {s : Shared} {Q : Flow → Shared → Prop} {E : Value → Shared → Prop}
    (env : Env) (henv : env = envOf (Str.ofString "law") (scopeOf (topSt 48)) L fa cd)
    (B : Below A₀ base outer h₀) (X : (Mine.hd.heap_39 w.params).In h₀) (T : Top topProg LOOSE mean mg mb h₀) (hd : dp + 100 < recursionLimit) (hu : un + 2000 < cLine)
    (hm : (D, W.listOf ys.toArray nX) ∈ rest) (hF : FigsAre x ys)
    (F : Fr h₀ L s.heap (fun y => if y = Str.ofString "figures" then some (.ref D) else m0 y)) (N : News h₀ L s.heap rest)
    (hQ : ∀ (h' : Heap) (tk' : Nat) (S : Str) (t : Tok), S = Txt.join (Str.ofString "") (linesAt x 4) → Fr h₀ L h' (fun y => if y = Str.ofString "text" then some (.str S t) else if y = Str.ofString "figures" then some (.ref D) else m0 y) → News h₀ L h' rest → Q .next { s with heap := h', toks := tk' }) :
    wpAny (model PySem.Challenge.rw_un0033_01.prog w) { handled := none, depth := dp, frames := some (env :: outer), guards := gd, units := un } (exec lwText env) Q E s := by
  k_with_none
  k_with "call builtin:issubclass" => (k_here; k_dflt (refine' iss_str ?k1 ?k2 ?k3 ?_; (case k1 => k_asm); (case k2 => k_asm); (case k3 => k_mem); k_whole); intro h' tk' F' N'; (try k_sweep))
  k_with "call type:list" => (k_here; (with_reducible show wpAny _ _ (call (Value.type _) [Value.str _ _]) _ _ _); k_dflt (refine' list_strK ?k0 ?k1 ?k2 ?k3 ?_; (case k0 => exact rfl); (case k1 => k_asm); (case k2 => k_asm); (case k3 => (rw [sizeLine_eq]; omega)); k_whole); intro l' h' tk' its' n' hch' F' N' l1; (try k_lt l1); (try k_sweep))
  k_with "truthy ref" => (k_here; (with_reducible show wpAny _ _ (truthy (Value.ref _)) _ _ _); k_dflt (first
        | (refine' truthy_cons ?N ?m ?z ?_; (case N => k_asm); (case m => k_mem); (case z => omega); k_whole)
        | (refine' truthy_nil ?N ?m ?_; (case N => k_asm); (case m => k_mem); k_whole)))
  k_with "call builtin:list.pop" => (k_here; (with_reducible show wpAny _ _ (call (Value.builtin _) [Value.ref _, Value.int _ _]) _ _ _); k_dflt (refine' pop0 ?F ?N ?U ?z ?_; (case F => k_asm); (case N => k_asm); (case U => k_upd); (case z => omega); k_whole); intro h' F' N'; (try dsimp only [List.nil_append, List.cons_append] at N'); (try k_sweep))
  k_with "eval ListComp" => (k_here; k_dflt (refine' ListComp_Z ?z1 ?z2 ?z3 ?_ ?z4; (case z1 => with_unfolding_all rfl); (case z2 => rfl); (case z3 => decide); (case z4 => (intro _; rfl))))
  k_with "call ref" => (k_here; (with_reducible show wpAny _ _ (call (Value.ref 230) _) _ _ _); k_dflt (refine' cc_use (c_rights _ _ _ _ _ _ _ (by assumption)) ?B ?F ?X ?N ?T ?hd ?hu ?_; (case B => k_asm); (case F => k_asm); (case X => k_asm); (case N => k_asm); (case T => k_asm); (case hd => ktr_room); (case hu => ktr_units)); rintro v9 h9 tk9 n9 ⟨⟨t9, q9⟩, q8⟩ F9 N9; subst q9 q8; (try k_sweep))
  k_with "binaryOp Mod str int" => (k_here; (with_reducible show wpAny _ _ (binaryOp Operator.Mod (Value.str _ _) (Value.int _ _)) _ _ _); k_dflt (refine' po_all _ (by assumption) ?_); intro t9 k9)
  k_with "eval Name" => (k_here; (with_reducible show wpAny _ _ (eval (Expr.Name _ _) (compEnvC _ _ _ _)) _ _ _); k_dflt (first | (refine' LCgL.ld_own ?N ?m ?C ?v ?_; (case N => k_asm); (case m => exact List.mem_cons_self); (case C => assumption); (case v => assumption)) | (refine' LCgL.ld_global ?F ?X ?T ?e ?_; (case F => k_asm); (case X => k_asm); (case T => k_asm); (case e => k_is))))
  refine wpAny_mono (Q := Q) (E := fun _ _ => False) ?_ (fun _ _ x => x) (fun _ _ x => x.elim)
  revert X; k_fill; intro X
  (conv => pattern (exec lwText _); arg 1; whnf)
  subst henv
  k_steps
  have hlen := hF.len
  k_dflt (refine' zip_Z rfl (fun i zs => StrsAre zs (linesAt x i)) ?ec ?ek ?ea ?eb ?en ?eX ?es ?el F N hm .nil ?step ?done)
  case ec => decide
  case ek => rfl
  case ea => rfl
  case eb => rfl
  case en => decide
  case eX => decide +kernel
  case es => rw [sizeLine_eq]; decide +kernel
  case el => rw [hlen]; decide +kernel
  case step =>
    intro i c u v zs C D' oC m₂ h tk nw E' hc hv hJ hoC ha hb F₁ N₁ hsb hn hD'
    have hi : i < 4 := by
      have h4 : (Str.ofString "abcd").cps.size = 4 := by decide +kernel
      have := (Array.getElem?_eq_some_iff.mp hc).1
      rw [h4] at this; exact this
    obtain ⟨w1, w2⟩ := let_ok ⟨i, hi⟩
    have hce : c = 97 + i := by
      dsimp only at w2
      rw [w2] at hc; exact (Option.some.inj hc).symm
    subst hce
    obtain ⟨tv, htv⟩ := hF.at' i (by omega)
    have hve : v = .int ((x i : Nat) : Int) tv := by rw [htv] at hv; exact (Option.some.inj hv).symm
    subst hve
    have hx16 := hF.lt i
    have hol := octL_ok ⟨x i, hx16⟩
    dsimp only at w1 hol
    refine Tst.nil ?_
    k_steps
    any_goals assumption
    rw [linesAt_succ]
    exact strs_snoc hJ
  case done =>
    intro D' h tk zs F₁ N₁ hn hJ
    k_steps
    have h4 : (Str.ofString "abcd").cps.size = 4 := by decide +kernel
    rw [h4] at hJ
    refine join_listW ⟨_, N₁.get List.mem_cons_self, rfl, _, rfl⟩ (by simpa using hJ) (by decide +kernel) (lines_weight x hF.lt) fun t9 tk9 => ?_
    k_steps
    rename Fr _ _ _ _ => FF9
    rename News _ _ _ _ => NN9
    exact hQ _ _ _ _ rfl FF9 (news_sub NN9 fun p hp => List.mem_cons_of_mem _ hp)
end
end
section
theorem octL_cps (k : Nat) (hk : k < 16) : (octL k).cps.toList = 32 :: (octC k ++ [10]) := octL_is ⟨k, hk⟩
theorem text_is (x : Nat → Nat) (hx : ∀ i, x i < 16) : (Txt.join (Str.ofString "") (linesAt x 4)).cps.toList = remF x 4 := by
  have e : (Str.ofString "").cps = #[] := by decide +kernel
  have h := fun i => octL_cps (x i) (hx i)
  have hl : ∀ i, (lineS x i).cps = #[97 + i] ++ (octL (x i)).cps := fun i => rfl
  show (Builtin.Str.glued _ _).cps.toList = _
  unfold Builtin.Str.glued
  rw [e]
  simp only [linesAt, List.range, List.range.loop, List.map_cons, List.map_nil, List.drop_succ_cons, List.drop_zero, List.foldl_cons, List.foldl_nil, List.headD_cons, Array.append_empty, hl, Array.toList_append, h]
  simp [remF, lineC]
theorem text_len (x : Nat → Nat) (hx : ∀ i, x i < 16) : (Txt.join (Str.ofString "") (linesAt x 4)).length < 1000 := by
  have h := congrArg List.length (text_is x hx)
  have h2 := remF_len x hx 4
  have h3 : (Txt.join (Str.ofString "") (linesAt x 4)).length = (Txt.join (Str.ofString "") (linesAt x 4)).cps.toList.length := by rw [Array.length_toList]; rfl
  omega
def lwNoted : Stmt := kidOf (topSt 48) 2
theorem mem_up9 {α : Type} {a1 a2 a3 a4 a5 a6 a7 a8 a9 p : α} {r : List α} (h : p ∈ r) : p ∈ a1 :: a2 :: a3 :: a4 :: a5 :: a6 :: a7 :: a8 :: a9 :: r := by
  simp only [List.mem_cons, h, or_true]
theorem d_item9 {prog : Program} {w : World} {A : Around} {E : Value → Shared → Prop} {s : Shared} {h₀ : Heap} {L : Addr} {news : List (Addr × Obj)} {value slice : PySem.Expr} {D nn : Nat} {its : List Value} {u : Tok} {v : Value} {Q : Value → Shared → Prop} (N : News h₀ L s.heap news) (hm : (D, W.listOf its.toArray nn) ∈ news)
    (hx : its[4]? = some v) (h : Q v s)
    (hs : ∀ j : Int, subscripted slice false (.ref D) (.int j u) = operate [.ref D, .int j u] (getItem (.ref D) (.int j u)) := by intro _; with_unfolding_all rfl) (hg : ∀ r, letTemporaryGo value (.ref D) r = pure () := by intro _; with_unfolding_all rfl) :
    wpAny (model prog w) A (subscriptTail value slice (.ref D) (.int 4 u)) Q E s := d_item (i := 4) N hm rfl (by omega) hx h hs hg
theorem lw_map {m : Str → Option Value} {B D : Nat} (h1 : m (Str.ofString "noted") = some (.ref B)) (h2 : m (Str.ofString "figures") = some (.ref D)) : ∀ y, m y = (fun y => if y = Str.ofString "noted" then some (.ref B) else if y = Str.ofString "figures" then some (.ref D) else m y) y := by
  intro y
  dsimp only
  split
  · rename_i e; rw [e, h1]
  split
  · rename_i e; rw [e, h2]
  rfl
theorem law_noted (w : World) (mean : ExcName → Option Value) (mg mb : Str → Option Value) (rest : List (Addr × Obj)) {dp un : Nat} {gd : Option (List Code)} {outer : List Env} {A₀ : Around} {base h₀ : Heap} {L fa : Addr} {cd : Value} {m0 : Str → Option Value}
    {D nX : Nat} {ys : List Value} {x : Nat → Nat} {t : Tok} {S : Str} {s : Shared} {Q : Flow → Shared → Prop} {E : Value → Shared → Prop}
    (env : Env) (henv : env = envOf (Str.ofString "law") (scopeOf (topSt 48)) L fa cd)
    (B : Below A₀ base outer h₀) (X : (Mine.hd.heap_39 w.params).In h₀) (T : Top topProg LOOSE mean mg mb h₀) (hd : dp + 100 < recursionLimit) (hu : un + 2000 < cLine)
    (hm : (D, W.listOf ys.toArray nX) ∈ rest) (off : ∀ p ∈ rest, p.1 ≠ 220) (hF : FigsAre x ys) (hS : S.cps.toList = remF x 4) (hSl : S.length < 1000)
    (F : Fr h₀ L s.heap (fun y => if y = Str.ofString "text" then some (.str S t) else if y = Str.ofString "figures" then some (.ref D) else m0 y)) (N : News h₀ L s.heap ((220, tabObj #[]) :: rest))
    (hQ : ∀ (h' : Heap) (tk' B c : Nat) (ps : Array Value) (tups : List (Addr × Obj)) (vs : List Value) (m1 : Str → Option Value), DatAll tups vs (itemsD ((bDue (smX x) [] shortlex).map (fun u => sigT (chX x (x 4) u))) ((bDue (smX x) [] shortlex).map pathS)) →
      Fr h₀ L h' (fun y => if y = Str.ofString "noted" then some (.ref B) else if y = Str.ofString "figures" then some (.ref D) else m1 y) → News h₀ L h' (tups ++ (B, W.listOf vs.toArray c) :: (220, tabObj ps) :: rest) → Q .next { s with heap := h', toks := tk' }) :
    wpAny (model PySem.Challenge.rw_un0033_01.prog w) { handled := none, depth := dp, frames := some (env :: outer), guards := gd, units := un } (exec lwNoted env) Q E s := by
  k_with_none
  k_with "call builtin:issubclass" => (k_here; k_dflt (refine' iss_str ?k1 ?k2 ?k3 ?_; (case k1 => k_asm); (case k2 => k_asm); (case k3 => k_mem); k_whole); intro h' tk' F' N'; (try k_sweep))
  k_with "call type:list" => (k_here; (with_reducible show wpAny _ _ (call (Value.type _) [Value.str _ _]) _ _ _); k_dflt (refine' list_strK ?k0 ?k1 ?k2 ?k3 ?_; (case k0 => exact rfl); (case k1 => k_asm); (case k2 => k_asm); (case k3 => (rw [sizeLine_eq]; omega)); k_whole); intro l' h' tk' its' n' hch' F' N' l1; (try k_lt l1); (try k_sweep))
  k_with "truthy ref" => (k_here; (with_reducible show wpAny _ _ (truthy (Value.ref _)) _ _ _); k_dflt (first
        | (refine' truthy_cons ?N ?m ?z ?_; (case N => k_asm); (case m => k_mem); (case z => omega); k_whole)
        | (refine' truthy_nil ?N ?m ?_; (case N => k_asm); (case m => k_mem); k_whole)))
  k_with "call builtin:list.pop" => (k_here; (with_reducible show wpAny _ _ (call (Value.builtin _) [Value.ref _, Value.int _ _]) _ _ _); k_dflt (refine' pop0 ?F ?N ?U ?z ?_; (case F => k_asm); (case N => k_asm); (case U => k_upd); (case z => omega); k_whole); intro h' F' N'; (try dsimp only [List.nil_append, List.cons_append] at N'); (try k_sweep))
  k_with "subscriptTail" => (k_here; (with_reducible show wpAny _ _ (subscriptTail _ _ (Value.ref _) (Value.int _ _)) _ _ _); k_dflt (refine' d_item9 ?N ?m ?x ?_; (case N => k_asm); (case m => first | assumption | exact mem_up9 (List.mem_cons_of_mem _ (by assumption))); (case x => assumption)))
  k_with "call ref" => (k_here; (with_reducible show wpAny _ _ (call (Value.ref 230) _) _ _ _); k_dflt (refine' cc_use (c_rights _ _ _ _ _ _ _ (by assumption)) ?B ?F ?X ?N ?T ?hd ?hu ?_; (case B => k_asm); (case F => k_asm); (case X => k_asm); (case N => k_asm); (case T => k_asm); (case hd => ktr_room); (case hu => ktr_units)); rintro v9 h9 tk9 n9 ⟨⟨t9, q9⟩, q8⟩ F9 N9; subst q9 q8; (try k_sweep))
  k_with "call ref" => (k_here; (with_reducible show wpAny _ _ (call (Value.ref 225) _) _ _ _); refine Stop.h ?_)
  k_with "call ref" => (k_here; (with_reducible show wpAny _ _ (call (Value.ref 244) _) _ _ _); refine Stop.h ?_)
  refine wpAny_mono (Q := Q) (E := fun _ _ => False) ?_ (fun _ _ x => x) (fun _ _ x => x.elim)
  obtain ⟨t4, ht4⟩ := hF.at' 4 (by omega)
  have hx4 := hF.lt 4
  revert X; k_fill; intro X
  (conv => pattern (exec lwNoted _); arg 1; whnf)
  subst henv
  k_steps
  refine ⟨?_⟩
  k_dflt (refine' cc_use (c_lexer w mean mg mb rest _ S hSl off) B F X N T ?hd ?hu ?_)
  case hd => omega
  case hu => ktr_units
  rintro v9 h9 tk9 n9 ⟨ps, f, cb, c, l, x2, d2, p2, x1, d1, p1, ocb, oc, vs, q, tq, dc, pm, ct, k1, k2, k3, k4, tw, j1, j2, j3, j4, j5, tj, tv, its, nl, tl, np, ⟨hcb, hvs, hoc, hord, offl, offd, offp⟩, hltl, hch, rfl, rfl⟩ F9 N9
  k_steps
  refine ⟨?_⟩
  rename Fr _ _ _ _ => FF9
  rename News _ _ _ _ => NN9
  have hcs : Chs its (remF x 4) := hS ▸ hch
  have ecast : (32768 : Int) + ((rgT (x 4) : Nat) : Int) = ((32768 + rgT (x 4) : Nat) : Int) := by rw [Int.natCast_add]; rfl
  rw [ecast]
  k_dflt (refine' cc_use (c_noted w mean mg mb ((220, tabObj ps) :: rest) _ (x 4) hx4 x hF.lt its nl np 1 tl hcs f cb c l x2 d2 p2 x1 d1 p1 ocb oc vs q tq dc pm ct k1 k2 k3 k4 tw j1 j2 j3 j4 j5 tj tv hcb hvs hoc hord offl offd offp) B FF9 X NN9 T ?hd2 ?hu2 ?_)
  case hd2 => omega
  case hu2 => ktr_units
  rintro v8 h8 tk8 n8 ⟨B8, c8, tups8, vs8, rfl, da8, lt8, gt8, q8⟩ F8 N8
  clear FF9 NN9
  k_steps
  rename Fr _ _ _ _ => FF9
  rename News _ _ _ _ => NN9
  subst q8
  exact hQ _ _ B8 c8 ps tups8 vs8 _ da8 (fr_eq FF9 (lw_map rfl rfl)) NN9
end
section
def lwRet : Stmt := kidOf (topSt 48) 3
theorem row_ok : ∀ k : Fin 16, PyData.strOk (sigT k.val) = true := by decide +kernel
theorem path_okS : ∀ w ∈ shortlex, PyData.strOk (pathS w) = true := by decide +kernel
theorem items_ok : ∀ (ks vs : List Str), (∀ a ∈ ks, PyData.strOk a = true) → (∀ b ∈ vs, PyData.strOk b = true) → ∀ d ∈ itemsD ks vs, kqdOk 8 d = true
  | [], _, _, _, d, h => by cases h
  | _ :: _, [], _, _, d, h => by cases h
  | a :: ks, b :: vs, h1, h2, d, h => by
    rcases List.mem_cons.mp h with rfl | h
    · simp [kqdOk, h1 a List.mem_cons_self, h2 b List.mem_cons_self]
    · exact items_ok ks vs (fun c hc => h1 c (List.mem_cons_of_mem _ hc)) (fun c hc => h2 c (List.mem_cons_of_mem _ hc)) d h
theorem due_short (x : Nat → Nat) : ∀ q ∈ bDue (smX x) [] shortlex, q ∈ shortlex := fun q hq => by
  rcases due_sub _ _ _ q hq with h | h
  · cases h
  · exact h
theorem ds_ok (x : Nat → Nat) (hx : ∀ i, x i < 16) : ∀ d ∈ itemsD ((bDue (smX x) [] shortlex).map (fun u => sigT (chX x (x 4) u))) ((bDue (smX x) [] shortlex).map pathS), kqdOk 8 d = true := by
  refine items_ok _ _ (fun a ha => ?_) (fun b hb => ?_)
  · obtain ⟨u, _, rfl⟩ := List.mem_map.mp ha
    exact row_ok ⟨_, chX_lt x (x 4) hx (hx 4) u⟩
  · obtain ⟨u, hu, rfl⟩ := List.mem_map.mp hb
    exact path_okS u (due_short x u hu)
theorem law_ret (w : World) (mean : ExcName → Option Value) (mg mb : Str → Option Value) (rest : List (Addr × Obj)) {dp un : Nat} {gd : Option (List Code)} {outer : List Env} {A₀ : Around} {base h₀ : Heap} {L fa : Addr} {cd : Value} {m1 : Str → Option Value}
    {D nX B8 c8 : Nat} {ys vs8 : List Value} {tups8 : List (Addr × Obj)} {x : Nat → Nat} {s : Shared} {Q : Flow → Shared → Prop} {E : Value → Shared → Prop}
    (env : Env) (henv : env = envOf (Str.ofString "law") (scopeOf (topSt 48)) L fa cd)
    (B : Below A₀ base outer h₀) (X : (Mine.hd.heap_39 w.params).In h₀) (T : Top topProg LOOSE mean mg mb h₀) (hd : dp + 100 < recursionLimit) (hu : un + 2000 < cLine)
    (hm : (D, W.listOf ys.toArray nX) ∈ rest) (hF : FigsAre x ys) (hd8 : DatAll tups8 vs8 (itemsD ((bDue (smX x) [] shortlex).map (fun u => sigT (chX x (x 4) u))) ((bDue (smX x) [] shortlex).map pathS)))
    (F : Fr h₀ L s.heap (fun y => if y = Str.ofString "noted" then some (.ref B8) else if y = Str.ofString "figures" then some (.ref D) else m1 y)) (N : News h₀ L s.heap (tups8 ++ (B8, W.listOf vs8.toArray c8) :: rest))
    (hQ : ∀ (h' : Heap) (tk' : Nat) (m2 : Str → Option Value) (n' : List (Addr × Obj)), Fr h₀ L h' m2 → News h₀ L h' rest → Q (.ret (.bool true)) { s with heap := h', toks := tk' }) :
    wpAny (model PySem.Challenge.rw_un0033_01.prog w) { handled := none, depth := dp, frames := some (env :: outer), guards := gd, units := un } (exec lwRet env) Q E s := by
  k_with_none
  k_with "call builtin:issubclass" => (k_here; k_dflt (refine' iss_str ?k1 ?k2 ?k3 ?_; (case k1 => k_asm); (case k2 => k_asm); (case k3 => k_mem); k_whole); intro h' tk' F' N'; (try k_sweep))
  k_with "call type:list" => (k_here; (with_reducible show wpAny _ _ (call (Value.type _) [Value.str _ _]) _ _ _); k_dflt (refine' list_strK ?k0 ?k1 ?k2 ?k3 ?_; (case k0 => exact rfl); (case k1 => k_asm); (case k2 => k_asm); (case k3 => (rw [sizeLine_eq]; omega)); k_whole); intro l' h' tk' its' n' hch' F' N' l1; (try k_lt l1); (try k_sweep))
  k_with "truthy ref" => (k_here; (with_reducible show wpAny _ _ (truthy (Value.ref _)) _ _ _); k_dflt (first
        | (refine' truthy_cons ?N ?m ?z ?_; (case N => k_asm); (case m => k_mem); (case z => omega); k_whole)
        | (refine' truthy_nil ?N ?m ?_; (case N => k_asm); (case m => k_mem); k_whole)))
  k_with "call builtin:list.pop" => (k_here; (with_reducible show wpAny _ _ (call (Value.builtin _) [Value.ref _, Value.int _ _]) _ _ _); k_dflt (refine' pop0 ?F ?N ?U ?z ?_; (case F => k_asm); (case N => k_asm); (case U => k_upd); (case z => omega); k_whole); intro h' F' N'; (try dsimp only [List.nil_append, List.cons_append] at N'); (try k_sweep))
  k_with "subscriptTail" => (k_here; (with_reducible show wpAny _ _ (subscriptTail _ _ (Value.ref _) (Value.int _ _)) _ _ _); k_dflt (refine' d_item9 ?N ?m ?x ?_; (case N => k_asm); (case m => assumption); (case x => assumption)))
  k_with "call ref" => (k_here; (with_reducible show wpAny _ _ (call (Value.ref 249) _) _ _ _); refine Stop.h ?_)
  k_with "compareOp Eq ref ref" => (k_here; refine Stop.h ?_)
  refine wpAny_mono (Q := Q) (E := fun _ _ => False) ?_ (fun _ _ x => x) (fun _ _ x => x.elim)
  obtain ⟨t4, ht4⟩ := hF.at' 4 (by omega)
  have hx4 := hF.lt 4
  have hok := ds_ok x hF.lt
  have hm8 : (D, W.listOf ys.toArray nX) ∈ tups8 ++ (B8, W.listOf vs8.toArray c8) :: rest := List.mem_append_right _ (List.mem_cons_of_mem _ hm)
  have hb8 : (B8, W.listOf vs8.toArray c8) ∈ tups8 ++ (B8, W.listOf vs8.toArray c8) :: rest := List.mem_append_right _ List.mem_cons_self
  have ht8 : ∀ p ∈ tups8, p ∈ tups8 ++ (B8, W.listOf vs8.toArray c8) :: rest := fun p hp => List.mem_append_left _ hp
  have hr8 : ∀ p ∈ rest, p ∈ tups8 ++ (B8, W.listOf vs8.toArray c8) :: rest := fun p hp => List.mem_append_right _ (List.mem_cons_of_mem _ hp)
  generalize tups8 ++ (B8, W.listOf vs8.toArray c8) :: rest = n8 at N hm8 hb8 ht8 hr8
  revert X; k_fill; intro X
  (conv => pattern (exec lwRet _); arg 1; whnf)
  subst henv
  k_steps
  refine ⟨?_⟩
  rename Fr _ _ _ _ => FF9
  rename News _ _ _ _ => NN9
  k_dflt (refine' cc_use (c_due w mean mg mb n8 _ (x 4) hx4 x hF.lt D nX ys hm8 (fun i hi => hF.at' i (by omega))) B FF9 X NN9 T ?hd2 ?hu2 ?_)
  case hd2 => omega
  case hu2 => ktr_units
  rintro v7 h7 tk7 n7 ⟨B7, c7, tups7, vs7, rfl, da7, lt7, gt7, q7⟩ F7 N7
  clear FF9 NN9
  k_steps
  refine ⟨?_⟩
  rename Fr _ _ _ _ => FF9
  rename News _ _ _ _ => NN9
  subst q7
  have m8 : ∀ p ∈ n8, p ∈ tups7 ++ (B7, W.listOf vs7.toArray c7) :: n8 := fun p hp => List.mem_append_right _ (List.mem_cons_of_mem _ hp)
  refine kqd_eq NN9 (m8 _ hb8) rfl rfl hd8 (fun p hp => m8 _ (ht8 p hp)) (List.mem_append_right _ List.mem_cons_self) rfl rfl da7 (fun p hp => List.mem_append_left _ hp) hok hok (by show un + 64 < cLine; omega) ?_
  simp only [decide_true]
  generalize tups7 ++ (B7, W.listOf vs7.toArray c7) :: n8 = n6 at NN9 m8
  k_steps
  exact hQ _ _ _ [] FF9 (news_sub NN9 fun p hp => m8 p (hr8 p hp))
end
section
theorem law_tail (w : World) (mean : ExcName → Option Value) (mg mb : Str → Option Value) (rest : List (Addr × Obj)) {dp un : Nat} {gd : Option (List Code)} {outer : List Env} {A₀ : Around} {base h₀ : Heap} {L fa : Addr} {cd : Value} {m0 : Str → Option Value}
    {D nX : Nat} {ys : List Value} {x : Nat → Nat} {s : Shared} {Q : Flow → Shared → Prop} {E : Value → Shared → Prop}
    (env : Env) (henv : env = envOf (Str.ofString "law") (scopeOf (topSt 48)) L fa cd)
    (B : Below A₀ base outer h₀) (X : (Mine.hd.heap_39 w.params).In h₀) (T : Top topProg LOOSE mean mg mb h₀) (hd : dp + 100 < recursionLimit) (hu : un + 2000 < cLine)
    (hm : (D, W.listOf ys.toArray nX) ∈ rest) (off : ∀ p ∈ rest, p.1 ≠ 220) (hF : FigsAre x ys)
    (F : Fr h₀ L s.heap (fun y => if y = Str.ofString "figures" then some (.ref D) else m0 y)) (N : News h₀ L s.heap ((220, tabObj #[]) :: rest))
    (hQ : ∀ (h' : Heap) (tk' : Nat) (m2 : Str → Option Value) (ps : Array Value), Fr h₀ L h' m2 → News h₀ L h' ((220, tabObj ps) :: rest) → Q (.ret (.bool true)) { s with heap := h', toks := tk' }) :
    wpAny (model PySem.Challenge.rw_un0033_01.prog w) { handled := none, depth := dp, frames := some (env :: outer), guards := gd, units := un } (execs [lwText, lwNoted, lwRet] env) Q E s := by
  refine wpAny_execs_cons ?_
  refine law_text w mean mg mb _ env henv B X T hd hu (List.mem_cons_of_mem _ hm) hF F N ?_
  intro h1 tk1 S1 t1 hS1 F1 N1
  refine wpAny_execs_cons ?_
  refine law_noted w mean mg mb rest env henv B X T hd hu hm off hF (hS1 ▸ text_is x hF.lt) (hS1 ▸ text_len x hF.lt) F1 N1 ?_
  intro h2 tk2 B2 c2 ps tups2 vs2 m2 da2 F2 N2
  refine wpAny_execs_cons ?_
  refine law_ret w mean mg mb _ env henv B X T hd hu (List.mem_cons_of_mem _ hm) hF da2 F2 N2 ?_
  intro h3 tk3 m3 n3 F3 N3
  exact hQ h3 tk3 m3 ps F3 N3
end
section
theorem figs_of {ys : List Value} {ns : List Int} (hI : IntsAre ys ns) (hl : ns.length = 5) (hn : ∀ n ∈ ns, 0 ≤ n ∧ n < 16) : ∃ x : Nat → Nat, FigsAre x ys := by
  refine ⟨fun i => (ns.getD i 0).toNat, ?_, fun i => ?_, fun i hi => ?_⟩
  · rw [IntsAre.length hI]; exact hl
  · rw [List.getD_eq_getElem?_getD]
    cases h : ns[i]? with
    | none => decide
    | some n =>
      have := hn n (List.mem_of_getElem? h)
      show n.toNat < 16
      omega
  · have hi' : i < ns.length := by omega
    have hm := hn _ (List.getElem_mem hi')
    obtain ⟨t, ht⟩ := IntsAre.get hI i ns[i] (List.getElem?_eq_getElem hi')
    refine ⟨t, ?_⟩
    rw [ht, List.getD_eq_getElem?_getD, List.getElem?_eq_getElem hi']
    show some (Value.int ns[i] t) = some (Value.int ((ns[i].toNat : Nat) : Int) t)
    rw [Int.toNat_of_nonneg hm.1]
theorem figs_ints {ys : List Value} {xs : List Int} (h : IntsAre ys (List.map (fun a => a.fmod 16) (List.filter (fun _ => true) (List.take 5 xs ++ List.drop (((xs.length : Nat) : Int)).toNat [1, 6, 7, 3, 8])))) : ∃ x : Nat → Nat, FigsAre x ys := by
  refine figs_of h ?_ fun n hn => ?_
  · rw [List.length_map, List.filter_eq_self.mpr (fun _ _ => rfl), List.length_append, List.length_take, List.length_drop, Int.toNat_natCast]
    simp only [List.length_cons, List.length_nil]
    omega
  · obtain ⟨a, _, rfl⟩ := List.mem_map.mp hn
    exact ⟨Int.fmod_nonneg_of_pos a (by decide), Int.fmod_lt_of_pos a (by decide)⟩
theorem law_last {h₀ h : Heap} {L : Addr} {a b c d e z : Addr × Obj} (N : News h₀ L h [a, b, c, d, e, z]) : News h₀ L h (z :: [a, b, c, d, e]) := news_sub N fun p hp => by
  simp only [List.mem_cons, List.not_mem_nil, or_false] at hp ⊢
  rcases hp with h1 | h1 | h1 | h1 | h1 | h1 <;> simp [h1]
theorem off_lists {h₀ h : Heap} {L : Addr} {r : List (Addr × Obj)} (N : News h₀ L h ((220, tabObj #[]) :: r)) (hr : ∀ p ∈ r, p.2.cls = .type "list") : ∀ p ∈ r, p.1 ≠ 220 := fun p hp e => by
  have h1 := (N _ List.mem_cons_self).1
  have h2 := (N p (List.mem_cons_of_mem _ hp)).1
  have h3 := hr p hp
  rw [e] at h2
  dsimp only at h1
  rw [h1] at h2
  rw [← Option.some.inj h2] at h3
  cases h3
theorem law_holds : PySem.Challenge.rw_un0033_01.Holds := by
  k_with_none
  k_with "call builtin:issubclass" => (k_here; k_dflt (refine' iss_str ?k1 ?k2 ?k3 ?_; (case k1 => k_asm); (case k2 => k_asm); (case k3 => k_mem); k_whole); intro h' tk' F' N'; (try k_sweep))
  k_with "call type:list" => (k_here; (with_reducible show wpAny _ _ (call (Value.type _) [Value.str _ _]) _ _ _); k_dflt (refine' list_strK ?k0 ?k1 ?k2 ?k3 ?_; (case k0 => exact rfl); (case k1 => k_asm); (case k2 => k_asm); (case k3 => (rw [sizeLine_eq]; omega)); k_whole); intro l' h' tk' its' n' hch' F' N' l1; (try k_lt l1); (try k_sweep))
  k_with "truthy ref" => (k_here; (with_reducible show wpAny _ _ (truthy (Value.ref _)) _ _ _); k_dflt (first
        | (refine' truthy_cons ?N ?m ?z ?_; (case N => k_asm); (case m => k_mem); (case z => omega); k_whole)
        | (refine' truthy_nil ?N ?m ?_; (case N => k_asm); (case m => k_mem); k_whole)))
  k_with "call builtin:list.pop" => (k_here; (with_reducible show wpAny _ _ (call (Value.builtin _) [Value.ref _, Value.int _ _]) _ _ _); k_dflt (refine' pop0 ?F ?N ?U ?z ?_; (case F => k_asm); (case N => k_asm); (case U => k_upd); (case z => omega); k_whole); intro h' F' N'; (try dsimp only [List.nil_append, List.cons_append] at N'); (try k_sweep))
  k_with "execs cons" => (k_here; (with_reducible show wpAny _ _ (execs [_, _, _] _) _ _ _); k_made; refine Stop.h ?_)
  k_with "subscriptTail" => (k_here; (with_reducible show wpAny _ _ (subscriptTail (PySem.Expr.List _ _) (PySem.Expr.Slice (some _) none none _) (Value.ref _) (Value.ref _)) _ _ _); k_dflt (refine kba_turn (value' := PySem.Expr.Name (PySem.Str.ofString "_") ⟨0, 0, 0, 0⟩) (fun _ => rfl) ?_))
  k_with "subscriptTail Name Slice ref ref" => (k_here; (with_reducible show wpAny _ _ (subscriptTail _ (PySem.Expr.Slice (some _) none none _) (Value.ref _) (Value.ref _)) _ _ _); k_dflt (refine' kmk_slice_ints ?F ?N ?l ?p ?q ?i ?m ?c ?_ ?s ?t ?z; (case F => k_asm); (case N => k_asm); (case l => kmk_list); (case p => kmk_part); (case q => kmk_part); (case i => l_ints); (case m => exact kmk_from (by l_ints) (Int.natCast_nonneg _)); (case c => kmk_len); (case s => with_unfolding_all rfl); (case t => kmk_pure); (case z => kmk_size)); intro D' ws' h' F' N' l1 hI' hC' hL'; (try simp only [Int.reduceNeg, Int.neg_neg, Int.reduceToNat] at hI' hC' hL'); (try k_lt l1); (try k_sweep))
  w_on
  refine holds_law law_said fun said => ?_
  refine holds_open (q := hd.view_39) (loose := looseK) (Xt := fun s => xlAt hd.view_39 [] s && recOk (RowW.records PySem.Challenge.rw_un0033_01.row.toRowW) s) (XP := XL hd.view_39 []) (Yf := (kmHook hd.heap_39 asK asK_eq [220]).obs) (Ya := (kmHook hd.heap_39 asK asK_eq [220]).val) (YP := (kmHook hd.heap_39 asK asK_eq [220]).says) (N := 3670) hd.left (kmHook hd.heap_39 asK asK_eq [220]).of (kmHook hd.heap_39 asK asK_eq [220]).keeps (fun s e => xl_of s (Bool.and_eq_true_iff.mp e).1) XL.keeps (by rfl) (by rfl) (by rfl) (fun s e => recFacts_of (Bool.and_eq_true_iff.mp e).2) (by rfl) (by first | assumption | decide +kernel) (by decide +kernel) ⟨rfl, rfl, rfl, rfl, rfl, by decide +kernel⟩ ?hw ?hc
  case hw => w_witness2
  k_go0
  all_goals try k_fold
  k_steps
  refine ⟨?_⟩
  rename IntsAre _ (List.map _ _) => II9
  obtain ⟨x, hx⟩ := figs_ints II9
  rename Fr _ _ _ _ => FF9
  rename News _ _ _ _ => NN9
  rename Top topProg _ _ _ _ _ => TT9
  have NN8 := law_last NN9
  have off9 := off_lists NN8 (by
    intro p hp
    simp only [List.mem_cons, List.not_mem_nil, or_false] at hp
    rcases hp with rfl | rfl | rfl | rfl | rfl <;> rfl)
  refine' law_tail _ _ _ _ _ _ rfl ?B ?X TT9 ?hd ?hu List.mem_cons_self off9 hx FF9 NN8 ?hQ
  case B => k_asm
  case X => k_asm
  case hd => decide
  case hu => decide
  intro h3 tk3 m3 ps3 F3 N3
  clear FF9 NN9 NN8
  k_steps
  all_goals (try k_data)
  all_goals w_report
end
end Mine
theorem PySem.Challenge.cw_un0033_01_holds : PySem.Challenge.rw_un0033_01.Holds := by
  exact Mine.law_holds
