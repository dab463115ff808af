import PyProof.Rows.All
import Wide.All
import OpenK.AllK
import Wide.FinOn
import PySem.Challenge.RW_qw0046_01
set_option Elab.async false
set_option rowWalk.seconds 0
section
section
open PySem PySem.W PyProof.Rows
set_option Elab.async false
namespace Mine
/-- a def's parameters, body and scope, out of its statement -/
def partsOf : Stmt → Option (Arguments × List Stmt × Scope)
  | .FunctionDef _ a b _ _ _ s _ _ _ => some (a, b, s)
  | _ => none
def partsAt (n : Nat) : Option (Arguments × List Stmt × Scope) := (Challenge.pw_qw0046_01.main.body[n]?).bind partsOf

set_option maxRecDepth 100000 in
set_option linter.unusedVariables false in
/-- the objects that the law's road meets, as the top leaves them; the defs' own parts are the given program's -/
noncomputable def hd.heap_39 (P : Params) : Frag :=
  (fun (a28 : Arguments) (b28 : List Stmt) (s28 : Scope) (_ : partsAt 2 = some (a28, b28, s28)) (a35 : Arguments) (b35 : List Stmt) (s35 : Scope) (_ : partsAt 3 = some (a35, b35, s35)) (a42 : Arguments) (b42 : List Stmt) (s42 : Scope) (_ : partsAt 4 = some (a42, b42, s42)) (a49 : Arguments) (b49 : List Stmt) (s49 : Scope) (_ : partsAt 5 = some (a49, b49, s49)) (a58 : Arguments) (b58 : List Stmt) (s58 : Scope) (_ : partsAt 8 = some (a58, b58, s58)) (a131 : Arguments) (b131 : List Stmt) (s131 : Scope) (_ : partsAt 17 = some (a131, b131, s131)) (a145 : Arguments) (b145 : List Stmt) (s145 : Scope) (_ : partsAt 21 = some (a145, b145, s145)) (a152 : Arguments) (b152 : List Stmt) (s152 : Scope) (_ : partsAt 22 = some (a152, b152, s152)) (a159 : Arguments) (b159 : List Stmt) (s159 : Scope) (_ : partsAt 23 = some (a159, b159, s159)) (a166 : Arguments) (b166 : List Stmt) (s166 : Scope) (_ : partsAt 24 = some (a166, b166, s166)) (a173 : Arguments) (b173 : List Stmt) (s173 : Scope) (_ : partsAt 26 = some (a173, b173, s173)) (a180 : Arguments) (b180 : List Stmt) (s180 : Scope) (_ : partsAt 27 = some (a180, b180, s180)) (a185 : Arguments) (b185 : List Stmt) (s185 : Scope) (_ : partsAt 28 = some (a185, b185, s185)) (a192 : Arguments) (b192 : List Stmt) (s192 : Scope) (_ : partsAt 29 = some (a192, b192, s192)) (a199 : Arguments) (b199 : List Stmt) (s199 : Scope) (_ : partsAt 30 = some (a199, b199, s199)) (a204 : Arguments) (b204 : List Stmt) (s204 : Scope) (_ : partsAt 31 = some (a204, b204, s204)) =>
    (nat_lit 2, ⟨.none, none, (PySem.Data.dict #[] 0), #[]⟩) ::
    (nat_lit 3, ⟨(.type "dict"), none, (PySem.Data.dict (List.toArray (⟨PyData.keyHash P (Str.ofString "__name__"), (.str (Str.ofString "__name__") 165), (.str (Str.ofString "law_qw0046_01") 408)⟩ :: ⟨PyData.keyHash P (Str.ofString "__doc__"), (.str (Str.ofString "__doc__") 166), .none⟩ :: ⟨PyData.keyHash P (Str.ofString "__package__"), (.str (Str.ofString "__package__") 167), .none⟩ :: ⟨PyData.keyHash P (Str.ofString "__loader__"), (.str (Str.ofString "__loader__") 168), (.builtin "__main__.__loader__#opaque")⟩ :: ⟨PyData.keyHash P (Str.ofString "__spec__"), (.str (Str.ofString "__spec__") 169), .none⟩ :: ⟨PyData.keyHash P (Str.ofString "__annotations__"), (.str (Str.ofString "__annotations__") 170), (.ref 6)⟩ :: ⟨PyData.keyHash P (Str.ofString "__builtins__"), (.str (Str.ofString "__builtins__") 171), (.ref 4)⟩ :: ⟨PyData.keyHash P (Str.ofString "__file__"), (.str (Str.ofString "__file__") 173), (.str (Str.ofString "/claim/cut.py") 172)⟩ :: ⟨PyData.keyHash P (Str.ofString "__cached__"), (.str (Str.ofString "__cached__") 174), .none⟩ :: ⟨PyData.keyHash P (Str.ofString "_wall"), (.str (Str.ofString "_wall") 193), (.ref 21)⟩ :: ⟨PyData.keyHash P (Str.ofString "_iter_escaped_chars"), (.str (Str.ofString "_iter_escaped_chars") 205), (.ref 28)⟩ :: ⟨PyData.keyHash P (Str.ofString "_strip_quoted_realnames"), (.str (Str.ofString "_strip_quoted_realnames") 217), (.ref 35)⟩ :: ⟨PyData.keyHash P (Str.ofString "_check_parenthesis"), (.str (Str.ofString "_check_parenthesis") 227), (.ref 42)⟩ :: ⟨PyData.keyHash P (Str.ofString "_pre_parse_validation"), (.str (Str.ofString "_pre_parse_validation") 236), (.ref 49)⟩ :: ⟨PyData.keyHash P (Str.ofString "_initial_missing"), (.str (Str.ofString "_initial_missing") 239), (.ref 50)⟩ :: ⟨PyData.keyHash P (Str.ofString "reduce"), (.str (Str.ofString "reduce") 251), (.ref 58)⟩ :: ⟨PyData.keyHash P (Str.ofString "_plain_name"), (.str (Str.ofString "_plain_name") 262), (.ref 65)⟩ :: ⟨PyData.keyHash P (Str.ofString "ABCMeta"), (.str (Str.ofString "ABCMeta") 288), (.ref 82)⟩ :: ⟨PyData.keyHash P (Str.ofString "_ABCLike"), (.str (Str.ofString "_ABCLike") 331), (.ref 115)⟩ :: ⟨PyData.keyHash P (Str.ofString "_abc_plain_meta"), (.str (Str.ofString "_abc_plain_meta") 338), (.ref 124)⟩ :: ⟨PyData.keyHash P (Str.ofString "fspath"), (.str (Str.ofString "fspath") 350), (.ref 131)⟩ :: ⟨PyData.keyHash P (Str.ofString "_check_arg_types"), (.str (Str.ofString "_check_arg_types") 363), (.ref 138)⟩ :: ⟨PyData.keyHash P (Str.ofString "_get_sep"), (.str (Str.ofString "_get_sep") 372), (.ref 145)⟩ :: ⟨PyData.keyHash P (Str.ofString "join"), (.str (Str.ofString "join") 383), (.ref 152)⟩ :: ⟨PyData.keyHash P (Str.ofString "splitroot"), (.str (Str.ofString "splitroot") 392), (.ref 159)⟩ :: ⟨PyData.keyHash P (Str.ofString "normpath"), (.str (Str.ofString "normpath") 407), (.ref 166)⟩ :: ⟨PyData.keyHash P (Str.ofString "_law_texts"), (.str (Str.ofString "_law_texts") 421), (.ref 173)⟩ :: ⟨PyData.keyHash P (Str.ofString "_law_units"), (.str (Str.ofString "_law_units") 431), (.ref 180)⟩ :: ⟨PyData.keyHash P (Str.ofString "_law_bare"), (.str (Str.ofString "_law_bare") 437), (.ref 185)⟩ :: ⟨PyData.keyHash P (Str.ofString "_law_walked"), (.str (Str.ofString "_law_walked") 449), (.ref 192)⟩ :: ⟨PyData.keyHash P (Str.ofString "_law_stepped"), (.str (Str.ofString "_law_stepped") 457), (.ref 199)⟩ :: ⟨PyData.keyHash P (Str.ofString "law"), (.str (Str.ofString "law") 463), (.ref 204)⟩ :: [])) 32), #[]⟩) ::
    (nat_lit 27, ⟨(.type "code"), none, (PySem.Data.fields #[(.str (Str.ofString "_iter_escaped_chars") 196), (.str (Str.ofString "_iter_escaped_chars") 197), (.str (Str.ofString "/claim/cut.py") 198), (.int 5 0), (.int 1 0), (.int 0 0), (.int 0 0), (.int 35 0), (.ref 22), (.bool Bool.true), (.int 181 0), (.ref 23), .none, (.ref 24), (.ref 25), (.ref 26), (.int 203 0), (.int 5 0), (.str (Str.ofString "/claim/cut.py") 204)]), #[]⟩) ::
    (nat_lit 28, ⟨(.type "function"), none, .func (fnOf (Str.ofString "_iter_escaped_chars") (Str.ofString "_iter_escaped_chars") a28 b28 s28 .none .none .none (.str (Str.ofString "cpy313.email.utils") 194) none (.ref 27) .none), #[]⟩) ::
    (nat_lit 34, ⟨(.type "code"), none, (PySem.Data.fields #[(.str (Str.ofString "_strip_quoted_realnames") 206), (.str (Str.ofString "_strip_quoted_realnames") 207), (.str (Str.ofString "/claim/cut.py") 208), (.int 18 0), (.int 1 0), (.int 0 0), (.int 0 0), (.int 3 0), (.ref 29), (.bool Bool.true), (.int 181 0), (.ref 30), .none, (.ref 31), (.ref 32), (.ref 33), (.int 215 0), (.int 18 0), (.str (Str.ofString "/claim/cut.py") 216)]), #[]⟩) ::
    (nat_lit 35, ⟨(.type "function"), none, .func (fnOf (Str.ofString "_strip_quoted_realnames") (Str.ofString "_strip_quoted_realnames") a35 b35 s35 .none .none .none (.str (Str.ofString "cpy313.email.utils") 194) none (.ref 34) .none), #[]⟩) ::
    (nat_lit 41, ⟨(.type "code"), none, (PySem.Data.fields #[(.str (Str.ofString "_check_parenthesis") 218), (.str (Str.ofString "_check_parenthesis") 219), (.str (Str.ofString "/claim/cut.py") 220), (.int 36 0), (.int 1 0), (.int 0 0), (.int 0 0), (.int 3 0), (.ref 36), (.bool Bool.true), (.int 181 0), (.ref 37), .none, (.ref 38), (.ref 39), (.ref 40), (.int 225 0), (.int 36 0), (.str (Str.ofString "/claim/cut.py") 226)]), #[]⟩) ::
    (nat_lit 42, ⟨(.type "function"), none, .func (fnOf (Str.ofString "_check_parenthesis") (Str.ofString "_check_parenthesis") a42 b42 s42 .none .none .none (.str (Str.ofString "cpy313.email.utils") 194) none (.ref 41) .none), #[]⟩) ::
    (nat_lit 48, ⟨(.type "code"), none, (PySem.Data.fields #[(.str (Str.ofString "_pre_parse_validation") 228), (.str (Str.ofString "_pre_parse_validation") 229), (.str (Str.ofString "/claim/cut.py") 230), (.int 47 0), (.int 1 0), (.int 0 0), (.int 0 0), (.int 3 0), (.ref 43), (.bool Bool.true), (.int 181 0), (.ref 44), .none, (.ref 45), (.ref 46), (.ref 47), (.int 234 0), (.int 47 0), (.str (Str.ofString "/claim/cut.py") 235)]), #[]⟩) ::
    (nat_lit 49, ⟨(.type "function"), none, .func (fnOf (Str.ofString "_pre_parse_validation") (Str.ofString "_pre_parse_validation") a49 b49 s49 .none .none .none (.str (Str.ofString "cpy313.email.utils") 194) none (.ref 48) .none), #[]⟩) ::
    (nat_lit 50, ⟨(.type "object"), none, PySem.Data.plain, #[]⟩) ::
    (nat_lit 51, ⟨(.type "tuple"), none, (PySem.Data.seq #[(.ref 50)] 0), #[]⟩) ::
    (nat_lit 57, ⟨(.type "code"), none, (PySem.Data.fields #[(.str (Str.ofString "reduce") 240), (.str (Str.ofString "reduce") 241), (.str (Str.ofString "/claim/cut.py") 242), (.int 56 0), (.int 3 0), (.int 0 0), (.int 0 0), (.int 3 0), (.ref 52), (.bool Bool.true), (.int 181 0), (.ref 53), .none, (.ref 54), (.ref 55), (.ref 56), (.int 249 0), (.int 56 0), (.str (Str.ofString "/claim/cut.py") 250)]), #[]⟩) ::
    (nat_lit 58, ⟨(.type "function"), none, .func (fnOf (Str.ofString "reduce") (Str.ofString "reduce") a58 b58 s58 (.ref 51) .none .none (.str (Str.ofString "cpy313.functools") 237) none (.ref 57) .none), #[]⟩) ::
    (nat_lit 130, ⟨(.type "code"), none, (PySem.Data.fields #[(.str (Str.ofString "fspath") 341), (.str (Str.ofString "fspath") 342), (.str (Str.ofString "/claim/cut.py") 343), (.int 99 0), (.int 1 0), (.int 0 0), (.int 0 0), (.int 3 0), (.ref 125), (.bool Bool.true), (.int 181 0), (.ref 126), .none, (.ref 127), (.ref 128), (.ref 129), (.int 348 0), (.int 99 0), (.str (Str.ofString "/claim/cut.py") 349)]), #[]⟩) ::
    (nat_lit 131, ⟨(.type "function"), none, .func (fnOf (Str.ofString "fspath") (Str.ofString "fspath") a131 b131 s131 .none .none .none (.str (Str.ofString "os") 339) none (.ref 130) .none), #[]⟩) ::
    (nat_lit 144, ⟨(.type "code"), none, (PySem.Data.fields #[(.str (Str.ofString "_get_sep") 366), (.str (Str.ofString "_get_sep") 367), (.str (Str.ofString "/claim/cut.py") 368), (.int 128 0), (.int 1 0), (.int 0 0), (.int 0 0), (.int 3 0), (.ref 139), (.bool Bool.true), (.int 181 0), (.ref 140), .none, (.ref 141), (.ref 142), (.ref 143), (.int 370 0), (.int 128 0), (.str (Str.ofString "/claim/cut.py") 371)]), #[]⟩) ::
    (nat_lit 145, ⟨(.type "function"), none, .func (fnOf (Str.ofString "_get_sep") (Str.ofString "_get_sep") a145 b145 s145 .none .none .none (.str (Str.ofString "cpy313.posixpath") 364) none (.ref 144) .none), #[]⟩) ::
    (nat_lit 151, ⟨(.type "code"), none, (PySem.Data.fields #[(.str (Str.ofString "join") 373), (.str (Str.ofString "join") 374), (.str (Str.ofString "/claim/cut.py") 375), (.int 133 0), (.int 1 0), (.int 0 0), (.int 0 0), (.int 7 0), (.ref 146), (.bool Bool.true), (.int 181 0), (.ref 147), .none, (.ref 148), (.ref 149), (.ref 150), (.int 381 0), (.int 133 0), (.str (Str.ofString "/claim/cut.py") 382)]), #[]⟩) ::
    (nat_lit 152, ⟨(.type "function"), none, .func (fnOf (Str.ofString "join") (Str.ofString "join") a152 b152 s152 .none .none .none (.str (Str.ofString "cpy313.posixpath") 364) none (.ref 151) .none), #[]⟩) ::
    (nat_lit 158, ⟨(.type "code"), none, (PySem.Data.fields #[(.str (Str.ofString "splitroot") 384), (.str (Str.ofString "splitroot") 385), (.str (Str.ofString "/claim/cut.py") 386), (.int 150 0), (.int 1 0), (.int 0 0), (.int 0 0), (.int 3 0), (.ref 153), (.bool Bool.true), (.int 181 0), (.ref 154), .none, (.ref 155), (.ref 156), (.ref 157), (.int 390 0), (.int 150 0), (.str (Str.ofString "/claim/cut.py") 391)]), #[]⟩) ::
    (nat_lit 159, ⟨(.type "function"), none, .func (fnOf (Str.ofString "splitroot") (Str.ofString "splitroot") a159 b159 s159 .none .none .none (.str (Str.ofString "cpy313.posixpath") 364) none (.ref 158) .none), #[]⟩) ::
    (nat_lit 165, ⟨(.type "code"), none, (PySem.Data.fields #[(.str (Str.ofString "normpath") 393), (.str (Str.ofString "normpath") 394), (.str (Str.ofString "/claim/cut.py") 395), (.int 164 0), (.int 1 0), (.int 0 0), (.int 0 0), (.int 3 0), (.ref 160), (.bool Bool.true), (.int 181 0), (.ref 161), .none, (.ref 162), (.ref 163), (.ref 164), (.int 405 0), (.int 164 0), (.str (Str.ofString "/claim/cut.py") 406)]), #[]⟩) ::
    (nat_lit 166, ⟨(.type "function"), none, .func (fnOf (Str.ofString "normpath") (Str.ofString "normpath") a166 b166 s166 .none .none .none (.str (Str.ofString "cpy313.posixpath") 364) none (.ref 165) .none), #[]⟩) ::
    (nat_lit 172, ⟨(.type "code"), none, (PySem.Data.fields #[(.str (Str.ofString "_law_texts") 410), (.str (Str.ofString "_law_texts") 411), (.str (Str.ofString "/claim/cut.py") 412), (.int 190 0), (.int 1 0), (.int 0 0), (.int 0 0), (.int 3 0), (.ref 167), (.bool Bool.true), (.int 181 0), (.ref 168), .none, (.ref 169), (.ref 170), (.ref 171), (.int 419 0), (.int 190 0), (.str (Str.ofString "/claim/cut.py") 420)]), #[]⟩) ::
    (nat_lit 173, ⟨(.type "function"), none, .func (fnOf (Str.ofString "_law_texts") (Str.ofString "_law_texts") a173 b173 s173 .none .none .none (.str (Str.ofString "law_qw0046_01") 408) none (.ref 172) .none), #[]⟩) ::
    (nat_lit 179, ⟨(.type "code"), none, (PySem.Data.fields #[(.str (Str.ofString "_law_units") 422), (.str (Str.ofString "_law_units") 423), (.str (Str.ofString "/claim/cut.py") 424), (.int 201 0), (.int 1 0), (.int 0 0), (.int 0 0), (.int 3 0), (.ref 174), (.bool Bool.true), (.int 181 0), (.ref 175), .none, (.ref 176), (.ref 177), (.ref 178), (.int 429 0), (.int 201 0), (.str (Str.ofString "/claim/cut.py") 430)]), #[]⟩) ::
    (nat_lit 180, ⟨(.type "function"), none, .func (fnOf (Str.ofString "_law_units") (Str.ofString "_law_units") a180 b180 s180 .none .none .none (.str (Str.ofString "law_qw0046_01") 408) none (.ref 179) .none), #[]⟩) ::
    (nat_lit 184, ⟨(.type "code"), none, (PySem.Data.fields #[(.str (Str.ofString "_law_bare") 432), (.str (Str.ofString "_law_bare") 433), (.str (Str.ofString "/claim/cut.py") 434), (.int 209 0), (.int 1 0), (.int 0 0), (.int 0 0), (.int 3 0), (.ref 181), (.bool Bool.true), (.int 181 0), (.ref 182), .none, .none, .none, (.ref 183), (.int 435 0), (.int 209 0), (.str (Str.ofString "/claim/cut.py") 436)]), #[]⟩) ::
    (nat_lit 185, ⟨(.type "function"), none, .func (fnOf (Str.ofString "_law_bare") (Str.ofString "_law_bare") a185 b185 s185 .none .none .none (.str (Str.ofString "law_qw0046_01") 408) none (.ref 184) .none), #[]⟩) ::
    (nat_lit 191, ⟨(.type "code"), none, (PySem.Data.fields #[(.str (Str.ofString "_law_walked") 438), (.str (Str.ofString "_law_walked") 439), (.str (Str.ofString "/claim/cut.py") 440), (.int 214 0), (.int 1 0), (.int 0 0), (.int 0 0), (.int 3 0), (.ref 186), (.bool Bool.true), (.int 181 0), (.ref 187), .none, (.ref 188), (.ref 189), (.ref 190), (.int 447 0), (.int 214 0), (.str (Str.ofString "/claim/cut.py") 448)]), #[]⟩) ::
    (nat_lit 192, ⟨(.type "function"), none, .func (fnOf (Str.ofString "_law_walked") (Str.ofString "_law_walked") a192 b192 s192 .none .none .none (.str (Str.ofString "law_qw0046_01") 408) none (.ref 191) .none), #[]⟩) ::
    (nat_lit 198, ⟨(.type "code"), none, (PySem.Data.fields #[(.str (Str.ofString "_law_stepped") 450), (.str (Str.ofString "_law_stepped") 451), (.str (Str.ofString "/claim/cut.py") 452), (.int 227 0), (.int 2 0), (.int 0 0), (.int 0 0), (.int 3 0), (.ref 193), (.bool Bool.true), (.int 181 0), (.ref 194), .none, (.ref 195), (.ref 196), (.ref 197), (.int 455 0), (.int 227 0), (.str (Str.ofString "/claim/cut.py") 456)]), #[]⟩) ::
    (nat_lit 199, ⟨(.type "function"), none, .func (fnOf (Str.ofString "_law_stepped") (Str.ofString "_law_stepped") a199 b199 s199 .none .none .none (.str (Str.ofString "law_qw0046_01") 408) none (.ref 198) .none), #[]⟩) ::
    (nat_lit 203, ⟨(.type "code"), none, (PySem.Data.fields #[(.str (Str.ofString "law") 458), (.str (Str.ofString "law") 459), (.str (Str.ofString "/claim/cut.py") 460), (.int 229 0), (.int 1 0), (.int 0 0), (.int 0 0), (.int 3 0), (.ref 200), (.bool Bool.true), (.int 181 0), (.ref 201), .none, .none, .none, (.ref 202), (.int 461 0), (.int 229 0), (.str (Str.ofString "/claim/cut.py") 462)]), #[]⟩) ::
    (nat_lit 204, ⟨(.type "function"), none, .func (fnOf (Str.ofString "law") (Str.ofString "law") a204 b204 s204 .none .none .none (.str (Str.ofString "law_qw0046_01") 408) none (.ref 203) .none), #[]⟩) :: []) _ _ _ rfl _ _ _ rfl _ _ _ rfl _ _ _ rfl _ _ _ rfl _ _ _ rfl _ _ _ rfl _ _ _ rfl _ _ _ rfl _ _ _ rfl _ _ _ rfl _ _ _ rfl _ _ _ rfl _ _ _ rfl _ _ _ rfl _ _ _ rfl

noncomputable def hd.view_39 : Program := view Challenge.pw_qw0046_01 [0, 2, 3, 4, 5, 7, 10, 12, 14, 15, 17, 19, 21, 22, 23, 24, 26, 27, 28, 29, 30, 31]
def hd.at : List Addr := [2, 3, 27, 28, 34, 35, 41, 42, 48, 49, 50, 51, 57, 58, 130, 131, 144, 145, 151, 152, 158, 159, 165, 166, 172, 173, 179, 180, 184, 185, 191, 192, 198, 199, 203, 204]
abbrev hd.loose : List Str := [Str.ofString "_initial_missing", Str.ofString "reduce"]
theorem hd.keys : ∀ P, hd.at = (hd.heap_39 P).map (·.1) := fun _ => by kernel_rfl
noncomputable abbrev hd.hook : Hook := kHook hd.heap_39 hd.at hd.keys

set_option maxRecDepth 100000
set_option maxHeartbeats 0
/-! the look at the law, in parts (each a step of its own for the kernel; the library's quick twins where it has them) -/
theorem hd.resolve : namesResolve Challenge.rw_qw0046_01.row.prog = true := by
  first
  | exact (congrFun PySem.W.Fast.te8377067652309620493 _).trans (by kernel_rfl)
  | kernel_rfl
theorem hd.roads : noRoadLSs { strict := !(importedModules Challenge.rw_qw0046_01.row.prog.main.body).all cThrough.contains, foot := none, bare := (["vars", "dir", "locals"] : List Str).filter (readsOut Challenge.rw_qw0046_01.row.prog Challenge.rw_qw0046_01.row.prog.main.body) } Challenge.rw_qw0046_01.row.prog.main.body = true := by
  first
  | exact (congrFun (congrFun PySem.W.Fast.te8326940854005059898 _) _).trans (by kernel_rfl)
  | kernel_rfl
theorem hd.meet : (namesMeet Challenge.rw_qw0046_01.row.prog Challenge.rw_qw0046_01.row.prog.main.body fun _ n => attrL n) = true := by
  first
  | exact (congrFun (congrFun (congrFun PySem.W.Fast.te17119622794617884870 _) _) _).trans (by kernel_rfl)
  | kernel_rfl
theorem hd.bound : (Challenge.rw_qw0046_01.row.prog.boundNames.all fun n => !worldNames.contains n) = true := by kernel_rfl
theorem hd.fenced : (sreFenced Challenge.rw_qw0046_01.row.prog.main && ((moduleNames Challenge.rw_qw0046_01.row.prog.main.body).isEmpty || lookedIntoSs (moduleNames Challenge.rw_qw0046_01.row.prog.main.body) Challenge.rw_qw0046_01.row.prog.main.body)) = true := by kernel_rfl
theorem hd.looks : looksOpen Challenge.rw_qw0046_01.row.prog = true :=
  look_both (look_both (look_both (look_both hd.fenced hd.resolve) hd.bound) hd.roads) hd.meet
theorem hd.part : OpenRow.partSaid Challenge.rw_qw0046_01.row = true := by
  unfold OpenRow.partSaid
  rw [show looksOpen Challenge.rw_qw0046_01.row.toRowW.prog = true from hd.looks]
  kernel_rfl
theorem hd.row : OpenRow.wellSaid Challenge.rw_qw0046_01.row = true := by
  unfold OpenRow.wellSaid
  rw [hd.part]
  kernel_rfl
theorem hd.said : OpenLaw.wellSaid Challenge.rw_qw0046_01 = true := by
  unfold OpenLaw.wellSaid
  rw [hd.row]
  kernel_rfl

/-! the top's run: the opening by the library's boot, the rest at once -/
theorem left_boot {p q : Program} {loose : List Str} {Xt : Shared → Bool} {α : Type} {Yf : Shared → α} {Ya : World → α} {N m : Nat} {ann : Option Value}
    (o : ∀ w : World, (fencedOpening treeTable p w N).map (fun s => (s.heap, s.gens, s.drawn, s.toks)) = some (boot_heap w.params, Array.mk [], boot_drawn, boot_toks))
    (size : ∀ w : World, ((boot_heap w.params).isNs mainGlobals, (boot_heap w.params).objs.size, (boot_heap w.params).nsMap mainGlobals "__annotations__") = (true, m, ann))
    (r : ∀ (w : World) (os : OsState), (topRun treeTable p w m ann N ⟨boot_heap w.params, Array.mk [], boot_drawn, boot_toks, os⟩ (topStub p)).map
      (fun s => (staticsOk (importedModules p.main.body) (boot_heap w.params) s.heap && namesBound p s.heap && gensDone s && laidKept (boot_heap w.params) s.heap, openSeen q loose (importedModules p.main.body) Xt true s, Yf s)) = some (true, openGood q loose, Ya w)) :
    LeftO p q loose Xt Yf Ya N := by
  intro w
  have behind : ∀ s : Shared, (s.heap, s.gens, s.drawn, s.toks) = (boot_heap w.params, Array.mk [], boot_drawn, boot_toks) →
      (topFrom treeTable p w N s).map (fun s => (openSeen q loose (importedModules p.main.body) Xt true s, Yf s)) = some (openGood q loose, Ya w) := by
    rintro ⟨_, _, _, _, os⟩ hs
    injection hs with h1 hs
    injection hs with h2 hs
    injection hs with h3 h4
    dsimp only at h1 h2 h3 h4
    subst h1 h2 h3 h4
    have run := r w os
    have sz := size w
    injection sz with s1 sz
    injection sz with s2 s3
    cases ht : topRun treeTable p w m ann N ⟨boot_heap w.params, Array.mk [], boot_drawn, boot_toks, os⟩ (topStub p) with
    | none => rw [ht] at run; cases run
    | some s' =>
      rw [ht] at run
      have both := Option.some.inj run
      have ok := congrArg Prod.fst both
      have rest := congrArg Prod.snd both
      simp only [topFrom, s1, s2, s3, ht, Option.bind_some] at ok rest ⊢
      simp only [ok]
      exact congrArg some rest
  cases hf : fencedOpening treeTable p w N with
  | none => have h := o w; rw [hf] at h; cases h
  | some s =>
    have h := o w
    rw [hf] at h
    simp only [openEnds, hf, Option.bind_some]
    exact behind s (Option.some.inj h)
theorem hd.opens : ∀ w : World, (fencedOpening treeTable Challenge.rw_qw0046_01.row.prog w 2640).map (fun s => (s.heap, s.gens, s.drawn, s.toks)) = some (boot_heap w.params, Array.mk [], boot_drawn, boot_toks) :=
  boot_open (by kernel_rfl) (by decide) (fun _ => by kernel_rfl)
theorem hd.runs (w : World) (os : OsState) : (topRun treeTable Challenge.rw_qw0046_01.row.prog w 11 (some (.ref 6)) 2640 ⟨boot_heap w.params, Array.mk [], boot_drawn, boot_toks, os⟩ (topStub Challenge.rw_qw0046_01.row.prog)).map
    (fun s => (staticsOk (importedModules Challenge.rw_qw0046_01.row.prog.main.body) (boot_heap w.params) s.heap && namesBound Challenge.rw_qw0046_01.row.prog s.heap && gensDone s && laidKept (boot_heap w.params) s.heap, openSeen hd.view_39 hd.loose (importedModules Challenge.rw_qw0046_01.row.prog.main.body) (fun s => xlAt hd.view_39 [] s && recOk (RowW.records Challenge.rw_qw0046_01.row.toRowW) s) true s, hd.hook.obs s)) = some (true, openGood hd.view_39 hd.loose, hd.hook.val w) := by
  first
  | (rw [PySem.W.Fast.te14082659384304107361, PySem.W.Fast.te14364793385576792824, PySem.W.Fast.te4187177175401517315]; kernel_rfl)
  | kernel_rfl
/-- what the top leaves is what the view tells, and the objects above -/
theorem hd.left : LeftO Challenge.rw_qw0046_01.row.prog hd.view_39 hd.loose (fun s => xlAt hd.view_39 [] s && recOk (RowW.records Challenge.rw_qw0046_01.row.toRowW) s) hd.hook.obs hd.hook.val 2640 :=
  left_boot hd.opens (fun _ => by kernel_rfl) hd.runs
end Mine
end
section
open PySem PySem.W PyProof.Rows
set_option Elab.async false
set_option autoImplicit false
namespace Mine
noncomputable abbrev PG : Program := Challenge.rw_qw0046_01.row.prog
noncomputable abbrev LO : List Str := looseW hd.view_39 [Str.ofString "_initial_missing", Str.ofString "reduce"]
abbrev TT (mean : ExcName → Option Value) (mg mb : Str → Option Value) (h : Heap) : Prop := Top hd.view_39 LO mean mg mb h

/-- older generators as they were, none with a cleanup -/
structure GExt (a b : Array GenState) : Prop where
  old : ∀ (i : Nat) (x : GenState), a[i]? = some x → b[i]? = some x
  bare : AllBare a → AllBare b
theorem GExt.refl (a : Array GenState) : GExt a a := ⟨fun _ _ e => e, fun e => e⟩
theorem GExt.trans {a b c : Array GenState} (x : GExt a b) (y : GExt b c) : GExt a c := ⟨fun i g e => y.old i g (x.old i g e), fun e => y.bare (x.bare e)⟩

/-- what a call leaves: older objects and generators as they were -/
structure Ext (s s' : Shared) : Prop where
  heap : ∀ b o, s.heap.get? b = some o → s'.heap.get? b = some o
  size : s.heap.objs.size ≤ s'.heap.objs.size
  gens : GExt s.gens s'.gens
  os : s'.os = s.os

theorem Ext.refl (s : Shared) : Ext s s := ⟨fun _ _ e => e, Nat.le_refl _, GExt.refl _, rfl⟩
theorem Ext.trans {a b c : Shared} (x : Ext a b) (y : Ext b c) : Ext a c :=
  ⟨fun p o e => y.heap p o (x.heap p o e), Nat.le_trans x.size y.size, x.gens.trans y.gens, y.os.trans x.os⟩
theorem Ext.of_fr {s s' : Shared} {g : Heap} {L : Addr} {m : Str → Option Value} (hg : g = s.heap) (F : Fr g L s'.heap m) (hx : GExt s.gens s'.gens) (ho : s'.os = s.os) : Ext s s' := by
  subst hg
  refine ⟨F.keep, ?_, hx, ho⟩
  obtain ⟨o, _, _, hL, _⟩ := F.ns
  exact Nat.le_trans F.above (Nat.le_of_lt (Heap.lt_size hL))
theorem Fr.ext {s s' : Shared} {g : Heap} {L : Addr} {m : Str → Option Value} (F : Fr g L s.heap m) (x : Ext s s') : Fr g L s'.heap m := F.keeps x.heap
theorem News.ext {s s' : Shared} {g : Heap} {L : Addr} {news : List (Addr × Obj)} (N : News g L s.heap news) (x : Ext s s') : News g L s'.heap news :=
  fun p hp => ⟨x.heap _ _ (N p hp).1, (N p hp).2⟩

/-- the value reads as the datum -/
def Rd (h : Heap) (v : Value) (d : PyData) : Prop := ∃ as, Reads h v d as
theorem Rd.ext {s s' : Shared} {v : Value} {d : PyData} (r : Rd s.heap v d) (x : Ext s s') : Rd s'.heap v d := let ⟨as, h⟩ := r; ⟨as, PyProof.Rows.Reads.keeps x.heap h⟩

section
variable {w : World} {A : Around} {s : Shared} {K : Frag} {R : Result → Shared → Prop} {name qual : Str} {params : Arguments} {body : List Stmt} {scope : Scope} {dV kV doc pm cdv ct oc : Value} {an od : Option Addr} {osl : Array (Option Value)} {f : Addr} {args : Args} {binds : List (Str × Value)}
theorem enterF (X : K.In s.heap) (hlim : s.heap.NoLimit)
    (ho : K.lookup f = some ⟨oc, od, .func (fnOf name qual params body scope dV kV doc pm an cdv ct), osl⟩) (hcd : codeIn K cdv qual = true) (hroom : A.depth < recursionLimit)
    (hbind : BindsTo s (fnOf name qual params body scope dV kV doc pm an cdv ct) args binds) (hloc : ∀ y ∈ binds, scope.names.lookup y.1 = some .local)
    (h : ∀ g L h₁ tk, g = s.heap → Fr g L h₁ (fun y => binds.reverse.lookup y) → News g L h₁ [] → 
      wpAny (model PG w) (A.deeper (envOf qual scope L f cdv)) (execs body (envOf qual scope L f cdv))
        (fun fl s' => R (.ok (.ret (match fl with | .ret v => v | _ => .none))) s')
        (fun _ _ => False)
        { s with heap := h₁, toks := tk })
    (hco : scope.isCoroutine = false := by rfl) (hgen : scope.isGenerator = false := by rfl) (hk : scope.kind = .function := by rfl)
    (hcell : ∀ x ∈ scope.names, x.2 ≠ .cell := by decide) : codeAny (model PG w) A (.call (.ref f) args) R s := by
  refine codeAny_call_def (fd := fnOf name qual params body scope dV kV doc pm an cdv ct) (body := body) (binds := binds) hroom (X _ _ ho) rfl hlim (codeRec_of X hcd) rfl hbind hcell hloc (fun h₁ hns hk₁ => ?_) hco hgen hk
  refine wpAny_mono (h _ s.heap.objs.size h₁ (s.toks + binds.length) rfl ⟨hns, hk₁, Nat.le_refl _⟩ (fun p hp => nomatch hp)) (fun fl s' hl => hl) fun _ _ y => y.elim
end

/-- a call of a def with a star parameter: the rest is a new tuple -/
theorem enterV {w : World} {A : Around} {s : Shared} {K : Frag} {R : Result → Shared → Prop} {name qual : Str} {params : Arguments} {body : List Stmt} {scope : Scope} {dV kV doc pm cdv ct oc : Value} {an od : Option Addr} {osl : Array (Option Value)} {f : Addr} {args : Args} {vs : List Value} {binds : Value → List (Str × Value)}
    (X : K.In s.heap) (hlim : s.heap.NoLimit)
    (ho : K.lookup f = some ⟨oc, od, .func (fnOf name qual params body scope dV kV doc pm an cdv ct), osl⟩) (hcd : codeIn K cdv qual = true) (hroom : A.depth < recursionLimit)
    (hbind : bindArgs (fnOf name qual params body scope dV kV doc pm an cdv ct) args = (newTuple vs >>= fun t => pure (binds t))) (hsz : vs.length ≤ sizeLine) (hloc : ∀ t, ∀ y ∈ binds t, scope.names.lookup y.1 = some .local)
    (h : ∀ g L h₁ tk T, g = s.heap → Fr g L h₁ (fun y => (binds (.ref T)).reverse.lookup y) → News g L h₁ [(T, { cls := .type "tuple", data := .seq vs.toArray })] → 
      wpAny (model PG w) (A.deeper (envOf qual scope L f cdv)) (execs body (envOf qual scope L f cdv))
        (fun fl s' => R (.ok (.ret (match fl with | .ret v => v | _ => .none))) s')
        (fun _ _ => False)
        { s with heap := h₁, toks := tk })
    (hco : scope.isCoroutine = false := by rfl) (hgen : scope.isGenerator = false := by rfl) (hk : scope.kind = .function := by rfl)
    (hcell : ∀ x ∈ scope.names, x.2 ≠ .cell := by decide) : codeAny (model PG w) A (.call (.ref f) args) R s := by
  refine codeAny_call_function (fd := fnOf name qual params body scope dV kV doc pm an cdv ct) hroom (X _ _ ho) rfl hco hgen rfl (codeRec_of X hcd) ?_
  rw [hbind]
  refine wpAny_bind (wpAny_newObj_type ?_ (by show vs.toArray.size ≤ sizeLine; rw [List.size_toArray]; exact hsz))
  refine wpAny_pure (wpAny_newFunctionEnv hcell (hloc _) (fun h₁ hns hsb => ?_) hk)
  have hk₁ : ∀ b o, (s.heap.push { cls := .type "tuple", data := .seq vs.toArray }).get? b = some o → h₁.get? b = some o := fun b o e => hsb.extBut b o (Nat.ne_of_lt (Heap.lt_size e)) (Heap.get?_push_of_some _ e)
  have hk₀ : ∀ b o, s.heap.get? b = some o → h₁.get? b = some o := fun b o e => hk₁ b o (Heap.get?_push_of_some _ e)
  refine ⟨hlim.keeps hk₀, codeAny_func ?_⟩
  refine wpAny_mono (h s.heap _ h₁ _ s.heap.objs.size rfl ⟨hns, hk₀, by rw [Heap.size_push]; exact Nat.le_succ _⟩ (fun p hp => ?_)) (fun fl s' hl => hl) fun _ _ y => y.elim
  rw [List.mem_singleton.mp hp]
  refine ⟨hk₁ _ _ (Heap.get?_push_size _ rfl), ?_, ?_⟩
  · show s.heap.objs.size ≠ _
    rw [Heap.size_push]; exact Nat.ne_of_lt (Nat.lt_succ_self _)
  · show s.heap.get? s.heap.objs.size = none
    cases q : s.heap.get? s.heap.objs.size with
    | none => rfl
    | some o => exact absurd (Heap.lt_size q) (Nat.lt_irrefl _)

/-- the shape of a contract -/
def Con (w : World) (mean : ExcName → Option Value) (mg mb : Str → Option Value) (f : Addr) (args : List Value) (d : Nat) (Pre : Shared → Prop) (Post : Shared → Value → Shared → Prop) : Prop :=
  ∀ (A : Around) (s : Shared) (Q E : Value → Shared → Prop), A.handled = none → A.depth + d < recursionLimit → A.units + 8 * d + 100 < cLine → (hd.heap_39 w.params).In s.heap → TT mean mg mb s.heap → Pre s →
    (∀ v s', Ext s s' → Post s v s' → Q v s') → wpAny (model PG w) A (call (.ref f) args) Q E s

theorem Con.use {w : World} {mean : ExcName → Option Value} {mg mb : Str → Option Value} {f : Addr} {args : List Value} {d : Nat} {Pre : Shared → Prop} {Post : Shared → Value → Shared → Prop} (C : Con w mean mg mb f args d Pre Post)
    {A : Around} {s : Shared} {Q E : Value → Shared → Prop} {g : Heap} {L : Addr} {m : Str → Option Value} {news : List (Addr × Obj)} (hh : A.handled = none) (hdp : A.depth + d < recursionLimit) (hu : A.units + 8 * d + 100 < cLine)
    (X : (hd.heap_39 w.params).In g) (T : TT mean mg mb g) (F : Fr g L s.heap m) (N : News g L s.heap news) (hp : Pre s)
    (h : ∀ v s', Ext s s' → Fr g L s'.heap m → News g L s'.heap news → Post s v s' → Q v s') : wpAny (model PG w) A (call (.ref f) args) Q E s :=
  C A s Q E hh hdp hu (X.keeps F.keep) (T.keeps F.keep) hp fun v s' x p => h v s' x (Fr.ext F x) (News.ext N x) p

/-- a new object that a call handed back goes onto the ledger -/
theorem News.add {s s' : Shared} {g : Heap} {L a : Addr} {o : Obj} {m : Str → Option Value} {news : List (Addr × Obj)} (F : Fr g L s.heap m) (N : News g L s'.heap news) (hf : s.heap.get? a = none) (ho : s'.heap.get? a = some o) : News g L s'.heap ((a, o) :: news) := by
  intro p hp
  rcases List.mem_cons.mp hp with rfl | hp
  · refine ⟨ho, fun e => ?_, ?_⟩
    · obtain ⟨oL, _, _, hL, _⟩ := F.ns
      have e' : a = L := e
      rw [← e', hf] at hL; cases hL
    · cases q : g.get? a with
      | none => rfl
      | some o' => rw [F.keep a o' q] at hf; cases hf
  · exact N p hp
theorem News.off {s : Shared} {g : Heap} {L a : Addr} {news : List (Addr × Obj)} (N : News g L s.heap news) (hf : s.heap.get? a = none) : ∀ p ∈ news, p.1 ≠ a := by
  intro p hp e
  have := (N p hp).1
  rw [e, hf] at this; cases this

theorem while_rule {w : World} {A : Around} {s : Shared} {E : Value → Shared → Prop} {Q : Flow → Shared → Prop} {env : Env} {test : Expr} {body : List Stmt} {pos : Pos} (I : Nat → Shared → Prop)
    (turn : ∀ (E : Value → Shared → Prop) (n : Nat) (s : Shared), I n s → wpAny (model PG w) A (isTrue test env (eval test env)) (fun b s₂ =>
        if b then wpAny (model PG w) A (execs body env) (fun f s₃ => match f with
            | .next | .cont => ∃ m, m < n ∧ I m s₃
            | .brk => Q .next s₃
            | .ret v => Q (.ret v) s₃) E s₂
        else Q .next s₂) E s)
    (n : Nat) (h : I n s) : wpAny (model PG w) A (exec (.While test body [] pos) env) Q E s :=
  wpAny_While (codeAny_whileLoop I (fun n s hI => wpAny_mono (turn _ n s hI) (fun b s₂ hb => by
    cases b with
    | true => exact hb
    | false => exact wpAny_execs_nil hb) fun _ _ e => e) n h)

theorem for_rule {w : World} {A : Around} {s : Shared} {E : Value → Shared → Prop} {Q : Flow → Shared → Prop} {env : Env} {target : Expr} {body : List Stmt} {it : Value} (I : Nat → Shared → Prop)
    (turn : ∀ (E : Value → Shared → Prop) (n : Nat) (s : Shared), I n s → wpAny (model PG w) A (pyNext it) (fun r s₁ => match r with
      | none => Q .next s₁
      | some v => wpAny (model PG w) A (letOwnedTupleGo target it v) (fun _ s₁' => wpAny (model PG w) A (assign target env v) (fun _ s₂ => wpAny (model PG w) A (execs body env) (fun f s₃ => match f with
            | .next | .cont => ∃ m, m < n ∧ I m s₃
            | .brk => Q .next s₃
            | .ret v => Q (.ret v) s₃) E s₂) E s₁') E s₁) E s)
    (n : Nat) (h : I n s) : codeAny (model PG w) A (.forLoop target it body [] env) (fun r s' => match r with | .ok f => Q f s' | .error e => cameBackBy (model PG w) A env E e s') s :=
  codeAny_forLoop_any I (fun n s hI => wpAny_mono (turn _ n s hI) (fun r s₁ h₁ => by
    cases r with
    | none => exact wpAny_execs_nil h₁
    | some v => exact h₁) fun _ _ e => e) n h

theorem try_ok {M : Model} {A : Around} {s : Shared} {E : Value → Shared → Prop} {Q : Flow → Shared → Prop} {env : Env} {body : List Stmt} {hs : List ExceptHandler} {pos : Pos}
    (h : wpAny M A (execs body env) Q (fun _ _ => False) s) : wpAny M A (exec (.Try body hs [] [] pos) env) Q E s := by
  show wpAny M A (do standAt pos; tryStmt false (execs body env) hs (execs [] env) [] env) Q E s
  refine wpAny_bind (wpAny_standAt ?_)
  unfold tryStmt
  show wpAny M A (do let r ← (execs body env).attempt; _) Q E s
  refine wpAny_bind (wpAny_attempt (wpAny_mono h (fun f s' hf => ?_) fun _ _ e => e.elim))
  cases f with
  | next => exact wpAny_execs_nil hf
  | _ => exact wpAny_pure hf
end Mine
end
section
open PySem PySem.W PyProof.Rows PySem.Calls
set_option Elab.async false
namespace Mine
set_option maxRecDepth 100000
set_option maxHeartbeats 4000000
theorem sub_tup : isSubtype (.type "tuple") (.type "tuple") = pure true := by rw [isSubtype_type]; kernel_rfl
theorem sub_str : isSubtype (.type "str") (.type "str") = pure true := by rw [isSubtype_type]; kernel_rfl
theorem kind_issub_nested : builtinKind "issubclass.nested" = none := by decide +kernel
theorem plain_issub_nested : plainId "issubclass.nested" = true := by decide +kernel
theorem args_issub_nested (a b c : Value) : argsOk "issubclass.nested" ⟨[a, b, c], []⟩ := by unfold argsOk; kernel_rfl
section
variable {prog : Program} {w : World} {A : Around} {E : Value → Shared → Prop} {s : Shared}
theorem issub_nested_one {dep : Int} {tk : Tok} {Q : PySem.Fin → Shared → Prop} (hq : Q (.done (.ret (.bool true))) s) :
    wpAny (model prog w) A (Builtin.«issubclass.nested» ⟨[.type "str", .type "str", .int dep tk], []⟩) Q E s := by
  unfold Builtin.«issubclass.nested»
  repeat (any_goals (first | assumption | (rw [sub_str]) | wp_step))
theorem issub_nested_tup {a : Addr} {n : Nat} {tk : Tok} {Q : PySem.Fin → Shared → Prop} (ht : s.heap.get? a = some { cls := .type "tuple", data := .seq #[Value.type "str", Value.type "bytes"] n }) (hq : Q (.done (.ret (.bool true))) s) :
    wpAny (model prog w) A (Builtin.«issubclass.nested» ⟨[.type "str", .ref a, .int 0 tk], []⟩) Q E s := by
  unfold Builtin.«issubclass.nested»
  repeat (any_goals (first | assumption | (rw [sub_tup]) | ((with_reducible show wpAny _ _ (call (Value.builtin "issubclass.nested") _ _) _ _ _); refine call_function_entry_kw kind_issub_nested plain_issub_nested F.entry_issubclass_nested (args_issub_nested _ _ _) (issub_nested_one ⟨_, rfl, ?_⟩)) | wp_step))
theorem call_issub_str {a : Addr} {n : Nat} {Q : Value → Shared → Prop} (ht : s.heap.get? a = some { cls := .type "tuple", data := .seq #[Value.type "str", Value.type "bytes"] n }) (hq : Q (.bool true) s) :
    wpAny (model prog w) A (call (.builtin "issubclass") [.type "str", .ref a]) Q E s :=
  call_issubclass (S := fun _ R s => (s.heap.get? a = some { cls := .type "tuple", data := .seq #[Value.type "str", Value.type "bytes"] n }) ∧ R (.ok (.ret (.bool true))) s)
    (fun _ _ _ _ _ hs => issubclass_outer (issub_nested_tup hs.1 hs.2)) ⟨ht, hq⟩
end
end Mine
end
section
open PySem PySem.W PyProof.Rows PySem.Calls
set_option Elab.async false
set_option autoImplicit false
namespace Mine
set_option maxRecDepth 100000
set_option maxHeartbeats 4000000

structure RO (s s' : Shared) : Prop where
  gens : GExt s.gens s'.gens
  os : s'.os = s.os
theorem RO.refl (s : Shared) : RO s s := ⟨GExt.refl _, rfl⟩
theorem RO.trans {a b c : Shared} (x : RO a b) (y : RO b c) : RO a c := ⟨x.gens.trans y.gens, y.os.trans x.os⟩
theorem Ext.ro {a b : Shared} (x : Ext a b) : RO a b := ⟨x.gens, x.os⟩
theorem Ext.of_ro {s s' : Shared} {g : Heap} {L : Addr} {m : Str → Option Value} (hg : g = s.heap) (F : Fr g L s'.heap m) (r : RO s s') : Ext s s' := Ext.of_fr hg F r.gens r.os

theorem fr_sameBut {g h h' : Heap} {L a : Addr} {m : Str → Option Value} (F : Fr g L h m) (hs : Heap.ExtBut a h h') (hL : a ≠ L) (hg : g.get? a = none) : Fr g L h' m := by
  obtain ⟨oL, es, ep, hLo, r⟩ := F.ns
  refine ⟨⟨oL, es, ep, hs _ _ (Ne.symm hL) hLo, r⟩, fun b o e => hs _ _ (fun q => ?_) (F.keep b o e), F.above⟩
  rw [q, hg] at e; cases e
theorem news_extBut {g h h' : Heap} {L a : Addr} {news : List (Addr × Obj)} (N : News g L h news) (hs : Heap.ExtBut a h h') (ha : ∀ p ∈ news, p.1 ≠ a) : News g L h' news :=
  fun p hp => ⟨hs _ _ (ha p hp) (N p hp).1, (N p hp).2⟩
theorem news_cons {g h : Heap} {L a : Addr} {o : Obj} {news : List (Addr × Obj)} (N : News g L h news) (h1 : h.get? a = some o) (h2 : a ≠ L) (h3 : g.get? a = none) : News g L h ((a, o) :: news) := by
  intro p hp
  rcases List.mem_cons.mp hp with rfl | hp
  · exact ⟨h1, h2, h3⟩
  · exact N p hp
theorem news_sub {g h : Heap} {L : Addr} {news news' : List (Addr × Obj)} (N : News g L h news) (hs : ∀ p ∈ news', p ∈ news) : News g L h news' := fun p hp => N p (hs p hp)

theorem fr_known {g h : Heap} {L : Addr} {m : Str → Option Value} {x : Str} {v : Value} (F : Fr g L h m) (hx : m x = some v) : Fr g L h (fun y => if y = x then some v else m y) := by
  have e : (fun y => if y = x then some v else m y) = m := by
    funext y
    by_cases q : y = x
    · rw [if_pos q, q, hx]
    · rw [if_neg q]
  rw [e]; exact F

/-- a map with some names' values told -/
def kn : List (Str × Value) → (Str → Option Value) → Str → Option Value
  | [], m => m
  | (x, v) :: r, m => fun y => if y = x then some v else kn r m y
def KnOk (m : Str → Option Value) : List (Str × Value) → Prop
  | [] => True
  | (x, v) :: r => m x = some v ∧ KnOk m r
theorem kn_eq {m : Str → Option Value} : ∀ {ps : List (Str × Value)}, KnOk m ps → kn ps m = m
  | [], _ => rfl
  | (x, v) :: r, h => by
    funext y
    show (if y = x then some v else kn r m y) = m y
    by_cases q : y = x
    · rw [if_pos q, q, h.1]
    · rw [if_neg q, kn_eq h.2]
theorem fr_knows {g h : Heap} {L : Addr} {m : Str → Option Value} (ps : List (Str × Value)) (F : Fr g L h m) (hp : KnOk m ps) : Fr g L h (kn ps m) := by
  rw [kn_eq hp]; exact F

/-- an iterator's object over a list -/
def IsIt (o : Obj) (l : Addr) (i : Nat) : Prop := o.cls = .type "list_iterator" ∧ o.data = .fields #[.ref l, .int i 0]

theorem let_go_it {M : Model} {A : Around} {s : Shared} {E : Value → Shared → Prop} {Q : Unit → Shared → Prop} {target : Expr} {I : Addr} {o : Obj} {v : Value} {n : String} (ho : s.heap.get? I = some o) (hc : o.cls = .type n) (hn : ["enumerate", "zip", "dict_itemiterator", "dict_reverseitemiterator", "odict_iterator", "itertools.zip_longest", "itertools.pairwise"].contains n = false) (h : Q () s) :
    wpAny M A (letOwnedTupleGo target (.ref I) v) Q E s := by
  have main : wpAny M A (do
    let (.ref r, .ref a) := ((.ref I : Value), v) | return
    let o ← load r
    match o.cls, o.data with
    | .type n, .fields vs =>
      if ["enumerate", "zip", "dict_itemiterator", "dict_reverseitemiterator", "odict_iterator", "itertools.zip_longest", "itertools.pairwise"].contains n && vs[0]? == some (rawInt a) then
        rule "for.unpacks-the-owned-tuple"
        updateField r 0 .none
    | _, _ => pure ()) Q E s := by
    cases v with
    | ref a =>
      refine wpAny_bind (wpAny_load ho ?_)
      rw [hc]
      cases hd : o.data with
      | fields vs =>
        dsimp only
        rw [hn]
        exact wpAny_pure h
      | _ => exact wpAny_pure h
    | _ => exact wpAny_pure h
  cases target with
  | Tuple _ _ _ => exact main
  | List _ _ => exact main
  | _ => exact wpAny_pure h

theorem for_list {w : World} {A : Around} {s : Shared} {E : Value → Shared → Prop} {Q : Flow → Shared → Prop} {env : Env} {target : Expr} {body : List Stmt} {l : Addr} {items : List Value} {g : Heap} {L : Addr} {m₀ : Str → Option Value} {led₀ : List (Addr × Obj)}
    (J : Nat → (Str → Option Value) → List (Addr × Obj) → Prop)
    (hh : A.handled = none) (hl : ∀ i m led h, J i m led → Fr g L h m → News g L h led → h.IsList l items.toArray)
    (F : Fr g L s.heap m₀) (N : News g L s.heap led₀) (hj : J 0 m₀ led₀)
    (turn : ∀ (E : Value → Shared → Prop) i v m led s₁ I₀ o, items[i]? = some v → J i m led → IsIt o l (i + 1) → RO s s₁ → Fr g L s₁.heap m → News g L s₁.heap ((I₀, o) :: led) → (∀ p ∈ led, p.1 ≠ I₀) →
      wpAny (model PG w) A (assign target env v) (fun _ s₂ => wpAny (model PG w) A (execs body env) (fun f s₃ => match f with
        | .next | .cont => ∃ m' led', J (i + 1) m' led' ∧ RO s s₃ ∧ Fr g L s₃.heap m' ∧ News g L s₃.heap ((I₀, o) :: led') ∧ ∀ p ∈ led', p.1 ≠ I₀
        | .brk => Q .next s₃
        | .ret v => Q (.ret v) s₃) E s₂) E s₁)
    (done : ∀ m led s₁, J items.length m led → RO s s₁ → Fr g L s₁.heap m → News g L s₁.heap led → Q .next s₁) :
    wpAny (model PG w) A (pyIter (.ref l)) (fun it s₂ => codeAny (model PG w) A (.forLoop target it body [] env) (fun r s' => match r with | .ok f => Q f s' | .error e => cameBackBy (model PG w) A env E e s') s₂) E s := by
  refine wpAny_pyIter_list (hl 0 _ _ _ hj F N) ?_
  have hI : s.heap.get? s.heap.objs.size = none := by
    cases q : s.heap.get? s.heap.objs.size with
    | none => rfl
    | some o => exact absurd (Heap.lt_size q) (Nat.lt_irrefl _)
  have hIL : s.heap.objs.size ≠ L := fun e => by
    obtain ⟨oL, _, _, hL, _⟩ := F.ns
    rw [← e, hI] at hL; cases hL
  have hIg : g.get? s.heap.objs.size = none := by
    cases q : g.get? s.heap.objs.size with
    | none => rfl
    | some o => rw [F.keep _ _ q] at hI; cases hI
  refine for_rule (I := fun n s₁ => ∃ i m led o, n + i = items.length ∧ J i m led ∧ IsIt o l i ∧ RO s s₁ ∧ Fr g L s₁.heap m ∧ News g L s₁.heap ((s.heap.objs.size, o) :: led) ∧ ∀ p ∈ led, p.1 ≠ s.heap.objs.size) ?_ items.length
    ⟨0, m₀, led₀, _, rfl, hj, ⟨rfl, rfl⟩, ⟨GExt.refl _, rfl⟩, F.push _, news_cons (fun p hp => ⟨Heap.get?_push_of_some _ (N p hp).1, (N p hp).2⟩) (Heap.get?_push_size _ rfl) hIL hIg, News.off N hI⟩
  rintro E n s₁ ⟨i, m, led, o, hn, hJ, ⟨ho1, ho2⟩, hro, F₁, N₁, hoff⟩
  have hIo := (N₁ _ (.head _)).1
  have Nl : News g L s₁.heap led := fun p hp => N₁ p (.tail _ hp)
  have hls := hl i _ _ _ hJ F₁ Nl
  cases hx : items[i]? with
  | none =>
    refine wpAny_pyNext_list_end hh ⟨o, hIo, ho1, ho2⟩ hls (by simpa using hx) fun h' hk => ?_
    have hi : i = items.length := by
      have := List.getElem?_eq_none_iff.mp hx; omega
    subst hi
    exact done m led _ hJ ⟨hro.gens, hro.os⟩ (fr_sameBut F₁ hk hIL hIg) (news_extBut Nl hk hoff)
  | some v =>
    refine wpAny_pyNext_list_item ⟨o, hIo, ho1, ho2⟩ hls (by simpa using hx) fun h' hit hs => ?_
    obtain ⟨o', ho', hc', hd'⟩ := hit
    refine let_go_it ho' hc' (by decide +kernel) ?_
    have hlt : i < items.length := (List.getElem?_eq_some_iff.mp hx).1
    refine wpAny_mono (turn E i v m led { s₁ with heap := h' } _ o' hx hJ ⟨hc', hd'⟩ ⟨hro.gens, hro.os⟩ (fr_sameBut F₁ hs.extBut hIL hIg) (news_cons (news_extBut Nl hs.extBut hoff) ho' hIL hIg) hoff) (fun _ s₂ h₂ => wpAny_mono h₂ (fun f s₃ h₃ => ?_) fun _ _ e => e) fun _ _ e => e
    have fin : (∃ m' led', J (i + 1) m' led' ∧ RO s s₃ ∧ Fr g L s₃.heap m' ∧ News g L s₃.heap ((s.heap.objs.size, o') :: led') ∧ ∀ p ∈ led', p.1 ≠ s.heap.objs.size) → ∃ k, k < n ∧ ∃ i m led o, k + i = items.length ∧ J i m led ∧ IsIt o l i ∧ RO s s₃ ∧ Fr g L s₃.heap m ∧ News g L s₃.heap ((s.heap.objs.size, o) :: led) ∧ ∀ p ∈ led, p.1 ≠ s.heap.objs.size := by
      rintro ⟨m', led', j', r', F', N', off'⟩
      exact ⟨n - 1, by omega, i + 1, m', led', o', by omega, j', ⟨hc', hd'⟩, r', F', N', off'⟩
    cases f with
    | next => exact fin h₃
    | cont => exact fin h₃
    | brk => exact h₃
    | ret v => exact h₃
/-- an iterator's object over a tuple -/
def IsItT (o : Obj) (l : Addr) (i : Nat) : Prop := o.cls = .type "tuple_iterator" ∧ o.data = .fields #[.ref l, .int i 0]
theorem for_tuple {w : World} {A : Around} {s : Shared} {E : Value → Shared → Prop} {Q : Flow → Shared → Prop} {env : Env} {target : Expr} {body : List Stmt} {l : Addr} {items : List Value} {g : Heap} {L : Addr} {m₀ : Str → Option Value} {led₀ : List (Addr × Obj)}
    (J : Nat → (Str → Option Value) → List (Addr × Obj) → Prop)
    (hh : A.handled = none) (hl : ∀ i m led h, J i m led → Fr g L h m → News g L h led → h.IsTuple l items.toArray)
    (F : Fr g L s.heap m₀) (N : News g L s.heap led₀) (hj : J 0 m₀ led₀)
    (turn : ∀ (E : Value → Shared → Prop) i v m led s₁ I₀ o, items[i]? = some v → J i m led → IsItT o l (i + 1) → RO s s₁ → Fr g L s₁.heap m → News g L s₁.heap ((I₀, o) :: led) → (∀ p ∈ led, p.1 ≠ I₀) →
      wpAny (model PG w) A (assign target env v) (fun _ s₂ => wpAny (model PG w) A (execs body env) (fun f s₃ => match f with
        | .next | .cont => ∃ m' led', J (i + 1) m' led' ∧ RO s s₃ ∧ Fr g L s₃.heap m' ∧ News g L s₃.heap ((I₀, o) :: led') ∧ ∀ p ∈ led', p.1 ≠ I₀
        | .brk => Q .next s₃
        | .ret v => Q (.ret v) s₃) E s₂) E s₁)
    (done : ∀ m led s₁, J items.length m led → RO s s₁ → Fr g L s₁.heap m → News g L s₁.heap led → Q .next s₁) :
    wpAny (model PG w) A (pyIter (.ref l)) (fun it s₂ => codeAny (model PG w) A (.forLoop target it body [] env) (fun r s' => match r with | .ok f => Q f s' | .error e => cameBackBy (model PG w) A env E e s') s₂) E s := by
  refine wpAny_pyIter_tuple (hl 0 _ _ _ hj F N) ?_
  have hI : s.heap.get? s.heap.objs.size = none := by
    cases q : s.heap.get? s.heap.objs.size with
    | none => rfl
    | some o => exact absurd (Heap.lt_size q) (Nat.lt_irrefl _)
  have hIL : s.heap.objs.size ≠ L := fun e => by
    obtain ⟨oL, _, _, hL, _⟩ := F.ns
    rw [← e, hI] at hL; cases hL
  have hIg : g.get? s.heap.objs.size = none := by
    cases q : g.get? s.heap.objs.size with
    | none => rfl
    | some o => rw [F.keep _ _ q] at hI; cases hI
  refine for_rule (I := fun n s₁ => ∃ i m led o, n + i = items.length ∧ J i m led ∧ IsItT o l i ∧ RO s s₁ ∧ Fr g L s₁.heap m ∧ News g L s₁.heap ((s.heap.objs.size, o) :: led) ∧ ∀ p ∈ led, p.1 ≠ s.heap.objs.size) ?_ items.length
    ⟨0, m₀, led₀, _, rfl, hj, ⟨rfl, rfl⟩, ⟨GExt.refl _, rfl⟩, F.push _, news_cons (fun p hp => ⟨Heap.get?_push_of_some _ (N p hp).1, (N p hp).2⟩) (Heap.get?_push_size _ rfl) hIL hIg, News.off N hI⟩
  rintro E n s₁ ⟨i, m, led, o, hn, hJ, ⟨ho1, ho2⟩, hro, F₁, N₁, hoff⟩
  have hIo := (N₁ _ (.head _)).1
  have Nl : News g L s₁.heap led := fun p hp => N₁ p (.tail _ hp)
  have hls := hl i _ _ _ hJ F₁ Nl
  cases hx : items[i]? with
  | none =>
    refine wpAny_pyNext_tuple_end hh ⟨o, hIo, ho1, ho2⟩ hls (by simpa using hx) fun h' hk => ?_
    have hi : i = items.length := by
      have := List.getElem?_eq_none_iff.mp hx; omega
    subst hi
    exact done m led _ hJ ⟨hro.gens, hro.os⟩ (fr_sameBut F₁ hk hIL hIg) (news_extBut Nl hk hoff)
  | some v =>
    refine wpAny_pyNext_tuple_item ⟨o, hIo, ho1, ho2⟩ hls (by simpa using hx) fun h' hit hs => ?_
    obtain ⟨o', ho', hc', hd'⟩ := hit
    refine let_go_it ho' hc' (by decide +kernel) ?_
    have hlt : i < items.length := (List.getElem?_eq_some_iff.mp hx).1
    refine wpAny_mono (turn E i v m led { s₁ with heap := h' } _ o' hx hJ ⟨hc', hd'⟩ ⟨hro.gens, hro.os⟩ (fr_sameBut F₁ hs.extBut hIL hIg) (news_cons (news_extBut Nl hs.extBut hoff) ho' hIL hIg) hoff) (fun _ s₂ h₂ => wpAny_mono h₂ (fun f s₃ h₃ => ?_) fun _ _ e => e) fun _ _ e => e
    have fin : (∃ m' led', J (i + 1) m' led' ∧ RO s s₃ ∧ Fr g L s₃.heap m' ∧ News g L s₃.heap ((s.heap.objs.size, o') :: led') ∧ ∀ p ∈ led', p.1 ≠ s.heap.objs.size) → ∃ k, k < n ∧ ∃ i m led o, k + i = items.length ∧ J i m led ∧ IsItT o l i ∧ RO s s₃ ∧ Fr g L s₃.heap m ∧ News g L s₃.heap ((s.heap.objs.size, o) :: led) ∧ ∀ p ∈ led, p.1 ≠ s.heap.objs.size := by
      rintro ⟨m', led', j', r', F', N', off'⟩
      exact ⟨n - 1, by omega, i + 1, m', led', o', by omega, j', ⟨hc', hd'⟩, r', F', N', off'⟩
    cases f with
    | next => exact fin h₃
    | cont => exact fin h₃
    | brk => exact h₃
    | ret v => exact h₃
end Mine
end
section
open PySem PySem.W PyProof.Rows PySem.Calls
set_option Elab.async false
set_option autoImplicit false
namespace Mine
set_option maxRecDepth 100000
set_option maxHeartbeats 4000000
section
variable {prog : Program} {w : World} {A : Around} {E : Value → Shared → Prop} {s : Shared} {g : Heap} {L D : Addr} {m : Str → Option Value} {news news' : List (Addr × Obj)} {n : Nat}
theorem truthy_lst {its : Array Value} {Q : Bool → Shared → Prop} (N : News g L s.heap news) (hm : (D, W.listOf its n) ∈ news) (hf : its.size ≤ sizeLine) (h : Q (!its.isEmpty) { s with toks := s.toks + 1 + 1 }) : wpAny (model prog w) A (truthy (.ref D)) Q E s :=
  wpAny_truthy_list ⟨_, N.get hm, rfl, n, rfl⟩ (by have := sizeLine_eq; omega) h
theorem tail_last {value slice : PySem.Expr} {vs : List Value} {y : Value} {u : Tok} {Q : Value → Shared → Prop} (N : News g L s.heap news) (hm : (D, W.listOf (vs ++ [y]).toArray n) ∈ news) (hf : vs.length ≤ sizeLine) (h : Q y s)
    (hs : subscripted slice false (.ref D) (.int (-1) u) = operate [.ref D, .int (-1) u] (getItem (.ref D) (.int (-1) u)) := by with_unfolding_all rfl) :
    wpAny (model prog w) A (subscriptTail value slice (.ref D) (.int (-1) u)) Q E s :=
  have hl : s.heap.IsList D (vs ++ [y]).toArray := ⟨_, N.get hm, rfl, n, rfl⟩
  tail_any hl.typeIs slot_list_getitem.lookup (wpAny_getItem_list_neg hl (by decide) (by simp only [List.size_toArray, List.length_append, List.length_cons, List.length_nil]; omega) (by decide) (by
    have e : ((-1 : Int) + ((vs ++ [y]).toArray.size : Int)).toNat = vs.length := by simp only [List.size_toArray, List.length_append, List.length_cons, List.length_nil]; omega
    rw [e]; simp) h) hs
theorem tail_item {value slice : PySem.Expr} {vs : List Value} {y : Value} {k : Int} {u : Tok} {Q : Value → Shared → Prop} (hl : s.heap.IsList D vs.toArray) (h0 : 0 ≤ k) (hk : vs[k.toNat]? = some y) (hhi : k < 2 ^ 63) (h : Q y s)
    (hs : subscripted slice false (.ref D) (.int k u) = operate [.ref D, .int k u] (getItem (.ref D) (.int k u)) := by with_unfolding_all rfl) :
    wpAny (model prog w) A (subscriptTail value slice (.ref D) (.int k u)) Q E s :=
  tail_any hl.typeIs slot_list_getitem.lookup (wpAny_getItem_list hl h0 hhi (by simpa using hk) h) hs
theorem pop_any {vs : List Value} {y : Value} {Q : Value → Shared → Prop} (F : Fr g L s.heap m) (N : News g L s.heap news) (U : Upd D (W.listOf (vs ++ [y]).toArray n) (W.listOf vs.toArray (n + 1)) news news') (hf : vs.length + 1 ≤ sizeLine)
    (h : ∀ h', Fr g L h' m → News g L h' news' → Q y { s with heap := h' }) : wpAny (model prog w) A (call (.builtin "list.pop") [.ref D]) Q E s :=
  kl_pop F N (p := vs) (y := y) (by simpa using kpa_last y vs) U (by simpa using hf) h
end
theorem strValues_append (a b : List (Str × Tok)) : strValues (a ++ b) = strValues a ++ strValues b := by simp [strValues]
theorem strValues_length (a : List (Str × Tok)) : (strValues a).length = a.length := by simp [strValues]
end Mine
end
section
open PySem PySem.W PyProof.Rows PySem.Calls
set_option Elab.async false
namespace Mine
set_option maxRecDepth 100000
set_option maxHeartbeats 4000000
theorem fillP0 (P : Params) : Challenge.rw_qw0046_01 = Challenge.rw_qw0046_01 ∧ hd.heap_39 P = hd.heap_39 P := by
  k_fill
  exact ⟨rfl, rfl⟩
local macro_rules | `(tactic| k_steps) => `(tactic| repeat' (
  (fail_if_success (with_reducible show wpAny _ _ (exec (Stmt.For _ _ _ _ _) _) _ _ _));
  (fail_if_success (with_reducible show wpAny _ _ (exec (Stmt.While _ _ _ _) _) _ _ _));
  (fail_if_success (with_reducible show wpAny _ _ (exec (Stmt.Try _ _ _ _ _) _) _ _ _));
  (fail_if_success (with_reducible show wpAny _ _ (exec (Stmt.Assign _ (Expr.ListComp _ _ _ _) _) _) _ _ _));
  (fail_if_success (with_reducible show wpAny _ _ (eval (Expr.ListComp _ _ _ _) _) _ _ _));
  (fail_if_success (with_reducible show wpAny _ _ (call (Value.ref _) _ _) _ _ _));
  (fail_if_success (with_reducible show Exists _));
  first | (k_unfold; (try dsimp only)) | walk1 | (dsimp only; walk1)))

theorem con_fspath {w : World} {mean : ExcName → Option Value} {mg mb : Str → Option Value} (x : Str) (t : Tok) : Con w mean mg mb 131 [.str x t] 1 (fun _ => True) (fun _ v _ => v = .str x t) := by
  intro A s Q E hh hd hu X T hpre hQ
  obtain ⟨ha, dp, fr, gd, un⟩ := A
  obtain rfl : ha = none := hh
  dsimp only at hd hu
  replace hh : (⟨none, dp, fr, gd, un⟩ : Around).handled = none := rfl
  refine wpAny_call ?_
  k_dflt (refine' enterF (binds := [(Str.ofString "path", .str x t)]) X T.nolimit ?ho ?hcd ?hroom ?hbind ?hloc ?_ ?c1 ?c2 ?c3 ?c4; (case ho => k_is); (case hcd => k_is); (case hroom => (dsimp only; omega)); (case hbind => exact BindsTo.of_eq rfl); (case hloc => exact locs rfl); (case c1 => rfl); (case c2 => rfl); (case c3 => rfl); (case c4 => decide))
  k_whole
  intro g L h₁ tk₁ hg F N
  rw [← hg] at X T
  (try dsimp only)
  try k_fold
  k_steps
  refine call_issub_str (News.get (by assumption) (by k_mem)) ?_
  k_steps
  exact hQ _ _ (Ext.of_fr hg (by assumption) (GExt.refl _) rfl) rfl

theorem con_getsep {w : World} {mean : ExcName → Option Value} {mg mb : Str → Option Value} (x : Str) (t : Tok) : Con w mean mg mb 145 [.str x t] 1 (fun _ => True) (fun _ v _ => ∃ t', v = .str (Str.ofString "/") t') := by
  intro A s Q E hh hd hu X T hpre hQ
  obtain ⟨ha, dp, fr, gd, un⟩ := A
  obtain rfl : ha = none := hh
  dsimp only at hd hu
  replace hh : (⟨none, dp, fr, gd, un⟩ : Around).handled = none := rfl
  refine wpAny_call ?_
  k_dflt (refine' enterF (binds := [(Str.ofString "path", .str x t)]) X T.nolimit ?ho ?hcd ?hroom ?hbind ?hloc ?_ ?c1 ?c2 ?c3 ?c4; (case ho => k_is); (case hcd => k_is); (case hroom => (dsimp only; omega)); (case hbind => exact BindsTo.of_eq rfl); (case hloc => exact locs rfl); (case c1 => rfl); (case c2 => rfl); (case c3 => rfl); (case c4 => decide))
  k_whole
  intro g L h₁ tk₁ hg F N
  rw [← hg] at X T
  (try dsimp only)
  try k_fold
  k_steps
  exact hQ _ _ (Ext.of_fr hg (by assumption) (GExt.refl _) rfl) ⟨_, rfl⟩

theorem con_splitroot {w : World} {mean : ExcName → Option Value} {mg mb : Str → Option Value} (x : Str) (t : Tok) (hlen : x.length ≤ 1048576) (hns : (Txt.slice x none (some 1) != Str.ofString "/") = true) : Con w mean mg mb 159 [.str x t] 2 (fun _ => True) (fun s v s' => ∃ a t1 t2, v = .ref a ∧ s.heap.get? a = none ∧ s'.heap.get? a = some { cls := .type "tuple", data := .seq #[.str (Str.ofString "") t1, .str (Str.ofString "") t2, .str x t] }) := by
  intro A s Q E hh hd hu X T hpre hQ
  obtain ⟨ha, dp, fr, gd, un⟩ := A
  obtain rfl : ha = none := hh
  dsimp only at hd hu
  replace hh : (⟨none, dp, fr, gd, un⟩ : Around).handled = none := rfl
  refine wpAny_call ?_
  k_dflt (refine' enterF (binds := [(Str.ofString "p", .str x t)]) X T.nolimit ?ho ?hcd ?hroom ?hbind ?hloc ?_ ?c1 ?c2 ?c3 ?c4; (case ho => k_is); (case hcd => k_is); (case hroom => (dsimp only; omega)); (case hbind => exact BindsTo.of_eq rfl); (case hloc => exact locs rfl); (case c1 => rfl); (case c2 => rfl); (case c3 => rfl); (case c4 => decide))
  k_whole
  intro g L h₁ tk₁ hg F N
  rw [← hg] at X T
  (try dsimp only)
  try k_fold
  k_steps
  refine Con.use (con_fspath x t) hh (by simp only [Around.deeper]; omega) (by simp only [Around.deeper]; omega) X T (by assumption) (by assumption) (trivial) ?_
  intro v1 s1 hx1 F1 N1 hp1
  subst hp1
  k_steps
  refine hQ _ _ (Ext.of_fr hg (by assumption) hx1.gens hx1.os) ?_
  refine ⟨_, _, _, rfl, ?_, News.get (by assumption) (by k_mem)⟩
  rw [← hg]
  exact News.fresh (by assumption) (by k_mem)
end Mine
end
section
open PySem PySem.W PyProof.Rows PySem.Calls
set_option Elab.async false
namespace Mine
set_option maxRecDepth 100000
set_option maxHeartbeats 4000000
theorem fillP1 (P : Params) : Challenge.rw_qw0046_01 = Challenge.rw_qw0046_01 ∧ hd.heap_39 P = hd.heap_39 P := by
  k_fill
  exact ⟨rfl, rfl⟩
local macro_rules | `(tactic| k_steps) => `(tactic| repeat' (
  (fail_if_success (with_reducible show wpAny _ _ (exec (Stmt.For _ _ _ _ _) _) _ _ _));
  (fail_if_success (with_reducible show wpAny _ _ (exec (Stmt.While _ _ _ _) _) _ _ _));
  (fail_if_success (with_reducible show wpAny _ _ (exec (Stmt.Try _ _ _ _ _) _) _ _ _));
  (fail_if_success (with_reducible show wpAny _ _ (exec (Stmt.Assign _ (Expr.ListComp _ _ _ _) _) _) _ _ _));
  (fail_if_success (with_reducible show wpAny _ _ (eval (Expr.ListComp _ _ _ _) _) _ _ _));
  (fail_if_success (with_reducible show wpAny _ _ (call (Value.ref _) _ _) _ _ _));
  (fail_if_success (with_reducible show Exists _));
  first | (k_unfold; (try dsimp only)) | walk1 | (dsimp only; walk1)))

theorem con_join {w : World} {mean : ExcName → Option Value} {mg mb : Str → Option Value} (x y : Str) (t u : Tok) (hlx : x.length ≤ 100000) (hly : y.length ≤ 100000)
    (h1 : Txt.startswith y (Str.ofString "/") = false) (h2 : Txt.endswith x (Str.ofString "/") = false) (h3 : x.length ≠ 0) : Con w mean mg mb 152 [.str x t, .str y u] 3 (fun _ => True) (fun _ v _ => ∃ t', v = .str (x ++ (Str.ofString "/" ++ y)) t') := by
  intro A s Q E hh hd hu X T hpre hQ
  obtain ⟨ha, dp, fr, gd, un⟩ := A
  obtain rfl : ha = none := hh
  dsimp only at hd hu
  replace hh : (⟨none, dp, fr, gd, un⟩ : Around).handled = none := rfl
  refine wpAny_call ?_
  k_dflt (refine' enterV (vs := [.str y u]) (binds := fun T => [(Str.ofString "a", .str x t), (Str.ofString "p", T)]) X T.nolimit ?ho ?hcd ?hroom ?hbind ?hsz ?hloc ?_ ?c1 ?c2 ?c3 ?c4; (case ho => k_is); (case hcd => k_is); (case hroom => (dsimp only; omega)); (case hbind => rfl); (case hsz => size_fits); (case hloc => exact fun t => locs rfl); (case c1 => rfl); (case c2 => rfl); (case c3 => rfl); (case c4 => decide))
  k_whole
  intro g L h₁ tk₁ T₁ hg F N
  rw [← hg] at X T
  (try dsimp only)
  try k_fold
  k_steps
  refine Con.use (con_fspath x t) hh (by simp only [Around.deeper]; omega) (by simp only [Around.deeper]; omega) X T (by assumption) (by assumption) (trivial) ?_
  intro v1 s1 hx1 F1 N1 hp1
  subst hp1
  k_steps
  refine Con.use (con_getsep x t) hh (by simp only [Around.deeper]; omega) (by simp only [Around.deeper]; omega) X T (by assumption) (by assumption) (trivial) ?_
  intro v2 s2 hx2 F2 N2 hp2
  obtain ⟨t2, rfl⟩ := hp2
  k_steps
  refine try_ok ?_
  k_steps
  refine wpAny_For ?_
  k_steps
  refine for_tuple (items := [.str y u]) (fun i m led => led = [(T₁, { cls := .type "tuple", data := .seq #[.str y u] })] ∧ (i = 0 → m (Str.ofString "path") = some (.str x t) ∧ m (Str.ofString "sep") = some (.str (Str.ofString "/") t2)) ∧ (i = 1 → ∃ t', m (Str.ofString "path") = some (.str (x ++ (Str.ofString "/" ++ y)) t'))) hh ?hl (by assumption) (by assumption) ⟨rfl, fun _ => ⟨rfl, rfl⟩, fun e => nomatch e⟩ ?turn ?done
  case hl =>
    rintro i m led h ⟨rfl, _⟩ _ N
    exact ⟨_, N.get (.head _), rfl, 0, rfl⟩
  case turn =>
    rintro E i v m led s₃ I₀ o hv ⟨rfl, j0, _⟩ hit hro F₃ N₃ hoff
    match i, hv, j0 with
    | 0, hv, j0 =>
      obtain rfl := Option.some.inj hv
      replace F₃ := fr_knows [(Str.ofString "path", .str x t), (Str.ofString "sep", .str (Str.ofString "/") t2)] F₃ ⟨(j0 rfl).1, (j0 rfl).2, trivial⟩
      simp only [kn] at F₃
      k_steps
      refine Con.use (con_fspath y u) hh (by simp only [Around.deeper]; omega) (by simp only [Around.deeper]; omega) X T (by assumption) (by assumption) (trivial) ?_
      intro v4 s4 hx4 F4 N4 hp4
      subst hp4
      k_steps
      · exact ⟨_, _, ⟨rfl, (fun e => by simp at e), fun _ => ⟨_, rfl⟩⟩, ⟨hro.gens.trans hx4.gens, hx4.os.trans hro.os⟩, by assumption, by assumption, hoff⟩
      · exfalso; omega
    | n + 1, hv, _ => simp at hv
  case done =>
    rintro m led s₁ ⟨rfl, _, j1⟩ hro F₁ N₁
    obtain ⟨t', hp⟩ := j1 rfl
    replace F₁ := fr_knows [(Str.ofString "path", .str (x ++ (Str.ofString "/" ++ y)) t')] F₁ ⟨hp, trivial⟩
    simp only [kn] at F₁
    k_steps
    exact hQ _ _ (Ext.of_ro hg (by assumption) ⟨(hx1.gens.trans hx2.gens).trans hro.gens, hro.os.trans (hx2.os.trans hx1.os)⟩) ⟨_, rfl⟩
end Mine
end
open PySem PySem.W PyProof.Rows PySem.Calls
local macro_rules | `(tactic| k_steps) => `(tactic| repeat' (
  (fail_if_success (with_reducible show wpAny _ _ (exec (Stmt.For _ _ _ _ _) _) _ _ _));
  (fail_if_success (with_reducible show wpAny _ _ (exec (Stmt.While _ _ _ _) _) _ _ _));
  (fail_if_success (with_reducible show wpAny _ _ (exec (Stmt.Try _ _ _ _ _) _) _ _ _));
  (fail_if_success (with_reducible show wpAny _ _ (exec (Stmt.Assign _ (Expr.ListComp _ _ _ _) _) _) _ _ _));
  (fail_if_success (with_reducible show wpAny _ _ (eval (Expr.ListComp _ _ _ _) _) _ _ _));
  (fail_if_success (with_reducible show wpAny _ _ (call (Value.ref _) _ _) _ _ _));
  (fail_if_success (with_reducible show Exists _));
  first | (k_unfold; (try dsimp only)) | walk1 | (dsimp only; walk1)))
local macro_rules | `(tactic| walk_at "truthy ref") => `(tactic| (k_dflt (refine' Mine.truthy_lst ?N ?m ?f ?_; (case N => k_asm); (case m => k_mem); (case f => first | size_fits | (simp only [List.size_toArray, List.length_append, List.length_cons, List.length_nil, Mine.strValues_length, sizeLine_eq]; omega)); k_whole); (try simp only [List.isEmpty_toArray, List.isEmpty_append, List.isEmpty_cons, List.isEmpty_nil, Bool.and_false, Bool.not_false, Bool.not_true])))
local macro_rules | `(tactic| walk_at "subscriptTail") => `(tactic| ((with_reducible show wpAny _ _ (subscriptTail _ _ (Value.ref _) (Value.int (-1) _)) _ _ _); k_dflt (refine' Mine.tail_last ?N ?m ?f ?_ ?hs; (case N => k_asm); (case m => k_mem); (case f => first | size_fits | (simp only [Mine.strValues_length, sizeLine_eq]; omega)); (case hs => with_unfolding_all rfl); k_whole)))
local macro_rules | `(tactic| walk_at "call builtin:list.pop") => `(tactic| ((with_reducible show wpAny _ _ (call (Value.builtin _) [Value.ref _]) _ _ _); k_dflt (refine' Mine.pop_any ?F ?N ?U ?f ?_; (case F => k_asm); (case N => k_asm); (case U => k_upd); (case f => first | size_fits | (simp only [Mine.strValues_length, sizeLine_eq]; omega)); k_whole); (intro h' F' N'; (try k_sweep))))
local macro_rules | `(tactic| walk_at "call builtin:list.append") => `(tactic| ((with_reducible show wpAny _ _ (call (Value.builtin _) [Value.ref _, _]) _ _ _); k_dflt (refine' append_K ?k1 ?k2 ?k3 ?_ ?z; (case k1 => k_asm); (case k2 => k_asm); (case k3 => k_upd); (case z => first | size_fits | (simp only [List.size_toArray, List.length_append, List.length_cons, List.length_nil, Mine.strValues_length, sizeLine_eq]; omega)); k_whole); intro h' F' N'; (try k_sweep)))
section
open PySem PySem.W PyProof.Rows PySem.Calls
set_option Elab.async false
namespace Mine
set_option maxRecDepth 100000
set_option linter.unusedVariables false
set_option maxHeartbeats 4000000
theorem fillP2 (P : Params) : Challenge.rw_qw0046_01 = Challenge.rw_qw0046_01 ∧ hd.heap_39 P = hd.heap_39 P := by
  k_fill
  exact ⟨rfl, rfl⟩



def sDot : Str := Str.ofString "."
def sDD : Str := Str.ofString ".."
def sSl : Str := Str.ofString "/"
/-- one component more -/
def npStep (nc : List Str) (c : Str) : List Str :=
  if c.length = 0 ∨ c = sDot then nc
  else if c ≠ sDD ∨ nc = [] ∨ nc.getLast? = some sDD then nc ++ [c]
  else nc.dropLast
def npAll (cs : List Str) : List Str := cs.foldl npStep []
/-- what normpath gives -/
def npath (x : Str) : Str := if (Str.join sSl (npAll (Txt.split x sSl))).length = 0 then sDot else Str.join sSl (npAll (Txt.split x sSl))
theorem np_take {l : List (Str × Tok)} {i : Nat} {y : Str} (hy : (l[i]?).map (·.1) = some y) : npAll ((l.take (i + 1)).map (·.1)) = npStep (npAll ((l.take i).map (·.1))) y := by
  cases hx : l[i]? with
  | none => rw [hx] at hy; cases hy
  | some p =>
    rw [hx] at hy
    obtain rfl : p.1 = y := Option.some.inj hy
    rw [List.take_add_one, hx, Option.toList_some, List.map_append, npAll, List.foldl_append]; rfl
theorem npStep_skip {nc : List Str} {c : Str} (h : c.length = 0 ∨ c = sDot) : npStep nc c = nc := if_pos h
theorem npStep_app {nc : List Str} {c : Str} (h : ¬ (c.length = 0 ∨ c = sDot)) (h2 : c ≠ sDD ∨ nc = [] ∨ nc.getLast? = some sDD) : npStep nc c = nc ++ [c] := by rw [npStep, if_neg h, if_pos h2]
theorem npStep_pop {nc : List Str} {c : Str} (h : ¬ (c.length = 0 ∨ c = sDot)) (h2 : ¬ (c ≠ sDD ∨ nc = [] ∨ nc.getLast? = some sDD)) : npStep nc c = nc.dropLast := by rw [npStep, if_neg h, if_neg h2]
def wt (l : List Str) : Nat := (l.map (·.length)).sum + l.length
theorem wt_append (a b : List Str) : wt (a ++ b) = wt a + wt b := by simp [wt]; omega
theorem wt_dropLast (a : List Str) : wt a.dropLast ≤ wt a := by
  rcases List.eq_nil_or_concat a with rfl | ⟨q, e, rfl⟩
  · exact Nat.le_refl _
  · rw [List.concat_eq_append, List.dropLast_concat, wt_append]; omega
theorem wt_length (a : List Str) : a.length ≤ wt a := by unfold wt; omega
theorem npAll_wt (cs : List Str) : wt (npAll cs) ≤ wt cs := by
  have : ∀ (cs nc : List Str), wt (cs.foldl npStep nc) ≤ wt nc + wt cs := by
    intro cs
    induction cs with
    | nil => intro nc; exact Nat.le_add_right _ _
    | cons c r ih =>
      intro nc
      rw [List.foldl_cons]
      refine Nat.le_trans (ih _) ?_
      have h1 : wt (npStep nc c) ≤ wt nc + wt [c] := by
        unfold npStep
        split
        · omega
        · split
          · rw [wt_append]; exact Nat.le_refl _
          · exact Nat.le_trans (wt_dropLast nc) (Nat.le_add_right _ _)
      have h2 : wt (c :: r) = wt [c] + wt r := wt_append [c] r
      omega
  have h := this cs []
  have h0 : wt [] = 0 := rfl
  show wt (cs.foldl npStep []) ≤ wt cs
  omega
theorem txt_join (sep : Str) (l : List Str) : Txt.join sep l = Str.join sep l := eq_of_beq (join_plain_closes sep l)
theorem len_sl : (Str.ofString "/").length = 1 := by decide
theorem join_len : ∀ l : List Str, (Str.join (Str.ofString "/") l).length ≤ wt l
  | [] => Nat.zero_le _
  | [x] => by show x.length ≤ wt [x]; simp [wt]
  | x :: y :: r => by
    have h1 := join_len (y :: r)
    have h2 : wt (x :: y :: r) = wt [x] + wt (y :: r) := wt_append [x] (y :: r)
    have h3 : wt [x] = x.length + 1 := by simp [wt]
    show (x ++ Str.ofString "/" ++ Str.join (Str.ofString "/") (y :: r)).length ≤ _
    rw [Str.length_append, Str.length_append, len_sl]
    omega
theorem wt_take (l : List (Str × Tok)) (i : Nat) : wt ((l.take i).map (·.1)) ≤ wt (l.map (·.1)) := by
  have h : wt (l.map (·.1)) = wt ((l.take i).map (·.1)) + wt ((l.drop i).map (·.1)) := by rw [← wt_append, ← List.map_append, List.take_append_drop]
  omega
theorem np_c1 {nc : List Str} {y : Str} (h : (y.length : Int) = 0) : npStep nc y = nc := npStep_skip (.inl (by omega))
theorem np_c2 {nc : List Str} {y : Str} (h : (y == Str.ofString ".") = true) : npStep nc y = nc := npStep_skip (.inr (by simpa [sDot] using h))
theorem np_no {y : Str} (h0 : (y.length : Int) ≠ 0) (h1 : (y == Str.ofString ".") = false) : ¬ (y.length = 0 ∨ y = sDot) := by
  rintro (h | h)
  · omega
  · rw [h] at h1; simp [sDot] at h1
theorem np_c3 {nc : List Str} {y : Str} (h0 : (y.length : Int) ≠ 0) (h1 : (y == Str.ofString ".") = false) (h2 : (y != Str.ofString "..") = true) : npStep nc y = nc ++ [y] :=
  npStep_app (np_no h0 h1) (.inl (by simpa [sDD] using h2))
theorem np_c4 {y : Str} (h0 : (y.length : Int) ≠ 0) (h1 : (y == Str.ofString ".") = false) : npStep [] y = [y] := npStep_app (np_no h0 h1) (.inr (.inl rfl))
theorem np_c5 {nc : List Str} {e y : Str} (h0 : (y.length : Int) ≠ 0) (h1 : (y == Str.ofString ".") = false) (he : (e == Str.ofString "..") = true) : npStep (nc ++ [e]) y = nc ++ [e] ++ [y] :=
  npStep_app (np_no h0 h1) (.inr (.inr (by simpa [sDD] using he)))
theorem np_c6 {nc : List Str} {e y : Str} (h0 : (y.length : Int) ≠ 0) (h1 : (y == Str.ofString ".") = false) (h2 : (y != Str.ofString "..") = false) (he : (e == Str.ofString "..") = false) : npStep (nc ++ [e]) y = nc := by
  rw [npStep_pop (np_no h0 h1)]
  · simp
  · rintro (h | h | h)
    · simp at h2; exact h h2
    · simp at h
    · simp [sDD] at h; rw [h] at he; simp at he
theorem sv_no {q : List (Str × Tok)} {e : Value} {P : Prop} (h : (strValues q ++ [e]).toArray.isEmpty = true) : P := by simp at h
def tupObj (vs : List Value) : Obj := { cls := .type "tuple", data := .seq vs.toArray }
def ledNorm (l : List (Str × Tok)) (nc c a : Addr) (oa : Obj) (q : List (Str × Tok)) (k : Nat) : List (Addr × Obj) := [(nc, W.listOf (strValues q).toArray k), (c, { cls := .type "list", data := .seq (strValues l).toArray }), (a, oa)]
abbrev knNorm (nc : Addr) (td td2 ti ts : Tok) : List (Str × Value) := [(Str.ofString "new_comps", .ref nc), (Str.ofString "dot", .str (Str.ofString ".") td), (Str.ofString "dotdot", .str (Str.ofString "..") td2), (Str.ofString "initial_slashes", .str (Str.ofString "") ti), (Str.ofString "sep", .str (Str.ofString "/") ts)]
def JNorm (l : List (Str × Tok)) (nc c a : Addr) (oa : Obj) (td td2 ti ts : Tok) (i : Nat) (m : Str → Option Value) (led : List (Addr × Obj)) : Prop :=
  ∃ (q : List (Str × Tok)) (k : Nat), led = ledNorm l nc c a oa q k ∧ q.map (·.1) = npAll ((l.take i).map (·.1)) ∧ KnOk m (knNorm nc td td2 ti ts)
theorem JNorm.fin {l : List (Str × Tok)} {nc c a I₀ L : Addr} {oa o : Obj} {td td2 ti ts : Tok} {i : Nat} {g : Heap} {s s₃ : Shared} {q : List (Str × Tok)} {y : Str} {QQ : Flow → Shared → Prop} {B : Shared → Prop} {C : Value → Shared → Prop}
    (hQQ : (fun f s₃ => match f with
        | .next | .cont => ∃ m' led', JNorm l nc c a oa td td2 ti ts (i + 1) m' led' ∧ RO s s₃ ∧ Fr g L s₃.heap m' ∧ News g L s₃.heap ((I₀, o) :: led') ∧ ∀ p ∈ led', p.1 ≠ I₀
        | .brk => B s₃
        | .ret v => C v s₃ : Flow → Shared → Prop) = QQ)
    (hy : (l[i]?).map (·.1) = some y) (hq : q.map (·.1) = npAll ((l.take i).map (·.1))) (hro : RO s s₃) (n1 : nc ≠ I₀) (n2 : c ≠ I₀) (n3 : a ≠ I₀) :
    ∀ f, f = Flow.next ∨ f = Flow.cont → ∀ m' (qn : List (Str × Tok)) k' s', npStep (q.map (·.1)) y = qn.map (·.1) → KnOk m' (knNorm nc td td2 ti ts) → RO s₃ s' → Fr g L s'.heap m' → News g L s'.heap ((I₀, o) :: ledNorm l nc c a oa qn k') → QQ f s' := by
  intro f hf m' qn k' s' e1 e2 e3 e4 e5
  have h : ∃ m' led', JNorm l nc c a oa td td2 ti ts (i + 1) m' led' ∧ RO s s' ∧ Fr g L s'.heap m' ∧ News g L s'.heap ((I₀, o) :: led') ∧ ∀ p ∈ led', p.1 ≠ I₀ :=
    ⟨m', _, ⟨qn, k', rfl, by rw [np_take hy, ← hq, e1], e2⟩, hro.trans e3, e4, e5, by
      intro p hp
      simp only [ledNorm, List.mem_cons, List.not_mem_nil, or_false] at hp
      rcases hp with rfl | rfl | rfl
      · exact n1
      · exact n2
      · exact n3⟩
  rw [← hQQ]
  rcases hf with rfl | rfl
  · exact h
  · exact h
theorem sv_push (q : List (Str × Tok)) (y : Str) (u : Tok) : (strValues q).toArray.push (Value.str y u) = (strValues (q ++ [(y, u)])).toArray := by simp [strValues]
theorem sv_push2 (q : List (Str × Tok)) (e : Str × Tok) (y : Str) (u : Tok) : (strValues q ++ [Value.str e.1 e.2]).toArray.push (Value.str y u) = (strValues (q ++ [e] ++ [(y, u)])).toArray := by simp [strValues]
theorem sv_one (q : List (Str × Tok)) (e : Str × Tok) : (strValues q ++ [Value.str e.1 e.2]) = strValues (q ++ [e]) := by simp [strValues]

theorem con_normpath {w : World} {mean : ExcName → Option Value} {mg mb : Str → Option Value} (x : Str) (t : Tok) (hlen : x.length ≤ 100000) (hne : x.length ≠ 0) (hns : (Txt.slice x none (some 1) != Str.ofString "/") = true) : Con w mean mg mb 166 [.str x t] 3 (fun _ => True) (fun s v s' => ∃ t', v = .str (npath x) t') := by
  intro A s Q E hh hd hu X T hpre hQ
  obtain ⟨ha, dp, fr, gd, un⟩ := A
  obtain rfl : ha = none := hh
  dsimp only at hd hu
  replace hh : (⟨none, dp, fr, gd, un⟩ : Around).handled = none := rfl
  refine wpAny_call ?_
  k_dflt (refine' enterF (binds := [(Str.ofString "path", .str x t)]) X T.nolimit ?ho ?hcd ?hroom ?hbind ?hloc ?_ ?c1 ?c2 ?c3 ?c4; (case ho => k_is); (case hcd => k_is); (case hroom => (dsimp only; omega)); (case hbind => exact BindsTo.of_eq rfl); (case hloc => exact locs rfl); (case c1 => rfl); (case c2 => rfl); (case c3 => rfl); (case c4 => decide))
  k_whole
  intro g L h₁ tk₁ hg F N
  rw [← hg] at X T
  (try dsimp only)
  try k_fold
  k_steps
  refine Con.use (con_fspath x t) hh (by simp only [Around.deeper]; omega) (by simp only [Around.deeper]; omega) X T (by assumption) (by assumption) (trivial) ?_
  intro v1 s1 hx1 F1 N1 hp1
  subst hp1
  k_steps
  all_goals try (exfalso; omega)
  refine Con.use (con_splitroot x t (Nat.le_trans hlen (by decide)) hns) hh (by simp only [Around.deeper]; omega) (by simp only [Around.deeper]; omega) X T (by assumption) (by assumption) (trivial) ?_
  intro v2 s2 hx2 F2 N2 hp2
  obtain ⟨a, t1, t2, rfl, hf2, ho2⟩ := hp2
  replace N2 := News.add (by assumption) N2 hf2 ho2
  k_steps
  rename List (Str × Tok) => l
  rename List.map _ l = Txt.split _ _ => hsp
  rename ∀ (_ : Str), _ ∈ List.map _ l → _ => hall
  have hll : wt (l.map (·.1)) ≤ 100001 := by
    rw [hsp]; exact Nat.le_trans (split_weight x (Str.ofString "/") (by decide)) (by omega)
  refine wpAny_For ?_
  k_steps
  refine for_list (items := strValues l) (JNorm l _ _ a (tupObj _) _ _ t2 _) hh ?hl (by assumption) (by assumption) ⟨[], 0, rfl, rfl, rfl, rfl, rfl, rfl, rfl, trivial⟩ ?turn ?done
  case hl =>
    rintro i m led h ⟨q, k, rfl, _⟩ _ N
    exact ⟨_, N.get (by k_mem), rfl, 0, rfl⟩
  case turn =>
    rintro E i v m led s₃ I₀ o hv ⟨q, k, rfl, hq, hm⟩ hit hro F₃ N₃ hoff0
    replace F₃ := fr_knows _ F₃ hm
    simp only [kn] at F₃
    have hv' : ∃ y u, v = .str y u ∧ (l[i]?).map (·.1) = some y := by
      rw [strValues, List.getElem?_map] at hv
      cases hx : l[i]? with
      | none => rw [hx] at hv; cases hv
      | some p => rw [hx] at hv; exact ⟨p.1, p.2, (Option.some.inj hv).symm, rfl⟩
    obtain ⟨y, u, rfl, hy⟩ := hv'
    have hyl : y.length ≤ 100000 := by
      cases hx : l[i]? with
      | none => rw [hx] at hy; cases hy
      | some p =>
        rw [hx] at hy
        obtain rfl : p.1 = y := Option.some.inj hy
        exact Nat.le_trans (hall _ (List.mem_map.mpr ⟨p, List.mem_of_getElem? hx, rfl⟩)) hlen
    have hql : q.length ≤ 100002 := by
      have h1 := congrArg List.length hq
      rw [List.length_map] at h1
      have h2 := wt_length (npAll ((l.take i).map (·.1)))
      have h3 := npAll_wt ((l.take i).map (·.1))
      have h4 := wt_take l i
      omega
    have hoff := hoff0
    simp only [ledNorm, List.forall_mem_cons, List.not_mem_nil] at hoff
    obtain ⟨n1, n2, n3, -⟩ := hoff
    replace n1 := neN n1
    replace n2 := neN n2
    replace n3 := neN n3
    clear hv hx1 hx2 hf2 ho2 hsp hall hit
    generalize hQQ : (fun f s₃ => _ : Flow → Shared → Prop) = QQ
    have hA := JNorm.fin hQQ hy hq hro n1 n2 n3
    clear hQQ hoff0 hro
    simp only [ledNorm] at N₃ hA
    rcases List.eq_nil_or_concat q with rfl | ⟨q', e, rfl⟩
    · k_steps
      all_goals (
        rename News _ _ _ _ => NN
        (try simp only [sv_push] at NN)
        refine hA _ (by first | exact .inl rfl | exact .inr rfl) _ _ _ _ ?_ ⟨rfl, rfl, rfl, rfl, rfl, trivial⟩ ⟨GExt.refl _, rfl⟩ (by assumption) NN
        first | exact np_c1 (by assumption) | exact np_c2 (by assumption) | exact np_c4 (by assumption) (by assumption))
    · rw [List.concat_eq_append] at hA
      rw [List.concat_eq_append, strValues_append, show strValues [e] = [Value.str e.1 e.2] from rfl] at N₃
      rw [List.concat_eq_append, List.length_append, List.length_cons, List.length_nil] at hql
      rw [List.map_append, show List.map (fun x : Str × Tok => x.1) [e] = [e.1] from rfl] at hA
      clear hq
      k_steps
      all_goals try (exact sv_no (by assumption))
      all_goals (
        rename News _ _ _ _ => NN
        (try simp only [sv_one, sv_push] at NN)
        refine hA _ (by first | exact .inl rfl | exact .inr rfl) _ _ _ _ ?_ ⟨rfl, rfl, rfl, rfl, rfl, trivial⟩ ⟨GExt.refl _, rfl⟩ (by assumption) NN
        (try rw [List.map_append])
        first | exact np_c1 (by assumption) | exact np_c2 (by assumption) | exact np_c3 (by assumption) (by assumption) (by assumption) | exact np_c6 (by assumption) (by assumption) (by assumption) (by assumption) | (rw [List.map_append]; first | exact np_c1 (by assumption) | exact np_c2 (by assumption) | exact np_c3 (by assumption) (by assumption) (by assumption) | exact np_c5 (by assumption) (by assumption) (by assumption)))
  case done =>
    rintro m led s₃ ⟨q, k, rfl, hq, hm⟩ hro F₃ N₃
    replace F₃ := fr_knows _ F₃ hm
    simp only [kn] at F₃
    simp only [ledNorm] at N₃
    rw [strValues_length, List.take_length, hsp] at hq
    have hwq : wt (q.map (·.1)) ≤ 100001 := by
      rw [hq]; exact Nat.le_trans (npAll_wt _) (hsp ▸ hll)
    k_steps
    refine SC.join (News.isList (by assumption) (by k_mem)) rfl (joinOk_of_weight (by unfold wt at hwq; omega) (by decide)) ?_
    intro t9 k9
    have hjl : (Txt.join (Str.ofString "/") (q.map (·.1))).length ≤ 100001 := by rw [txt_join]; exact Nat.le_trans (join_len _) hwq
    k_steps
    refine PySem.P.truthy_str (by rw [Str.length_append, show (Str.ofString "").length = 0 from by decide]; omega) ?_
    have he : Str.ofString "" ++ Txt.join (Str.ofString "/") (List.map (fun x => x.1) q) = Str.join sSl (npAll (Txt.split x sSl)) := by
      rw [hq, txt_join]; exact Str.empty_append _
    rw [he]
    by_cases hz : (Str.join sSl (npAll (Txt.split x sSl))).length = 0
    · have hb : (((Str.join sSl (npAll (Txt.split x sSl))).length : Int) != 0) = false := by rw [hz]; rfl
      rw [hb]
      k_steps
      exact hQ _ _ (Ext.of_ro hg (by assumption) ⟨(hx1.gens.trans hx2.gens).trans hro.gens, hro.os.trans (hx2.os.trans hx1.os)⟩) ⟨_, by rw [npath, if_pos hz]; rfl⟩
    · have hb : (((Str.join sSl (npAll (Txt.split x sSl))).length : Int) != 0) = true := by simpa using hz
      rw [hb]
      k_steps
      exact hQ _ _ (Ext.of_ro hg (by assumption) ⟨(hx1.gens.trans hx2.gens).trans hro.gens, hro.os.trans (hx2.os.trans hx1.os)⟩) ⟨_, by rw [npath, if_neg hz]⟩
end Mine
end
section
open PySem PySem.W PyProof.Rows PySem.Calls
set_option Elab.async false
set_option autoImplicit false
set_option linter.unusedVariables false
namespace Mine
/-- the signs of a text, one behind a backslash with it, each at its place -/
def toks : Nat → List Nat → List (Nat × List Nat)
  | _, [] => []
  | p, [c] => [(p, [c])]
  | p, c :: d :: r => if c = 92 then (p + 1, [c, d]) :: toks (p + 2) r else (p, [c]) :: toks (p + 1) (d :: r)
def mkS (l : List Nat) : Str := ⟨l.toArray⟩
theorem mkS_toList (x : Str) : mkS x.cps.toList = x := rfl
/-- a unit as a datum -/
def uD (u : Nat × List Nat) : PyData := .tuple [.int u.1, .str (mkS u.2)]
theorem toks_bs2 {p c d : Nat} {r : List Nat} (h : c = 92) : toks p (c :: d :: r) = (p + 1, [c, d]) :: toks (p + 2) r := by rw [toks, if_pos h]
theorem toks_one {p c d : Nat} {r : List Nat} (h : c ≠ 92) : toks p (c :: d :: r) = (p, [c]) :: toks (p + 1) (d :: r) := by rw [toks, if_neg h]
theorem toks_ne {p c : Nat} {r : List Nat} (h : c ≠ 92) : toks p (c :: r) = (p, [c]) :: toks (p + 1) r := by
  cases r with
  | nil => rfl
  | cons d r => exact toks_one h
theorem slice_is {x : Str} {i j : Int} (h0 : 0 ≤ i) (h1 : i ≤ j) (h2 : j ≤ x.length) : Txt.slice x (some i) (some j) = mkS ((x.cps.toList.drop i.toNat).take (j - i).toNat) :=
  StrLaws.sliceText_plain ⟨h0, h1, by simpa [Str.length] using h2⟩
theorem item_is {x : Str} {i : Int} {c : Nat} {r : List Nat} (h0 : 0 ≤ i) (h : x.cps.toList.drop i.toNat = c :: r) : Txt.item x i = mkS [c] := by
  refine item_meets h0 ?_
  have : x.cps.toList[i.toNat]? = some c := by
    have h1 := congrArg List.head? h
    rw [List.head?_drop] at h1
    exact h1
  rw [← Array.getElem?_toList]; exact this
theorem bs_eq : Str.ofString "\\" = mkS [92] := by decide
theorem mkS_inj {a b : List Nat} (h : mkS a = mkS b) : a = b := by
  have := congrArg (fun s : Str => s.cps.toList) h
  simpa [mkS] using this
end Mine
end
section
open PySem PySem.W PyProof.Rows PySem.Calls
set_option Elab.async false
set_option autoImplicit false
set_option linter.unusedVariables false
namespace Mine
inductive All2 {α β : Type} (R : α → β → Prop) : List α → List β → Prop
  | nil : All2 R [] []
  | cons {a : α} {b : β} {as : List α} {bs : List β} : R a b → All2 R as bs → All2 R (a :: as) (b :: bs)
section
variable {α β γ : Type} {R S : α → β → Prop}
theorem All2.mono (h : ∀ a b, R a b → S a b) : ∀ {as : List α} {bs : List β}, All2 R as bs → All2 S as bs
  | _, _, .nil => .nil
  | _, _, .cons x r => .cons (h _ _ x) (All2.mono h r)
theorem All2.append : ∀ {as as' : List α} {bs bs' : List β}, All2 R as bs → All2 R as' bs' → All2 R (as ++ as') (bs ++ bs')
  | _, _, _, _, .nil, k => k
  | _, _, _, _, .cons x r, k => .cons x (All2.append r k)
theorem All2.snoc {as : List α} {bs : List β} {a : α} {b : β} (h : All2 R as bs) (x : R a b) : All2 R (as ++ [a]) (bs ++ [b]) := h.append (.cons x .nil)
theorem All2.length : ∀ {as : List α} {bs : List β}, All2 R as bs → as.length = bs.length
  | _, _, .nil => rfl
  | _, _, .cons _ r => congrArg (· + 1) r.length
theorem All2.get : ∀ {as : List α} {bs : List β}, All2 R as bs → ∀ {i : Nat} {b : β}, bs[i]? = some b → ∃ a, as[i]? = some a ∧ R a b
  | _, _, .nil, _, _, e => nomatch e
  | _, _, .cons (a := a) x r, 0, _, e => ⟨a, rfl, Option.some.inj e ▸ x⟩
  | _, _, .cons x r, i + 1, _, e => r.get e
theorem All2.get' : ∀ {as : List α} {bs : List β}, All2 R as bs → ∀ {i : Nat} {a : α}, as[i]? = some a → ∃ b, bs[i]? = some b ∧ R a b
  | _, _, .nil, _, _, e => nomatch e
  | _, _, .cons (b := b) x r, 0, _, e => ⟨b, rfl, Option.some.inj e ▸ x⟩
  | _, _, .cons x r, i + 1, _, e => r.get' e
end
theorem rd_all {h : Heap} : ∀ {vs : List Value} {ds : List PyData}, All2 (Rd h) vs ds → ∃ as, ReadsAll h vs ds as
  | _, _, .nil => ⟨[], .nil⟩
  | _, _, .cons ⟨as, x⟩ r => let ⟨bs, y⟩ := rd_all r; ⟨as ++ bs, .cons x y⟩
theorem rd_all' {h : Heap} : ∀ {vs : List Value} {ds : List PyData} {as : List Addr}, ReadsAll h vs ds as → All2 (Rd h) vs ds
  | _, _, _, .nil => .nil
  | _, _, _, .cons x y => .cons ⟨_, x⟩ (rd_all' y)
theorem rd_list {h : Heap} {a : Addr} {vs : List Value} {n : Nat} {ds : List PyData} (ho : h.get? a = some (W.listOf vs.toArray n)) (r : All2 (Rd h) vs ds) : Rd h (.ref a) (.list ds) :=
  let ⟨as, x⟩ := rd_all r; ⟨a :: as, .list ho rfl rfl (by simpa using x)⟩
theorem rd_tuple {h : Heap} {a : Addr} {vs : List Value} {n : Nat} {ds : List PyData} (ho : h.get? a = some { cls := .type "tuple", data := .seq vs.toArray n }) (r : All2 (Rd h) vs ds) : Rd h (.ref a) (.tuple ds) :=
  let ⟨as, x⟩ := rd_all r; ⟨as, .tuple ho rfl rfl (by simpa using x)⟩
theorem rd_int {h : Heap} {i : Int} {t : Tok} : Rd h (.int i t) (.int i) := ⟨[], .int i t⟩
theorem rd_str {h : Heap} {x : Str} {t : Tok} : Rd h (.str x t) (.str x) := ⟨[], .str x t⟩
theorem rd_bool {h : Heap} {b : Bool} : Rd h (.bool b) (.bool b) := ⟨[], .bool b⟩
/-- a list that reads as a datum's list: its object -/
theorem Rd.listInv {h : Heap} {v : Value} {ds : List PyData} (r : Rd h v (.list ds)) : ∃ a vs, v = .ref a ∧ h.IsList a vs.toArray ∧ All2 (Rd h) vs ds := by
  obtain ⟨as, r⟩ := r
  cases r with
  | list ho hc hd ra => exact ⟨_, _, rfl, ⟨_, ho, hc, _, by rw [hd]⟩, rd_all' ra⟩
theorem Rd.tupleInv {h : Heap} {v : Value} {ds : List PyData} (r : Rd h v (.tuple ds)) : ∃ a vs, v = .ref a ∧ h.IsTuple a vs.toArray ∧ All2 (Rd h) vs ds := by
  obtain ⟨as, r⟩ := r
  cases r with
  | tuple ho hc hd ra => exact ⟨_, _, rfl, ⟨_, ho, hc, _, by rw [hd]⟩, rd_all' ra⟩
theorem Rd.strInv {h : Heap} {v : Value} {x : Str} (r : Rd h v (.str x)) : ∃ t, v = .str x t := by
  obtain ⟨as, r⟩ := r; cases r; exact ⟨_, rfl⟩
theorem Rd.intInv {h : Heap} {v : Value} {i : Int} (r : Rd h v (.int i)) : ∃ t, v = .int i t := by
  obtain ⟨as, r⟩ := r; cases r; exact ⟨_, rfl⟩
theorem Rd.keeps {h h' : Heap} {v : Value} {d : PyData} (hk : ∀ b o, h.get? b = some o → h'.get? b = some o) (r : Rd h v d) : Rd h' v d := let ⟨as, x⟩ := r; ⟨as, PyProof.Rows.Reads.keeps hk x⟩

/-- where the ledger stands, the value reads as the datum -/
def LRd (tl : List (Addr × Obj)) (v : Value) (d : PyData) : Prop := ∀ h : Heap, (∀ p ∈ tl, h.get? p.1 = some p.2) → Rd h v d
theorem LRd.mono {tl tl' : List (Addr × Obj)} {v : Value} {d : PyData} (hs : ∀ p ∈ tl, p ∈ tl') (r : LRd tl v d) : LRd tl' v d := fun h hp => r h fun p hq => hp p (hs p hq)
theorem LRd.int {tl : List (Addr × Obj)} {i : Int} {t : Tok} : LRd tl (.int i t) (.int i) := fun _ _ => rd_int
theorem LRd.str {tl : List (Addr × Obj)} {x : Str} {t : Tok} : LRd tl (.str x t) (.str x) := fun _ _ => rd_str
theorem LRd.tuple {tl : List (Addr × Obj)} {a : Addr} {vs : List Value} {n : Nat} {ds : List PyData} (hm : (a, ({ cls := .type "tuple", data := .seq vs.toArray n } : Obj)) ∈ tl) (r : All2 (LRd tl) vs ds) : LRd tl (.ref a) (.tuple ds) :=
  fun h hp => rd_tuple (hp _ hm) (r.mono fun _ _ x => x h hp)
theorem LRd.list {tl : List (Addr × Obj)} {a : Addr} {vs : List Value} {n : Nat} {ds : List PyData} (hm : (a, W.listOf vs.toArray n) ∈ tl) (r : All2 (LRd tl) vs ds) : LRd tl (.ref a) (.list ds) :=
  fun h hp => rd_list (hp _ hm) (r.mono fun _ _ x => x h hp)
theorem LRd.at {g h : Heap} {L : Addr} {tl : List (Addr × Obj)} {v : Value} {d : PyData} (r : LRd tl v d) (N : News g L h tl) : Rd h v d := r h fun p hp => (N p hp).1
end Mine
end
section
open PySem PySem.W PyProof.Rows PySem.Calls
set_option Elab.async false
namespace Mine
set_option maxRecDepth 100000
set_option linter.unusedVariables false
set_option maxHeartbeats 4000000
theorem fillU1 (P : Params) : Challenge.rw_qw0046_01 = Challenge.rw_qw0046_01 ∧ hd.heap_39 P = hd.heap_39 P := by
  k_fill
  exact ⟨rfl, rfl⟩



/-- the value is a pair of the ledger -/
def TupIn (tl : List (Addr × Obj)) (v : Value) (u : Nat × List Nat) : Prop := ∃ a t1 t2, v = .ref a ∧ (a, ({ cls := .type "tuple", data := .seq #[.int (u.1 : Int) t1, .str (mkS u.2) t2] } : Obj)) ∈ tl
theorem TupIn.mono {tl tl' : List (Addr × Obj)} {v : Value} {u : Nat × List Nat} (hs : ∀ p ∈ tl, p ∈ tl') (r : TupIn tl v u) : TupIn tl' v u := let ⟨a, t1, t2, e, h⟩ := r; ⟨a, t1, t2, e, hs _ h⟩
theorem TupIn.lrd {tl : List (Addr × Obj)} {v : Value} {u : Nat × List Nat} (r : TupIn tl v u) : LRd tl v (uD u) := by
  obtain ⟨a, t1, t2, rfl, h⟩ := r
  exact LRd.tuple (vs := [.int (u.1 : Int) t1, .str (mkS u.2) t2]) h (.cons LRd.int (.cons LRd.str .nil))
theorem All2.mapR {α β γ : Type} {R : α → γ → Prop} {f : β → γ} : ∀ {as : List α} {bs : List β}, All2 (fun a b => R a (f b)) as bs → All2 R as (bs.map f)
  | _, _, .nil => .nil
  | _, _, .cons x r => .cons x r.mapR
/-- a new list and its items' objects, all new -/
def Made (s : Shared) (v : Value) (s' : Shared) (ds : List (Nat × List Nat)) : Prop :=
  ∃ (a : Addr) (vs : List Value) (n : Nat) (tl : List (Addr × Obj)), v = .ref a ∧ (∀ p ∈ (a, W.listOf vs.toArray n) :: tl, s'.heap.get? p.1 = some p.2) ∧ (∀ p ∈ (a, W.listOf vs.toArray n) :: tl, s.heap.get? p.1 = none) ∧ (∀ p ∈ tl, p.1 ≠ a) ∧ All2 (TupIn tl) vs ds
theorem Made.rd {s s' : Shared} {v : Value} {ds : List (Nat × List Nat)} (m : Made s v s' ds) : Rd s'.heap v (.list (ds.map uD)) := by
  obtain ⟨a, vs, n, tl, rfl, h1, h2, h3, h4⟩ := m
  exact rd_list (h1 _ (.head _)) ((h4.mono fun _ _ r => r.lrd _ fun p hp => h1 p (.tail _ hp)).mapR)
theorem ne_comm_ho {a b : Addr} (h : a ≠ b) : a ≠ b := h
abbrev knUnits (x : Str) (t : Tok) (us : Addr) (k : Int) (tk : Tok) : List (Str × Value) := [(Str.ofString "k", .int k tk), (Str.ofString "units", .ref us), (Str.ofString "text", .str x t)]
def IUnits (g : Heap) (L : Addr) (s : Shared) (x : Str) (t : Tok) (us : Addr) (n : Nat) (s' : Shared) : Prop :=
  ∃ (k : Nat) (tk : Tok) (vs : List Value) (ds : List (Nat × List Nat)) (nn : Nat) (tl : List (Addr × Obj)) (m : Str → Option Value), n + k = x.length ∧ toks 0 x.cps.toList = ds ++ toks k (x.cps.toList.drop k) ∧ vs.length ≤ k ∧
    All2 (TupIn tl) vs ds ∧ OwnOff tl [us] ∧ RO s s' ∧ KnOk m (knUnits x t us k tk) ∧ Fr g L s'.heap m ∧ News g L s'.heap ((us, W.listOf vs.toArray nn) :: tl)
theorem IUnits.next {g : Heap} {L : Addr} {s s₁ s' : Shared} {x : Str} {t : Tok} {us D : Addr} {n k size nn' : Nat} {vs : List Value} {ds : List (Nat × List Nat)} {tl : List (Addr × Obj)} {m' : Str → Option Value} {c : List Nat} {tk t1 t2 : Tok} {kk ki : Int} {y : Str}
    (hn : n + k = x.length) (ht : toks 0 x.cps.toList = ds ++ toks k (x.cps.toList.drop k)) (hv : vs.length ≤ k) (ha : All2 (TupIn tl) vs ds) (ho : OwnOff tl [us]) (hro : RO s s₁) (hD : us < D)
    (hs : 1 ≤ size ∧ k + size ≤ x.length) (hc : toks k (x.cps.toList.drop k) = (k + size - 1, c) :: toks (k + size) (x.cps.toList.drop (k + size))) (hy : y = mkS c)
    (r : RO s₁ s') (hk : kk = ((k + size : Nat) : Int)) (hki : ki = ((k + size - 1 : Nat) : Int)) (hm : KnOk m' (knUnits x t us kk tk)) (F : Fr g L s'.heap m') (N : News g L s'.heap ((D, { cls := .type "tuple", data := .seq #[.int ki t1, .str y t2] }) :: (us, W.listOf (vs.toArray.push (.ref D)) nn') :: tl)) :
    ∃ m, m < n ∧ IUnits g L s x t us m s' := by
  subst hk
  refine ⟨n - size, by omega, k + size, tk, vs ++ [.ref D], ds ++ [(k + size - 1, c)], nn', (D, { cls := .type "tuple", data := .seq #[.int ki t1, .str y t2] }) :: tl, m', by omega, ?_, by simp; omega, ?_, ?_, hro.trans r, hm, F, ?_⟩
  · rw [ht, hc, List.append_assoc]; rfl
  · refine (ha.mono fun _ _ x => x.mono fun p hp => .tail _ hp).snoc ?_
    refine ⟨D, t1, t2, rfl, ?_⟩
    rw [hki, hy]; exact .head _
  · intro p hp b hb
    rw [List.mem_singleton.mp hb]
    rcases List.mem_cons.mp hp with rfl | hp
    · exact Nat.ne_of_gt hD
    · exact ho p hp us (.head _)
  · intro p hp
    have e : (vs ++ [Value.ref D]).toArray = vs.toArray.push (.ref D) := by simp
    rw [e] at hp
    rcases List.mem_cons.mp hp with rfl | hp
    · exact N _ (.tail _ (.head _))
    · rcases List.mem_cons.mp hp with rfl | hp
      · exact N _ (.head _)
      · exact N p (.tail _ (.tail _ hp))
theorem drop_at {l : List Nat} {k : Nat} (h : k < l.length) : ∃ c r, l.drop k = c :: r ∧ r = l.drop (k + 1) := by
  refine ⟨l[k], l.drop (k + 1), ?_, rfl⟩
  rw [List.drop_eq_getElem_cons h]
theorem units_two {x : Str} {k : Nat} (h1 : k + 1 < x.length) (hb : (Txt.item x k == Str.ofString "\\") = true) :
    ∃ c, toks k (x.cps.toList.drop k) = (k + 2 - 1, c) :: toks (k + 2) (x.cps.toList.drop (k + 2)) ∧ Txt.slice x (some (k : Int)) (some ((k : Int) + 2)) = mkS c := by
  have hl : x.cps.toList.length = x.length := by simp [Str.length]
  obtain ⟨c, r, e1, e2⟩ := drop_at (l := x.cps.toList) (k := k) (by omega)
  obtain ⟨d, r', e3, e4⟩ := drop_at (l := x.cps.toList) (k := k + 1) (by omega)
  rw [e3] at e2; subst e2
  rw [item_is (c := c) (r := d :: r') (by omega) (by simpa using e1), bs_eq] at hb
  have hc : c = 92 := by simpa using mkS_inj (eq_of_beq hb)
  refine ⟨[c, d], ?_, ?_⟩
  · rw [e1, toks_bs2 hc, e4]; rfl
  · rw [slice_is (by omega) (by omega) (by omega)]
    have : ((k : Int) + 2 - (k : Int)).toNat = 2 := by omega
    rw [this, Int.toNat_natCast, e1]; rfl
theorem units_last {x : Str} {k : Nat} (h0 : k < x.length) (h1 : ¬ k + 1 < x.length) :
    ∃ c, toks k (x.cps.toList.drop k) = (k + 1 - 1, c) :: toks (k + 1) (x.cps.toList.drop (k + 1)) ∧ Txt.slice x (some (k : Int)) (some ((k : Int) + 1)) = mkS c := by
  have hl : x.cps.toList.length = x.length := by simp [Str.length]
  obtain ⟨c, r, e1, e2⟩ := drop_at (l := x.cps.toList) (k := k) (by omega)
  have e3 : x.cps.toList.drop (k + 1) = [] := List.drop_eq_nil_iff.mpr (by omega)
  rw [e3] at e2; subst e2
  refine ⟨[c], ?_, ?_⟩
  · rw [e1, e3]; rfl
  · rw [slice_is (by omega) (by omega) (by omega)]
    have : ((k : Int) + 1 - (k : Int)).toNat = 1 := by omega
    rw [this, Int.toNat_natCast, e1]; rfl
theorem units_one {x : Str} {k : Nat} (h0 : k < x.length) (hb : (Txt.item x k == Str.ofString "\\") = false) :
    ∃ c, toks k (x.cps.toList.drop k) = (k + 1 - 1, c) :: toks (k + 1) (x.cps.toList.drop (k + 1)) ∧ Txt.slice x (some (k : Int)) (some ((k : Int) + 1)) = mkS c := by
  have hl : x.cps.toList.length = x.length := by simp [Str.length]
  obtain ⟨c, r, e1, e2⟩ := drop_at (l := x.cps.toList) (k := k) (by omega)
  rw [item_is (c := c) (r := r) (by omega) (by simpa using e1), bs_eq] at hb
  have hc : c ≠ 92 := by rintro rfl; simp at hb
  refine ⟨[c], ?_, ?_⟩
  · rw [e1, toks_ne hc, e2]; rfl
  · rw [slice_is (by omega) (by omega) (by omega)]
    have : ((k : Int) + 1 - (k : Int)).toNat = 1 := by omega
    rw [this, Int.toNat_natCast, e1]; rfl

theorem con_units {w : World} {mean : ExcName → Option Value} {mg mb : Str → Option Value} (x : Str) (t : Tok) (hlen : x.length ≤ 1000) : Con w mean mg mb 180 [.str x t] 1 (fun _ => True) (fun s v s' => Made s v s' (toks 0 x.cps.toList)) := by
  intro A s Q E hh hd hu X T hpre hQ
  obtain ⟨ha, dp, fr, gd, un⟩ := A
  obtain rfl : ha = none := hh
  dsimp only at hd hu
  replace hh : (⟨none, dp, fr, gd, un⟩ : Around).handled = none := rfl
  refine wpAny_call ?_
  k_dflt (refine' enterF (binds := [(Str.ofString "text", .str x t)]) X T.nolimit ?ho ?hcd ?hroom ?hbind ?hloc ?_ ?c1 ?c2 ?c3 ?c4; (case ho => k_is); (case hcd => k_is); (case hroom => (dsimp only; omega)); (case hbind => exact BindsTo.of_eq rfl); (case hloc => exact locs rfl); (case c1 => rfl); (case c2 => rfl); (case c3 => rfl); (case c4 => decide))
  k_whole
  intro g L h₁ tk₁ hg F N
  rw [← hg] at X T
  (try dsimp only)
  try k_fold
  k_steps

  refine while_rule (IUnits g L s x t _) ?_ x.length ⟨0, _, [], [], 0, [], _, rfl, rfl, Nat.le_refl _, .nil, (fun _ hp => nomatch hp), ⟨GExt.refl _, rfl⟩, ⟨rfl, rfl, rfl, trivial⟩, by assumption, by assumption⟩
  rintro E n s₁ ⟨k, tk, vs, ds, nn, tl, m, hn, ht, hvl, ha, hoff, hro, hm, F₁, N₁⟩
  replace F₁ := fr_knows _ F₁ hm
  simp only [kn] at F₁
  have hvs : vs.length ≤ 1000 := by omega
  have hk0 : (0 : Int) ≤ (k : Int) := by omega
  have hk1 : (k : Int) ≤ (x.length : Int) := by omega
  generalize hQQ : (fun f s₃ => _ : Flow → Shared → Prop) = QQ
  k_steps
  · rw [← hQQ]
    rename News _ _ _ _ => NN
    obtain ⟨c, hc1, hc2⟩ := units_two (x := x) (k := k) (by omega) (by assumption)
    exact IUnits.next (kk := (k : Int) + 2) hn ht hvl ha hoff hro (ltN (by omega)) ⟨by omega, by omega⟩ hc1 hc2 ⟨GExt.refl _, rfl⟩ (by omega) (by omega) ⟨rfl, rfl, rfl, trivial⟩ (by assumption) NN
  · rw [← hQQ]
    rename News _ _ _ _ => NN
    obtain ⟨c, hc1, hc2⟩ := units_last (x := x) (k := k) (by omega) (by omega)
    exact IUnits.next (kk := (k : Int) + 1) hn ht hvl ha hoff hro (ltN (by omega)) ⟨by omega, by omega⟩ hc1 hc2 ⟨GExt.refl _, rfl⟩ (by omega) (by omega) ⟨rfl, rfl, rfl, trivial⟩ (by assumption) NN
  · rw [← hQQ]
    rename News _ _ _ _ => NN
    obtain ⟨c, hc1, hc2⟩ := units_one (x := x) (k := k) (by omega) (by assumption)
    exact IUnits.next (kk := (k : Int) + 1) hn ht hvl ha hoff hro (ltN (by omega)) ⟨by omega, by omega⟩ hc1 hc2 ⟨GExt.refl _, rfl⟩ (by omega) (by omega) ⟨rfl, rfl, rfl, trivial⟩ (by assumption) NN
  · clear hQQ
    have hkx : k = x.length := by omega
    have hd : x.cps.toList.drop k = [] := List.drop_eq_nil_iff.mpr (by simp [Str.length] at hkx ⊢; omega)
    rw [hd, toks, List.append_nil] at ht
    refine hQ _ _ (Ext.of_ro hg (by assumption) ⟨hro.gens, hro.os⟩) ⟨_, vs, nn, tl, rfl, fun p hp => (N₁ p hp).1, fun p hp => by rw [← hg]; exact (N₁ p hp).2.2, fun p hp => ne_comm_ho (hoff p hp _ (.head _)), ?_⟩
    rw [ht]; exact ha
end Mine
end
section
open PySem PySem.W PyProof.Rows PySem.Calls
set_option Elab.async false
set_option autoImplicit false
set_option linter.unusedVariables false
namespace Mine
set_option maxRecDepth 100000
set_option maxHeartbeats 4000000
section
variable {prog : Program} {w : World} {A : Around} {E : Value → Shared → Prop} {s : Shared}
theorem pyNext_genF {a : Addr} {g n : Nat} {gs : GenState} {P : Nat → Shared → Shared → Prop} {Y : Protocol} {Q : Option Value → Shared → Prop} (hh : A.handled = none)
    (hl : s.heap.NoLimit) (hroom : A.depth < recursionLimit)
    (hg : s.heap.IsGen a g) (hgs : s.gens[g]? = some gs)
    (hgo : gs.Goes (model prog w) A.in1 (fun n s₀ r s₁ => r = .ok (.ret .none) ∧ P n s₀ s₁) Y n (.send .none) (s.setGen g .running))
    (hY : ∀ v s₁ gs', gs'.bare = true → Y (n - 1) (s.setGen g .running) v s₁ (fun r' s'' => match n with
        | 0 => False
        | m + 1 => gs'.Goes (model prog w) A.in1 (fun n s₀ r s₁ => r = .ok (.ret .none) ∧ P n s₀ s₁) Y m r' s'') → Q (some v) (s₁.setGen g gs'))
    (hP : ∀ s₁, P n (s.setGen g .running) s₁ → ∀ h', (∀ b o, s₁.heap.get? b = some o → h'.get? b = some o) → Q none { s₁.setGen g .finished with heap := h' }) :
    wpAny (model prog w) A (pyNext (.ref a)) Q E s := by
  unfold pyNext
  refine wpAny_bind (wpAny_attempt (wpAny_callSpecial?_slot (name := Str.ofString "__next__") hg.typeIs slot_gen_next
    (wpAny_call_entry slot_gen_next hg.typeIs entry_gen_next ?_ (args_gen_next _))))
  show wpAny _ A.in1 (Builtin.Generator.genWake (.ref a) (.send .none)) _ _ s
  unfold Builtin.Generator.genWake
  refine wpAny_bind (wpAny_holding (wpAny_genNumber hg (wpAny_bind (wpAny_genState hgs ?_))))
  cases gs with
  | running => exact hgo.elim
  | finished => exact hgo.elim
  | _ =>
    refine wpAny_bind (wpAny_roomToWake hl hroom ?_)
    show wpAny _ A.in1 (.resume g (.send .none) [] _) _ _ s
    refine wpAny_resumeQ hgs hgo (fun x s₁ hx => ?_) (fun v s₁ gs' hb hv => ?_)
    · obtain ⟨rfl, hp⟩ := hx
      show wpAny _ A.in1 (newExc (.type "StopIteration") [] >>= _) _ _ _
      refine wpAny_bind ?_
      simp only [newExc, newTuple]
      refine wpAny_bind (wpAny_newObj_type ?_ (by size_fits))
      refine wpAny_bind (m := firstArgMember _ _) (wpAny_of_eq (a := Value.none) (by first | rfl | (simp only [firstArgMember]; rfl)) ?_)
      refine wpAny_newObj_type ?_ (by size_fits)
      simp only [raiseNew]
      refine wpAny_bind (wpAny_bind (wpAny_handled ?_))
      first | rw [show A.in1.handled = none from hh] | rw [hh]
      refine wpAny_throw ?_
      refine wpAny_bind (wpAny_isInstance (T := "StopIteration") (b := true) ⟨_, Heap.get?_push_size _ rfl, rfl⟩ isSubtype_stop ?_)
      exact wpAny_pure (hP s₁ hp _ fun b o hb => Heap.get?_push_of_some _ (Heap.get?_push_of_some _ hb))
    · exact wpAny_pure ⟨v, rfl, wpAny_pure (hY v s₁ gs' hb hv)⟩
end

section
variable {M : Model} {A : Around} {R : GenEnd} {Y : Protocol} {n : Nat} {s₀ : Shared} {c : Code} {fs : List Frame} {s : Shared} {env : Env}
  {K : Flow → Sem PySem.Fin} {H : Value → Sem PySem.Fin} {gd : Bool → Bool} {lv : List Value → List Value}
theorem seg_If {test : Expr} {body orelse : List Stmt} {pos : Pos}
    (h : ∀ E, wpAny M (A.over c fs) (isTrue test env (eval test env)) (fun b s' => if b = true then Seg M A R Y n s₀ c ((execs body env).wrap K H gd lv) fs s' else Seg M A R Y n s₀ c ((execs orelse env).wrap K H gd lv) fs s') E s) :
    Seg M A R Y n s₀ c ((exec (.If test body orelse pos) env).wrap K H gd lv) fs s := by
  show Seg M A R Y n s₀ c (.at pos fun _ => ((isTrue test env (eval test env)) >>= fun b => if b then execs body env else execs orelse env).wrap K H gd lv) fs s
  refine seg_at ?_
  rw [Sem.bind_eq_wrap', Sem.wrap_wrap]
  refine seg_wrap (wpAny_mono (h _) (fun b s' hb => ?_) fun _ _ e => e)
  cases b with
  | true => exact hb
  | false => exact hb
theorem seg_stmt {st : Stmt} (h : ∀ E, wpAny M (A.over c fs) (exec st env) (fun f s' => Seg M A R Y n s₀ c (K f) fs s') E s) : Seg M A R Y n s₀ c ((exec st env).wrap K H gd lv) fs s :=
  seg_wrap (h _)
theorem seg_For {target iter : Expr} {body : List Stmt} {pos : Pos}
    (h : ∀ E, wpAny M (A.over c fs) (eval iter env) (fun x s₁ => wpAny M (A.over c fs) (pyIter x) (fun it s₂ =>
      ∀ p, Seg M A R Y n s₀ (.forLoop target it body [] env) (M.den (.forLoop target it body [] env))
      (.ret (fun r => ((match r with | .ok f => (.pure f : Sem Flow) | .error e => .raise e).onRaise fun (x : Value) => do
        if (← field x 1) == Value.none then unsupported "frame.own-activation:exception-without-traceback"
        setFlight x env.frame).wrap K H gd lv) none (gd false) (lv []) c p [] :: fs) s₂) E s₁) E s)
    (hs : ∀ x, foldedSetIterable iter env x = pure x := by intro _; rfl) :
    Seg M A R Y n s₀ c ((exec (.For target iter body [] pos) env).wrap K H gd lv) fs s := by
  rw [exec_For]
  refine seg_at ?_
  show Seg M A R Y n s₀ c ((eval iter env >>= fun x => foldedSetIterable iter env x >>= fun x => standAt iter.pos >>= fun _ => holding [x] (pyIter x) >>= fun it => runOwn (.forLoop target it body [] env) env).wrap K H gd lv) fs s
  rw [Sem.bind_eq_wrap', Sem.wrap_wrap]
  refine seg_wrap (wpAny_mono (h _) (fun x s₁ h₁ => ?_) fun _ _ e => e)
  rw [hs x]
  show Seg M A R Y n s₀ c (.at iter.pos fun _ => (holding [x] (pyIter x) >>= fun it => runOwn (.forLoop target it body [] env) env).wrap K H gd lv) fs s₁
  refine seg_at ?_
  rw [Sem.bind_eq_wrap', Sem.wrap_wrap]
  refine seg_wrap (wpAny_holding (wpAny_mono h₁ (fun it s₂ h₂ => ?_) fun _ _ e => e))
  exact seg_call h₂
end

section
variable {w : World} {A : Around} {R : GenEnd} {Y : Protocol} {n : Nat} {s₀ : Shared} {fs : List Frame} {s : Shared} {env : Env}
def forK (target : Expr) (it : Value) (body : List Stmt) (env : Env) (f : Flow) : Sem PySem.Fin := match f with
  | .next | .cont => .pure (.again (.forLoop target it body [] env))
  | .brk => .pure (.done .next)
  | .ret v => .pure (.done (.ret v))
def forH (env : Env) (e : Value) : Sem PySem.Fin := (do noteFrame e env; theTreesLotGoes e : Sem Unit).bind fun _ => .raise e
theorem seg_forLoop {target : Expr} {it : Value} {body : List Stmt}
    (h : ∀ E, wpAny (model PG w) (A.over (.forLoop target it body [] env) fs) (pyNext it) (fun r s₁ => match r with
      | none => Seg (model PG w) A R Y n s₀ (.forLoop target it body [] env) (.pure (.again (.block [] env))) fs s₁
      | some v => wpAny (model PG w) (A.over (.forLoop target it body [] env) fs) (letOwnedTupleGo target it v) (fun _ s₂ => wpAny (model PG w) (A.over (.forLoop target it body [] env) fs) (assign target env v) (fun _ s₃ =>
          Seg (model PG w) A R Y n s₀ (.forLoop target it body [] env) ((execs body env).wrap (forK target it body env) (forH env) id id) fs s₃) E s₂) E s₁) E s) :
    Seg (model PG w) A R Y n s₀ (.forLoop target it body [] env) ((model PG w).den (.forLoop target it body [] env)) fs s := by
  show Seg _ A R Y n s₀ _ ((forTurn target it body [] env).onRaise (fun x => do noteFrame x env; theTreesLotGoes x)) fs s
  rw [Sem.onRaise_eq_wrap]
  unfold forTurn
  refine seg_at ?_
  show Seg _ A R Y n s₀ _ (Sem.wrap _ _ _ _ ((pyNext it).onRaise _ >>= _)) fs s
  rw [Sem.bind_eq_wrap', Sem.wrap_wrap]
  refine seg_wrap (wpAny_onRaise (wpAny_mono (h _) (fun r s₁ h₁ => ?_) fun _ _ e => wpAny_standAt e))
  cases r with
  | none => exact h₁
  | some v =>
    show Seg _ A R Y n s₀ _ (Sem.wrap _ _ _ _ (letOwnedTupleGo target it v >>= _)) fs s₁
    rw [Sem.bind_eq_wrap', Sem.wrap_wrap]
    refine seg_wrap (wpAny_mono h₁ (fun _ s₂ h₂ => ?_) fun _ _ e => e)
    show Seg _ A R Y n s₀ _ (Sem.wrap _ _ _ _ (assign target env v >>= _)) fs s₂
    rw [Sem.bind_eq_wrap', Sem.wrap_wrap]
    refine seg_wrap (wpAny_mono h₂ (fun _ s₃ h₃ => ?_) fun _ _ e => e)
    show Seg _ A R Y n s₀ _ (Sem.wrap _ _ _ _ (execs body env >>= _)) fs s₃
    rw [Sem.bind_eq_wrap', Sem.wrap_wrap]
    refine Eq.mpr (congrArg (fun t => Seg (model PG w) A R Y n s₀ (.forLoop target it body [] env) t fs s₃) ?_) h₃
    exact Sem.wrap_congr (execs body env) _ _ (fun f => by cases f <;> rfl) (fun e => rfl)
end
end Mine
end
section
open PySem PySem.W PyProof.Rows PySem.Calls
set_option Elab.async false
set_option autoImplicit false
set_option linter.unusedVariables false
namespace Mine
set_option maxRecDepth 100000
set_option maxHeartbeats 4000000
/-- what the generator still tells: escape pending or not, place, signs left -/
def gtok : Bool → Nat → List Nat → List (Nat × List Nat)
  | true, p, [] => [(p - 1, [92])]
  | false, _, [] => []
  | true, p, c :: r => (p, [92, c]) :: gtok false (p + 1) r
  | false, p, c :: r => if c = 92 then gtok true (p + 1) r else (p, [c]) :: gtok false (p + 1) r
theorem gtok_toks : ∀ (p : Nat) (l : List Nat), gtok false p l = toks p l
  | p, [] => rfl
  | p, [c] => by
    by_cases h : c = 92
    · subst h; simp [gtok, toks]
    · simp [gtok, toks, h]
  | p, c :: d :: r => by
    by_cases h : c = 92
    · subst h
      rw [toks_bs2 rfl, gtok, if_pos rfl, gtok, gtok_toks (p + 1 + 1) r]
    · rw [toks_one h, gtok, if_neg h, gtok_toks (p + 1) (d :: r)]

abbrev nPos : Str := Str.ofString "pos"
abbrev nCh : Str := Str.ofString "ch"
abbrev nEsc : Str := Str.ofString "escape"
structure LS (x : Str) (t : Tok) (Lg B : Addr) (p : Nat) (esc : Bool) (m : Str → Option Value) (s : Shared) : Prop where
  ns : s.heap.Ns Lg m
  me : m nEsc = some (.bool esc)
  mp : ∃ tk, m nPos = some (.int ((p - 1 : Nat) : Int) tk)
  en : ∃ old, IsEnum s.heap (B + 1) B p old
  it : s.heap.IsStrIter B (strIterType x) x t p
  lt : Lg < B
structure Mv (Lg B : Addr) (s s' : Shared) : Prop where
  heap : ∀ b o, b ≠ Lg → b ≠ B → b ≠ B + 1 → s.heap.get? b = some o → s'.heap.get? b = some o
  gens : s'.gens = s.gens
  os : s'.os = s.os
theorem Mv.refl {Lg B : Addr} (s : Shared) : Mv Lg B s s := ⟨fun _ _ _ _ _ e => e, rfl, rfl⟩
theorem Mv.trans {Lg B : Addr} {a b c : Shared} (x : Mv Lg B a b) (y : Mv Lg B b c) : Mv Lg B a c :=
  ⟨fun p o h1 h2 h3 e => y.heap p o h1 h2 h3 (x.heap p o h1 h2 h3 e), y.gens.trans x.gens, y.os.trans x.os⟩
def Holds2 (pv : List (Addr × Obj)) (s : Shared) : Prop := ∀ p ∈ pv, s.heap.get? p.1 = some p.2
def enumO (B : Addr) (p : Int) (old : Value) : Obj := { cls := .type "enumerate", dict := none, data := .fields #[.none, .bool false, .ref B, rawInt p, .none, old], slots := #[] }
theorem LS.pv {x : Str} {t : Tok} {Lg B : Addr} {p : Nat} {esc : Bool} {m : Str → Option Value} {s : Shared} (h : LS x t Lg B p esc m s) :
    ∃ pv, Holds2 pv s ∧ (∀ q ∈ pv, q.1 = Lg ∨ q.1 = B ∨ q.1 = B + 1) ∧ (∃ o, (B + 1, o) ∈ pv) ∧ ∀ s', Holds2 pv s' → LS x t Lg B p esc m s' := by
  obtain ⟨old, e3⟩ := id h.en
  obtain ⟨oB, e2, r2⟩ := id h.it
  obtain ⟨oL, q1, q2, e1, q3⟩ := id h.ns
  refine ⟨[(Lg, oL), (B, oB), (B + 1, enumO B p old)], ?_, ?_, ⟨_, .tail _ (.tail _ (.head _))⟩, ?_⟩
  · intro q hq
    simp only [List.mem_cons, List.not_mem_nil, or_false] at hq
    rcases hq with rfl | rfl | rfl
    · exact e1
    · exact e2
    · exact e3
  · intro q hq
    simp only [List.mem_cons, List.not_mem_nil, or_false] at hq
    rcases hq with rfl | rfl | rfl
    · exact .inl rfl
    · exact .inr (.inl rfl)
    · exact .inr (.inr rfl)
  · intro s' ha
    refine ⟨⟨oL, q1, q2, ha (Lg, oL) (by simp), q3⟩, h.me, h.mp, ⟨old, ha (B + 1, enumO B p old) (by simp)⟩, ⟨oB, ha (B, oB) (by simp), r2⟩, h.lt⟩
/-- the protocol: the units in their order -/
def Yg (U : List (Nat × List Nat)) (Lg B : Addr) : Protocol := fun n s₀ v s' kap =>
  ∃ (u : Nat × List Nat) (a : Addr) (t1 t2 : Tok) (pv : List (Addr × Obj)), U[U.length - (n + 1)]? = some u ∧ n < U.length ∧ v = .ref a ∧ s₀.heap.get? a = none ∧ s'.heap.get? a = some { cls := .type "tuple", data := .seq #[.int u.1 t1, .str (mkS u.2) t2] } ∧
    (a ≠ Lg ∧ a ≠ B ∧ a ≠ B + 1) ∧ Mv Lg B s₀ s' ∧ Holds2 pv s' ∧ (∀ q ∈ pv, q.1 = Lg ∨ q.1 = B ∨ q.1 = B + 1) ∧ (∃ o, (B + 1, o) ∈ pv) ∧ Lg < B ∧ ∀ s'', Holds2 pv s'' → kap (.send .none) s''
def Pg (Lg B : Addr) : Nat → Shared → Shared → Prop := fun n s₀ s₁ => n = 0 ∧ Mv Lg B s₀ s₁
abbrev Rg (Lg B : Addr) : GenEnd := fun n s₀ r s₁ => r = .ok (.ret .none) ∧ Pg Lg B n s₀ s₁
def tupO (p : Int) (t1 : Tok) (y : Str) (t2 : Tok) : Obj := { cls := .type "tuple", data := .seq #[.int p t1, .str y t2] }
theorem yg_gen {U : List (Nat × List Nat)} {Lg B : Addr} {n : Nat} {s₀ s : Shared} {kap : Resume → Shared → Prop} {u : Nat × List Nat} {t1 t2 tk : Tok} {pi : Int} {y : Str} {pv : List (Addr × Obj)}
    (hu : U.drop (U.length - (n + 1)) = u :: U.drop (U.length - n)) (hn : n < U.length) (hp : pi = (u.1 : Int)) (hy : y = mkS u.2) (mv : Mv Lg B s₀ s) (hlt : Lg < B) (hB : B + 1 < s.heap.objs.size)
    (h1 : Holds2 pv s) (h2 : ∀ q ∈ pv, q.1 = Lg ∨ q.1 = B ∨ q.1 = B + 1) (h4 : ∃ o, (B + 1, o) ∈ pv) (h3 : ∀ s'', Holds2 pv s'' → kap (.send .none) s'') :
    Yg U Lg B n s₀ (.ref s.heap.objs.size) { s with heap := s.heap.push (tupO pi t1 y t2), toks := tk } kap := by
  subst hp hy
  have n1 : s.heap.objs.size ≠ Lg := Nat.ne_of_gt (Nat.lt_trans hlt (Nat.lt_of_succ_lt hB))
  have n2 : s.heap.objs.size ≠ B := Nat.ne_of_gt (Nat.lt_of_succ_lt hB)
  have n3 : s.heap.objs.size ≠ B + 1 := Nat.ne_of_gt hB
  refine ⟨u, s.heap.objs.size, t1, t2, pv, ?_, hn, rfl, ?_, Heap.get?_push_size _ rfl, ⟨n1, n2, n3⟩, ?_, ?_, h2, h4, hlt, h3⟩
  · have h1 := congrArg List.head? hu
    rw [List.head?_drop] at h1
    exact h1
  · cases q : s₀.heap.get? s.heap.objs.size with
    | none => rfl
    | some o => exact absurd (Heap.lt_size (mv.heap _ _ n1 n2 n3 q)) (Nat.lt_irrefl _)
  · exact mv.trans ⟨fun b o _ _ _ e => Heap.get?_push_of_some _ e, rfl, rfl⟩
  · exact fun q hq => Heap.get?_push_of_some _ (h1 q hq)
theorem yg_of {U : List (Nat × List Nat)} {Lg B : Addr} {n : Nat} {s₀ s : Shared} {kap : Resume → Shared → Prop} {u : Nat × List Nat} {t1 t2 tk : Tok} {x : Str} {t : Tok} {p : Nat} {esc : Bool} {m : Str → Option Value} {pi : Int} {y : Str}
    (hu : U.drop (U.length - (n + 1)) = u :: U.drop (U.length - n)) (hn : n < U.length) (hp : pi = (u.1 : Int)) (hy : y = mkS u.2) (ls : LS x t Lg B p esc m s) (mv : Mv Lg B s₀ s)
    (hk : ∀ s'', LS x t Lg B p esc m s'' → kap (.send .none) s'') : Yg U Lg B n s₀ (.ref s.heap.objs.size) { s with heap := s.heap.push (tupO pi t1 y t2), toks := tk } kap := by
  obtain ⟨old, e3⟩ := id ls.en
  obtain ⟨pv, h1, h2, h4, h3⟩ := ls.pv
  exact yg_gen hu hn hp hy mv ls.lt (Heap.lt_size e3) h1 h2 h4 fun s'' h => hk s'' (h3 s'' h)
theorem draws_str {w : World} {A : Around} (hh : A.handled = none) (it : Addr) (x : Str) (t : Tok) :
    Draws PG w A it [it] x.cps.size (fun i v => ∃ c u, x.cps[i]? = some c ∧ v = .str ⟨#[c]⟩ u) (fun i h => h.IsStrIter it (strIterType x) x t i) := by
  cases ha : x.cps.all (· < 128)
  · have e : strIterType x = "str_iterator" := by simp [strIterType, ha]
    rw [e]; exact Draws.strWide hh it x t
  · have e : strIterType x = "str_ascii_iterator" := by simp [strIterType, ha]
    rw [e]; exact Draws.strAscii hh it x t
end Mine
end
section
open PySem PySem.W PyProof.Rows PySem.Calls
set_option Elab.async false
set_option autoImplicit false
set_option linter.unusedVariables false
namespace Mine
set_option maxRecDepth 100000
set_option maxHeartbeats 4000000
abbrev SegG (w : World) (A : Around) (U : List (Nat × List Nat)) (Lg B : Addr) (n : Nat) (s₀ : Shared) (c : Code) (t : Sem PySem.Fin) (fs : List Frame) (s : Shared) : Prop :=
  Seg (model PG w) A (Rg Lg B) (Yg U Lg B) n s₀ c t fs s
theorem gen_loop {w : World} {A : Around} {env : Env} {lbody : List Stmt} {kT : Nat} {pp1 pp2 pT : Pos} {fs : List Frame} {x : Str} {t : Tok} {Lg B : Addr} {U : List (Nat × List Nat)} (FL : Code) (T : Expr) (hT : T = .Tuple [.Name nPos pp1, .Name nCh pp2] kT pT)
    (hFL : FL = .forLoop T (.ref (B + 1)) lbody [] env)
    (hh : (A.over FL fs).handled = none) (hL : env.locals = Lg) (hk1 : env.kindOf nPos = some .local) (hk2 : env.kindOf nCh = some .local)
    (hsc : (env.scope.kind == .class || (env.scope.kind == .module && env.locals != env.globals)) = false)
    (HT : ∀ (n : Nat) (s₀ s : Shared) (m : Str → Option Value) (p c : Nat) (tp tc : Tok), s.heap.Ns Lg m → m nEsc = some (.bool true) → m nPos = some (.int (p : Int) tp) → m nCh = some (.str (mkS [c]) tc) →
      (∀ t1 t2 tk kap, (∀ s'', s''.heap.Ns Lg m → (∀ h3 tk3, h3.Ns Lg (fun y => if y = nEsc then some (.bool false) else m y) → Heap.SameBut Lg s''.heap h3 → SegG w A U Lg B n s'' FL ((model PG w).den FL) fs { s'' with heap := h3, toks := tk3 }) → kap (.send .none) s'') →
        Yg U Lg B n s₀ (.ref s.heap.objs.size) { s with heap := s.heap.push (tupO p t1 (mkS [92, c]) t2), toks := tk } kap) →
      SegG w A U Lg B (n + 1) s₀ FL ((execs lbody env).wrap (forK T (.ref (B + 1)) lbody env) (forH env) id id) fs s)
    (HB : ∀ (n : Nat) (s₀ s : Shared) (m : Str → Option Value) (tc : Tok), s.heap.Ns Lg m → m nEsc = some (.bool false) → m nCh = some (.str (mkS [92]) tc) →
      (∀ h3 tk3, h3.Ns Lg (fun y => if y = nEsc then some (.bool true) else m y) → Heap.SameBut Lg s.heap h3 → SegG w A U Lg B n s₀ FL ((model PG w).den FL) fs { s with heap := h3, toks := tk3 }) →
      SegG w A U Lg B n s₀ FL ((execs lbody env).wrap (forK T (.ref (B + 1)) lbody env) (forH env) id id) fs s)
    (HO : ∀ (n : Nat) (s₀ s : Shared) (m : Str → Option Value) (p c : Nat) (tp tc : Tok), c ≠ 92 → s.heap.Ns Lg m → m nEsc = some (.bool false) → m nPos = some (.int (p : Int) tp) → m nCh = some (.str (mkS [c]) tc) →
      (∀ t1 t2 tk kap, (∀ s'', s''.heap.Ns Lg m → SegG w A U Lg B n s'' FL ((model PG w).den FL) fs s'' → kap (.send .none) s'') →
        Yg U Lg B n s₀ (.ref s.heap.objs.size) { s with heap := s.heap.push (tupO p t1 (mkS [c]) t2), toks := tk } kap) →
      SegG w A U Lg B (n + 1) s₀ FL ((execs lbody env).wrap (forK T (.ref (B + 1)) lbody env) (forH env) id id) fs s)
    (HE0 : ∀ (s₀ s : Shared) (m : Str → Option Value), s.heap.Ns Lg m → m nEsc = some (.bool false) → Mv Lg B s₀ s → SegG w A U Lg B 0 s₀ FL (.pure (.again (.block [] env))) fs s)
    (HE1 : ∀ (s₀ s : Shared) (m : Str → Option Value) (p : Nat) (tp : Tok), s.heap.Ns Lg m → m nEsc = some (.bool true) → m nPos = some (.int (p : Int) tp) →
      (∀ t1 t2 tk kap, (∀ s'', s''.heap.Ns Lg m → kap (.send .none) s'') → Yg U Lg B 0 s₀ (.ref s.heap.objs.size) { s with heap := s.heap.push (tupO p t1 (mkS [92]) t2), toks := tk } kap) →
      SegG w A U Lg B 1 s₀ FL (.pure (.again (.block [] env))) fs s) :
    ∀ (l : List Nat) (p : Nat) (esc : Bool) (n : Nat) (s₀ s : Shared) (m : Str → Option Value), p ≤ x.cps.size → x.cps.toList.drop p = l → LS x t Lg B p esc m s → Mv Lg B s₀ s → n = (gtok esc p l).length → n ≤ U.length → U.drop (U.length - n) = gtok esc p l →
      SegG w A U Lg B n s₀ FL ((model PG w).den FL) fs s := by
  have hn1 : B + 1 ≠ B := Nat.succ_ne_self _
  have hfp : B + 1 ∉ [B] := fun h => hn1 (List.mem_singleton.mp h)
  have D := draws_str (w := w) (A := (A.over FL fs).in1) hh B x t
  intro l
  induction l with
  | nil =>
    intro p esc n s₀ s m hp hl ls mv hn hnU hU
    have hpe : p = x.cps.size := by
      have := List.drop_eq_nil_iff.mp hl
      rw [Array.length_toList] at this
      omega
    subst hpe
    obtain ⟨old, he⟩ := ls.en
    obtain ⟨tp, hmp⟩ := ls.mp
    subst hFL
    refine seg_forLoop fun E => ?_
    refine wpAny_pyNext_enum_endD D he ls.it fun h' hx => ?_
    have hLB : Lg ≠ B := Nat.ne_of_lt ls.lt
    have ns' : h'.Ns Lg m := ls.ns.at fun o e => hx _ _ hLB e
    have mv' : Mv Lg B s₀ { s with heap := h' } := mv.trans ⟨fun b o _ h2 _ e => hx _ _ h2 e, rfl, rfl⟩
    cases esc with
    | false =>
      obtain rfl : n = 0 := hn
      exact HE0 s₀ _ m ns' ls.me mv'
    | true =>
      obtain rfl : n = 1 := hn
      refine HE1 s₀ _ m _ tp ns' ls.me hmp fun t1 t2 tk kap hk => ?_
      obtain ⟨oL, q1, q2, e1, q3⟩ := id ns'
      refine yg_gen (u := (x.cps.size - 1, [92])) (s := { s with heap := h' }) (pv := [(Lg, oL), (B + 1, enumO B x.cps.size old)]) ?_ (by omega) rfl rfl mv' ls.lt (Heap.lt_size (hx _ _ hn1 he)) ?_ ?_ ⟨_, .tail _ (.head _)⟩ ?_
      · rw [hU]
        show _ = _ :: U.drop (U.length - 0)
        rw [Nat.sub_zero, List.drop_length]; rfl
      · intro q hq
        rcases List.mem_cons.mp hq with rfl | hq
        · exact e1
        · rw [List.mem_singleton.mp hq]; exact hx _ _ hn1 he
      · intro q hq
        rcases List.mem_cons.mp hq with rfl | hq
        · exact .inl rfl
        · rw [List.mem_singleton.mp hq]; exact .inr (.inr rfl)
      · intro s'' hs
        exact hk s'' ⟨oL, q1, q2, hs _ (.head _), q3⟩
  | cons c r ih =>
    intro p esc n s₀ s m hp hl ls mv hn hnU hU
    have hlt : p < x.cps.size := by
      rcases Nat.lt_or_ge p x.cps.size with h | h
      · exact h
      · rw [List.drop_eq_nil_iff.mpr (by rw [Array.length_toList]; exact h)] at hl; cases hl
    have hr : x.cps.toList.drop (p + 1) = r := by
      have := congrArg List.tail hl
      rwa [List.tail_drop] at this
    have hcp : x.cps[p]? = some c := by
      have h1 := congrArg List.head? hl
      rw [List.head?_drop] at h1
      rw [← Array.getElem?_toList]; exact h1
    obtain ⟨old, he⟩ := ls.en
    have hLB : Lg ≠ B := Nat.ne_of_lt ls.lt
    have hLE : Lg ≠ B + 1 := Nat.ne_of_lt (Nat.lt_succ_of_lt ls.lt)
    have hFL0 := hFL
    have goal : ∀ E, wpAny (model PG w) (A.over FL fs) (pyNext (.ref (B + 1))) (fun r s₁ => match r with
      | none => SegG w A U Lg B n s₀ FL (.pure (.again (.block [] env))) fs s₁
      | some v => wpAny (model PG w) (A.over FL fs) (letOwnedTupleGo T (.ref (B + 1)) v) (fun _ s₂ => wpAny (model PG w) (A.over FL fs) (assign T env v) (fun _ s₃ =>
          SegG w A U Lg B n s₀ FL ((execs lbody env).wrap (forK T (.ref (B + 1)) lbody env) (forH env) id id) fs s₃) E s₂) E s₁) E s := by
      intro E
      refine wpAny_pyNext_enum_itemD D he ls.it hlt hn1 hfp fun x' h1 tk1 hP hout hst1 htup hsz1 hkeep => ?_
      obtain ⟨c', u', hc', rfl⟩ := hP
      rw [hcp] at hc'
      obtain rfl : c = c' := Option.some.inj hc'
      subst hT
      refine wpAny_letOwnedTupleGo_enum hout fun h2 he2 hs2 => ?_
      have sB : B + 1 < s.heap.objs.size := Heap.lt_size he
      have nT : s.heap.objs.size ≠ B + 1 := Nat.ne_of_gt sB
      have htup2 : h2.get? s.heap.objs.size = some { cls := .type "tuple", data := .seq #[.int p tk1, .str ⟨#[c]⟩ u'] } := (hs2.2 _ nT).trans htup
      refine wpAny_assign_Tuple hh ⟨_, htup2, rfl, _, rfl⟩ rfl rfl fun h3 hx3 => ?_
      have hz2 : h2.objs.size = s.heap.objs.size + 1 := hs2.1.trans hsz1
      have n3 : ∀ b, b < s.heap.objs.size → b ≠ h2.objs.size := fun b hb => by rw [hz2]; exact Nat.ne_of_lt (Nat.lt_succ_of_lt hb)
      have keep3 : ∀ b o, b ≠ B + 1 → b ≠ B → s.heap.get? b = some o → h3.get? b = some o := fun b o h1' h2' e =>
        hx3 b o (n3 b (Heap.lt_size e)) ((hs2.2 b h1').trans (hkeep b o h1' h2' e))
      have ns3 : h3.Ns Lg m := ls.ns.at fun o e => keep3 _ _ hLE hLB e
      have en3 : IsEnum h3 (B + 1) B ((p : Int) + 1) (.str ⟨#[c]⟩ u') := hx3 _ _ (n3 _ sB) he2
      have it3 : h3.IsStrIter B (strIterType x) x t (p + 1) := by
        obtain ⟨o, e, r⟩ := hst1
        exact ⟨o, hx3 _ _ (n3 _ (Nat.lt_of_succ_lt sB)) ((hs2.2 _ (Ne.symm hn1)).trans e), r⟩
      show wpAny (model PG w) (A.over FL fs) (holding [.str ⟨#[c]⟩ u'] (assign (.Name nPos pp1) env (.int p tk1)) >>= fun _ => (holding [] (assign (.Name nCh pp2) env (.str ⟨#[c]⟩ u')) >>= fun _ => pure ())) _ _ _
      refine wpAny_bind (wpAny_holding (wpAny_assign_Name (wpAny_storeName_local hk1 (hL ▸ ns3) (fun h4 ns4 hs4 => ?_) hsc)))
      refine wpAny_bind (wpAny_holding (wpAny_assign_Name (wpAny_storeName_local hk2 ns4 (fun h5 ns5 hs5 => ?_) hsc)))
      refine wpAny_pure ?_
      rw [hL] at ns5 hs4 hs5
      have keep5 : ∀ b o, b ≠ Lg → h3.get? b = some o → h5.get? b = some o := fun b o h1' e => (hs5.2 b h1').trans ((hs4.2 b h1').trans e)
      have en5 : IsEnum h5 (B + 1) B (((p + 1 : Nat)) : Int) (.str ⟨#[c]⟩ u') := keep5 _ _ (Ne.symm hLE) en3
      have it5 : h5.IsStrIter B (strIterType x) x t (p + 1) := by
        obtain ⟨o, e, r⟩ := it3
        exact ⟨o, keep5 _ _ (Ne.symm hLB) e, r⟩
      have mv5 : Mv Lg B s₀ { s with heap := h5, toks := tk1 + 1 + 1 + 1 } := mv.trans ⟨fun b o q1 q2 q3 e => keep5 b o q1 (keep3 b o q3 q2 e), rfl, rfl⟩
      have hm1 : (fun y : Str => if y = nCh then some (Value.str ⟨#[c]⟩ u') else if y = nPos then some (Value.int p tk1) else m y) nEsc = some (.bool esc) := by
        show (if nEsc = nCh then _ else if nEsc = nPos then _ else m nEsc) = _
        rw [if_neg (by decide), if_neg (by decide)]; exact ls.me
      have hm2 : (fun y : Str => if y = nCh then some (Value.str ⟨#[c]⟩ u') else if y = nPos then some (Value.int p tk1) else m y) nPos = some (.int (p : Int) tk1) := by
        show (if nPos = nCh then _ else if nPos = nPos then _ else m nPos) = _
        rw [if_neg (by decide), if_pos rfl]
      have hm3 : (fun y : Str => if y = nCh then some (Value.str ⟨#[c]⟩ u') else if y = nPos then some (Value.int p tk1) else m y) nCh = some (.str (mkS [c]) u') := by
        show (if nCh = nCh then _ else if nCh = nPos then _ else m nCh) = _
        rw [if_pos rfl]; rfl
      have ls5 : ∀ (s' : Shared), s'.heap.Ns Lg (fun y : Str => if y = nCh then some (Value.str ⟨#[c]⟩ u') else if y = nPos then some (Value.int p tk1) else m y) → IsEnum s'.heap (B + 1) B (((p + 1 : Nat)) : Int) (.str ⟨#[c]⟩ u') → s'.heap.IsStrIter B (strIterType x) x t (p + 1) → LS x t Lg B (p + 1) esc _ s' :=
        fun s' q1 q2 q3 => ⟨q1, hm1, ⟨tk1, hm2⟩, ⟨_, q2⟩, q3, ls.lt⟩
      have lsb : ∀ (b : Bool) (s' : Shared), s'.heap.Ns Lg (fun y : Str => if y = nEsc then some (.bool b) else if y = nCh then some (Value.str ⟨#[c]⟩ u') else if y = nPos then some (Value.int p tk1) else m y) → IsEnum s'.heap (B + 1) B (((p + 1 : Nat)) : Int) (.str ⟨#[c]⟩ u') → s'.heap.IsStrIter B (strIterType x) x t (p + 1) → LS x t Lg B (p + 1) b _ s' :=
        fun b s' q1 q2 q3 => ⟨q1, by show (if nEsc = nEsc then _ else _) = _; rw [if_pos rfl], ⟨tk1, by show (if nPos = nEsc then _ else _) = _; rw [if_neg (by decide)]; exact hm2⟩, ⟨_, q2⟩, q3, ls.lt⟩
      cases esc with
      | true =>
        rw [show gtok true p (c :: r) = (p, [92, c]) :: gtok false (p + 1) r from rfl] at hn hU
        obtain ⟨k, rfl⟩ : ∃ k, n = k + 1 := ⟨(gtok false (p + 1) r).length, hn⟩
        have hk : k = (gtok false (p + 1) r).length := by simpa using hn
        have hU1 : U.drop (U.length - k) = gtok false (p + 1) r := by
          have h1 : U.length - k = (U.length - (k + 1)) + 1 := by omega
          rw [h1, ← List.tail_drop, hU]; rfl
        refine HT k s₀ _ _ p c tk1 u' ns5 hm1 hm2 hm3 fun t1 t2 tk kap hkap => ?_
        refine yg_of (s := { s with heap := h5, toks := tk1 + 1 + 1 + 1 }) (u := (p, [92, c])) (by rw [hU, hU1]) (by omega) rfl rfl (ls5 _ ns5 en5 it5) mv5 fun s'' ls'' => ?_
        refine hkap s'' ls''.ns fun h6 tk6 ns6 hs6 => ?_
        obtain ⟨old6, en6⟩ := ls''.en
        refine ih (p + 1) false k s'' _ _ (by omega) hr ⟨ns6, by show (if nEsc = nEsc then _ else _) = _; rw [if_pos rfl], ?_, ⟨old6, (hs6.2 _ (Ne.symm hLE)).trans en6⟩, ?_, ls.lt⟩ ⟨fun b o q1 _ _ e => (hs6.2 b q1).trans e, rfl, rfl⟩ hk (by omega) hU1
        · exact ⟨tk1, by show (if nPos = nEsc then _ else _) = _; rw [if_neg (by decide)]; exact hm2⟩
        · obtain ⟨o, e, r⟩ := ls''.it
          exact ⟨o, (hs6.2 _ (Ne.symm hLB)).trans e, r⟩
      | false =>
        by_cases hc : c = 92
        · subst hc
          rw [show gtok false p (92 :: r) = gtok true (p + 1) r from by rw [gtok, if_pos rfl]] at hn hU
          refine HB n s₀ _ _ u' ns5 hm1 hm3 fun h6 tk6 ns6 hs6 => ?_
          refine ih (p + 1) true n s₀ _ _ (by omega) hr (lsb true _ ns6 ((hs6.2 _ (Ne.symm hLE)).trans en5) ?_) (mv5.trans ⟨fun b o q1 _ _ e => (hs6.2 b q1).trans e, rfl, rfl⟩) hn hnU hU
          obtain ⟨o, e, r⟩ := it5
          exact ⟨o, (hs6.2 _ (Ne.symm hLB)).trans e, r⟩
        · rw [show gtok false p (c :: r) = (p, [c]) :: gtok false (p + 1) r from by rw [gtok, if_neg hc]] at hn hU
          obtain ⟨k, rfl⟩ : ∃ k, n = k + 1 := ⟨(gtok false (p + 1) r).length, hn⟩
          have hk : k = (gtok false (p + 1) r).length := by simpa using hn
          have hU1 : U.drop (U.length - k) = gtok false (p + 1) r := by
            have h1 : U.length - k = (U.length - (k + 1)) + 1 := by omega
            rw [h1, ← List.tail_drop, hU]; rfl
          refine HO k s₀ _ _ p c tk1 u' hc ns5 hm1 hm2 hm3 fun t1 t2 tk kap hkap => ?_
          refine yg_of (s := { s with heap := h5, toks := tk1 + 1 + 1 + 1 }) (u := (p, [c])) (by rw [hU, hU1]) (by omega) rfl rfl (ls5 _ ns5 en5 it5) mv5 fun s'' ls'' => ?_
          exact hkap s'' ls''.ns (ih (p + 1) false k s'' s'' _ (by omega) hr ls'' (Mv.refl _) hk (by omega) hU1)
    subst hFL
    exact seg_forLoop goal
end Mine
end
section
open PySem PySem.W PyProof.Rows PySem.Calls
set_option Elab.async false
set_option autoImplicit false
set_option linter.unusedVariables false
namespace Mine
set_option maxRecDepth 100000
set_option maxHeartbeats 4000000
structure GMv (ad : List Addr) (gi : Nat) (gs' : GenState) (s s' : Shared) : Prop where
  heap : ∀ b o, b ∉ ad → s.heap.get? b = some o → s'.heap.get? b = some o
  gens : s'.gens = s.gens.setIfInBounds gi gs'
  os : s'.os = s.os
structure GPre (w : World) (mean : ExcName → Option Value) (mg mb : Str → Option Value) (g₀ : Heap) (ad : List Addr) (pv : List (Addr × Obj)) (ga : Addr) (gi : Nat) (gs : GenState) (s : Shared) : Prop where
  X : (hd.heap_39 w.params).In g₀
  T : TT mean mg mb g₀
  keep : ∀ b o, g₀.get? b = some o → s.heap.get? b = some o
  off : ∀ b ∈ ad, g₀.objs.size ≤ b
  pv : Holds2 pv s
  gen : s.heap.IsGen ga gi
  gs : s.gens[gi]? = some gs
/-- what the generator still tells, for one who asks under A -/
def GStep (w : World) (mean : ExcName → Option Value) (mg mb : Str → Option Value) (A : Around) : List (Nat × List Nat) → GenState → List Addr → List (Addr × Obj) → Prop
  | [], gs, ad, pv => ∀ (g₀ : Heap) (ga : Addr) (gi : Nat) (s : Shared) (Q : Option Value → Shared → Prop) (E : Value → Shared → Prop), GPre w mean mg mb g₀ ad pv ga gi gs s →
      (∀ s', GMv ad gi .finished s s' → Q none s') → wpAny (model PG w) A (pyNext (.ref ga)) Q E s
  | u :: us, gs, ad, pv => ∀ (g₀ : Heap) (ga : Addr) (gi : Nat) (s : Shared) (Q : Option Value → Shared → Prop) (E : Value → Shared → Prop), GPre w mean mg mb g₀ ad pv ga gi gs s →
      (∀ a t1 t2 s' gs' ad' pv', GMv ad gi gs' s s' → gs'.bare = true → s.heap.get? a = none → s'.heap.get? a = some (tupO u.1 t1 (mkS u.2) t2) → a ∉ ad' →
        Holds2 pv' s' → (∀ q ∈ pv', q.1 ∈ ad') → (∀ b ∈ ad', b ∈ ad ∨ s.heap.objs.size ≤ b) → (∀ b ∈ ad', ∃ p ∈ pv', b ≤ p.1) → GStep w mean mg mb A us gs' ad' pv' → Q (some (.ref a)) s') →
      wpAny (model PG w) A (pyNext (.ref ga)) Q E s

theorem setGen_gens (s : Shared) (g : Nat) (x : GenState) : (s.setGen g x).gens = s.gens.setIfInBounds g x := rfl
theorem set_set (a : Array GenState) (g : Nat) (x y : GenState) : (a.setIfInBounds g x).setIfInBounds g y = a.setIfInBounds g y := by
  apply Array.ext_getElem?
  intro i
  simp only [Array.getElem?_setIfInBounds, Array.size_setIfInBounds]
  by_cases h : g = i
  · simp [h]
  · simp [h]
theorem mv_gmv {Lg B : Addr} {s s' : Shared} {gi : Nat} {gs' : GenState} {ad : List Addr} (m : Mv Lg B (s.setGen gi .running) s') (h1 : Lg ∈ ad) (h2 : ∀ b, b ∉ ad → b < s.heap.objs.size → b ≠ B ∧ b ≠ B + 1) {h' : Heap} (hk : ∀ b o, s'.heap.get? b = some o → h'.get? b = some o) :
    GMv ad gi gs' s { s'.setGen gi gs' with heap := h' } := by
  refine ⟨fun b o hb e => hk b o (m.heap b o (fun q => hb (q ▸ h1)) (h2 b hb (Heap.lt_size e)).1 (h2 b hb (Heap.lt_size e)).2 e), ?_, m.os⟩
  show s'.gens.setIfInBounds gi gs' = _
  rw [m.gens, setGen_gens, set_set]

theorem gstep_of {w : World} {mean : ExcName → Option Value} {mg mb : Str → Option Value} {A : Around} {U : List (Nat × List Nat)} {Lg B : Addr} (hh : A.handled = none) (hroom : A.depth < recursionLimit) :
    ∀ (n : Nat) (gs : GenState) (pv : List (Addr × Obj)), n ≤ U.length → (∀ q ∈ pv, q.1 = Lg ∨ q.1 = B ∨ q.1 = B + 1) →
      (∀ s, Holds2 pv s → gs.Goes (model PG w) A.in1 (Rg Lg B) (Yg U Lg B) n (.send .none) s) → GStep w mean mg mb A (U.drop (U.length - n)) gs [Lg, B, B + 1] pv := by
  have h2 : ∀ (k : Nat) (b : Addr), b ∉ [Lg, B, B + 1] → b < k → b ≠ B ∧ b ≠ B + 1 := fun _ b hb _ => ⟨fun e => hb (by simp [e]), fun e => hb (by simp [e])⟩
  intro n
  induction n with
  | zero =>
    intro gs pv hn hpv hgo
    rw [Nat.sub_zero, List.drop_length]
    intro g₀ ga gi s Q E P hQ
    refine pyNext_genF (P := Pg Lg B) (Y := Yg U Lg B) (n := 0) hh (P.T.keeps P.keep).nolimit hroom P.gen P.gs (hgo _ P.pv) ?_ ?_
    · rintro v s₁ gs' hb ⟨u, a, t1, t2, pv', _, _, _, _, _, _, _, h1, _, _, _, h3⟩
      exact (h3 s₁ h1).elim
    · rintro s₁ ⟨_, mv⟩ h' hk
      exact hQ _ (mv_gmv mv (by simp) (h2 _) hk)
  | succ m ih =>
    intro gs pv hn hpv hgo
    have hlt : U.length - (m + 1) < U.length := by omega
    rw [List.drop_eq_getElem_cons hlt, show U.length - (m + 1) + 1 = U.length - m by omega]
    intro g₀ ga gi s Q E P hQ
    refine pyNext_genF (P := Pg Lg B) (Y := Yg U Lg B) (n := m + 1) hh (P.T.keeps P.keep).nolimit hroom P.gen P.gs (hgo _ P.pv) ?_ ?_
    · rintro v s₁ gs' hb ⟨u, a, t1, t2, pv', hu, _, rfl, hf, ht, hne, mv, h1, hp1, ⟨oB, hB⟩, hlt', h3⟩
      have hu' : U[U.length - (m + 1)] = u := by
        have : U[U.length - (m + 1)]? = some u := hu
        rw [List.getElem?_eq_getElem hlt] at this
        exact Option.some.inj this
      refine hQ a t1 t2 _ gs' [Lg, B, B + 1] pv' (mv_gmv (s' := s₁) (h' := s₁.heap) mv (by simp) (h2 _) fun _ _ e => e) hb hf (by rw [hu']; exact ht) (by simp [hne]) h1 (fun q hq => by
        rcases hp1 q hq with e | e | e <;> simp [e]) (fun b hb => .inl hb) (fun b hb => ⟨_, hB, ?_⟩) (ih gs' pv' (by omega) hp1 fun s hs => h3 s hs)
      simp only [List.mem_cons, List.not_mem_nil, or_false] at hb
      show b ≤ B + 1
      rcases hb with rfl | rfl | rfl
      · exact Nat.le_of_lt (Nat.lt_succ_of_lt hlt')
      · exact Nat.le_succ _
      · exact Nat.le_refl _
    · rintro s₁ ⟨h0, _⟩ h' hk
      cases h0

theorem gstep_fresh {w : World} {mean : ExcName → Option Value} {mg mb : Str → Option Value} {A : Around} {U : List (Nat × List Nat)} {Lg : Addr} {oL : Obj} {c : Code} (hh : A.handled = none) (hroom : A.depth < recursionLimit)
    (hgo : ∀ (g₀ : Heap) (s : Shared), (hd.heap_39 w.params).In g₀ → TT mean mg mb g₀ → (∀ b o, g₀.get? b = some o → s.heap.get? b = some o) → g₀.objs.size ≤ Lg → s.heap.get? Lg = some oL →
      SegG w A.in1 U Lg s.heap.objs.size U.length s c ((model PG w).den c) [] s) : GStep w mean mg mb A U (.fresh c) [Lg] [(Lg, oL)] := by
  have hgo' : ∀ (g₀ : Heap) (ga : Addr) (gi : Nat) (s : Shared), GPre w mean mg mb g₀ [Lg] [(Lg, oL)] ga gi (.fresh c) s → (GenState.fresh c).Goes (model PG w) A.in1 (Rg Lg s.heap.objs.size) (Yg U Lg s.heap.objs.size) U.length (.send .none) (s.setGen gi .running) :=
    fun g₀ ga gi s P => ⟨rfl, hgo g₀ (s.setGen gi .running) P.X P.T P.keep (P.off _ (.head _)) (P.pv _ (.head _))⟩
  have h2 : ∀ (k : Nat) (b : Addr), b < k → b ≠ k ∧ b ≠ k + 1 := fun k b hb => ⟨Nat.ne_of_lt hb, Nat.ne_of_lt (Nat.lt_succ_of_lt hb)⟩
  cases U with
  | nil =>
    intro g₀ ga gi s Q E P hQ
    refine pyNext_genF (P := Pg Lg s.heap.objs.size) (Y := Yg [] Lg s.heap.objs.size) (n := 0) hh (P.T.keeps P.keep).nolimit hroom P.gen P.gs (hgo' _ _ _ _ P) ?_ ?_
    · rintro v s₁ gs' hb ⟨u, a, t1, t2, pv', _, _, _, _, _, _, _, h1, _, _, _, h3⟩
      exact (h3 s₁ h1).elim
    · rintro s₁ ⟨_, mv⟩ h' hk
      exact hQ _ (mv_gmv mv (by simp) (fun b _ h => h2 _ b h) hk)
  | cons u us =>
    intro g₀ ga gi s Q E P hQ
    refine pyNext_genF (P := Pg Lg s.heap.objs.size) (Y := Yg (u :: us) Lg s.heap.objs.size) (n := us.length + 1) hh (P.T.keeps P.keep).nolimit hroom P.gen P.gs (hgo' _ _ _ _ P) ?_ ?_
    · rintro v s₁ gs' hb ⟨u', a, t1, t2, pv', hu, _, rfl, hf, ht, hne, mv, h1, hp1, ⟨oB, hB⟩, hlt', h3⟩
      have hu' : u = u' := by
        have : (u :: us)[(us.length + 1) - (us.length + 1)]? = some u' := hu
        rw [Nat.sub_self] at this
        exact Option.some.inj this
      have ih := gstep_of (w := w) (mean := mean) (mg := mg) (mb := mb) (U := u :: us) (Lg := Lg) (B := s.heap.objs.size) hh hroom us.length gs' pv' (Nat.le_succ _) hp1 fun s hs => h3 s hs
      have hd : (u :: us).drop ((u :: us).length - us.length) = us := by
        rw [show (u :: us).length - us.length = 1 by simp]; rfl
      rw [hd] at ih
      refine hQ a t1 t2 _ gs' [Lg, s.heap.objs.size, s.heap.objs.size + 1] pv' (mv_gmv (s' := s₁) (h' := s₁.heap) mv (by simp) (fun b _ h => h2 _ b h) fun _ _ e => e) hb hf (by rw [hu']; exact ht) (by simp [hne]) h1 (fun q hq => by
        rcases hp1 q hq with e | e | e <;> simp [e]) (fun b hb => ?_) (fun b hb => ⟨_, hB, ?_⟩) ih
      · simp only [List.mem_cons, List.not_mem_nil, or_false] at hb
        rcases hb with rfl | rfl | rfl
        · exact .inl (.head _)
        · exact .inr (Nat.le_refl _)
        · exact .inr (Nat.le_succ _)
      · simp only [List.mem_cons, List.not_mem_nil, or_false] at hb
        show b ≤ s.heap.objs.size + 1
        rcases hb with rfl | rfl | rfl
        · exact Nat.le_of_lt (Nat.lt_succ_of_lt hlt')
        · exact Nat.le_succ _
        · exact Nat.le_refl _
    · rintro s₁ ⟨h0, _⟩ h' hk
      cases h0

theorem enterG {w : World} {A : Around} {s : Shared} {K : Frag} {R : Result → Shared → Prop} {name qual : Str} {params : Arguments} {body : List Stmt} {scope : Scope} {dV kV doc pm cdv ct oc : Value} {an od : Option Addr} {osl : Array (Option Value)} {f : Addr} {args : Args} {binds : List (Str × Value)}
    (X : K.In s.heap) (hlim : s.heap.NoLimit)
    (ho : K.lookup f = some ⟨oc, od, .func (fnOf name qual params body scope dV kV doc pm an cdv ct), osl⟩) (hcd : codeIn K cdv qual = true) (hroom : A.depth < recursionLimit)
    (hbind : BindsTo s (fnOf name qual params body scope dV kV doc pm an cdv ct) args binds) (hloc : ∀ y ∈ binds, scope.names.lookup y.1 = some .local)
    (h : ∀ (L : Addr) (h₁ : Heap) (tk tk' : Nat) (nm qn : Str), L = s.heap.objs.size → h₁.Ns L (fun y => binds.reverse.lookup y) → (∀ b o, s.heap.get? b = some o → h₁.get? b = some o) → h₁.objs.size = L + 1 →
      R (.ok (.ret (.ref h₁.objs.size))) { s with heap := h₁.push { cls := .type "generator", data := .fields #[.int s.gens.size 0, .str nm tk, .str qn (tk + 1)] }, gens := s.gens.push (.fresh (.func body (envOf qual scope L f cdv))), toks := tk' })
    (hco : scope.isCoroutine = false := by rfl) (hgen : scope.isGenerator = true := by rfl) (hk : scope.kind = .function := by rfl)
    (hcell : ∀ x ∈ scope.names, x.2 ≠ .cell := by decide) : codeAny (model PG w) A (.call (.ref f) args) R s := by
  refine codeAny_call_generator (fd := fnOf name qual params body scope dV kV doc pm an cdv ct) (body := body) hroom (X _ _ ho) rfl hco hgen rfl (codeRec_of X hcd) (hbind _ _ _ _ ?_)
  refine wpAny_newFunctionEnv hcell hloc (fun h₀ hns hsb => ⟨hlim.fresh _ hsb, ?_⟩) hk
  exact h s.heap.objs.size h₀ _ _ _ _ rfl hns (fun b o e => hsb.extBut b o (Nat.ne_of_lt (Heap.lt_size e)) (Heap.get?_push_of_some _ e)) (hsb.1.trans (Heap.size_push ..))
end Mine
end
section
open PySem PySem.W PyProof.Rows PySem.Calls
set_option Elab.async false
namespace Mine
set_option maxRecDepth 100000
set_option linter.unusedVariables false
set_option maxHeartbeats 4000000
theorem fillG4 (P : Params) : Challenge.rw_qw0046_01 = Challenge.rw_qw0046_01 ∧ hd.heap_39 P = hd.heap_39 P := by
  k_fill
  exact ⟨rfl, rfl⟩
local macro_rules | `(tactic| k_steps) => `(tactic| repeat' (
  (fail_if_success (with_reducible show wpAny _ _ (newTuple _) _ _ _));
  (fail_if_success (with_reducible show wpAny _ _ (storeName _ _ _) _ _ _));
  (fail_if_success (with_reducible show wpAny _ _ (call (Value.type _) _ _) _ _ _));
  (fail_if_success (with_reducible show wpAny _ _ (pyIter _) _ _ _));
  (fail_if_success (with_reducible show Seg _ _ _ _ _ _ _ _ _ _));
  first | walk1 | (dsimp only; walk1)))


theorem fr0 {h : Heap} {L : Addr} {m : Str → Option Value} (n : h.Ns L m) : Fr {} L h m := ⟨n, fun b o e => by simp [Heap.get?] at e, Nat.zero_le _⟩
theorem bs_app (c : Nat) : Str.ofString "\\" ++ mkS [c] = mkS [92, c] := by rw [bs_eq]; rfl
/-- a generator handed out by a call -/
structure NewGen (w : World) (mean : ExcName → Option Value) (mg mb : Str → Option Value) (U : List (Nat × List Nat)) (s : Shared) (v : Value) (s' : Shared) : Prop where
  it : ∃ (ga Lg : Addr) (oG oL : Obj) (gs : GenState), v = .ref ga ∧ s.heap.objs.size ≤ Lg ∧ s.heap.objs.size ≤ ga ∧ Lg ≠ ga ∧ s'.heap.get? ga = some oG ∧ s'.heap.get? Lg = some oL ∧ s'.heap.IsGen ga s.gens.size ∧ s'.gens[s.gens.size]? = some gs ∧ gs.bare = true ∧
    ∀ A : Around, A.handled = none → A.depth < recursionLimit → GStep w mean mg mb A U gs [Lg] [(Lg, oL)]
theorem gext_push {a : Array GenState} {x : GenState} (h : x.bare = true) : GExt a (a.push x) := by
  refine ⟨fun i y e => ?_, fun hb y hy => ?_⟩
  · have hi : i < a.size := by
      rcases Nat.lt_or_ge i a.size with h | h
      · exact h
      · rw [Array.getElem?_eq_none h] at e; cases e
    rw [Array.getElem?_push, if_neg (Nat.ne_of_lt hi)]; exact e
  · rcases Array.mem_push.mp hy with hy | rfl
    · exact hb y hy
    · exact h
theorem newgen_of {w : World} {mean : ExcName → Option Value} {mg mb : Str → Option Value} {U : List (Nat × List Nat)} {s : Shared} {L : Addr} {h₁ : Heap} {oL : Obj} {nm qn : Value} {tk' : Nat} {c : Code} {Q : Value → Shared → Prop} (hL : L = s.heap.objs.size)
    (hk : ∀ b o, s.heap.get? b = some o → h₁.get? b = some o) (hz : h₁.objs.size = L + 1) (hLo : h₁.get? L = some oL) (hQ : ∀ v s', Ext s s' → NewGen w mean mg mb U s v s' → Q v s')
    (hst : ∀ A : Around, A.handled = none → A.depth < recursionLimit → GStep w mean mg mb A U (.fresh c) [L] [(L, oL)]) :
    Q (.ref h₁.objs.size) { s with heap := h₁.push { cls := .type "generator", data := .fields #[.int s.gens.size 0, nm, qn] }, gens := s.gens.push (.fresh c), toks := tk' } := by
  refine hQ _ _ ⟨fun b o e => Heap.get?_push_of_some _ (hk b o e), ?_, gext_push rfl, rfl⟩ ⟨h₁.objs.size, L, _, oL, .fresh c, rfl, by rw [hL]; exact Nat.le_refl _, ?_, ?_, Heap.get?_push_size _ rfl, Heap.get?_push_of_some _ hLo, ⟨_, _, _, Heap.get?_push_size _ rfl, rfl, rfl, rfl⟩, ?_, rfl, hst⟩
  · show s.heap.objs.size ≤ (h₁.push _).objs.size
    rw [Heap.size_push, hz, hL]; exact Nat.le_trans (Nat.le_succ _) (Nat.le_succ _)
  · rw [hz, hL]; exact Nat.le_succ _
  · rw [hz]; exact Nat.ne_of_lt (Nat.lt_succ_self _)
  · show (s.gens.push _)[s.gens.size]? = _
    rw [Array.getElem?_push, if_pos rfl]
set_option maxHeartbeats 8000000 in

theorem con_gen {w : World} {mean : ExcName → Option Value} {mg mb : Str → Option Value} (x : Str) (t : Tok) (hlen : x.length ≤ 1000) : Con w mean mg mb 28 [.str x t] 1 (fun _ => True) (fun s v s' => NewGen w mean mg mb (toks 0 x.cps.toList) s v s') := by
  intro A s Q E hh hd hu X T hpre hQ
  obtain ⟨ha, dp, fr, gd, un⟩ := A
  obtain rfl : ha = none := hh
  dsimp only at hd hu
  replace hh : (⟨none, dp, fr, gd, un⟩ : Around).handled = none := rfl
  refine wpAny_call ?_
  k_dflt (refine' enterG (binds := [(Str.ofString "addr", .str x t)]) X T.nolimit ?ho ?hcd ?hroom ?hbind ?hloc ?_ ?c1 ?c2 ?c3 ?c4; (case ho => k_is); (case hcd => k_is); (case hroom => (dsimp only; omega)); (case hbind => exact BindsTo.of_eq rfl); (case hloc => exact locs rfl); (case c1 => rfl); (case c2 => rfl); (case c3 => rfl); (case c4 => decide))
  k_whole
  intro L h₁ tk tk' nm qn hL ns hk hz
  (try dsimp only)
  obtain ⟨oL, es, ep, hLo, hr⟩ := id ns
  refine newgen_of hL hk hz hLo hQ ?_
  clear X T hk hr hQ hpre hd hu hh
  intro A' hh' hroom'
  generalize hAA : A'.in1 = AA
  replace hh' : AA.handled = none := by rw [← hAA]; exact hh'
  refine gstep_fresh (by rw [← hAA] at hh'; exact hh') hroom' ?_
  rw [hAA]
  intro g₀ s' X T keep hgs hLo'
  have hLs : L < s'.heap.objs.size := Heap.lt_size hLo'
  generalize hBB : s'.heap.objs.size = B at *
  replace ns : s'.heap.Ns L (fun y => [(Str.ofString "addr", Value.str x t)].reverse.lookup y) := ns.at fun o e => by rw [hLo] at e; cases e; exact hLo'
  refine seg_func ?_
  refine seg_execs_cons ?_
  refine seg_stmt fun E => ?_
  refine wpAny_Assign_Name ?_
  refine wpAny_mkInt ?_
  refine wpAny_storeName_local rfl ns (fun h1 ns1 hs1 => ?_)
  refine seg_execs_cons ?_
  refine seg_stmt fun E => ?_
  refine wpAny_Assign_Name ?_
  refine wpAny_pure ?_
  refine wpAny_storeName_local rfl ns1 (fun h2 ns2 hs2 => ?_)
  refine seg_execs_cons ?_
  refine seg_For fun E => ?_
  have hgL' : g₀.get? L = none := by
    cases q : g₀.get? L with
    | none => rfl
    | some o => exact absurd (Heap.lt_size q) (Nat.not_lt.mpr hgs)
  have hsz2 : h2.objs.size = B := (hs2.1.trans hs1.1).trans hBB
  have kp2 : ∀ b o, b ≠ L → s'.heap.get? b = some o → h2.get? b = some o := fun b o hb e => (hs2.2 b hb).trans ((hs1.2 b hb).trans e)
  have F : Fr g₀ L h2 _ := ⟨ns2, fun b o e => kp2 b o (fun q => by rw [q, hgL'] at e; cases e) (keep b o e), hgs⟩
  have N : News g₀ L h2 [] := fun p hp => nomatch hp
  k_steps
  refine call_enumerate_str fun h3 he3 hi3 hz3 hk3 => ?_
  (repeat' (first | (refine wpAny_pyIter_enum he3 ?_) | walk1))
  dsimp only at he3 hi3 hz3 hk3 ⊢
  rw [hsz2] at he3 hi3 hz3 ⊢
  obtain ⟨m3, ns3, em1, em2⟩ : ∃ m, h3.Ns L m ∧ m nEsc = some (.bool false) ∧ ∃ tk, m nPos = some (.int ((0 - 1 : Nat) : Int) tk) := ⟨_, ns2.at fun o e => hk3 _ _ e, rfl, _, rfl⟩
  refine' gen_loop (U := toks 0 x.cps.toList) _ _ ?hT ?hFL ?hh ?hL ?hk1 ?hk2 ?hsc ?HT ?HB ?HO ?HE0 ?HE1 x.cps.toList 0 false _ s' _ m3 (Nat.zero_le _) rfl ?ls ?mv ?e1 (Nat.le_refl _) ?e2
  case hT => rfl
  case hFL => rfl
  case hL => rfl
  case hk1 => rfl
  case hk2 => rfl
  case hsc => rfl
  case hh => exact hh'
  case ls =>
    exact ⟨ns3, em1, em2, ⟨_, he3⟩, hi3, hLs⟩
  case e1 => rw [gtok_toks]
  case e2 => rw [gtok_toks, Nat.sub_self]; rfl
  case mv => exact ⟨fun b o h1 _ _ e => hk3 _ _ (kp2 b o h1 e), rfl, rfl⟩
  all_goals clear F N X T keep hgs hLo' ns1 hs1 ns2 hs2 hgL' he3 hi3 hz3 hk3 ns3 kp2 hsz2 ns
  case HT =>
    intro n s₀ s m p c tp tc ns me mp mc hY
    have F := fr_knows [(nEsc, .bool true), (nPos, .int (p : Int) tp), (nCh, .str (mkS [c]) tc)] (fr0 ns) ⟨me, mp, mc, trivial⟩
    simp only [kn] at F
    have hlc : (mkS [c]).length ≤ 1 := Nat.le_refl _
    have N : News {} L s.heap [] := fun p hp => nomatch hp
    refine seg_execs_cons ?_
    refine seg_If fun E => ?_
    k_steps
    refine seg_execs_cons ?_
    refine seg_Expr_Yield rfl rfl rfl ?_
    k_steps
    rw [bs_app]
    refine wpAny_newTuple ?_
    intro kap hkap
    refine hY _ _ _ _ fun s'' ns'' hcont => hkap .none s'' ?_
    refine seg_execs_cons ?_
    refine seg_stmt fun E => ?_
    refine wpAny_Assign_Name ?_
    refine wpAny_pure ?_
    refine wpAny_storeName_local rfl ns'' (fun h1 ns1 hs1 => ?_)
    exact seg_again rfl (hcont _ _ ns1 hs1)
  case HB =>
    intro n s₀ s m tc ns me mc hcont
    have F := fr_knows [(nEsc, .bool false), (nCh, .str (mkS [92]) tc)] (fr0 ns) ⟨me, mc, trivial⟩
    simp only [kn] at F
    have N : News {} L s.heap [] := fun p hp => nomatch hp
    refine seg_execs_cons ?_
    refine seg_If fun E => ?_
    k_steps
    refine seg_execs_cons ?_
    refine seg_If fun E => ?_
    k_steps
    refine seg_execs_cons ?_
    refine seg_stmt fun E => ?_
    refine wpAny_Assign_Name ?_
    refine wpAny_pure ?_
    refine wpAny_storeName_local rfl ns (fun h1 ns1 hs1 => ?_)
    exact seg_again rfl (hcont _ _ ns1 hs1)
  case HO =>
    intro n s₀ s m p c tp tc hc ns me mp mc hY
    have F := fr_knows [(nEsc, .bool false), (nPos, .int (p : Int) tp), (nCh, .str (mkS [c]) tc)] (fr0 ns) ⟨me, mp, mc, trivial⟩
    simp only [kn] at F
    have N : News {} L s.heap [] := fun p hp => nomatch hp
    refine seg_execs_cons ?_
    refine seg_If fun E => ?_
    k_steps
    refine seg_execs_cons ?_
    refine seg_If fun E => ?_
    k_steps
    · exfalso
      rename (mkS [c] == _) = true => hq
      rw [bs_eq] at hq
      exact hc (by simpa using mkS_inj (eq_of_beq hq))
    refine seg_execs_cons ?_
    refine seg_Expr_Yield rfl rfl rfl ?_
    k_steps
    refine wpAny_newTuple ?_
    intro kap hkap
    refine hY _ _ _ _ fun s'' ns'' hcont => hkap .none s'' ?_
    exact seg_again rfl hcont
  case HE0 =>
    intro s₀ s m ns me mv
    have F := fr_knows [(nEsc, .bool false)] (fr0 ns) ⟨me, trivial⟩
    simp only [kn] at F
    have N : News {} L s.heap [] := fun p hp => nomatch hp
    refine seg_again rfl ?_
    refine seg_leaf (.ok .next) ?_
    refine seg_execs_cons ?_
    refine seg_If fun E => ?_
    k_steps
    exact seg_end (.ok (.ret .none)) ⟨rfl, rfl, mv⟩
  case HE1 =>
    intro s₀ s m p tp ns me mp hY
    have F := fr_knows [(nEsc, .bool true), (nPos, .int (p : Int) tp)] (fr0 ns) ⟨me, mp, trivial⟩
    simp only [kn] at F
    have N : News {} L s.heap [] := fun p hp => nomatch hp
    refine seg_again rfl ?_
    refine seg_leaf (.ok .next) ?_
    refine seg_execs_cons ?_
    refine seg_If fun E => ?_
    k_steps
    refine seg_execs_cons ?_
    refine seg_Expr_Yield rfl rfl rfl ?_
    k_steps
    rw [bs_eq]
    refine wpAny_newTuple ?_
    intro kap hkap
    refine hY _ _ _ _ fun s'' ns'' => hkap .none s'' ?_
    exact seg_end (.ok (.ret .none)) ⟨rfl, rfl, Mv.refl _⟩
end Mine
end
section
open PySem PySem.W PyProof.Rows PySem.Calls
set_option Elab.async false
set_option autoImplicit false
set_option linter.unusedVariables false
namespace Mine
set_option maxRecDepth 100000
set_option maxHeartbeats 4000000
structure GIn (w : World) (mean : ExcName → Option Value) (mg mb : Str → Option Value) (A : Around) (g : Heap) (L : Addr) (base : Shared) (ga : Addr) (oG : Obj) (gi : Nat) (U : List (Nat × List Nat)) (ad : List Addr) (pv : List (Addr × Obj)) (s : Shared) : Prop where
  gs : ∃ gs, s.gens[gi]? = some gs ∧ GStep w mean mg mb A U gs ad pv
  isg : ∀ h : Heap, h.get? ga = some oG → h.IsGen ga gi
  new : base.gens[gi]? = none
  ro : RO base s
  adg : ∀ b ∈ ad, g.objs.size ≤ b
  adL : L ∉ ad
  adga : ga ∉ ad
  pvad : ∀ q ∈ pv, q.1 ∈ ad
  bnd : ∀ b ∈ ad, ∃ p ∈ pv, b ≤ p.1
theorem gext_set {a b : Array GenState} {gi : Nat} {x : GenState} (h : GExt a b) (hn : a[gi]? = none) (hx : x.bare = true) : GExt a (b.setIfInBounds gi x) := by
  refine ⟨fun i y e => ?_, fun hb y hy => ?_⟩
  · have hne : gi ≠ i := fun q => by rw [← q, hn] at e; cases e
    rw [Array.getElem?_setIfInBounds_ne hne]; exact h.old i y e
  · rcases Array.mem_or_eq_of_mem_setIfInBounds hy with hy | rfl
    · exact h.bare hb y hy
    · exact hx
theorem news_gmv {g : Heap} {L : Addr} {s s' : Shared} {led : List (Addr × Obj)} {ad : List Addr} {gi : Nat} {gs : GenState} (N : News g L s.heap led) (m : GMv ad gi gs s s') (h : ∀ p ∈ led, p.1 ∉ ad) : News g L s'.heap led :=
  fun p hp => ⟨m.heap _ _ (h p hp) (N p hp).1, (N p hp).2⟩
theorem fr_gmv {g : Heap} {L : Addr} {s s' : Shared} {mp : Str → Option Value} {ad : List Addr} {gi : Nat} {gs : GenState} (F : Fr g L s.heap mp) (m : GMv ad gi gs s s') (hL : L ∉ ad) (hg : ∀ b ∈ ad, g.objs.size ≤ b) : Fr g L s'.heap mp := by
  obtain ⟨oL, es, ep, hLo, r⟩ := F.ns
  exact ⟨⟨oL, es, ep, m.heap _ _ hL hLo, r⟩, fun b o e => m.heap _ _ (fun q => absurd (Heap.lt_size e) (Nat.not_lt.mpr (hg b q))) (F.keep b o e), F.above⟩
theorem GIn.pre {w : World} {mean : ExcName → Option Value} {mg mb : Str → Option Value} {A : Around} {g : Heap} {L : Addr} {base : Shared} {ga : Addr} {oG : Obj} {gi : Nat} {U : List (Nat × List Nat)} {ad : List Addr} {pv : List (Addr × Obj)} {s : Shared} {gs : GenState} {m : Str → Option Value}
    (G : GIn w mean mg mb A g L base ga oG gi U ad pv s) (X : (hd.heap_39 w.params).In g) (T : TT mean mg mb g) (F : Fr g L s.heap m) (hG : s.heap.get? ga = some oG) (hp : Holds2 pv s) (hgs : s.gens[gi]? = some gs) : GPre w mean mg mb g ad pv ga gi gs s :=
  ⟨X, T, F.keep, G.adg, hp, G.isg _ hG, hgs⟩
theorem lt_of_none {h : Heap} {b : Addr} (hb : h.objs.size ≤ b) : h.get? b = none := by
  cases q : h.get? b with
  | none => rfl
  | some o => exact absurd (Heap.lt_size q) (Nat.not_lt.mpr hb)

theorem for_gen {w : World} {mean : ExcName → Option Value} {mg mb : Str → Option Value} {A : Around} {s : Shared} {E : Value → Shared → Prop} {Q : Flow → Shared → Prop} {env : Env} {target : Expr} {body : List Stmt} {ga : Addr} {oG : Obj} {gi : Nat} {U : List (Nat × List Nat)} {ad : List Addr} {pv : List (Addr × Obj)} {g : Heap} {L : Addr} {m₀ : Str → Option Value} {led₀ : List (Addr × Obj)} {base : Shared}
    (J : Nat → (Str → Option Value) → List (Addr × Obj) → Prop)
    (X : (hd.heap_39 w.params).In g) (T : TT mean mg mb g)
    (F : Fr g L s.heap m₀) (G : GIn w mean mg mb A g L base ga oG gi U ad pv s) (N : News g L s.heap (led₀ ++ (ga, oG) :: pv)) (hoff : ∀ p ∈ led₀, p.1 ∉ ad ∧ p.1 ≠ ga) (hj : J 0 m₀ led₀)
    (turn : ∀ (E : Value → Shared → Prop) i u m led s₁ a t1 t2 tl, U[i]? = some u → J i m led → RO base s₁ → Fr g L s₁.heap m → News g L s₁.heap ((a, tupO u.1 t1 (mkS u.2) t2) :: (led ++ tl)) → OwnOff tl (led.map (·.1)) → (∀ q ∈ led, q.1 ≠ a) →
      wpAny (model PG w) A (assign target env (.ref a)) (fun _ s₂ => wpAny (model PG w) A (execs body env) (fun f s₃ => match f with
        | .next | .cont => ∃ m' led', J (i + 1) m' led' ∧ RO s₁ s₃ ∧ Fr g L s₃.heap m' ∧ News g L s₃.heap (led' ++ tl) ∧ ∀ q ∈ led', (∃ q0 ∈ led, q0.1 = q.1) ∨ ∀ p ∈ tl, p.1 < q.1
        | .brk => Q .next s₃
        | .ret v => Q (.ret v) s₃) E s₂) E s₁)
    (done : ∀ m led s₁, J U.length m led → RO base s₁ → Fr g L s₁.heap m → News g L s₁.heap led → Q .next s₁) :
    wpAny (model PG w) A (pyIter (.ref ga)) (fun it s₂ => codeAny (model PG w) A (.forLoop target it body [] env) (fun r s' => match r with | .ok f => Q f s' | .error e => cameBackBy (model PG w) A env E e s') s₂) E s := by
  refine wpAny_pyIter_gen (G.isg _ (N (ga, oG) (by simp)).1) ?_
  refine for_rule (I := fun n s₁ => ∃ i m led ad pv, n + i = U.length ∧ J i m led ∧ GIn w mean mg mb A g L base ga oG gi (U.drop i) ad pv s₁ ∧ Fr g L s₁.heap m ∧ News g L s₁.heap (led ++ (ga, oG) :: pv) ∧ ∀ p ∈ led, p.1 ∉ ad ∧ p.1 ≠ ga) ?_ U.length
    ⟨0, m₀, led₀, ad, pv, rfl, hj, G, F, N, hoff⟩
  rintro E n s₁ ⟨i, m, led, ad, pv, hn, hJ, G, F₁, N₁, hoff⟩
  have Nl : News g L s₁.heap led := fun p hp => N₁ p (List.mem_append_left _ hp)
  have hG := N₁ (ga, oG) (by simp)
  have Np : Holds2 pv s₁ := fun p hp => (N₁ p (List.mem_append_right _ (.tail _ hp))).1
  obtain ⟨gs, hgs, hst⟩ := G.gs
  cases hx : U[i]? with
  | none =>
    have hi : i = U.length := by
      have := List.getElem?_eq_none_iff.mp hx; omega
    subst hi
    rw [List.drop_length] at hst
    refine hst g ga gi s₁ _ _ (G.pre X T F₁ hG.1 Np hgs) fun s' mv => ?_
    refine done m led s' hJ ⟨?_, mv.os.trans G.ro.os⟩ (fr_gmv F₁ mv G.adL G.adg) (news_gmv Nl mv fun p hp => (hoff p hp).1)
    rw [mv.gens]; exact gext_set G.ro.gens G.new rfl
  | some u =>
    have hlt : i < U.length := (List.getElem?_eq_some_iff.mp hx).1
    have hu : U[i] = u := (List.getElem?_eq_some_iff.mp hx).2
    rw [List.drop_eq_getElem_cons hlt, hu] at hst
    refine hst g ga gi s₁ _ _ (G.pre X T F₁ hG.1 Np hgs) fun a t1 t2 s' gs' ad' pv' mv hb hfr hto haad hp' hpa had hbn hst' => ?_
    have hG' := mv.heap _ _ G.adga hG.1
    have hgi : gi < s₁.gens.size := by
      rcases Nat.lt_or_ge gi s₁.gens.size with h | h
      · exact h
      · rw [Array.getElem?_eq_none h] at hgs; cases hgs
    have hgs' : s'.gens[gi]? = some gs' := by
      rw [mv.gens, Array.getElem?_setIfInBounds_self, if_pos hgi]
    obtain ⟨oo, _, _, hoo, hoc, _⟩ := G.isg _ hG'
    refine let_go_it hoo hoc (by decide +kernel) ?_
    have hro' : RO base s' := ⟨by rw [mv.gens]; exact gext_set G.ro.gens G.new hb, mv.os.trans G.ro.os⟩
    obtain ⟨oL, _, _, hLo, _⟩ := F₁.ns
    have hgL : g.objs.size ≤ s₁.heap.objs.size := Nat.le_trans F₁.above (Nat.le_of_lt (Heap.lt_size hLo))
    have adg' : ∀ b ∈ ad', g.objs.size ≤ b := fun b hb => (had b hb).elim (G.adg b) fun h => Nat.le_trans hgL h
    have adL' : L ∉ ad' := fun h => (had L h).elim G.adL fun h => absurd (Heap.lt_size hLo) (Nat.not_lt.mpr h)
    have adga' : ga ∉ ad' := fun h => (had ga h).elim G.adga fun h => absurd (Heap.lt_size hG.1) (Nat.not_lt.mpr h)
    have offl' : ∀ p ∈ led, p.1 ∉ ad' := fun p hp h => (had _ h).elim (hoff p hp).1 fun h => absurd (Heap.lt_size (Nl p hp).1) (Nat.not_lt.mpr h)
    have Fn := fr_gmv F₁ mv G.adL G.adg
    have hfg : ∀ b, s₁.heap.get? b = none → b ≠ L ∧ g.get? b = none := by
      intro b h
      refine ⟨fun e => ?_, ?_⟩
      · rw [e, hLo] at h; cases h
      · cases q : g.get? b with
        | none => rfl
        | some o => rw [F₁.keep _ _ q] at h; cases h
    have Nn : News g L s'.heap ((a, tupO u.1 t1 (mkS u.2) t2) :: (led ++ (ga, oG) :: pv')) := by
      refine news_cons ?_ hto (hfg a hfr).1 (hfg a hfr).2
      intro p hp
      rcases List.mem_append.mp hp with hp | hp
      · exact news_gmv Nl mv (fun p hp => (hoff p hp).1) p hp
      · rcases List.mem_cons.mp hp with rfl | hp
        · exact ⟨hG', hG.2⟩
        · exact ⟨hp' p hp, fun e => adL' (e ▸ hpa p hp), lt_of_none (adg' _ (hpa p hp))⟩
    refine wpAny_mono (turn E i u m led s' a t1 t2 ((ga, oG) :: pv') hx hJ hro' Fn Nn ?_ (News.off Nl hfr)) (fun _ s₂ h₂ => wpAny_mono h₂ (fun f s₃ h₃ => ?_) fun _ _ e => e) fun _ _ e => e
    · intro p hp b hb
      obtain ⟨q, hq, rfl⟩ := List.mem_map.mp hb
      rcases List.mem_cons.mp hp with rfl | hp
      · exact fun e => (hoff q hq).2 e.symm
      · exact fun e => offl' q hq (e ▸ hpa p hp)
    have fin : (∃ m' led', J (i + 1) m' led' ∧ RO s' s₃ ∧ Fr g L s₃.heap m' ∧ News g L s₃.heap (led' ++ (ga, oG) :: pv') ∧ ∀ q ∈ led', (∃ q0 ∈ led, q0.1 = q.1) ∨ ∀ p ∈ (ga, oG) :: pv', p.1 < q.1) →
        ∃ k, k < n ∧ ∃ i m led ad pv, k + i = U.length ∧ J i m led ∧ GIn w mean mg mb A g L base ga oG gi (U.drop i) ad pv s₃ ∧ Fr g L s₃.heap m ∧ News g L s₃.heap (led ++ (ga, oG) :: pv) ∧ ∀ p ∈ led, p.1 ∉ ad ∧ p.1 ≠ ga := by
      rintro ⟨m', led', j', r', F', N', off'⟩
      refine ⟨n - 1, by omega, i + 1, m', led', ad', pv', by omega, j', ⟨⟨gs', r'.gens.old _ _ hgs', hst'⟩, G.isg, G.new, hro'.trans r', adg', adL', adga', hpa, hbn⟩, F', N', fun q hq => ?_⟩
      rcases off' q hq with ⟨q0, hq0, e⟩ | hlt'
      · exact ⟨fun h => offl' q0 hq0 (e ▸ h), e ▸ (hoff q0 hq0).2⟩
      · refine ⟨fun h => ?_, fun h => ?_⟩
        · obtain ⟨p, hp, hle⟩ := hbn _ h
          exact absurd (hlt' p (.tail _ hp)) (Nat.not_lt.mpr hle)
        · exact absurd (hlt' (ga, oG) (.head _)) (by rw [h]; exact Nat.lt_irrefl _)
    cases f with
    | next => exact fin h₃
    | cont => exact fin h₃
    | brk => exact h₃
    | ret v => exact h₃

/-- a new generator within a frame -/
theorem NewGen.gin {w : World} {mean : ExcName → Option Value} {mg mb : Str → Option Value} {g : Heap} {L : Addr} {base s1 s2 : Shared} {U : List (Nat × List Nat)} {v : Value} {m : Str → Option Value} {led : List (Addr × Obj)}
    (NG : NewGen w mean mg mb U s1 v s2) (ro : RO base s1) (x : Ext s1 s2) (F : Fr g L s1.heap m) (N : News g L s1.heap led) :
    ∃ ga oG ad pv, v = .ref ga ∧ (∀ A : Around, A.handled = none → A.depth < recursionLimit → GIn w mean mg mb A g L base ga oG s1.gens.size U ad pv s2) ∧ News g L s2.heap (led ++ (ga, oG) :: pv) ∧ ∀ p ∈ led, p.1 ∉ ad ∧ p.1 ≠ ga := by
  obtain ⟨ga, Lg, oG, oL, gs, rfl, h1, h2, h3, h4, h5, h6, h7, h8, h9⟩ := NG.it
  obtain ⟨oLL, _, _, hLo, _⟩ := F.ns
  have hgs : g.objs.size ≤ s1.heap.objs.size := Nat.le_trans F.above (Nat.le_of_lt (Heap.lt_size hLo))
  have n1 : L ≠ Lg := Nat.ne_of_lt (Nat.lt_of_lt_of_le (Heap.lt_size hLo) h1)
  have n2 : L ≠ ga := Nat.ne_of_lt (Nat.lt_of_lt_of_le (Heap.lt_size hLo) h2)
  refine ⟨ga, oG, [Lg], [(Lg, oL)], rfl, fun A hh hd => ⟨⟨gs, h7, h9 A hh hd⟩, ?_, ?_, ro.trans x.ro, ?_, ?_, ?_, ?_, ?_⟩, ?_, ?_⟩
  · intro h e
    obtain ⟨o, nm, qn, ho, r⟩ := h6
    rw [h4] at ho; cases ho
    exact ⟨oG, nm, qn, e, r⟩
  · cases q : base.gens[s1.gens.size]? with
    | none => rfl
    | some y =>
      have := ro.gens.old _ _ q
      rw [Array.getElem?_eq_none (Nat.le_refl _)] at this; cases this
  · intro b hb
    rw [List.mem_singleton.mp hb]; exact Nat.le_trans hgs h1
  · simp [n1]
  · simp only [List.mem_singleton]; exact fun e => h3 e.symm
  · intro q hq
    rw [List.mem_singleton.mp hq]; exact .head _
  · intro b hb
    rw [List.mem_singleton.mp hb]; exact ⟨_, .head _, Nat.le_refl _⟩
  · intro p hp
    rcases List.mem_append.mp hp with hp | hp
    · exact (News.ext N x) p hp
    · rcases List.mem_cons.mp hp with rfl | hp
      · exact ⟨h4, Ne.symm n2, lt_of_none (Nat.le_trans hgs h2)⟩
      · rw [List.mem_singleton.mp hp]; exact ⟨h5, Ne.symm n1, lt_of_none (Nat.le_trans hgs h1)⟩
  · intro p hp
    have := Heap.lt_size (N p hp).1
    exact ⟨fun e => by rw [List.mem_singleton.mp e] at this; exact absurd this (Nat.not_lt.mpr h1), fun e => by rw [e] at this; exact absurd this (Nat.not_lt.mpr h2)⟩
end Mine
end
section
open PySem PySem.W PyProof.Rows PySem.Calls
set_option Elab.async false
namespace Mine
set_option maxRecDepth 100000
set_option linter.unusedVariables false
set_option maxHeartbeats 4000000
theorem fillS1 (P : Params) : Challenge.rw_qw0046_01 = Challenge.rw_qw0046_01 ∧ hd.heap_39 P = hd.heap_39 P := by
  k_fill
  exact ⟨rfl, rfl⟩



theorem qt_eq : Str.ofString "\"" = mkS [34] := by decide
abbrev StSt : Type := Nat × Option Nat × List Str
def stStep (x : Str) (st : StSt) (u : Nat × List Nat) : StSt :=
  if u.2 = [34] then (match st.2.1 with
    | none => (st.1, some u.1, st.2.2)
    | some o => (u.1 + 1, none, if st.1 = o then st.2.2 else st.2.2 ++ [Txt.slice x (some (st.1 : Int)) (some (o : Int))])) else st
def stAll (x : Str) (us : List (Nat × List Nat)) : StSt := us.foldl (stStep x) (0, none, [])
def strip (x : Str) : Str :=
  let st := stAll x (toks 0 x.cps.toList)
  Str.join (Str.ofString "") (if st.1 < x.length then st.2.2 ++ [Txt.slice x (some (st.1 : Int)) none] else st.2.2)
/-- what the function gives -/
def stripF (x : Str) : Str := if (Builtin.Str.occurrences x (Str.ofString "\"") 0 x.length 1).isEmpty = true then x else strip x
theorem toks_lt : ∀ (p : Nat) (l : List Nat), ∀ u ∈ toks p l, p ≤ u.1 ∧ u.1 < p + l.length
  | _, [] => fun u hu => nomatch hu
  | p, [c] => fun u hu => by rw [List.mem_singleton.mp hu]; simp
  | p, c :: d :: r => fun u hu => by
    by_cases h : c = 92
    · rw [toks_bs2 h] at hu
      rcases List.mem_cons.mp hu with rfl | hu
      · simp
      · have := toks_lt (p + 2) r u hu; simp only [List.length_cons]; omega
    · rw [toks_one h] at hu
      rcases List.mem_cons.mp hu with rfl | hu
      · simp
      · have := toks_lt (p + 1) (d :: r) u hu; simp only [List.length_cons] at this ⊢; omega
theorem toks_len : ∀ (p : Nat) (l : List Nat), (toks p l).length ≤ l.length
  | _, [] => Nat.le_refl _
  | p, [c] => Nat.le_refl _
  | p, c :: d :: r => by
    by_cases h : c = 92
    · rw [toks_bs2 h]; have := toks_len (p + 2) r; simp only [List.length_cons]; omega
    · rw [toks_one h]; have := toks_len (p + 1) (d :: r); simp only [List.length_cons] at this ⊢; omega
theorem st_take {x : Str} {us : List (Nat × List Nat)} {i : Nat} {u : Nat × List Nat} (h : us[i]? = some u) : stAll x (us.take (i + 1)) = stStep x (stAll x (us.take i)) u := by
  rw [List.take_add_one, h, Option.toList_some, stAll, List.foldl_append]; rfl
def opv (op : Option Nat) (tk : Tok) : Value := match op with | none => .none | some o => .int (o : Int) tk
abbrev knStrip (x : Str) (t : Tok) (R : Addr) (st : StSt) (tk tko : Tok) : List (Str × Value) := [(Str.ofString "addr", .str x t), (Str.ofString "start", .int (st.1 : Int) tk), (Str.ofString "open_pos", opv st.2.1 tko), (Str.ofString "result", .ref R)]
def JStrip (x : Str) (t : Tok) (R : Addr) (us : List (Nat × List Nat)) (i : Nat) (m : Str → Option Value) (led : List (Addr × Obj)) : Prop :=
  ∃ (st : StSt) (q : List (Str × Tok)) (k : Nat) (tk tko : Tok), led = [(R, W.listOf (strValues q).toArray k)] ∧ stAll x (us.take i) = st ∧ q.map (·.1) = st.2.2 ∧ st.1 ≤ x.length ∧ (∀ o, st.2.1 = some o → o ≤ x.length) ∧ q.length ≤ i ∧ (∀ y ∈ st.2.2, y.length ≤ x.length) ∧ KnOk m (knStrip x t R st tk tko)
theorem JStrip.fin {g : Heap} {L : Addr} {x : Str} {t : Tok} {R : Addr} {us : List (Nat × List Nat)} {i : Nat} {u : Nat × List Nat} {st : StSt} {s₁ : Shared} {QQ : Flow → Shared → Prop} {B : Shared → Prop} {C : Value → Shared → Prop} {tl led : List (Addr × Obj)} {a : Addr} {oa : Obj}
    (hQQ : (fun f s₃ => match f with
        | .next | .cont => ∃ m' led', JStrip x t R us (i + 1) m' led' ∧ RO s₁ s₃ ∧ Fr g L s₃.heap m' ∧ News g L s₃.heap (led' ++ tl) ∧ ∀ q ∈ led', (∃ q0 ∈ led, q0.1 = q.1) ∨ ∀ p ∈ tl, p.1 < q.1
        | .brk => B s₃
        | .ret v => C v s₃ : Flow → Shared → Prop) = QQ) (hu : us[i]? = some u) (hst : stAll x (us.take i) = st) (hled : ∃ o, (R, o) ∈ led) :
    ∀ m' st' (q' : List (Str × Tok)) k' tk' tko' s', stStep x st u = st' → q'.map (·.1) = st'.2.2 → st'.1 ≤ x.length → (∀ o, st'.2.1 = some o → o ≤ x.length) → q'.length ≤ i + 1 → (∀ y ∈ st'.2.2, y.length ≤ x.length) → KnOk m' (knStrip x t R st' tk' tko') → RO s₁ s' → Fr g L s'.heap m' →
      News g L s'.heap ((a, oa) :: (R, W.listOf (strValues q').toArray k') :: tl) → QQ .next s' := by
  intro m' st' q' k' tk' tko' s' e1 e2 e3 e4 e5 e6 e7 e8 e9 e10
  rw [← hQQ]
  obtain ⟨o, ho⟩ := hled
  refine ⟨m', _, ⟨st', q', k', tk', tko', rfl, by rw [st_take hu, hst, e1], e2, e3, e4, e5, e6, e7⟩, e8, e9, fun p hp => e10 p (.tail _ hp), fun q hq => .inl ⟨_, ho, ?_⟩⟩
  rw [List.mem_singleton.mp hq]
theorem st_skip {x : Str} {st : StSt} {u : Nat × List Nat} (h : (mkS u.2 == Str.ofString "\"") = false) : stStep x st u = st := by
  rw [stStep, if_neg]
  intro e; rw [e, qt_eq] at h; simp at h
theorem st_quote {u : Nat × List Nat} (h : (mkS u.2 == Str.ofString "\"") = true) : u.2 = [34] := by
  rw [qt_eq] at h; exact mkS_inj (eq_of_beq h)
theorem st_open {x : Str} {start : Nat} {res : List Str} {u : Nat × List Nat} (h : (mkS u.2 == Str.ofString "\"") = true) : stStep x (start, none, res) u = (start, some u.1, res) := by
  rw [stStep, if_pos (st_quote h)]
theorem st_close {x : Str} {start o : Nat} {res : List Str} {u : Nat × List Nat} (h : (mkS u.2 == Str.ofString "\"") = true) (hn : (start : Int) ≠ o) : stStep x (start, some o, res) u = (u.1 + 1, none, res ++ [Txt.slice x (some (start : Int)) (some (o : Int))]) := by
  have : ¬ start = o := by omega
  rw [stStep, if_pos (st_quote h)]; simp [this]
theorem st_close0 {x : Str} {start o : Nat} {res : List Str} {u : Nat × List Nat} (h : (mkS u.2 == Str.ofString "\"") = true) (hn : (start : Int) = o) : stStep x (start, some o, res) u = (u.1 + 1, none, res) := by
  have : start = o := by omega
  rw [stStep, if_pos (st_quote h)]; simp [this]
theorem len_bound {l : List Str} {a b : Nat} (h1 : l.length ≤ a) (h2 : ∀ y ∈ l, y.length ≤ b) : wt l ≤ a * (b + 1) := by
  induction l generalizing a with
  | nil => exact Nat.zero_le _
  | cons y r ih =>
    have e : wt (y :: r) = wt [y] + wt r := wt_append [y] r
    have e1 : wt [y] = y.length + 1 := by simp [wt]
    simp only [List.length_cons] at h1
    obtain ⟨k, rfl⟩ : ∃ k, a = k + 1 := ⟨a - 1, by omega⟩
    have := ih (a := k) (by omega) fun z hz => h2 z (.tail _ hz)
    have hy := h2 y (.head _)
    rw [e, e1, Nat.add_mul]; omega

theorem con_strip {w : World} {mean : ExcName → Option Value} {mg mb : Str → Option Value} (x : Str) (t : Tok) (hlen : x.length ≤ 500) : Con w mean mg mb 35 [.str x t] 2 (fun _ => True) (fun s v s' => ∃ t', v = .str (stripF x) t') := by
  intro A s Q E hh hd hu X T hpre hQ
  obtain ⟨ha, dp, fr, gd, un⟩ := A
  obtain rfl : ha = none := hh
  dsimp only at hd hu
  replace hh : (⟨none, dp, fr, gd, un⟩ : Around).handled = none := rfl
  refine wpAny_call ?_
  k_dflt (refine' enterF (binds := [(Str.ofString "addr", .str x t)]) X T.nolimit ?ho ?hcd ?hroom ?hbind ?hloc ?_ ?c1 ?c2 ?c3 ?c4; (case ho => k_is); (case hcd => k_is); (case hroom => (dsimp only; omega)); (case hbind => exact BindsTo.of_eq rfl); (case hloc => exact locs rfl); (case c1 => rfl); (case c2 => rfl); (case c3 => rfl); (case c4 => decide))
  k_whole
  intro g L h₁ tk₁ hg F N
  rw [← hg] at X T
  (try dsimp only)
  try k_fold
  k_steps
  · exact hQ _ _ (Ext.of_fr hg F (GExt.refl _) rfl) ⟨_, by rw [stripF, if_pos (by assumption)]⟩
  rename News _ _ _ [(_, _)] => N0
  refine wpAny_For ?_
  k_steps
  refine Con.use (con_gen x t (by omega)) hh (by simp only [Around.deeper]; omega) (by simp only [Around.deeper]; omega) X T (by assumption) (by assumption) (trivial) ?_
  intro v1 s1 hx1 F1 N1 hp1
  obtain ⟨ga, oG, ad, pv, rfl, G, N2, hoff0⟩ := NewGen.gin hp1 (base := s) ⟨GExt.refl _, rfl⟩ hx1 (by assumption) N0
  refine for_gen (JStrip x t _ (toks 0 x.cps.toList)) X T F1 (G _ hh (by simp only [Around.deeper]; omega)) N2 hoff0 ⟨(0, none, []), [], 0, _, 0, rfl, rfl, rfl, Nat.zero_le _, (fun o h => nomatch h), Nat.le_refl _, (fun y h => nomatch h), rfl, rfl, rfl, rfl, trivial⟩ ?turn ?done
  case turn =>
    rintro E i u m led s₃ a t1 t2 tl hu ⟨st, q, k, tk, tko, rfl, hst, hq, hb1, hb2, hql, hyl, hm⟩ hro F₃ N₃ hoff hoa
    replace F₃ := fr_knows _ F₃ hm
    simp only [kn] at F₃
    simp only [List.cons_append, List.nil_append, tupO] at N₃
    simp only [List.map_cons, List.map_nil] at hoff
    have hoa' := neN (hoa _ (.head _))
    have hu1 := toks_lt 0 x.cps.toList u (List.mem_of_getElem? hu)
    have hu2 : u.1 < x.length := by simpa [Str.length] using hu1.2
    have hk0 : (0 : Int) ≤ (st.1 : Int) := by omega
    have hk1 : (st.1 : Int) ≤ (x.length : Int) := by omega
    have hq5 : q.length ≤ 500 := by
      have h1 := (List.getElem?_eq_some_iff.mp hu).1
      have h2 := toks_len 0 x.cps.toList
      have h3 : x.cps.toList.length = x.length := by simp [Str.length]
      omega
    generalize hQQ : (fun f s₃ => _ : Flow → Shared → Prop) = QQ
    rcases st with ⟨start, op, res⟩
    have hA := JStrip.fin (a := a) (oa := { cls := .type "tuple", data := .seq #[.int (u.1 : Int) t1, .str (mkS u.2) t2] }) hQQ hu hst ⟨_, .head _⟩
    dsimp only at hb1 hb2 hyl hk0 hk1 hq
    rcases op with _ | op
    · simp only [opv] at F₃
      k_steps
      · exact hA _ _ q k _ _ _ (st_open (by assumption)) hq hb1 (fun o h => by cases h; omega) (by omega) hyl ⟨rfl, rfl, rfl, rfl, trivial⟩ ⟨GExt.refl _, rfl⟩ (by assumption) (by assumption)
      · exact hA _ _ q k _ 0 _ (st_skip (by assumption)) hq hb1 (fun o h => nomatch h) (by omega) hyl ⟨rfl, rfl, rfl, rfl, trivial⟩ ⟨GExt.refl _, rfl⟩ (by assumption) (by assumption)
    · simp only [opv] at F₃
      have hop := hb2 op rfl
      k_steps
      · rename News _ _ _ _ => NN
        simp only [sv_push] at NN
        refine hA _ _ _ _ _ 0 _ (st_close (by assumption) (by assumption)) ?_ (by dsimp only; omega) (fun o h => nomatch h) ?_ ?_ ⟨rfl, rfl, rfl, rfl, trivial⟩ ⟨GExt.refl _, rfl⟩ (by assumption) NN
        · rw [List.map_append, hq]; rfl
        · rw [List.length_append]; simp only [List.length_cons, List.length_nil]; omega
        · intro y hy
          rcases List.mem_append.mp hy with hy | hy
          · exact hyl y hy
          · rw [List.mem_singleton.mp hy]; assumption
      · exact hA _ _ q k _ 0 _ (st_close0 (by assumption) (by assumption)) hq (by dsimp only; omega) (fun o h => nomatch h) (by omega) hyl ⟨rfl, rfl, rfl, rfl, trivial⟩ ⟨GExt.refl _, rfl⟩ (by assumption) (by assumption)
      · exact hA _ _ q k _ _ _ (st_skip (by assumption)) hq hb1 hb2 (by omega) hyl ⟨rfl, rfl, rfl, rfl, trivial⟩ ⟨GExt.refl _, rfl⟩ (by assumption) (by assumption)
  case done =>
    rintro m led s₃ ⟨st, q, k, tk, tko, rfl, hst, hq, hb1, hb2, hql, hyl, hm⟩ hro F₃ N₃
    replace F₃ := fr_knows _ F₃ hm
    simp only [kn] at F₃
    rw [List.take_length] at hst
    have hk0 : (0 : Int) ≤ (st.1 : Int) := by omega
    have hk1 : (st.1 : Int) ≤ (x.length : Int) := by omega
    have hq5 : q.length ≤ 500 := by
      have h2 := toks_len 0 x.cps.toList
      have h3 : x.cps.toList.length = x.length := by simp [Str.length]
      omega
    have hne : ¬ (Builtin.Str.occurrences x (Str.ofString "\"") 0 x.length 1).isEmpty = true := by
      rename (Builtin.Str.occurrences x (Str.ofString "\"") 0 x.length 1).isEmpty = false => h0
      rw [h0]; exact Bool.false_ne_true
    k_steps
    · rename News _ _ _ _ => NN
      simp only [sv_push] at NN
      refine SC.join (News.isList NN (by k_mem)) rfl (joinOk_of_weight ?_ (by decide)) ?_
      · have hw := len_bound (l := (q.map (·.1)) ++ [Txt.slice x (some (st.1 : Int)) none]) (a := 501) (b := 500) (by simp; omega) (by
          intro y hy
          rcases List.mem_append.mp hy with hy | hy
          · rw [hq] at hy; exact Nat.le_trans (hyl y hy) hlen
          · rw [List.mem_singleton.mp hy]; exact Nat.le_trans (by assumption) hlen)
        rw [List.map_append]
        exact Nat.le_trans hw (by decide)
      intro t9 k9
      k_steps
      refine hQ _ _ (Ext.of_ro hg (by assumption) ⟨hro.gens, hro.os⟩) ⟨t9, ?_⟩
      have hlt : st.1 < x.length := by omega
      rw [stripF, if_neg hne, strip, hst]
      simp only [hlt, if_true]
      rw [List.map_append, hq, txt_join]; rfl
    · refine SC.join (News.isList N₃ (by k_mem)) rfl (joinOk_of_weight ?_ (by decide)) ?_
      · have hw := len_bound (l := (q.map (·.1))) (a := 501) (b := 500) (by simp; omega) (by
          intro y hy
          rw [hq] at hy; exact Nat.le_trans (hyl y hy) hlen)
        exact Nat.le_trans hw (by decide)
      intro t9 k9
      k_steps
      refine hQ _ _ (Ext.of_ro hg (by assumption) ⟨hro.gens, hro.os⟩) ⟨t9, ?_⟩
      have hlt : ¬ st.1 < x.length := by omega
      rw [stripF, if_neg hne, strip, hst]
      simp only [hlt, if_false]
      rw [hq, txt_join]
end Mine
end
section
open PySem PySem.W PyProof.Rows PySem.Calls
set_option Elab.async false
namespace Mine
set_option maxRecDepth 100000
set_option linter.unusedVariables false
set_option maxHeartbeats 4000000
theorem fillC1 (P : Params) : Challenge.rw_qw0046_01 = Challenge.rw_qw0046_01 ∧ hd.heap_39 P = hd.heap_39 P := by
  k_fill
  exact ⟨rfl, rfl⟩



theorem op_eq : Str.ofString "(" = mkS [40] := by decide
theorem cl_eq : Str.ofString ")" = mkS [41] := by decide
def chk : Nat → List (List Nat) → Bool
  | k, [] => k == 0
  | k, c :: r => if c = [40] then chk (k + 1) r else if c = [41] then (if k = 0 then false else chk (k - 1) r) else chk k r
theorem chk_open {k : Nat} {c : List Nat} {r : List (List Nat)} (h : (mkS c == Str.ofString "(") = true) : chk k (c :: r) = chk (k + 1) r := by
  rw [op_eq] at h; rw [chk, if_pos (mkS_inj (eq_of_beq h))]
theorem not_is {c d : List Nat} {y : Str} (e : y = mkS d) (h : (mkS c == y) = false) : ¬ c = d := by
  rintro rfl; rw [e] at h; simp at h
theorem chk_close0 {c : List Nat} {r : List (List Nat)} (h0 : (mkS c == Str.ofString "(") = false) (h : (mkS c == Str.ofString ")") = true) : chk 0 (c :: r) = false := by
  rw [cl_eq] at h; rw [chk, if_neg (not_is op_eq h0), if_pos (mkS_inj (eq_of_beq h)), if_pos rfl]
theorem chk_close {k : Nat} {c : List Nat} {r : List (List Nat)} (h0 : (mkS c == Str.ofString "(") = false) (h : (mkS c == Str.ofString ")") = true) : chk (k + 1) (c :: r) = chk k r := by
  rw [cl_eq] at h; rw [chk, if_neg (not_is op_eq h0), if_pos (mkS_inj (eq_of_beq h)), if_neg (Nat.succ_ne_zero k)]; rfl
theorem chk_skip {k : Nat} {c : List Nat} {r : List (List Nat)} (h0 : (mkS c == Str.ofString "(") = false) (h : (mkS c == Str.ofString ")") = false) : chk k (c :: r) = chk k r := by
  rw [chk, if_neg (not_is op_eq h0), if_neg (not_is cl_eq h)]
def us (x : Str) : List (List Nat) := (toks 0 x.cps.toList).map (·.2)
def JChk (U : List (Nat × List Nat)) (i : Nat) (m : Str → Option Value) (led : List (Addr × Obj)) : Prop :=
  led = [] ∧ ∃ (k : Nat) (tk : Tok), chk 0 (U.map (·.2)) = chk k ((U.drop i).map (·.2)) ∧ k ≤ i ∧ KnOk m [(Str.ofString "opens", .int (k : Int) tk)]
theorem JChk.fin {g : Heap} {L : Addr} {U : List (Nat × List Nat)} {i : Nat} {u : Nat × List Nat} {k : Nat} {s₁ : Shared} {QQ : Flow → Shared → Prop} {B : Shared → Prop} {C : Value → Shared → Prop} {tl : List (Addr × Obj)} {a : Addr} {oa : Obj}
    (hQQ : (fun f s₃ => match f with
        | .next | .cont => ∃ m' led', JChk U (i + 1) m' led' ∧ RO s₁ s₃ ∧ Fr g L s₃.heap m' ∧ News g L s₃.heap (led' ++ tl) ∧ ∀ q ∈ led', (∃ q0 ∈ ([] : List (Addr × Obj)), q0.1 = q.1) ∨ ∀ p ∈ tl, p.1 < q.1
        | .brk => B s₃
        | .ret v => C v s₃ : Flow → Shared → Prop) = QQ) (hu : U[i]? = some u) (hc : chk 0 (U.map (·.2)) = chk k ((U.drop i).map (·.2))) :
    ∀ m' k' (kk : Int) tk' s', chk k (u.2 :: (U.drop (i + 1)).map (·.2)) = chk k' ((U.drop (i + 1)).map (·.2)) → kk = (k' : Int) → k' ≤ i + 1 → KnOk m' [(Str.ofString "opens", .int kk tk')] → RO s₁ s' → Fr g L s'.heap m' → News g L s'.heap ((a, oa) :: tl) → QQ .next s' := by
  intro m' k' kk tk' s' e1 e2 e3 e4 e5 e6 e7
  rw [← hQQ]
  subst e2
  refine ⟨m', [], ⟨rfl, k', tk', ?_, e3, e4⟩, e5, e6, fun p hp => e7 p (.tail _ hp), fun q hq => nomatch hq⟩
  obtain ⟨hlt, he⟩ := List.getElem?_eq_some_iff.mp hu
  rw [hc, List.drop_eq_getElem_cons hlt, he, List.map_cons, e1]

theorem con_check {w : World} {mean : ExcName → Option Value} {mg mb : Str → Option Value} (x : Str) (t : Tok) (hlen : x.length ≤ 500) (hlen2 : (stripF x).length ≤ 500) : Con w mean mg mb 42 [.str x t] 3 (fun _ => True) (fun s v s' => v = .bool (chk 0 (us (stripF x)))) := by
  intro A s Q E hh hd hu X T hpre hQ
  obtain ⟨ha, dp, fr, gd, un⟩ := A
  obtain rfl : ha = none := hh
  dsimp only at hd hu
  replace hh : (⟨none, dp, fr, gd, un⟩ : Around).handled = none := rfl
  refine wpAny_call ?_
  k_dflt (refine' enterF (binds := [(Str.ofString "addr", .str x t)]) X T.nolimit ?ho ?hcd ?hroom ?hbind ?hloc ?_ ?c1 ?c2 ?c3 ?c4; (case ho => k_is); (case hcd => k_is); (case hroom => (dsimp only; omega)); (case hbind => exact BindsTo.of_eq rfl); (case hloc => exact locs rfl); (case c1 => rfl); (case c2 => rfl); (case c3 => rfl); (case c4 => decide))
  k_whole
  intro g L h₁ tk₁ hg F N
  rw [← hg] at X T
  (try dsimp only)
  try k_fold
  k_steps
  refine Con.use (con_strip x t hlen) hh (by simp only [Around.deeper]; omega) (by simp only [Around.deeper]; omega) X T (by assumption) (by assumption) (trivial) ?_
  intro v1 s1 hx1 F1 N1 hp1
  obtain ⟨t', rfl⟩ := hp1
  k_steps
  refine wpAny_For ?_
  k_steps
  refine Con.use (con_gen (stripF x) t' (by omega)) hh (by simp only [Around.deeper]; omega) (by simp only [Around.deeper]; omega) X T (by assumption) (by assumption) (trivial) ?_
  intro v2 s2 hx2 F2 N2 hp2
  obtain ⟨ga, oG, ad, pv, rfl, G, N3, hoff0⟩ := NewGen.gin hp2 (base := s) ⟨hx1.gens, hx1.os⟩ hx2 (by assumption) (by assumption)
  refine for_gen (JChk (toks 0 (stripF x).cps.toList)) X T F2 (G _ hh (by simp only [Around.deeper]; omega)) N3 hoff0 ⟨rfl, 0, _, rfl, Nat.le_refl _, rfl, trivial⟩ ?turn ?done
  case turn =>
    rintro E i u m led s₃ a t1 t2 tl hu ⟨rfl, k, tk, hc, hki, hm⟩ hro F₃ N₃ hoff hoa
    replace F₃ := fr_knows _ F₃ hm
    simp only [kn] at F₃
    simp only [List.nil_append, tupO] at N₃
    have hi5 : i < 500 := by
      have h1 := (List.getElem?_eq_some_iff.mp hu).1
      have h2 := toks_len 0 (stripF x).cps.toList
      have h3 : (stripF x).cps.toList.length = (stripF x).length := by simp [Str.length]
      omega
    generalize hQQ : (fun f s₃ => _ : Flow → Shared → Prop) = QQ
    have hA := JChk.fin (a := a) (oa := { cls := .type "tuple", data := .seq #[.int (u.1 : Int) t1, .str (mkS u.2) t2] }) hQQ hu hc
    k_steps
    · exact hA _ _ _ _ _ (chk_open (by assumption)) (by push_cast; rfl) (by omega) ⟨rfl, trivial⟩ ⟨GExt.refl _, rfl⟩ (by assumption) (by assumption)
    · obtain rfl : k = 0 := by omega
      show QQ _ _
      rw [← hQQ]
      refine hQ _ _ (Ext.of_ro hg (by assumption) ⟨hro.gens, hro.os⟩) ?_
      obtain ⟨hlt, he⟩ := List.getElem?_eq_some_iff.mp hu
      rw [List.drop_eq_getElem_cons hlt, he, List.map_cons, chk_close0 (by assumption) (by assumption)] at hc
      rw [us, hc]
    · obtain ⟨j, rfl⟩ : ∃ j, k = j + 1 := ⟨k - 1, by omega⟩
      exact hA _ j (((j + 1 : Nat) : Int) - 1) _ _ (chk_close (by assumption) (by assumption)) (by omega) (by omega) ⟨rfl, trivial⟩ ⟨GExt.refl _, rfl⟩ (by assumption) (by assumption)
    · exact hA _ _ _ _ _ (chk_skip (by assumption) (by assumption)) rfl (by omega) ⟨rfl, trivial⟩ ⟨GExt.refl _, rfl⟩ (by assumption) (by assumption)
  case done =>
    rintro m led s₃ ⟨rfl, k, tk, hc, hki, hm⟩ hro F₃ N₃
    replace F₃ := fr_knows _ F₃ hm
    simp only [kn] at F₃
    rw [List.drop_length] at hc
    k_steps
    refine hQ _ _ (Ext.of_ro hg (by assumption) ⟨hro.gens, hro.os⟩) ?_
    rw [us, hc]
    show Value.bool ((k : Int) == 0) = Value.bool (k == 0)
    congr 1
    by_cases hk : k = 0
    · subst hk; rfl
    · have h1 : ((k : Int) == 0) = false := by simp; omega
      rw [h1]; simp [hk]
end Mine
end
section
open PySem PySem.W PyProof.Rows PySem.Calls
set_option Elab.async false
namespace Mine
set_option maxRecDepth 100000
set_option linter.unusedVariables false
set_option maxHeartbeats 4000000
theorem fillV1 (P : Params) : Challenge.rw_qw0046_01 = Challenge.rw_qw0046_01 ∧ hd.heap_39 P = hd.heap_39 P := by
  k_fill
  exact ⟨rfl, rfl⟩



def rightT (x : Str) : Bool := chk 0 (us (stripF x))
def valT (x : Str) : Str := if rightT x = true then x else Str.ofString "('', '')"
def JVal (l : List (Str × Tok)) (R : Addr) (i : Nat) (m : Str → Option Value) (led : List (Addr × Obj)) : Prop :=
  ∃ (q : List (Str × Tok)) (k : Nat), led = [(R, W.listOf (strValues q).toArray k)] ∧ q.map (·.1) = ((l.take i).map (·.1)).map valT ∧ KnOk m [(Str.ofString "accepted_values", .ref R)]
theorem JVal.fin {l : List (Str × Tok)} {R I₀ L : Addr} {o : Obj} {i : Nat} {g : Heap} {s s₃ : Shared} {q : List (Str × Tok)} {y : Str} {QQ : Flow → Shared → Prop} {B : Shared → Prop} {C : Value → Shared → Prop}
    (hQQ : (fun f s₃ => match f with
        | .next | .cont => ∃ m' led', JVal l R (i + 1) m' led' ∧ RO s s₃ ∧ Fr g L s₃.heap m' ∧ News g L s₃.heap ((I₀, o) :: led') ∧ ∀ p ∈ led', p.1 ≠ I₀
        | .brk => B s₃
        | .ret v => C v s₃ : Flow → Shared → Prop) = QQ)
    (hy : (l[i]?).map (·.1) = some y) (hq : q.map (·.1) = ((l.take i).map (·.1)).map valT) (hro : RO s s₃) (n1 : R ≠ I₀) :
    ∀ m' z u k' s', z = valT y → KnOk m' [(Str.ofString "accepted_values", .ref R)] → RO s₃ s' → Fr g L s'.heap m' → News g L s'.heap [(I₀, o), (R, W.listOf ((strValues q).toArray.push (.str z u)) k')] → QQ .next s' := by
  intro m' z u k' s' e1 e2 e3 e4 e5
  rw [← hQQ]
  rw [sv_push] at e5
  refine ⟨m', _, ⟨q ++ [(z, u)], k', rfl, ?_, e2⟩, hro.trans e3, e4, e5, fun p hp => by rw [List.mem_singleton.mp hp]; exact n1⟩
  cases hx : l[i]? with
  | none => rw [hx] at hy; cases hy
  | some p =>
    rw [hx] at hy
    obtain rfl : p.1 = y := Option.some.inj hy
    rw [List.map_append, hq, List.take_add_one, hx, Option.toList_some, List.map_append, List.map_append, e1]; rfl
theorem lrd_strs {tl : List (Addr × Obj)} (q : List (Str × Tok)) : All2 (LRd tl) (strValues q) ((q.map (·.1)).map PyData.str) := by
  induction q with
  | nil => exact .nil
  | cons p r ih => exact .cons LRd.str ih
theorem rd_strs {h : Heap} (q : List (Str × Tok)) : All2 (Rd h) (strValues q) ((q.map (·.1)).map PyData.str) := by
  induction q with
  | nil => exact .nil
  | cons p r ih => exact .cons rd_str ih

theorem con_val {w : World} {mean : ExcName → Option Value} {mg mb : Str → Option Value} (d : Addr) (l : List (Str × Tok)) (hl100 : l.length ≤ 100) (hlen : ∀ p ∈ l, p.1.length ≤ 500 ∧ (stripF p.1).length ≤ 500) : Con w mean mg mb 49 [.ref d] 4 (fun s => s.heap.IsList d (strValues l).toArray) (fun s v s' => ∃ D n q, v = .ref D ∧ s.heap.get? D = none ∧ s'.heap.get? D = some (W.listOf (strValues q).toArray n) ∧ q.map (·.1) = (l.map (·.1)).map valT) := by
  intro A s Q E hh hd hu X T hpre hQ
  obtain ⟨ha, dp, fr, gd, un⟩ := A
  obtain rfl : ha = none := hh
  dsimp only at hd hu
  replace hh : (⟨none, dp, fr, gd, un⟩ : Around).handled = none := rfl
  refine wpAny_call ?_
  k_dflt (refine' enterF (binds := [(Str.ofString "email_header_fields", .ref d)]) X T.nolimit ?ho ?hcd ?hroom ?hbind ?hloc ?_ ?c1 ?c2 ?c3 ?c4; (case ho => k_is); (case hcd => k_is); (case hroom => (dsimp only; omega)); (case hbind => exact BindsTo.of_eq rfl); (case hloc => exact locs rfl); (case c1 => rfl); (case c2 => rfl); (case c3 => rfl); (case c4 => decide))
  k_whole
  intro g L h₁ tk₁ hg F N
  rw [← hg] at X T
  (try dsimp only)
  try k_fold
  k_steps
  rename News _ _ _ [(_, _)] => N0
  refine wpAny_For ?_
  k_steps
  refine for_list (items := strValues l) (JVal l _) hh ?hl (by assumption) N0 ⟨[], 0, rfl, rfl, rfl, trivial⟩ ?turn ?done
  case hl =>
    intro i m led h _ F' _
    obtain ⟨o, ho, r⟩ := hpre
    exact ⟨o, F'.keep _ _ (hg ▸ ho), r⟩
  case turn =>
    rintro E i v m led s₃ I₀ o hv ⟨q, k, rfl, hq, hm⟩ hit hro F₃ N₃ hoff0
    replace F₃ := fr_knows _ F₃ hm
    simp only [kn] at F₃
    have hv' : ∃ y u, v = .str y u ∧ (l[i]?).map (·.1) = some y ∧ y.length ≤ 500 ∧ (stripF y).length ≤ 500 := by
      rw [strValues, List.getElem?_map] at hv
      cases hx : l[i]? with
      | none => rw [hx] at hv; cases hv
      | some p => rw [hx] at hv; exact ⟨p.1, p.2, (Option.some.inj hv).symm, rfl, hlen p (List.mem_of_getElem? hx)⟩
    obtain ⟨y, u, rfl, hy, hy1, hy2⟩ := hv'
    have hql : q.length ≤ 100 := by
      have h1 := congrArg List.length hq
      simp only [List.length_map, List.length_take] at h1
      omega
    have hoff := neN (hoff0 _ (.head _))
    generalize hQQ : (fun f s₃ => _ : Flow → Shared → Prop) = QQ
    have hA := JVal.fin hQQ hy hq hro hoff
    k_steps
    refine Con.use (con_check y u hy1 hy2) hh (by simp only [Around.deeper]; omega) (by simp only [Around.deeper]; omega) X T (by assumption) (by assumption) (trivial) ?_
    intro v1 s1 hx1 F1 N1 hp1
    subst hp1
    cases hr : chk 0 (us (stripF y)) with
    | true =>
      k_steps
      exact hA _ y u _ _ (by rw [valT, if_pos (show rightT y = true from hr)]) ⟨rfl, trivial⟩ ⟨hx1.gens, hx1.os⟩ (by assumption) (by assumption)
    | false =>
      k_steps
      exact hA _ (Str.ofString "('', '')") _ _ _ (by rw [valT, if_neg (by rw [rightT, hr]; exact Bool.false_ne_true)]) ⟨rfl, trivial⟩ ⟨hx1.gens, hx1.os⟩ (by assumption) (by assumption)
  case done =>
    rintro m led s₃ ⟨q, k, rfl, hq, hm⟩ hro F₃ N₃
    replace F₃ := fr_knows _ F₃ hm
    simp only [kn] at F₃
    rw [strValues_length, List.take_length] at hq
    k_steps
    refine hQ _ _ (Ext.of_ro hg (by assumption) ⟨hro.gens, hro.os⟩) ⟨_, k, q, rfl, ?_, News.get N₃ (.head _), hq⟩
    rw [← hg]; exact (N₃ _ (.head _)).2.2
end Mine
end
section
open PySem PySem.W PyProof.Rows PySem.Calls
set_option Elab.async false
namespace Mine
set_option maxRecDepth 100000
set_option linter.unusedVariables false
set_option maxHeartbeats 4000000
theorem fillT0 (P : Params) : Challenge.rw_qw0046_01 = Challenge.rw_qw0046_01 ∧ hd.heap_39 P = hd.heap_39 P := by
  k_fill
  exact ⟨rfl, rfl⟩
local macro_rules | `(tactic| k_steps) => `(tactic| repeat' (
  (fail_if_success (with_reducible show wpAny _ _ (exec (Stmt.For _ _ _ _ _) _) _ _ _));
  (fail_if_success (with_reducible show wpAny _ _ (exec (Stmt.While _ _ _ _) _) _ _ _));
  (fail_if_success (with_reducible show wpAny _ _ (exec (Stmt.Try _ _ _ _ _) _) _ _ _));
  (fail_if_success (with_reducible show wpAny _ _ (exec (Stmt.Assign _ (Expr.ListComp _ _ _ _) _) _) _ _ _));
  (fail_if_success (with_reducible show wpAny _ _ (eval (Expr.ListComp _ _ _ _) _) _ _ _));
  (fail_if_success (with_reducible show wpAny _ _ (call (Value.ref _) _ _) _ _ _));
  first | (k_unfold; (try dsimp only)) | walk1 | (dsimp only; walk1)))


theorem isl_mono {h h' : Heap} {a : Addr} {vs : Array Value} (x : h.IsList a vs) (hk : ∀ b o, h.get? b = some o → h'.get? b = some o) : h'.IsList a vs := let ⟨o, ho, r⟩ := x; ⟨o, hk _ _ ho, r⟩
theorem ist_mono {h h' : Heap} {a : Addr} {vs : Array Value} (x : h.IsTuple a vs) (hk : ∀ b o, h.get? b = some o → h'.get? b = some o) : h'.IsTuple a vs := let ⟨o, ho, r⟩ := x; ⟨o, hk _ _ ho, r⟩
theorem tail_lastH {prog : Program} {w : World} {A : Around} {E : Value → Shared → Prop} {s : Shared} {D : Addr} {value slice : PySem.Expr} {vs : List Value} {y : Value} {u : Tok} {Q : Value → Shared → Prop} (hl : s.heap.IsList D (vs ++ [y]).toArray) (hf : vs.length ≤ sizeLine) (h : Q y s)
    (hs : subscripted slice false (.ref D) (.int (-1) u) = operate [.ref D, .int (-1) u] (getItem (.ref D) (.int (-1) u)) := by with_unfolding_all rfl) :
    wpAny (model prog w) A (subscriptTail value slice (.ref D) (.int (-1) u)) Q E s :=
  tail_any hl.typeIs slot_list_getitem.lookup (wpAny_getItem_list_neg hl (by decide) (by simp only [List.size_toArray, List.length_append, List.length_cons, List.length_nil]; have := sizeLine_eq; omega) (by decide) (by
    have e : ((-1 : Int) + ((vs ++ [y]).toArray.size : Int)).toNat = vs.length := by simp only [List.size_toArray, List.length_append, List.length_cons, List.length_nil]; omega
    rw [e]; simp) h) hs
def stepOf (c : List Nat) : Str := if c = [40] then Str.ofString "d" else if c = [41] then Str.ofString ".." else Str.ofString "."
theorem forget {M : Model} {A : Around} {α : Type} {m : Sem α} {Q : α → Shared → Prop} {E : Value → Shared → Prop} {h : Heap} {gens : Array GenState} {dr : Drawn} {tk : Nat} {os : OsState} (H : ∀ sh : Shared, sh.heap = h → sh.gens = gens → sh.os = os → wpAny M A m Q E sh) : wpAny M A m Q E ⟨h, gens, dr, tk, os⟩ := H _ rfl rfl rfl
theorem step_start (c : List Nat) : Txt.startswith (stepOf c) (Str.ofString "/") = false := by
  unfold stepOf; split
  · decide +kernel
  · split <;> decide +kernel
theorem step_flat {v : Value} {c : List Nat} (h : PyProof.V.Flat v ((Spec.lookup (.str (mkS c)) [(.str (Str.ofString "("), .str (Str.ofString "d")), (.str (Str.ofString ")"), .str (Str.ofString ".."))]).getD (.str (Str.ofString ".")))) : ∃ t, v = .str (stepOf c) t := by
  have e : (Spec.lookup (.str (mkS c)) [(.str (Str.ofString "("), .str (Str.ofString "d")), (.str (Str.ofString ")"), .str (Str.ofString ".."))]).getD (.str (Str.ofString ".")) = PyData.str (stepOf c) := by
    have e0 : ∀ a b : Str, Spec.same (.str a) (.str b) = (a == b) := fun a b => by rw [Spec.same]
    rw [Spec.lookup, Spec.lookup, Spec.lookup, e0, e0, op_eq, cl_eq]
    unfold stepOf
    by_cases h1 : c = [40]
    · rw [if_pos h1, h1, beq_self_eq_true, if_pos rfl, Option.getD_some]
    · have e1 : (mkS [40] == mkS c) = false := by simp only [beq_eq_false_iff_ne, ne_eq]; exact fun e => h1 (mkS_inj e).symm
      rw [if_neg h1, e1, if_neg Bool.false_ne_true]
      by_cases h2 : c = [41]
      · rw [if_pos h2, h2, beq_self_eq_true, if_pos rfl, Option.getD_some]
      · have e2 : (mkS [41] == mkS c) = false := by simp only [beq_eq_false_iff_ne, ne_eq]; exact fun e => h2 (mkS_inj e).symm
        rw [if_neg h2, e2, if_neg Bool.false_ne_true, Option.getD_none]
  rw [e] at h
  have h' := h {}
  cases h'; exact ⟨_, rfl⟩
structure StepOk (y : Str) (c : List Nat) : Prop where
  ne : y.length ≠ 0
  fin : Txt.endswith y (Str.ofString "/") = false
  slash : (Txt.slice (y ++ (Str.ofString "/" ++ stepOf c)) none (some 1) != Str.ofString "/") = true
def wayOf (y : Str) (c : List Nat) : Str := npath (y ++ (Str.ofString "/" ++ stepOf c))

theorem con_stepped {w : World} {mean : ExcName → Option Value} {mg mb : Str → Option Value} (a u : Addr) (q : List (Str × Tok)) (y : Str) (ty : Tok) (p : Nat) (c : List Nat) (t1 t2 : Tok) (hq : q.length ≤ 1000) (hy : y.length ≤ 5000) (hok : StepOk y c) : Con w mean mg mb 199 [.ref a, .ref u] 4 (fun s => s.heap.IsList a (strValues q ++ [Value.str y ty]).toArray ∧ s.heap.IsTuple u #[.int (p : Int) t1, .str (mkS c) t2]) (fun s v s' => ∃ D n tn, v = .ref D ∧ s.heap.objs.size ≤ D ∧ s'.heap.get? D = some (W.listOf (strValues q ++ [Value.str y ty, Value.str (wayOf y c) tn]).toArray n)) := by
  intro A s Q E hh hd hu X T hpre hQ
  obtain ⟨ha, dp, fr, gd, un⟩ := A
  obtain rfl : ha = none := hh
  dsimp only at hd hu
  replace hh : (⟨none, dp, fr, gd, un⟩ : Around).handled = none := rfl
  refine wpAny_call ?_
  k_dflt (refine' enterF (binds := [(Str.ofString "ways", .ref a), (Str.ofString "unit", .ref u)]) X T.nolimit ?ho ?hcd ?hroom ?hbind ?hloc ?_ ?c1 ?c2 ?c3 ?c4; (case ho => k_is); (case hcd => k_is); (case hroom => (dsimp only; omega)); (case hbind => exact BindsTo.of_eq rfl); (case hloc => exact locs rfl); (case c1 => rfl); (case c2 => rfl); (case c3 => rfl); (case c4 => decide))
  k_whole
  intro g L h₁ tk₁ hg F N
  rw [← hg] at X T
  (try dsimp only)
  try k_fold
  obtain ⟨hpl, hpt⟩ := hpre
  rw [← hg] at hpl hpt
  k_steps
  refine tail_lastH (isl_mono hpl F.keep) (by rw [strValues_length]; have := sizeLine_eq; omega) ?_ (by with_unfolding_all rfl)
  k_steps
  rename_i FF NN lod hdd hff apd l1d vv hfl
  obtain ⟨tf, rfl⟩ := step_flat hfl
  clear hdd hff hfl
  replace NN := news_sub NN (news' := []) (fun _ h => nomatch h)
  refine forget fun sh e1 e2 e3 => ?_
  replace FF : Fr g L sh.heap _ := e1 ▸ FF
  replace NN : News g L sh.heap [] := e1 ▸ NN
  have hs5 : (stepOf c).length ≤ 2 := by unfold stepOf; split; decide; split; decide; decide
  refine Con.use (con_join y (stepOf c) ty tf (by omega) (by omega) (step_start c) hok.fin hok.ne) hh (by simp only [Around.deeper]; omega) (by simp only [Around.deeper]; omega) X T (by assumption) (by assumption) (trivial) ?_
  intro v1 s1 hx1 F1 N1 hp1
  obtain ⟨tj, rfl⟩ := hp1
  k_steps
  refine Con.use (con_normpath (y ++ (Str.ofString "/" ++ stepOf c)) tj (by rw [Str.length_append, Str.length_append, len_sl]; omega) (by rw [Str.length_append]; have := hok.ne; omega) hok.slash) hh (by simp only [Around.deeper]; omega) (by simp only [Around.deeper]; omega) X T (by assumption) (by assumption) (trivial) ?_
  intro v2 s2 hx2 F2 N2 hp2
  obtain ⟨tn, rfl⟩ := hp2
  k_steps
  rename_i FQ NQ l1q
  refine add_lists FQ NQ (isl_mono hpl FQ.keep) (News.isList (items := [Value.str (npath (y ++ (Str.ofString "/" ++ stepOf c))) tn].toArray) NQ (.head _)) ?_ ?_
  · intro h9 F9 N9
    k_steps
    obtain ⟨oL, _, _, hLo, _⟩ := FQ.ns
    refine hQ _ _ (Ext.of_ro hg (by assumption) ⟨e2 ▸ hx1.gens.trans hx2.gens, (hx2.os.trans hx1.os).trans e3⟩) ⟨_, 0, tn, rfl, ?_, ?_⟩
    · rw [← hg]; exact Nat.le_trans FQ.above (Nat.le_of_lt (Heap.lt_size hLo))
    · have := News.get N9 (.head _)
      rw [List.append_assoc] at this
      exact this
  · simp only [List.length_append, strValues_length, List.length_cons, List.length_nil, sizeLine_eq]; omega
end Mine
end
section
open PySem PySem.W PyProof.Rows PySem.Calls
set_option Elab.async false
namespace Mine
set_option maxRecDepth 100000
set_option linter.unusedVariables false
set_option maxHeartbeats 4000000
theorem fillR1 (P : Params) : Challenge.rw_qw0046_01 = Challenge.rw_qw0046_01 ∧ hd.heap_39 P = hd.heap_39 P := by
  k_fill
  exact ⟨rfl, rfl⟩



/-- a call entered over an older base -/
theorem enterB {w : World} {A : Around} {s : Shared} {K : Frag} {R : Result → Shared → Prop} {name qual : Str} {params : Arguments} {body : List Stmt} {scope : Scope} {dV kV doc pm cdv ct oc : Value} {an od : Option Addr} {osl : Array (Option Value)} {f : Addr} {args : Args} {binds : List (Str × Value)} {g : Heap} {led : List (Addr × Obj)}
    (X : K.In s.heap) (hlim : s.heap.NoLimit)
    (ho : K.lookup f = some ⟨oc, od, .func (fnOf name qual params body scope dV kV doc pm an cdv ct), osl⟩) (hcd : codeIn K cdv qual = true) (hroom : A.depth < recursionLimit)
    (hbind : BindsTo s (fnOf name qual params body scope dV kV doc pm an cdv ct) args binds) (hloc : ∀ y ∈ binds, scope.names.lookup y.1 = some .local)
    (hk : ∀ b o, g.get? b = some o → s.heap.get? b = some o) (hz : g.objs.size ≤ s.heap.objs.size) (hled : ∀ p ∈ led, s.heap.get? p.1 = some p.2 ∧ g.objs.size ≤ p.1)
    (h : ∀ L h₁ tk, L = s.heap.objs.size → Fr g L h₁ (fun y => binds.reverse.lookup y) → News g L h₁ led → 
      wpAny (model PG w) (A.deeper (envOf qual scope L f cdv)) (execs body (envOf qual scope L f cdv))
        (fun fl s' => R (.ok (.ret (match fl with | .ret v => v | _ => .none))) s')
        (fun _ _ => False)
        { s with heap := h₁, toks := tk })
    (hco : scope.isCoroutine = false := by rfl) (hgen : scope.isGenerator = false := by rfl) (hkd : scope.kind = .function := by rfl)
    (hcell : ∀ x ∈ scope.names, x.2 ≠ .cell := by decide) : codeAny (model PG w) A (.call (.ref f) args) R s := by
  refine codeAny_call_def (fd := fnOf name qual params body scope dV kV doc pm an cdv ct) (body := body) (binds := binds) hroom (X _ _ ho) rfl hlim (codeRec_of X hcd) rfl hbind hcell hloc (fun h₁ hns hk₁ => ?_) hco hgen hkd
  refine wpAny_mono (h s.heap.objs.size h₁ (s.toks + binds.length) rfl ⟨hns, fun b o e => hk₁ b o (hk b o e), hz⟩ (fun p hp => ?_)) (fun fl s' hl => hl) fun _ _ y => y.elim
  exact ⟨hk₁ _ _ (hled p hp).1, Nat.ne_of_lt (Heap.lt_size (hled p hp).1), lt_of_none (hled p hp).2⟩
theorem kind_iter : builtinKind "iter" = none := by decide +kernel
theorem plain_iter : plainId "iter" = true := by decide +kernel
theorem entry_iter : entryFor table "iter" = some Builtin.«iter» := entryFor_of_tree (by kernel_rfl)
theorem args_iter1 (a : Value) : argsOk "iter" ⟨[a], []⟩ := by unfold argsOk; kernel_rfl
theorem call_iter_gen {w : World} {A : Around} {E : Value → Shared → Prop} {s : Shared} {a : Addr} {gi : Nat} {Q : Value → Shared → Prop} (hg : s.heap.IsGen a gi) (hq : Q (.ref a) s) : wpAny (model PG w) A (call (.builtin "iter") [.ref a]) Q E s := by
  refine call_function_entry_kw kind_iter plain_iter entry_iter (args_iter1 _) ?_
  show wpAny _ _ (pyIter (.ref a) >>= fun v => ret v) _ _ s
  exact wpAny_bind (wpAny_pyIter_gen hg (wpAny_pure ⟨_, rfl, hq⟩))
/-- the ways, step by step -/
def waysOf (y : Str) : List (List Nat) → List Str
  | [] => []
  | c :: r => wayOf y c :: waysOf (wayOf y c) r
/-- every way may be stepped on -/
def WaysOk (y : Str) : List (List Nat) → Prop
  | [] => True
  | c :: r => StepOk y c ∧ y.length ≤ 5000 ∧ WaysOk (wayOf y c) r
def JRed (U : List (Nat × List Nat)) (i : Nat) (m : Str → Option Value) (led : List (Addr × Obj)) : Prop :=
  ∃ (D : Addr) (n : Nat) (q : List (Str × Tok)) (y : Str) (ty : Tok), led = [(D, W.listOf (strValues q ++ [Value.str y ty]).toArray n)] ∧ q.length = i ∧ q.map (·.1) ++ [y] ++ waysOf y ((U.drop i).map (·.2)) = Str.ofString "." :: waysOf (Str.ofString ".") (U.map (·.2)) ∧ WaysOk y ((U.drop i).map (·.2)) ∧
    KnOk m [(Str.ofString "function", .ref 199), (Str.ofString "value", .ref D)]
theorem con_reduce {w : World} {mean : ExcName → Option Value} {mg mb : Str → Option Value} {A : Around} {s0 s1 s : Shared} {Q E : Value → Shared → Prop} {U : List (Nat × List Nat)} {ga Lg : Addr} {oG oL : Obj} {gs : GenState} {l0 : Addr} {n0 : Nat} {td : Tok}
    (hh : A.handled = none) (X : (hd.heap_39 w.params).In s0.heap) (hd : A.depth + 6 < recursionLimit) (hu : A.units + 8 * 6 + 100 < cLine) (T : TT mean mg mb s0.heap) (x0 : Ext s0 s)
    (h1 : s0.heap.objs.size ≤ Lg) (h2 : s0.heap.objs.size ≤ ga) (h3 : Lg ≠ ga) (h4 : s.heap.get? ga = some oG) (h5 : s.heap.get? Lg = some oL) (h6 : s.heap.IsGen ga s0.gens.size) (h7 : s.gens[s0.gens.size]? = some gs)
    (h9 : ∀ A : Around, A.handled = none → A.depth < recursionLimit → GStep w mean mg mb A U gs [Lg] [(Lg, oL)])
    (hl : s.heap.get? l0 = some (W.listOf #[Value.str (Str.ofString ".") td] n0)) (hl1 : s0.heap.objs.size ≤ l0) (hl2 : l0 ≠ ga) (hl3 : l0 ≠ Lg) (hU : U.length ≤ 500) (hok : WaysOk (Str.ofString ".") (U.map (·.2)))
    (hQ : ∀ v s', Ext s0 s' → (∃ D n q, v = .ref D ∧ s0.heap.get? D = none ∧ s'.heap.get? D = some (W.listOf (strValues q).toArray n) ∧ q.map (·.1) = Str.ofString "." :: waysOf (Str.ofString ".") (U.map (·.2))) → Q v s') :
    wpAny (model PG w) A (call (.ref 58) [.ref 199, .ref ga, .ref l0]) Q E s := by
  obtain ⟨ha, dp, fr, gd, un⟩ := A
  obtain rfl : ha = none := hh
  dsimp only at hd hu
  replace hh : (⟨none, dp, fr, gd, un⟩ : Around).handled = none := rfl
  refine wpAny_call ?_
  have X' := X.keeps x0.heap
  have T' := T.keeps x0.heap
  k_dflt (refine' enterB (g := s0.heap) (led := [(l0, W.listOf #[Value.str (Str.ofString ".") td] n0), (ga, oG), (Lg, oL)]) (binds := [(Str.ofString "function", .ref 199), (Str.ofString "sequence", .ref ga), (Str.ofString "initial", .ref l0)]) X' T'.nolimit ?ho ?hcd ?hroom ?hbind ?hloc ?hk ?hz ?hled ?_ ?c1 ?c2 ?c3 ?c4; (case ho => k_is); (case hcd => k_is); (case hroom => (dsimp only; omega)); (case hbind => exact binds_K X' rfl (by k_is) rfl rfl rfl); (case hloc => exact locs rfl); (case hk => exact x0.heap); (case hz => exact x0.size); (case hled => (intro p hp; simp only [List.mem_cons, List.not_mem_nil, or_false] at hp; rcases hp with rfl | rfl | rfl; exact ⟨hl, hl1⟩; exact ⟨h4, h2⟩; exact ⟨h5, h1⟩)); (case c1 => rfl); (case c2 => rfl); (case c3 => rfl); (case c4 => decide))
  k_whole
  intro L h₁ tk₁ hL F N
  generalize hg : s0.heap = g at *
  (try dsimp only)
  try k_fold
  k_steps
  refine call_iter_gen (gi := s0.gens.size) ?_ ?_
  · obtain ⟨o, nm, qn, ho, r⟩ := h6
    rw [h4] at ho; cases ho
    exact ⟨oG, nm, qn, (N (ga, oG) (.tail _ (.head _))).1, r⟩
  k_steps
  rename_i FQ NQ
  refine wpAny_For ?_
  k_steps
  rename_i FQ NQ
  have hLs : L ≠ Lg ∧ L ≠ ga := ⟨(NQ (Lg, oL) (.tail _ (.tail _ (.head _)))).2.1.symm, (NQ (ga, oG) (.tail _ (.head _))).2.1.symm⟩
  have G : ∀ A : Around, A.handled = none → A.depth < recursionLimit → ∀ s2 : Shared, s2.gens = s.gens → s2.os = s.os → GIn w mean mg mb A g L s0 ga oG s0.gens.size U [Lg] [(Lg, oL)] s2 := by
    intro A hh hd s2 e1 e2
    refine ⟨⟨gs, by rw [e1]; exact h7, h9 A hh hd⟩, ?_, ?_, ⟨e1 ▸ x0.gens, e2.trans x0.os⟩, ?_, ?_, ?_, ?_, ?_⟩
    · intro h e
      obtain ⟨o, nm, qn, ho, r⟩ := h6
      rw [h4] at ho; cases ho
      exact ⟨oG, nm, qn, e, r⟩
    · exact Array.getElem?_eq_none (Nat.le_refl _)
    · intro b hb
      rw [List.mem_singleton.mp hb]; exact h1
    · simp [hLs.1]
    · simp only [List.mem_singleton]; exact fun e => h3 e.symm
    · intro q hq
      rw [List.mem_singleton.mp hq]; exact .head _
    · intro b hb
      rw [List.mem_singleton.mp hb]; exact ⟨_, .head _, Nat.le_refl _⟩
  refine for_gen (U := U) (ad := [Lg]) (pv := [(Lg, oL)]) (gi := s0.gens.size) (base := s0) (oG := oG) (led₀ := [(l0, W.listOf #[Value.str (Str.ofString ".") td] n0)]) (JRed U) X T FQ ?G NQ (by
    intro p hp
    rw [List.mem_singleton.mp hp]; exact ⟨by simpa using hl3, hl2⟩) ⟨l0, n0, [], Str.ofString ".", td, rfl, rfl, rfl, hok, rfl, rfl, trivial⟩ ?turn ?done
  case G => exact G _ (by exact hh) (by simp only [Around.deeper]; omega) _ rfl rfl
  case turn =>
    rintro E i u m led s₃ a t1 t2 tl hui ⟨D, n, q, y, ty, rfl, hqi, hqw, hwo, hm⟩ hro F₃ N₃ hoff hoa
    replace F₃ := fr_knows _ F₃ hm
    simp only [kn] at F₃
    simp only [List.cons_append, List.nil_append, tupO] at N₃
    obtain ⟨hlt, he⟩ := List.getElem?_eq_some_iff.mp hui
    rw [List.drop_eq_getElem_cons hlt, he, List.map_cons] at hqw hwo
    obtain ⟨hso, hyl, hwo'⟩ := hwo
    generalize hQQ : (fun f s₃ => _ : Flow → Shared → Prop) = QQ
    k_steps
    rename_i FQ NQ
    refine Con.use (con_stepped D a q y ty u.1 u.2 t1 t2 (by omega) hyl hso) hh (by simp only [Around.deeper]; omega) (by simp only [Around.deeper]; omega) X T (by assumption) (by assumption) (⟨⟨_, News.get NQ (by k_mem), rfl, _, rfl⟩, ⟨_, News.get NQ (by k_mem), rfl, _, rfl⟩⟩) ?_
    intro v1 s1 hx1 F1 N1 hp1
    obtain ⟨D', n', tn, rfl, hD1, hD2⟩ := hp1
    have hlt' : ∀ p ∈ tl, p.1 < D' := fun p hp => Nat.lt_of_lt_of_le (Heap.lt_size (NQ p (.tail _ (.tail _ hp))).1) hD1
    have N1' := News.add FQ (news_sub N1 (news' := tl) fun p hp => .tail _ (.tail _ hp)) (lt_of_none hD1) hD2
    clear N1 NQ hD1 hD2
    k_steps
    rename_i FZ NZ
    rw [← hQQ]
    refine ⟨_, [(D', _)], ⟨D', n', q ++ [(y, ty)], wayOf y u.2, tn, rfl, ?_, ?_, hwo', rfl, rfl, trivial⟩, ⟨hx1.gens, hx1.os⟩, FZ, ?_, fun p hp => .inr ?_⟩
    · rw [List.length_append, hqi]; rfl
    · rw [← hqw, List.map_append, waysOf]; simp
    · rw [strValues_append, List.append_assoc]; exact NZ
    · rw [List.mem_singleton.mp hp]; exact hlt'
  case done =>
    rintro m led s₃ ⟨D, n, q, y, ty, rfl, hqi, hqw, hwo, hm⟩ hro F₃ N₃
    replace F₃ := fr_knows _ F₃ hm
    simp only [kn] at F₃
    k_steps
    refine hQ _ _ (Ext.of_ro hg.symm (by assumption) ⟨hro.gens, hro.os⟩) ⟨D, n, q ++ [(y, ty)], rfl, (N₃ _ (.head _)).2.2, ?_, ?_⟩
    · rw [strValues_append]; exact News.get N₃ (.head _)
    · rw [← hqw, List.drop_length, List.map_append]; simp [waysOf]
end Mine
end
section
open PySem PySem.W PyProof.Rows PySem.Calls
set_option Elab.async false
set_option autoImplicit false
set_option linter.unusedVariables false
namespace Mine
set_option maxRecDepth 100000
set_option maxHeartbeats 4000000
/-- a value of objects that a call made anew -/
def NewV (s : Shared) (v : Value) (s' : Shared) (d : PyData) : Prop := ∃ tl, LRd tl v d ∧ ∀ p ∈ tl, s'.heap.get? p.1 = some p.2 ∧ s.heap.get? p.1 = none
structure LIn (w : World) (mean : ExcName → Option Value) (mg mb : Str → Option Value) (s0 : Shared) (ga : Addr) (oG : Obj) (S : Addr) (gs : GenState) (ad : List Addr) (pv tl : List (Addr × Obj)) (acc : Array Value) (c : Nat) (s : Shared) : Prop where
  keep : ∀ b o, s0.heap.get? b = some o → s.heap.get? b = some o
  ro : RO s0 s
  off : ∀ b ∈ ad, s0.heap.objs.size ≤ b
  hpv : Holds2 pv s
  pvad : ∀ q ∈ pv, q.1 ∈ ad
  gen : s.heap.get? ga = some oG
  isg : ∀ h : Heap, h.get? ga = some oG → h.IsGen ga s0.gens.size
  hgs : s.gens[s0.gens.size]? = some gs
  adga : ga ∉ ad
  gaS : ga ≠ S
  adS : S ∉ ad
  S0 : s0.heap.objs.size ≤ S
  lst : s.heap.get? S = some { cls := .type "list", dict := none, data := .seq acc c, slots := #[] }
  htl : Holds2 tl s
  tlad : ∀ q ∈ tl, q.1 ∉ ad ∧ q.1 ≠ S ∧ s0.heap.get? q.1 = none
theorem ext_loop {w : World} {mean : ExcName → Option Value} {mg mb : Str → Option Value} {A : Around} {R : Result → Shared → Prop} {s0 : Shared} {ga S : Addr} {oG : Obj} {res : Value} {dsAll : List PyData} (X : (hd.heap_39 w.params).In s0.heap) (T : TT mean mg mb s0.heap)
    (hR : ∀ s' acc c tl, Ext s0 s' → s'.heap.get? S = some { cls := .type "list", dict := none, data := .seq acc c, slots := #[] } → Holds2 tl s' → (∀ q ∈ tl, s0.heap.get? q.1 = none) → All2 (LRd tl) acc.toList dsAll → R (.ok (.ret res)) s') :
    ∀ (U : List (Nat × List Nat)) (gs : GenState) (ad : List Addr) (pv tl : List (Addr × Obj)) (acc : Array Value) (c : Nat) (ds : List PyData) (s : Shared), GStep w mean mg mb A.in1 U gs ad pv → LIn w mean mg mb s0 ga oG S gs ad pv tl acc c s → All2 (LRd tl) acc.toList ds → dsAll = ds ++ U.map uD → dsAll.length ≤ 1000 →
      codeAny (model PG w) A (.builtin "list.extend.loop" ⟨[.ref S, .ref ga, res], []⟩) R s := by
  have hnew : s0.gens[s0.gens.size]? = none := Array.getElem?_eq_none (Nat.le_refl _)
  intro U
  induction U with
  | nil =>
    intro gs ad pv tl acc c ds s hst I hacc hds hn
    refine codeAny_builtin F.entry_extend_loop ?_
    rw [Around.under_plainId F.plain_extend_loop _]
    show wpAny _ A.in1 (pyNext (.ref ga) >>= _) _ _ s
    refine wpAny_bind (hst s0.heap ga _ s _ _ ⟨X, T, I.keep, I.off, I.hpv, I.isg _ I.gen, I.hgs⟩ fun s' mv => ?_)
    have hS' := mv.heap _ _ I.adS I.lst
    rw [List.map_nil, List.append_nil] at hds
    refine wpAny_pure (hR s' acc c tl ⟨fun b o e => mv.heap _ _ (fun q => absurd (Heap.lt_size e) (Nat.not_lt.mpr (I.off b q))) (I.keep b o e), Nat.le_trans I.S0 (Nat.le_of_lt (Heap.lt_size hS')), ?_, mv.os.trans I.ro.os⟩ hS' (fun q hq => mv.heap _ _ (I.tlad q hq).1 (I.htl q hq)) (fun q hq => (I.tlad q hq).2.2) (hds ▸ hacc))
    rw [mv.gens]; exact gext_set I.ro.gens hnew rfl
  | cons u us ih =>
    intro gs ad pv tl acc c ds s hst I hacc hds hn
    have hal : acc.size ≤ 999 := by
      have h1 := hacc.length
      have h2 := congrArg List.length hds
      simp only [List.length_append, List.length_map, List.length_cons, Array.length_toList] at h1 h2
      omega
    refine codeAny_builtin F.entry_extend_loop ?_
    rw [Around.under_plainId F.plain_extend_loop _]
    show wpAny _ A.in1 (pyNext (.ref ga) >>= _) _ _ s
    refine wpAny_bind (hst s0.heap ga _ s _ _ ⟨X, T, I.keep, I.off, I.hpv, I.isg _ I.gen, I.hgs⟩ fun a t1 t2 s' gs' ad' pv' mv hb hfr hto haad hp' hpa had hbn hst' => ?_)
    have hS' := mv.heap _ _ I.adS I.lst
    have hSlt := Heap.lt_size I.lst
    have adS' : S ∉ ad' := fun h => (had S h).elim I.adS fun h => absurd hSlt (Nat.not_lt.mpr h)
    have adga' : ga ∉ ad' := fun h => (had ga h).elim I.adga fun h => absurd (Heap.lt_size I.gen) (Nat.not_lt.mpr h)
    have aS : a ≠ S := fun e => by rw [e, I.lst] at hfr; cases hfr
    have hgi : s0.gens.size < s.gens.size := by
      rcases Nat.lt_or_ge s0.gens.size s.gens.size with h | h
      · exact h
      · have := I.hgs
        rw [Array.getElem?_eq_none h] at this; cases this
    show wpAny _ A.in1 (updateSeq S (·.push (.ref a)) >>= _) _ _ _
    refine wpAny_bind ?_
    have oth : ∀ b o, b ≠ S → s'.heap.get? b = some o → (s'.heap.update S (Obj.mapSeq (·.push (.ref a)))).get? b = some o := fun b o hb e => (Heap.get?_update_other _ _ (Ne.symm hb)).trans e
    have sz : s0.heap.objs.size ≤ s.heap.objs.size := Nat.le_trans I.S0 (Nat.le_of_lt hSlt)
    refine wpAny_updateSeq hS' rfl (wpAny_pure ⟨plainId_quiet F.plain_extend_loop _, ih gs' ad' pv' ((a, tupO u.1 t1 (mkS u.2) t2) :: tl) (acc.push (.ref a)) _ (ds ++ [uD u]) _ hst' ⟨?_, ?_, ?_, ?_, hpa, ?_, I.isg, ?_, adga', I.gaS, adS', I.S0, Heap.get?_update_self _ hS' rfl, ?_, ?_⟩ ?_ ?_ hn⟩) (by have := sizeLine_eq; omega) (by show (acc.push (.ref a)).size ≤ sizeLine + 1; rw [Array.size_push]; have := sizeLine_eq; omega)
    · exact fun b o e => oth b o (fun q => absurd (Heap.lt_size e) (Nat.not_lt.mpr (q ▸ I.S0))) (mv.heap _ _ (fun q => absurd (Heap.lt_size e) (Nat.not_lt.mpr (I.off b q))) (I.keep b o e))
    · exact ⟨by show GExt _ s'.gens; rw [mv.gens]; exact gext_set I.ro.gens hnew hb, mv.os.trans I.ro.os⟩
    · exact fun b hb => (had b hb).elim (I.off b) fun h => Nat.le_trans sz h
    · exact fun q hq => oth _ _ (fun e => adS' (e ▸ hpa q hq)) (hp' q hq)
    · exact oth _ _ I.gaS (mv.heap _ _ I.adga I.gen)
    · show s'.gens[s0.gens.size]? = some gs'
      rw [mv.gens, Array.getElem?_setIfInBounds_self, if_pos hgi]
    · intro q hq
      rcases List.mem_cons.mp hq with rfl | hq
      · exact oth _ _ aS hto
      · exact oth _ _ (I.tlad q hq).2.1 (mv.heap _ _ (I.tlad q hq).1 (I.htl q hq))
    · intro q hq
      rcases List.mem_cons.mp hq with rfl | hq
      · refine ⟨haad, aS, ?_⟩
        show s0.heap.get? a = none
        cases e : s0.heap.get? a with
        | none => rfl
        | some o => rw [I.keep a o e] at hfr; cases hfr
      · exact ⟨fun h => (had _ h).elim (I.tlad q hq).1 fun h => absurd (Heap.lt_size (I.htl q hq)) (Nat.not_lt.mpr h), (I.tlad q hq).2⟩
    · rw [Array.toList_push]
      refine (hacc.mono fun _ _ x => x.mono fun p hp => .tail _ hp).snoc ?_
      exact LRd.tuple (vs := [.int u.1 t1, .str (mkS u.2) t2]) (.head _) (.cons LRd.int (.cons LRd.str .nil))
    · rw [hds, List.map_cons, List.append_assoc]; rfl

theorem list_init {w : World} {mean : ExcName → Option Value} {mg mb : Str → Option Value} {A : Around} {R : Result → Shared → Prop} {s0 s : Shared} {ga S : Addr} {oG : Obj} {U : List (Nat × List Nat)} {gs : GenState} {ad : List Addr} {pv : List (Addr × Obj)} (X : (hd.heap_39 w.params).In s0.heap) (T : TT mean mg mb s0.heap)
    (hR : ∀ s' acc c tl, Ext s0 s' → s'.heap.get? S = some { cls := .type "list", dict := none, data := .seq acc c, slots := #[] } → Holds2 tl s' → (∀ q ∈ tl, s0.heap.get? q.1 = none) → All2 (LRd tl) acc.toList (U.map uD) → R (.ok (.ret .none)) s')
    (hst : GStep w mean mg mb A.in1 U gs ad pv) (I : LIn w mean mg mb s0 ga oG S gs ad pv [] #[] 0 s) (hU : U.length ≤ 1000) :
    wpAny (model PG w) A.in1 (Builtin.«list.__init__» ⟨[.ref S, .ref ga], []⟩)
      (fun fin s' => match fin with | .done f => R (.ok f) s' | .again c' => c'.quiet = true ∧ codeAny (model PG w) A c' R s') (fun e s' => R (.error e) s') s := by
  have up : ∀ (f : Array Value → Array Value) (c c' : Nat) (s : Shared), LIn w mean mg mb s0 ga oG S gs ad pv [] #[] c s → s.heap.get? S = some { cls := .type "list", dict := none, data := .seq #[] c, slots := #[] } → True := fun _ _ _ _ _ _ => trivial
  have hS := I.lst
  show wpAny _ A.in1 (do let old ← Builtin.List.listItems (.ref S); Builtin.List.listUpdate (.ref S) (fun _ => #[]); letGo old.toList.reverse; Builtin.List.listExtendWith (.ref S) (.ref ga) .none) _ _ s
  refine wpAny_bind ?_
  unfold Builtin.List.listItems
  refine wpAny_bind (wpAny_seqItems hS rfl (wpAny_pure ?_))
  show wpAny _ A.in1 (updateSeq S (fun _ => #[]) >>= fun _ => letGo (#[] : Array Value).toList.reverse >>= fun _ => Builtin.List.listExtendWith (.ref S) (.ref ga) .none) _ _ s
  refine wpAny_bind (wpAny_updateSeq hS rfl ?_)
  have hS₂ := Heap.get?_update_self (Obj.mapSeq (fun _ => (#[] : Array Value))) hS rfl
  have oth : ∀ b o, b ≠ S → s.heap.get? b = some o → (s.heap.update S (Obj.mapSeq (fun _ => (#[] : Array Value)))).get? b = some o :=
    fun b o hb e => (Heap.get?_update_other _ _ (Ne.symm hb)).trans e
  refine wpAny_bind (wpAny_letGo ?_)
  unfold Builtin.List.listExtendWith
  have hG₂ := oth _ _ I.gaS I.gen
  have hT : (({ s with heap := s.heap.update S (Obj.mapSeq (fun _ => (#[] : Array Value))) } : Shared)).TypeIs (.ref ga) "generator" := (I.isg _ hG₂).typeIs
  refine wpAny_bind (wpAny_typeOf hT ?_)
  have h1 : Builtin.List.listSameRef (.ref S) (.ref ga) = false := by simp [Builtin.List.listSameRef, Ne.symm I.gaS]
  have h2 : (Value.type "generator" == Value.type "list") = false := by decide
  have h3 : (Value.type "generator" == Value.type "tuple") = false := by decide
  simp only [h1, h2, h3, Bool.or_false, Bool.false_eq_true, if_false]
  refine wpAny_bind (wpAny_pyIter_gen (I.isg _ hG₂) ?_)
  refine wpAny_bind (wpAny_holding ?_)
  unfold Builtin.List.listLengthHint
  refine wpAny_bind (wpAny_specialOf hT F.gen_no_len ?_)
  show wpAny _ A.in1 (specialOf (Value.ref ga) (Str.ofString "__length_hint__") >>= _) _ _ _
  refine wpAny_bind (wpAny_specialOf hT F.gen_no_hint ?_)
  refine wpAny_pure ?_
  show wpAny _ A.in1 (rule "list.extend.makes-room" >>= fun _ => Builtin.List.listTouch (.ref S) >>= fun _ =>
    again (.builtin "list.extend.loop" ⟨[.ref S, .ref ga, .none], []⟩)) _ _ _
  refine wpAny_bind (wpAny_rule ?_)
  refine wpAny_bind ?_
  show wpAny _ A.in1 (updateSeq S (·.push .none) >>= fun _ => updateSeq S (·.pop)) _ _ _
  refine wpAny_bind (wpAny_updateSeq hS₂ rfl ?_)
  have hS₃ := Heap.get?_update_self (Obj.mapSeq (·.push Value.none)) hS₂ rfl
  refine wpAny_updateSeq (hz := by seq_fits) hS₃ rfl ?_
  have hS₄ := Heap.get?_update_self (Obj.mapSeq (·.pop)) hS₃ rfl
  have oth' : ∀ b o, b ≠ S → s.heap.get? b = some o → (((s.heap.update S (Obj.mapSeq (fun _ => (#[] : Array Value)))).update S (Obj.mapSeq (·.push Value.none))).update S (Obj.mapSeq (·.pop))).get? b = some o :=
    fun b o hb e => (Heap.get?_update_other _ _ (Ne.symm hb)).trans ((Heap.get?_update_other _ _ (Ne.symm hb)).trans (oth b o hb e))
  refine wpAny_pure ⟨plainId_quiet F.plain_extend_loop _, ext_loop X T hR U gs ad pv [] #[] _ [] _ hst ⟨?_, ⟨I.ro.gens, I.ro.os⟩, I.off, ?_, I.pvad, oth' _ _ I.gaS I.gen, I.isg, I.hgs, I.adga, I.gaS, I.adS, I.S0, hS₄, (fun q hq => nomatch hq), (fun q hq => nomatch hq)⟩ .nil rfl (by simpa using hU)⟩
  · exact fun b o e => oth' b o (fun q => absurd (Heap.lt_size e) (Nat.not_lt.mpr (q ▸ I.S0))) (I.keep b o e)
  · exact fun q hq => oth' _ _ (fun e => I.adS (e ▸ I.pvad q hq)) (I.hpv q hq)
theorem list_gen {w : World} {mean : ExcName → Option Value} {mg mb : Str → Option Value} {A : Around} {s0 s : Shared} {Q E : Value → Shared → Prop} {U : List (Nat × List Nat)} {v : Value}
    (hh : A.handled = none) (hdp : A.depth + 3 < recursionLimit) (X : (hd.heap_39 w.params).In s0.heap) (T : TT mean mg mb s0.heap) (x0 : Ext s0 s) (NG : NewGen w mean mg mb U s0 v s) (hU : U.length ≤ 1000)
    (hQ : ∀ v s', Ext s0 s' → NewV s0 v s' (.list (U.map uD)) → Q v s') : wpAny (model PG w) A (call (.type "list") [v]) Q E s := by
  obtain ⟨ga, Lg, oG, oL, gs, rfl, h1, h2, h3, h4, h5, h6, h7, h8, h9⟩ := NG.it
  refine callType_codes (Q₁ := fun obj s₁ => obj = .ref s.heap.objs.size ∧ s₁ = { s with heap := s.heap.push { cls := .type "list", data := .seq #[] } }) F.called_list (F.typeCall_list_1 _) F.entry_list_init
    (code_list_new _ ⟨rfl, rfl⟩) fun obj s₁ hq => ?_
  obtain ⟨rfl, rfl⟩ := hq
  have hS : (s.heap.push { cls := .type "list", data := .seq #[] }).get? s.heap.objs.size = some { cls := .type "list", data := .seq #[] } := Heap.get?_push_size _ rfl
  refine ⟨⟨_, hS, rfl⟩, F.args_list_init_2 _ _, list_init X T ?_ (h9 _ hh (by simp only [Around.in1]; omega)) ⟨?_, ⟨x0.gens, x0.os⟩, ?_, ?_, ?_, Heap.get?_push_of_some _ h4, ?_, h7, ?_, ?_, ?_, x0.size, hS, (fun q hq => nomatch hq), (fun q hq => nomatch hq)⟩ hU⟩
  · intro s' acc c tl hx hl ht hn hall
    refine ⟨rfl, hQ _ _ hx ⟨(s.heap.objs.size, W.listOf acc.toList.toArray c) :: tl, LRd.list (vs := acc.toList) (n := c) (.head _) (hall.mono fun _ _ r => r.mono fun p hp => .tail _ hp), ?_⟩⟩
    intro p hp
    rcases List.mem_cons.mp hp with rfl | hp
    · refine ⟨by simpa using hl, ?_⟩
      show s0.heap.get? s.heap.objs.size = none
      cases e : s0.heap.get? s.heap.objs.size with
      | none => rfl
      | some o => exact absurd (Heap.lt_size (x0.heap _ _ e)) (Nat.lt_irrefl _)
    · exact ⟨ht p hp, hn p hp⟩
  · exact fun b o e => Heap.get?_push_of_some _ (x0.heap b o e)
  · intro b hb
    rw [List.mem_singleton.mp hb]; exact h1
  · intro q hq
    rw [List.mem_singleton.mp hq]; exact Heap.get?_push_of_some _ h5
  · intro q hq
    rw [List.mem_singleton.mp hq]; exact .head _
  · intro h e
    obtain ⟨o, nm, qn, ho, r⟩ := h6
    rw [h4] at ho; cases ho
    exact ⟨oG, nm, qn, e, r⟩
  · simp only [List.mem_singleton]; exact fun e => h3 e.symm
  · exact Nat.ne_of_lt (Heap.lt_size h4)
  · simp only [List.mem_singleton]; exact Nat.ne_of_gt (Heap.lt_size h5)
end Mine
end
section
open PySem PySem.W PyProof.Rows PySem.Calls
set_option Elab.async false
namespace Mine
set_option maxRecDepth 100000
set_option linter.unusedVariables false
set_option maxHeartbeats 4000000
theorem fillK1 (P : Params) : Challenge.rw_qw0046_01 = Challenge.rw_qw0046_01 ∧ hd.heap_39 P = hd.heap_39 P := by
  k_fill
  exact ⟨rfl, rfl⟩


/-- the way that is due -/
def wayDue (up down : Nat) : Str := if up + down > 0 then Str.join (Str.ofString "/") (List.replicate up (Str.ofString "..") ++ List.replicate down (Str.ofString "d")) else Str.ofString "."
theorem mul_str1 {prog : Program} {w : World} {A : Around} {E : Value → Shared → Prop} {s : Shared} {g : Heap} {L l : Addr} {m : Str → Option Value} {news : List (Addr × Obj)} {x : Str} {t : Tok} {n : Nat} {up : Int} {u : Tok} {Q : Value → Shared → Prop} (F : Fr g L s.heap m) (N : News g L s.heap news) (hm : (l, W.listOf #[Value.str x t] n) ∈ news) (h0 : 0 ≤ up) (h1 : up ≤ 100000)
    (h : ∀ D h', Fr g L h' m → News g L h' ((D, W.listOf (strValues (List.replicate up.toNat (x, t))).toArray 0) :: news) → (∀ p ∈ news, p.1 < D) → Q (.ref D) { s with heap := h' }) : wpAny (model prog w) A (binaryOp .Mult (.ref l) (.int up u)) Q E s := by
  refine mul_list F N (N.get hm) (by omega) (by omega) (by simp only [List.size_toArray, List.length_cons, List.length_nil]; omega) fun h' F' N' => h _ h' F' ?_ fun p hp => Heap.lt_size (N p hp).1
  have e : List.foldl (fun x1 x2 => x1 ++ x2) #[] (List.replicate (if (#[Value.str x t]).isEmpty = true then 0 else up.toNat) #[Value.str x t]) = (strValues (List.replicate up.toNat (x, t))).toArray := by
    rw [listMul_foldl, if_neg (by simp)]
    simp only [List.nil_append, lm_rep_flat_one, strValues, List.map_replicate]
  rw [e] at N'
  exact N'
theorem add_strs {prog : Program} {w : World} {A : Around} {E : Value → Shared → Prop} {s : Shared} {g : Heap} {L l b : Addr} {m : Str → Option Value} {news : List (Addr × Obj)} {xs ys : List (Str × Tok)} {n k : Nat} {Q : Value → Shared → Prop} (F : Fr g L s.heap m) (N : News g L s.heap news) (hm : (l, W.listOf (strValues xs).toArray n) ∈ news) (hk : (b, W.listOf (strValues ys).toArray k) ∈ news) (hz : xs.length + ys.length ≤ 1000000)
    (h : ∀ D h', Fr g L h' m → News g L h' ((D, W.listOf (strValues (xs ++ ys)).toArray 0) :: news) → (∀ p ∈ news, p.1 < D) → Q (.ref D) { s with heap := h' }) : wpAny (model prog w) A (binaryOp .Add (.ref l) (.ref b)) Q E s :=
  add_lists F N ⟨_, N.get hm, rfl, n, rfl⟩ ⟨_, N.get hk, rfl, k, rfl⟩ (fun h' F' N' => h _ h' F' (by rw [strValues_append]; exact N') fun p hp => Heap.lt_size (N p hp).1) (by rw [strValues_length, strValues_length, sizeLine_eq]; omega)
theorem join_strs {prog : Program} {w : World} {A : Around} {E : Value → Shared → Prop} {s : Shared} {g : Heap} {L l : Addr} {news : List (Addr × Obj)} {xs : List (Str × Tok)} {n : Nat} {y : Str} {t : Tok} {Q : Value → Shared → Prop} (N : News g L s.heap news) (hm : (l, W.listOf (strValues xs).toArray n) ∈ news) (hz : JoinOk y (xs.map (·.1)) = true)
    (h : ∀ t' k, Q (.str (Str.join y (xs.map (·.1))) t') { s with toks := k }) : wpAny (model prog w) A (call (.builtin "str.join") [.str y t, .ref l]) Q E s := by
  refine SC.join (News.isList N hm) rfl hz ?_
  rw [txt_join]
  exact h
theorem due_ok {u d : Nat} {t t' : Tok} (h : u + d ≤ 100000) : JoinOk (Str.ofString "/") ((List.replicate u (Str.ofString "..", t) ++ List.replicate d (Str.ofString "d", t')).map (·.1)) = true := by
  refine joinOk_of_weight ?_ (by decide)
  simp only [List.map_append, List.map_replicate, List.sum_append, List.length_append, List.length_replicate, List.sum_replicate_nat]
  have e1 : (Str.ofString "..").length = 2 := by decide
  have e2 : (Str.ofString "d").length = 1 := by decide
  rw [e1, e2]; omega
theorem due_is {u d : Nat} {a b : Int} {t t' : Tok} (ha : a = (u : Int)) (hb : b = (d : Int)) (h : 0 < a + b) : Str.join (Str.ofString "/") ((List.replicate a.toNat (Str.ofString "..", t) ++ List.replicate b.toNat (Str.ofString "d", t')).map (·.1)) = wayDue u d := by
  subst ha; subst hb
  rw [wayDue, if_pos (by omega), List.map_append, List.map_replicate, List.map_replicate]; rfl
theorem due_dot {u d : Nat} {a b : Int} (ha : a = (u : Int)) (hb : b = (d : Int)) (h : ¬ 0 < a + b) : Str.ofString "." = wayDue u d := by
  rw [wayDue, if_neg (by omega)]
local macro_rules | `(tactic| walk_at "binaryOp Mult ref int") => `(tactic| (k_dflt (refine' mul_str1 ?k1 ?k2 ?k3 ?k4 ?k5 ?_; (case k1 => k_asm); (case k2 => k_asm); (case k3 => k_mem); (case k4 => omega); (case k5 => omega); k_whole); (intro D' h' F' N' l1; (try k_lt l1); (try k_sweep))))
local macro_rules | `(tactic| walk_at "binaryOp Add ref ref") => `(tactic| (k_dflt (refine' add_strs ?k1 ?k2 ?k3 ?k4 ?k5 ?_; (case k1 => k_asm); (case k2 => k_asm); (case k3 => k_mem); (case k4 => k_mem); (case k5 => (simp only [List.length_replicate]; omega)); k_whole); (intro D' h' F' N' l1; (try k_lt l1); (try k_sweep))))
local macro_rules | `(tactic| walk_at "call builtin:str.join") => `(tactic| (k_dflt (refine' join_strs ?k1 ?k2 ?k3 ?_; (case k1 => k_asm); (case k2 => k_mem); (case k3 => (refine due_ok ?_; omega)); k_whole); intro t9 k9))


theorem way_expr {w : World} {mean : ExcName → Option Value} {mg mb : Str → Option Value} {A : Around} {s : Shared} {g : Heap} {L f : Addr} {cdv : Value} {m : Str → Option Value} {a b : Int} {ta tb : Tok} {p0 p1 p2 p3 p4 p5 p8 p9 q1 q2 q3 q4 q5 q6 q7 q9 : Pos} {led : List (Addr × Obj)} {E Q : Value → Shared → Prop}
    (X : (hd.heap_39 w.params).In g) (T : TT mean mg mb g) (hh : A.handled = none) (hd : A.depth + 1 < recursionLimit) (hu : A.units + 100 < cLine) (F : Fr g L s.heap m) (hm : KnOk m [(Str.ofString "up", .int a ta), (Str.ofString "down", .int b tb)]) (N : News g L s.heap led) (ha : 0 ≤ a) (hb : 0 ≤ b) (hab : a + b ≤ 10000)
    (h : ∀ t h' k, Fr g L h' m → News g L h' led → Q (.str (wayDue a.toNat b.toNat) t) { s with heap := h', toks := k }) :
    wpAny (model PG w) A (eval (.IfExp (.Compare (.BinOp (.Name (Str.ofString "up") p1) .Add (.Name (Str.ofString "down") p2) p3) [.Gt] [.Constant (.int 0) 0 p4] p5)
      (.Call (.Attribute (.Constant (.str (Str.ofString "/")) 0 ⟨225, 20, 225, 23⟩) (Str.ofString "join") ⟨225, 20, 225, 28⟩) [.BinOp (.BinOp (.List [.Constant (.str (Str.ofString "..")) 0 p8] p9) .Mult (.Name (Str.ofString "up") q1) q2) .Add (.BinOp (.List [.Constant (.str (Str.ofString "d")) 0 q3] q4) .Mult (.Name (Str.ofString "down") q5) q6) q7] [] ⟨225, 20, 225, 56⟩)
      (.Constant (.str (Str.ofString ".")) 0 q9) p0) (envOf (Str.ofString "_law_walked") { kind := ScopeKind.function, names := [(Str.ofString "text", NameKind.local), (Str.ofString "up", NameKind.local), (Str.ofString "down", NameKind.local), (Str.ofString "ways", NameKind.local), (Str.ofString "place", NameKind.local), (Str.ofString "sign", NameKind.local), (Str.ofString "_law_units", NameKind.globalImplicit)], isGenerator := false, isCoroutine := false } L f cdv)) Q E s := by
  have F₁ := fr_knows _ F hm
  have hkn := kn_eq hm
  simp only [kn] at F₁ hkn
  obtain ⟨h0, gg, dr, tk, os⟩ := s
  dsimp only at F₁ N h
  clear F hm
  generalize hQQ : Q = QQ
  k_steps
  · rw [← hQQ, due_is (u := a.toNat) (d := b.toNat) (by omega) (by omega) (by assumption)]
    refine h _ _ _ (by rw [hkn] at *; assumption) (news_sub (by assumption) ?_)
    intro p hp
    simp [hp]
  · rw [← hQQ, due_dot (u := a.toNat) (d := b.toNat) (a := a) (b := b) (by omega) (by omega) (by assumption)]
    exact h _ _ _ (by rw [hkn] at F₁; exact F₁) N
end Mine
end
section
open PySem PySem.W PyProof.Rows PySem.Calls
set_option Elab.async false
set_option autoImplicit false
set_option linter.unusedVariables false
namespace Mine
set_option maxRecDepth 100000
set_option maxHeartbeats 4000000
abbrev goList : List String := ["enumerate", "zip", "dict_itemiterator", "dict_reverseitemiterator", "odict_iterator", "itertools.zip_longest", "itertools.pairwise"]

/-- what a comprehension walks over: the iterator's object at each place -/
structure CS (w : World) (A : Around) (g : Heap) (L : Addr) (led : List (Addr × Obj)) (n : Nat) (P : Nat → Value → Prop) (It : Nat → Obj → Prop) : Prop where
  item : ∀ (i : Nat) (I : Addr) (o : Obj) (s : Shared) (Q : Option Value → Shared → Prop) (E : Value → Shared → Prop), i < n → It i o → s.heap.get? I = some o → (∀ b o, g.get? b = some o → s.heap.get? b = some o) → News g L s.heap led →
    (∀ v h' tk o', P i v → It (i + 1) o' → h'.get? I = some o' → Heap.ExtBut I s.heap h' → Q (some v) { s with heap := h', toks := tk }) → wpAny (model PG w) A (pyNext (.ref I)) Q E s
  done : ∀ (I : Addr) (o : Obj) (s : Shared) (Q : Option Value → Shared → Prop) (E : Value → Shared → Prop), It n o → s.heap.get? I = some o → (∀ b o, g.get? b = some o → s.heap.get? b = some o) → News g L s.heap led →
    (∀ h', Heap.ExtBut I s.heap h' → Q none { s with heap := h' }) → wpAny (model PG w) A (pyNext (.ref I)) Q E s
  self : ∀ (i : Nat) (I : Addr) (o : Obj) (s : Shared) (Q : Value → Shared → Prop) (E : Value → Shared → Prop), It i o → s.heap.get? I = some o → Q (.ref I) s → wpAny (model PG w) A (pyIter (.ref I)) Q E s
  go : ∀ i o, It i o → ∃ c, o.cls = .type c ∧ goList.contains c = false
  nf : ∀ i o, It i o → o.isFreed = false
theorem CS.list {w : World} {A : Around} {g : Heap} {L l : Addr} {led : List (Addr × Obj)} {items : List Value} (hh : A.handled = none) (hl : ∀ h : Heap, (∀ b o, g.get? b = some o → h.get? b = some o) → News g L h led → h.IsList l items.toArray) :
    CS w A g L led items.length (fun i v => items[i]? = some v) (fun i o => IsIt o l i) where
  item := fun i I o s Q E hi it ho k N hQ => by
    have hx : items[i]? = some items[i] := List.getElem?_eq_getElem hi
    refine wpAny_pyNext_list_item ⟨o, ho, it.1, it.2⟩ (hl _ k N) (x := items[i]) (by simp [hi]) fun h' hit hs => ?_
    obtain ⟨o', ho', hc', hd'⟩ := hit
    exact hQ _ h' s.toks o' hx ⟨hc', hd'⟩ ho' hs.extBut
  done := fun I o s Q E it ho k N hQ => wpAny_pyNext_list_end hh ⟨o, ho, it.1, it.2⟩ (hl _ k N) (by simp) fun h' hk => hQ h' hk
  self := fun i I o s Q E it ho hq => wpAny_pyIter_listiter ⟨o, ho, it.1, it.2⟩ hq
  go := fun i o it => ⟨_, it.1, by decide +kernel⟩
  nf := fun i o it => by obtain ⟨c, d, dt, sl⟩ := o; obtain ⟨h1, h2⟩ := it; dsimp only at h2; subst h2; rfl
abbrev rangeO (x left step : Int) : Obj := { cls := .type "range_iterator", dict := none, data := .fields #[rawInt x, rawInt left, rawInt step], slots := #[] }
theorem CS.range {w : World} {A : Around} {g : Heap} {L : Addr} {led : List (Addr × Obj)} {a c : Int} {n : Nat} (hh : A.handled = none) :
    CS w A g L led n (fun i v => ∃ t, v = .int (a + i * c) t) (fun i o => o = rangeO (a + (i : Nat) * c) ((n : Int) - (i : Nat)) c) where
  item := fun i I o s Q E hi it ho k N hQ => by
    subst it
    refine wpAny_pyNext_range_item ho (by omega) fun h' hit hs => ?_
    refine hQ _ h' _ _ ⟨_, rfl⟩ rfl ?_ hs.extBut
    have e1 : a + ((i + 1 : Nat) : Int) * c = a + (i : Int) * c + c := by push_cast; rw [Int.add_mul, Int.one_mul, Int.add_assoc]
    have e2 : (n : Int) - ((i + 1 : Nat) : Int) = (n : Int) - (i : Int) - 1 := by push_cast; omega
    rw [e1, e2]; exact hit
  done := fun I o s Q E it ho k N hQ => by
    subst it
    exact wpAny_pyNext_range_end hh ho (by omega) fun h' hk => hQ h' hk
  self := fun i I o s Q E it ho hq => by
    subst it
    exact wpAny_pyIter_rangeiter ho hq
  go := fun i o it => ⟨"range_iterator", by rw [it], by decide +kernel⟩
  nf := fun i o it => by rw [it]; rfl

abbrev testsOf (ifs : List Expr) (env : Env) : Sem Bool := forIn ifs true fun c r => if r = true then do let ok ← isTrue c env (eval c env); pure (ForInStep.yield ok) else pure (ForInStep.yield r)
theorem compLoop_any {w : World} {A : Around} {R : Result → Shared → Prop} {s : Shared} {elt target iter : Expr} {ifs : List Expr} {scope : Scope} {pos : Pos} {it acc : Value} {env : Env} (I : Nat → Shared → Prop)
    (turn : ∀ (E : Value → Shared → Prop) n s, I n s → wpAny (model PG w) A (pyNext it) (fun r s₁ => match r with
      | none => R (.ok .next) s₁
      | some v => wpAny (model PG w) A (letOwnedTupleGo target it v) (fun _ s₁' => wpAny (model PG w) A (assign target env v) (fun _ s₂ =>
          wpAny (model PG w) A (testsOf ifs env) (fun ok s₃ =>
            if ok = true then wpAny (model PG w) A (eval elt env) (fun x s₄ =>
              wpAny (model PG w) A (call (.builtin "list.append") [acc, x]) (fun _ s₅ => ∃ m, m < n ∧ I m s₅) E s₄) E s₃
            else ∃ m, m < n ∧ I m s₃) E s₂) E s₁') E s₁) E s)
    (n : Nat) (h : I n s) :
    codeAny (model PG w) A (.compLoop (.ListComp elt [⟨target, iter, ifs, 0⟩] scope pos) 0 it acc env) R s := by
  refine codeAny_loop rfl I (fun n s hI => ?_) n h
  show wpAny _ A ((compTurn (.ListComp elt [⟨target, iter, ifs, 0⟩] scope pos) 0 it acc env).onRaise (fun x => do noteFrame x env; theTreesLotGoes x)) _ _ s
  refine wpAny_noted ?_
  rw [compTurn_list]
  refine wpAny_bind (wpAny_standAt (wpAny_bind (wpAny_mono (turn _ n s hI) (fun r s₁ h₁ => ?_) fun _ _ h' => h')))
  cases r with
  | none => exact wpAny_pure h₁
  | some v =>
    refine wpAny_bind (wpAny_mono h₁ (fun _ s₁' h₁' => ?_) fun _ _ h' => h')
    refine wpAny_bind (wpAny_mono h₁' (fun _ s₂ h₂ => wpAny_bind (wpAny_mono h₂ (fun ok s₃ h₃ => ?_) fun _ _ h' => h')) fun _ _ h' => h')
    cases ok with
    | false => exact wpAny_pure ⟨rfl, h₃⟩
    | true =>
      exact wpAny_bind (wpAny_bind (wpAny_mono h₃ (fun x s₄ h₄ => wpAny_bind (wpAny_mono h₄ (fun _ s₅ h₅ => wpAny_pure (wpAny_pure ⟨rfl, h₅⟩)) fun _ _ h' => h')) fun _ _ h' => h'))

/-- a turn's end: all that stood stands, the block's own names apart -/
def TEnd (g : Heap) (L : Addr) (m : Str → Option Value) (C : Addr) (led rest : List (Addr × Obj)) (s s' : Shared) : Prop :=
  ∃ oC mC, LCg.NsObj oC mC ∧ Fr g L s'.heap m ∧ News g L s'.heap ((C, oC) :: (led ++ rest)) ∧ RO s s'
/-- what an element is, of objects of its own -/
def EltIs (g : Heap) (L C : Addr) (rest : List (Addr × Obj)) (y : Value) (d : PyData) (s : Shared) : Prop :=
  ∃ tl, LRd tl y d ∧ News g L s.heap tl ∧ ∀ p ∈ tl, p.1 ≠ C ∧ ∀ q ∈ rest, p.1 ≠ q.1
def CTurn (w : World) (A : Around) (g : Heap) (L : Addr) (m : Str → Option Value) (led : List (Addr × Obj)) (cenv : Env) (C : Addr) (elt target : Expr) (ifs : List Expr) (P : Nat → Value → Prop) (outs : List (Option PyData)) (s₁ : Shared) : Prop :=
  ∀ (E : Value → Shared → Prop) (i : Nat) (out : Option PyData) (v : Value) (oC : Obj) (mC : Str → Option Value) (rest : List (Addr × Obj)) (s₃ : Shared), outs[i]? = some out → P i v → LCg.NsObj oC mC → RO s₁ s₃ → Fr g L s₃.heap m → News g L s₃.heap ((C, oC) :: (led ++ rest)) → (∀ p ∈ led ++ rest, p.1 ≠ C) →
    wpAny (model PG w) A (assign target cenv v) (fun _ s₄ => wpAny (model PG w) A (testsOf ifs cenv) (fun ok s₅ => match out with
      | none => ok = false ∧ TEnd g L m C led rest s₃ s₅
      | some d => ok = true ∧ wpAny (model PG w) A (eval elt cenv) (fun y s₆ => TEnd g L m C led rest s₃ s₆ ∧ EltIs g L C rest y d s₆) E s₅) E s₄) E s₃

theorem news_at {g h : Heap} {L a : Addr} {o : Obj} {led : List (Addr × Obj)} (h1 : h.get? a = some o) (h2 : a ≠ L) (h3 : g.get? a = none) : ∀ p : Addr × Obj, p = (a, o) → h.get? p.1 = some p.2 ∧ p.1 ≠ L ∧ g.get? p.1 = none := by
  rintro p rfl; exact ⟨h1, h2, h3⟩
theorem comp_loop {w : World} {A : Around} {g : Heap} {L : Addr} {m : Str → Option Value} {led : List (Addr × Obj)} {n : Nat} {P : Nat → Value → Prop} {It : Nat → Obj → Prop} {R : Result → Shared → Prop} {s₁ s : Shared} {I C D : Addr} {elt target iter : Expr} {ifs : List Expr} {scope : Scope} {pos : Pos} {cenv : Env} {outs : List (Option PyData)} {oI : Obj} {k₀ : Nat}
    (S : CS w A g L led n P It) (hn : outs.length = n) (hsz : n ≤ 100000)
    (hIL : I ≠ L) (hCL : C ≠ L) (hDL : D ≠ L) (hI0 : g.get? I = none) (hC0 : g.get? C = none) (hD0 : g.get? D = none) (hIC : I ≠ C) (hID : I ≠ D) (hCD : C ≠ D) (hled : ∀ p ∈ led, p.1 ≠ I ∧ p.1 ≠ C ∧ p.1 ≠ D)
    (turn : CTurn w A g L m led cenv C elt target ifs P outs s₁)
    (fin : ∀ s' ys k tl, Fr g L s'.heap m → RO s₁ s' → (∃ m, s'.heap.Ns C m) → News g L s'.heap ((D, W.listOf ys.toArray k) :: (led ++ tl)) → All2 (LRd tl) ys (outs.filterMap id) → (∀ p ∈ tl, p.1 ≠ C ∧ p.1 ≠ D) → R (.ok .next) s')
    (F : Fr g L s.heap m) (ro : RO s₁ s) (hIo : s.heap.get? I = some oI) (hit : It 0 oI) (hns : ∃ m, s.heap.Ns C m) (hD : s.heap.get? D = some (W.listOf #[] k₀)) (N : News g L s.heap led) :
    codeAny (model PG w) A (.compLoop (.ListComp elt [⟨target, iter, ifs, 0⟩] scope pos) 0 (.ref I) (.ref D) cenv) R s := by
  refine compLoop_any (I := fun k s' => ∃ i ys kk tl oI, k + i = n ∧ It i oI ∧ s'.heap.get? I = some oI ∧ Fr g L s'.heap m ∧ RO s₁ s' ∧ (∃ mC, s'.heap.Ns C mC) ∧ News g L s'.heap ((D, W.listOf ys.toArray kk) :: (led ++ tl)) ∧ All2 (LRd tl) ys ((outs.take i).filterMap id) ∧ ys.length ≤ i ∧ ∀ p ∈ tl, p.1 ≠ I ∧ p.1 ≠ C ∧ p.1 ≠ D) ?_ n
    ⟨0, [], k₀, [], oI, rfl, hit, hIo, F, ro, hns, ?_, .nil, Nat.le_refl _, fun _ h => nomatch h⟩
  rotate_left
  · rw [List.append_nil]
    exact news_cons N hD hDL hD0
  rintro E k s' ⟨i, ys, kk, tl, oI, hk, hit, hIo, F', ro', ⟨mC, hC⟩, N', hall, hyl, htl⟩
  have Nled : News g L s'.heap led := fun p hp => N' p (.tail _ (List.mem_append_left _ hp))
  cases hx : outs[i]? with
  | none =>
    have hi : i = n := by
      have := List.getElem?_eq_none_iff.mp hx; omega
    subst hi
    refine S.done I oI s' _ _ hit hIo F'.keep Nled fun h' he => ?_
    refine fin _ ys kk tl (fr_sameBut F' he hIL hI0) ⟨ro'.gens, ro'.os⟩ ⟨mC, ?_⟩ (news_extBut N' he ?_) ?_ (fun p hp => (htl p hp).2)
    · obtain ⟨oC, es, ep, e, r⟩ := hC
      exact ⟨oC, es, ep, he _ _ (Ne.symm hIC) e, r⟩
    · intro p hp
      rcases List.mem_cons.mp hp with rfl | hp
      · exact Ne.symm hID
      · rcases List.mem_append.mp hp with hp | hp
        · exact (hled p hp).1
        · exact (htl p hp).1
    · rw [← hn, List.take_length] at hall
      exact hall
  | some out =>
    have hlt : i < n := by
      have := (List.getElem?_eq_some_iff.mp hx).1; omega
    refine S.item i I oI s' _ _ hlt hit hIo F'.keep Nled fun v h' tk o' hP hit' ho' he => ?_
    obtain ⟨c, hc, hgo⟩ := S.go _ _ hit'
    refine let_go_it ho' hc hgo ?_
    obtain ⟨oC, es, ep, hCo, r⟩ := hC
    have hCo' := he _ _ (Ne.symm hIC) hCo
    have F₃ := fr_sameBut F' he hIL hI0
    have N₃ : News g L h' ((D, W.listOf ys.toArray kk) :: (led ++ tl)) := news_extBut N' he (by
      intro p hp
      rcases List.mem_cons.mp hp with rfl | hp
      · exact Ne.symm hID
      · rcases List.mem_append.mp hp with hp | hp
        · exact (hled p hp).1
        · exact (htl p hp).1)
    have N₄ : News g L h' ((C, oC) :: (led ++ ((I, o') :: (D, W.listOf ys.toArray kk) :: tl))) := by
      intro p hp
      rcases List.mem_cons.mp hp with rfl | hp
      · exact ⟨hCo', hCL, hC0⟩
      · rcases List.mem_append.mp hp with hp | hp
        · exact N₃ p (.tail _ (List.mem_append_left _ hp))
        · rcases List.mem_cons.mp hp with rfl | hp
          · exact ⟨ho', hIL, hI0⟩
          · rcases List.mem_cons.mp hp with rfl | hp
            · exact N₃ _ (.head _)
            · exact N₃ p (.tail _ (List.mem_append_right _ hp))
    refine wpAny_mono (turn E i out v oC mC ((I, o') :: (D, W.listOf ys.toArray kk) :: tl) { s' with heap := h', toks := tk } hx hP ⟨es, ep, r⟩ ⟨ro'.gens, ro'.os⟩ F₃ N₄ ?_) (fun _ s₄ h₄ => wpAny_mono h₄ (fun ok s₅ h₅ => ?_) fun _ _ e => e) fun _ _ e => e
    · intro p hp
      rcases List.mem_append.mp hp with hp | hp
      · exact (hled p hp).2.1
      · rcases List.mem_cons.mp hp with rfl | hp
        · exact hIC
        · rcases List.mem_cons.mp hp with rfl | hp
          · exact Ne.symm hCD
          · exact (htl p hp).2.1
    have htk : outs.take (i + 1) = outs.take i ++ [out] := by rw [List.take_add_one, hx]; rfl
    cases out with
    | none =>
      obtain ⟨rfl, oC', mC', hoC', F₅, N₅, ro₅⟩ := h₅
      simp only [Bool.false_eq_true, if_false]
      refine ⟨k - 1, by omega, i + 1, ys, kk, tl, o', by omega, hit', (N₅ (I, o') (.tail _ (List.mem_append_right _ (.head _)))).1, F₅, ⟨ro'.gens.trans ro₅.gens, ro₅.os.trans ro'.os⟩, ⟨mC', hoC'.ns (N₅ (C, oC') (.head _)).1⟩, ?_, ?_, by omega, htl⟩
      · intro p hp
        rcases List.mem_cons.mp hp with rfl | hp
        · exact N₅ _ (.tail _ (List.mem_append_right _ (.tail _ (.head _))))
        · rcases List.mem_append.mp hp with hp | hp
          · exact N₅ p (.tail _ (List.mem_append_left _ hp))
          · exact N₅ p (.tail _ (List.mem_append_right _ (.tail _ (.tail _ hp))))
      · rw [htk, List.filterMap_append]; simpa using hall
    | some d =>
      obtain ⟨rfl, h₅⟩ := h₅
      simp only [if_true]
      refine wpAny_mono h₅ (fun y s₆ h₆ => ?_) fun _ _ e => e
      obtain ⟨⟨oC', mC', hoC', F₆, N₆, ro₆⟩, tly, hy, Ny, hoy⟩ := h₆
      have zD := (N₆ (D, W.listOf ys.toArray kk) (.tail _ (List.mem_append_right _ (.tail _ (.head _))))).1
      have zI := (N₆ (I, o') (.tail _ (List.mem_append_right _ (.head _)))).1
      refine append_at zD (fun h₇ hs₇ hD₇ => ?_) (by simp only [List.size_toArray, sizeLine_eq]; omega)
      have ya : ∀ p ∈ tly, p.1 ≠ I ∧ p.1 ≠ C ∧ p.1 ≠ D := fun p hp => ⟨(hoy p hp).2 _ (.head _), (hoy p hp).1, (hoy p hp).2 (D, _) (.tail _ (.head _))⟩
      refine ⟨k - 1, by omega, i + 1, ys ++ [y], kk + 1, tl ++ tly, o', by omega, hit', hs₇.extBut _ _ hID zI, fr_sameBut F₆ hs₇.extBut hDL hD0, ⟨ro'.gens.trans ro₆.gens, ro₆.os.trans ro'.os⟩, ⟨mC', (hoC'.ns (hs₇.extBut _ _ hCD (N₆ (C, oC') (.head _)).1))⟩, ?_, ?_, by simp; omega, ?_⟩
      · intro p hp
        rcases List.mem_cons.mp hp with rfl | hp
        · refine ⟨?_, hDL, hD0⟩
          rw [hD₇]; simp
        · rcases List.mem_append.mp hp with hp | hp
          · have z := N₆ p (.tail _ (List.mem_append_left _ hp))
            exact ⟨hs₇.extBut _ _ (hled p hp).2.2 z.1, z.2⟩
          · rcases List.mem_append.mp hp with hp | hp
            · have z := N₆ p (.tail _ (List.mem_append_right _ (.tail _ (.tail _ hp))))
              exact ⟨hs₇.extBut _ _ (htl p hp).2.2 z.1, z.2⟩
            · have z := Ny p hp
              exact ⟨hs₇.extBut _ _ (ya p hp).2.2 z.1, z.2⟩
      · rw [htk, List.filterMap_append]
        exact (hall.mono fun _ _ r => r.mono fun p hp => List.mem_append_left _ hp).append (.cons (hy.mono fun p hp => List.mem_append_right _ hp) .nil)
      · intro p hp
        rcases List.mem_append.mp hp with hp | hp
        · exact htl p hp
        · exact ya p hp
end Mine
end
section
open PySem PySem.W PyProof.Rows PySem.Calls
set_option Elab.async false
set_option autoImplicit false
set_option linter.unusedVariables false
namespace Mine
set_option maxRecDepth 100000
set_option maxHeartbeats 4000000
/-- an iterable, its turns told, and what is wanted behind them -/
def CSrc (w : World) (A : Around) (env : Env) (elt target : Expr) (ifs : List Expr) (scope : Scope) (cl : List (Str × Addr)) (K : (g : Heap) → (L : Addr) → (m : Str → Option Value) → (led : List (Addr × Obj)) → (ds : List PyData) → Shared → Prop) (xv : Value) (s₁ : Shared) : Prop :=
  ∃ g L m led n P It outs, Fr g L s₁.heap m ∧ News g L s₁.heap led ∧ CS w A g L led n P It ∧ (∀ (Q : Value → Shared → Prop) (E : Value → Shared → Prop), (∀ o, It 0 o → Q (.ref s₁.heap.objs.size) { s₁ with heap := s₁.heap.push o }) → wpAny (model PG w) A (pyIter xv) Q E s₁) ∧
    outs.length = n ∧ n ≤ 100000 ∧ (∀ C, s₁.heap.objs.size ≤ C → CTurn w A g L m led (compEnvC scope cl C env) C elt target ifs P outs s₁) ∧ K g L m led (outs.filterMap id) s₁
/-- behind the turns: an expression's value -/
def KExp (Q : Value → Shared → Prop) (g : Heap) (L : Addr) (m : Str → Option Value) (led : List (Addr × Obj)) (ds : List PyData) (s₁ : Shared) : Prop :=
  ∀ D s' ys k tl, Fr g L s'.heap m → RO s₁ s' → News g L s'.heap ((D, W.listOf ys.toArray k) :: (led ++ tl)) → All2 (LRd tl) ys ds → (∀ p ∈ led ++ tl, p.1 ≠ D) → Q (.ref D) s'
/-- behind the turns: a name's new value -/
def KAsg (y : Str) (Q : Flow → Shared → Prop) (g : Heap) (L : Addr) (m : Str → Option Value) (led : List (Addr × Obj)) (ds : List PyData) (s₁ : Shared) : Prop :=
  ∀ D s' ys k tl, Fr g L s'.heap (fun z => if z = y then some (.ref D) else m z) → RO s₁ s' → News g L s'.heap ((D, W.listOf ys.toArray k) :: (led ++ tl)) → All2 (LRd tl) ys ds → (∀ p ∈ led ++ tl, p.1 ≠ D) → Q .next s'

section
variable {w : World} {A : Around} {env : Env} {elt target iter : Expr} {ifs : List Expr} {scope : Scope} {cl : List (Str × Addr)} {pos : Pos} {s₁ : Shared} {RR : Value → Addr → Result → Shared → Prop} {g : Heap} {L : Addr} {m : Str → Option Value} {led : List (Addr × Obj)} {n : Nat} {P : Nat → Value → Prop} {It : Nat → Obj → Prop} {outs : List (Option PyData)} {E : Value → Shared → Prop}
theorem comp_block {oI : Obj} (F : Fr g L s₁.heap m) (N : News g L s₁.heap led) (S : CS w A g L led n P It) (hn : outs.length = n) (hsz : n ≤ 100000)
    (hcell : ∀ y ∈ scope.names, y.2 ≠ .cell) (hkind : scope.kind = .function) (hit : It 0 oI)
    (turn : ∀ C, s₁.heap.objs.size ≤ C → CTurn w A g L m led (compEnvC scope cl C env) C elt target ifs P outs s₁)
    (fin : ∀ C D s' ys k tl, C ≠ L → g.get? C = none → D ≠ C → (∀ p ∈ led, p.1 ≠ D ∧ p.1 ≠ C) → Fr g L s'.heap m → RO s₁ s' → (∃ m, s'.heap.Ns C m) → News g L s'.heap ((D, W.listOf ys.toArray k) :: (led ++ tl)) → All2 (LRd tl) ys (outs.filterMap id) → (∀ p ∈ tl, p.1 ≠ C ∧ p.1 ≠ D) → RR (.ref D) C (.ok .next) s') :
    wpAny (model PG w) A (newList []) (fun acc s₃ => wpAny (model PG w) A (newFunctionEnv scope env.globals cl [] env.qual none .none (some env)) (fun cenv s₄ =>
      codeAny (model PG w) A (.compStart (.ListComp elt [⟨target, iter, ifs, 0⟩] scope pos) 0 (.ref s₁.heap.objs.size) acc { cenv with scope := relabel scope env }) (RR acc cenv.locals) s₄) E s₃) E { s₁ with heap := s₁.heap.push oI } := by
  refine wpAny_newObj_type (wpAny_newFunctionEnv hcell (by intro y hy; simp at hy) (fun h₁ hns₁ hsb₁ => ?_) hkind)
  dsimp only at hns₁ hsb₁ ⊢
  have hIs : (s₁.heap.push oI).objs.size = s₁.heap.objs.size + 1 := Heap.size_push ..
  generalize hH2 : (s₁.heap.push oI).push { cls := .type "list", dict := none, data := .seq ([] : List Value).toArray } = H2 at hns₁ hsb₁ ⊢
  have hC : H2.objs.size = s₁.heap.objs.size + 2 := by rw [← hH2, Heap.size_push, hIs]
  have hLlt : @LT.lt Nat _ L s₁.heap.objs.size := F.ns.lt
  have gle : g.objs.size ≤ s₁.heap.objs.size := Nat.le_trans F.above (Nat.le_of_lt hLlt)
  have fresh₀ : ∀ a, s₁.heap.objs.size ≤ a → g.get? a = none := fun a ha => lt_of_none (Nat.le_trans gle ha)
  have nled : ∀ p ∈ led, @LT.lt Nat _ p.1 s₁.heap.objs.size := fun p hp => Heap.lt_size (N p hp).1
  have old : ∀ b o, s₁.heap.get? b = some o → h₁.get? b = some o := fun b o e => hsb₁.extBut b o (by have q : @LT.lt Nat _ b s₁.heap.objs.size := Heap.lt_size e; rw [hC]; exact Nat.ne_of_lt (by omega)) (Heap.get?_push_of_some _ (hH2 ▸ Heap.get?_push_of_some _ (Heap.get?_push_of_some _ e)))
  rw [hIs]
  rw [hC] at hns₁ hsb₁ ⊢
  have key : ∀ s₃ : Shared, s₃.heap = h₁ → s₃.gens = s₁.gens → s₃.os = s₁.os → h₁.get? s₁.heap.objs.size = some oI → h₁.get? (s₁.heap.objs.size + 1) = some (W.listOf #[] 0) →
      codeAny (model PG w) A (.compLoop (.ListComp elt [⟨target, iter, ifs, 0⟩] scope pos) 0 (.ref s₁.heap.objs.size) (.ref (s₁.heap.objs.size + 1)) (compEnvC scope cl (s₁.heap.objs.size + 2) env)) (RR (.ref (s₁.heap.objs.size + 1)) (s₁.heap.objs.size + 2)) s₃ := by
    intro s₃ e1 e2 e3 hIo hDo
    refine comp_loop (C := s₁.heap.objs.size + 2) (s₁ := s₁) (m := m) S hn hsz (Nat.ne_of_gt hLlt) (Nat.ne_of_gt (by omega)) (Nat.ne_of_gt (by omega)) (fresh₀ _ (Nat.le_refl _)) (fresh₀ _ (by omega)) (fresh₀ _ (by omega)) (Nat.ne_of_lt (by omega)) (Nat.ne_of_lt (by omega)) (Nat.ne_of_gt (by omega)) ?_ (turn _ (by omega)) ?_ (oI := oI) (k₀ := 0) ?_ ⟨by rw [e2]; exact GExt.refl _, e3⟩ (by rw [e1]; exact hIo) hit ⟨_, by rw [e1]; exact hns₁⟩ (by rw [e1]; exact hDo) ?_
    · intro p hp
      have := nled p hp
      exact ⟨Nat.ne_of_lt this, Nat.ne_of_lt (by omega), Nat.ne_of_lt (by omega)⟩
    · intro s' ys k tl F' ro' ns' N' hall htl
      refine fin (s₁.heap.objs.size + 2) (s₁.heap.objs.size + 1) s' ys k tl (Nat.ne_of_gt (by omega)) (fresh₀ _ (by omega)) (Nat.ne_of_lt (by omega)) ?_ F' ro' ns' N' hall htl
      intro p hp
      have := nled p hp
      exact ⟨Nat.ne_of_lt (by omega), Nat.ne_of_lt (by omega)⟩
    · rw [e1]; exact F.keeps old
    · rw [e1]; exact fun p hp => ⟨old _ _ (N p hp).1, (N p hp).2⟩
  have hI₁ : h₁.get? s₁.heap.objs.size = some oI := hsb₁.extBut _ _ (Nat.ne_of_lt (by omega)) (Heap.get?_push_of_some _ (hH2 ▸ Heap.get?_push_of_some _ (Heap.get?_push_size _ (S.nf _ _ hit))))
  have hD₁ : h₁.get? (s₁.heap.objs.size + 1) = some (W.listOf #[] 0) := hsb₁.extBut _ _ (Nat.ne_of_lt (by omega)) (Heap.get?_push_of_some _ (hH2 ▸ hIs ▸ Heap.get?_push_size _ rfl))
  exact codeAny_compStart_list (key _ rfl rfl rfl hI₁ hD₁) (S.self 0 _ oI _ _ _ hit hI₁ (key _ rfl rfl rfl hI₁ hD₁))
end
theorem comp_go {g : Heap} {L C D : Addr} {m : Str → Option Value} {led tl : List (Addr × Obj)} {ys : List Value} {k : Nat} {s' : Shared} {h' : Heap} (hs : Heap.SameBut C s'.heap h') (hCL : C ≠ L) (hC0 : g.get? C = none) (hDC : D ≠ C) (hled : ∀ p ∈ led, p.1 ≠ D ∧ p.1 ≠ C) (htl : ∀ p ∈ tl, p.1 ≠ C ∧ p.1 ≠ D)
    (F : Fr g L s'.heap m) (N : News g L s'.heap ((D, W.listOf ys.toArray k) :: (led ++ tl))) : Fr g L h' m ∧ News g L h' ((D, W.listOf ys.toArray k) :: (led ++ tl)) ∧ ∀ p ∈ led ++ tl, p.1 ≠ D := by
  refine ⟨fr_sameBut F hs.extBut hCL hC0, news_extBut N hs.extBut ?_, ?_⟩
  · intro p hp
    rcases List.mem_cons.mp hp with rfl | hp
    · exact hDC
    · rcases List.mem_append.mp hp with hp | hp
      · exact (hled p hp).2
      · exact (htl p hp).1
  · intro p hp
    rcases List.mem_append.mp hp with hp | hp
    · exact (hled p hp).1
    · exact (htl p hp).2
theorem comp_expr {w : World} {A : Around} {env : Env} {elt target iter : Expr} {ifs : List Expr} {scope : Scope} {cl : List (Str × Addr)} {pos : Pos} {s : Shared} {Q E : Value → Shared → Prop}
    (hclos : closureFor scope env = pure cl) (hcell : ∀ y ∈ scope.names, y.2 ≠ .cell) (hkind : scope.kind = .function) (hnames : ∀ y ∈ scope.names, y.2 = .local → scope.names.lookup y.1 = some .local)
    (h : wpAny (model PG w) A (eval iter env) (CSrc w A env elt target ifs scope cl (KExp Q)) E s)
    (hs : ∀ x, foldedSetIterable iter env x = pure x := by intro _; rfl) :
    wpAny (model PG w) A (eval (.ListComp elt [⟨target, iter, ifs, 0⟩] scope pos) env) Q E s := by
  rw [eval_ListComp]
  refine wpAny_comprehension_free (use := none) rfl hs hclos hkind hnames (wpAny_mono h (fun xv s₁ h₁ => ?_) fun _ _ e => e)
  obtain ⟨g, L, m, led, n, P, It, outs, F, N, S, start, hn, hsz, turn, hK⟩ := h₁
  refine start _ _ fun oI hit => ?_
  refine comp_block (RR := fun acc C => compPost (model PG w) A E none Q acc C) F N S hn hsz hcell hkind hit turn ?_
  intro C D s' ys k tl hCL hC0 hDC hled F' ro' ns' N' hall htl
  obtain ⟨mC, hns⟩ := ns'
  refine ⟨mC, hns, fun h' hs' => ?_⟩
  obtain ⟨F₂, N₂, o₂⟩ := comp_go hs' hCL hC0 hDC hled htl F' N'
  exact hK D { s' with heap := h' } ys k tl F₂ ⟨ro'.gens, ro'.os⟩ N₂ hall o₂
theorem comp_assign {w : World} {A : Around} {env : Env} {elt target iter : Expr} {ifs : List Expr} {scope : Scope} {cl : List (Str × Addr)} {pos spos py : Pos} {y : Str} {s : Shared} {Q : Flow → Shared → Prop} {E : Value → Shared → Prop}
    (hsw : swapsWith (.ListComp elt [⟨target, iter, ifs, 0⟩] scope pos) (some (.Name y py)) spos.line env = pure true)
    (hclos : closureFor scope env = pure cl) (hcell : ∀ y ∈ scope.names, y.2 ≠ .cell) (hkind : scope.kind = .function) (hnames : ∀ y ∈ scope.names, y.2 = .local → scope.names.lookup y.1 = some .local)
    (hy : env.kindOf y = some .local) (hp : (env.scope.kind == .class || (env.scope.kind == .module && env.locals != env.globals)) = false)
    (h : wpAny (model PG w) A (eval iter env) (CSrc w A env elt target ifs scope cl (fun g L m led ds s₁ => env.locals = L ∧ KAsg y Q g L m led ds s₁)) E s)
    (hs : ∀ x, foldedSetIterable iter env x = pure x := by intro _; rfl) :
    wpAny (model PG w) A (exec (.Assign [.Name y py] (.ListComp elt [⟨target, iter, ifs, 0⟩] scope pos) spos) env) Q E s := by
  rw [exec_Assign_Name_used _ _ _ _ hsw]
  refine wpAny_bind (wpAny_standAt (wpAny_bind ?_))
  show wpAny _ A (do let _ ← comprehension (.ListComp elt [⟨target, iter, ifs, 0⟩] scope pos) scope env _ (newList []) false (eval iter env) (some (assign (.Name y py) env))) _ _ s
  refine wpAny_bind (wpAny_mono (wpAny_comprehension_free (use := some (assign (.Name y py) env)) (Q := fun _ s' => Q .next s') rfl hs hclos hkind hnames
    (wpAny_mono h (fun xv s₁ h₁ => ?_) fun _ _ e => e)) (fun _ s' hq => wpAny_pure (wpAny_pure hq)) fun _ _ e => e)
  obtain ⟨g, L, m, led, n, P, It, outs, F, N, S, start, hn, hsz, turn, hLe, hK⟩ := h₁
  subst hLe
  refine start _ _ fun oI hit => ?_
  refine comp_block (RR := fun acc C => compPost (model PG w) A E (some (assign (.Name y py) env)) (fun _ s' => Q .next s') acc C) F N S hn hsz hcell hkind hit turn ?_
  intro C D s' ys k tl hCL hC0 hDC hled F' ro' ns' N' hall htl
  obtain ⟨mC, hns⟩ := ns'
  show wpAny _ A (assign (.Name y py) env (.ref D)) _ _ _
  refine wpAny_assign_Name (wpAny_storeName_local hy F'.ns (fun h₂ hn₂ hs₂ => ?_) hp)
  have hL₀ : g.get? env.locals = none := Heap.get?_none_of_le F'.above
  have F₂ : Fr g env.locals h₂ (fun z => if z = y then some (.ref D) else m z) := ⟨hn₂, fun b o e => hs₂.extBut b o (fun q => by rw [q, hL₀] at e; cases e) (F'.keep b o e), F'.above⟩
  refine ⟨mC, hns.sameBut hs₂ hCL, fun h' hs' => ?_⟩
  obtain ⟨F₃, N₃, o₃⟩ := comp_go (s' := { s' with heap := h₂, toks := s'.toks + 1 }) hs' hCL hC0 hDC hled htl F₂ (N'.set hs₂)
  exact hK D _ ys k tl F₃ ⟨ro'.gens, ro'.os⟩ N₃ hall o₃
/-- a turn over one name -/
theorem CTurn.name {w : World} {A : Around} {g : Heap} {L : Addr} {m : Str → Option Value} {led : List (Addr × Obj)} {env : Env} {scope : Scope} {cl : List (Str × Addr)} {elt : Expr} {ifs : List Expr} {P : Nat → Value → Prop} {outs : List (Option PyData)} {s₁ : Shared} {x : Str} {px : Pos}
    (hkind : scope.kind = .function) (hx : scope.names.lookup x = some .local)
    (body : ∀ (E : Value → Shared → Prop) (i : Nat) (out : Option PyData) (v : Value) (C : Addr) (oC : Obj) (mC : Str → Option Value) (rest : List (Addr × Obj)) (s₃ : Shared), outs[i]? = some out → P i v → LCg.NsObj oC mC → mC x = some v → RO s₁ s₃ → Fr g L s₃.heap m → News g L s₃.heap ((C, oC) :: (led ++ rest)) → (∀ p ∈ led ++ rest, p.1 ≠ C) →
      wpAny (model PG w) A (testsOf ifs (compEnvC scope cl C env)) (fun ok s₅ => match out with
        | none => ok = false ∧ TEnd g L m C led rest s₃ s₅
        | some d => ok = true ∧ wpAny (model PG w) A (eval elt (compEnvC scope cl C env)) (fun y s₆ => TEnd g L m C led rest s₃ s₆ ∧ EltIs g L C rest y d s₆) E s₅) E s₃) :
    ∀ C, s₁.heap.objs.size ≤ C → CTurn w A g L m led (compEnvC scope cl C env) C elt (.Name x px) ifs P outs s₁ := by
  intro C hC E i out v oC mC rest s₃ hx' hP hoC ro F N off
  have zC := N (C, oC) (.head _)
  refine wpAny_assign_Name (wpAny_storeName_local (lookup_relabel_local hx) (hoC.ns zC.1) (fun h₃ hn₃ hs₃ => ?_) (by simp [compEnvC, relabel, hkind]))
  obtain ⟨oC', heC, hoC'⟩ := LCg.ns_obj hn₃
  have F₃ : Fr g L h₃ m := fr_sameBut F hs₃.extBut zC.2.1 zC.2.2
  have N₃ : News g L h₃ ((C, oC') :: (led ++ rest)) := news_cons (news_extBut (fun p hp => N p (.tail _ hp)) hs₃.extBut off) heC zC.2.1 zC.2.2
  refine wpAny_mono (body E i out v C oC' _ rest _ hx' hP hoC' (if_pos rfl) ⟨ro.gens, ro.os⟩ F₃ N₃ off) (fun ok s₅ h₅ => ?_) fun _ _ e => e
  cases out with
  | none =>
    obtain ⟨h1, oC₂, mC₂, h2, h3, h4, h5⟩ := h₅
    exact ⟨h1, oC₂, mC₂, h2, h3, h4, ⟨h5.gens, h5.os⟩⟩
  | some d =>
    refine ⟨h₅.1, wpAny_mono h₅.2 (fun y s₆ h₆ => ?_) fun _ _ e => e⟩
    obtain ⟨⟨oC₂, mC₂, h2, h3, h4, h5⟩, h6⟩ := h₆
    exact ⟨⟨oC₂, mC₂, h2, h3, h4, ⟨h5.gens, h5.os⟩⟩, h6⟩
theorem start_list {w : World} {A : Around} {s : Shared} {l : Addr} {items : List Value} (hl : s.heap.IsList l items.toArray) (Q : Value → Shared → Prop) (E : Value → Shared → Prop) (h : ∀ o, IsIt o l 0 → Q (.ref s.heap.objs.size) { s with heap := s.heap.push o }) : wpAny (model PG w) A (pyIter (.ref l)) Q E s :=
  wpAny_pyIter_list hl (h _ ⟨rfl, rfl⟩)
theorem start_range {w : World} {A : Around} {s : Shared} {r : Addr} {a b c : Int} {t u v : Tok} {n : Nat} (hr : IsRange s.heap r a b c t u v) (hsm : Builtin.Range.small a b c = true) (hn : Builtin.Range.rangeSize a b c = ((n : Nat) : Int)) (Q : Value → Shared → Prop) (E : Value → Shared → Prop)
    (h : ∀ o, o = rangeO (a + ((0 : Nat) : Int) * c) ((n : Int) - ((0 : Nat) : Int)) c → Q (.ref s.heap.objs.size) { s with heap := s.heap.push o }) : wpAny (model PG w) A (pyIter (.ref r)) Q E s := by
  refine wpAny_pyIter_range hr hsm (h _ ?_)
  rw [hn]; simp
end Mine
end
section
open PySem PySem.W PyProof.Rows PySem.Calls
set_option Elab.async false
namespace Mine
set_option maxRecDepth 100000
set_option linter.unusedVariables false
set_option maxHeartbeats 4000000
theorem fillK2 (P : Params) : Challenge.rw_qw0046_01 = Challenge.rw_qw0046_01 ∧ hd.heap_39 P = hd.heap_39 P := by
  k_fill
  exact ⟨rfl, rfl⟩
local macro_rules | `(tactic| k_steps) => `(tactic| repeat' (
  (fail_if_success (with_reducible show wpAny _ _ (exec (Stmt.For _ _ _ _ _) _) _ _ _));
  (fail_if_success (with_reducible show wpAny _ _ (exec (Stmt.While _ _ _ _) _) _ _ _));
  (fail_if_success (with_reducible show wpAny _ _ (exec (Stmt.Try _ _ _ _ _) _) _ _ _));
  (fail_if_success (with_reducible show wpAny _ _ (exec (Stmt.Assign _ (Expr.ListComp _ _ _ _) _) _) _ _ _));
  (fail_if_success (with_reducible show wpAny _ _ (eval (Expr.ListComp _ _ _ _) _) _ _ _));
  (fail_if_success (with_reducible show wpAny _ _ (call (Value.ref _) _ _) _ _ _));
  (fail_if_success (with_reducible show wpAny _ _ (eval (Expr.IfExp _ _ _ _) _) _ _ _));
  (fail_if_success (with_reducible show Exists _));
  first | (k_unfold; (try dsimp only)) | walk1 | (dsimp only; walk1)))


theorem made_news {g : Heap} {L : Addr} {m : Str → Option Value} {sA s1 : Shared} {led own : List (Addr × Obj)} (FQ : Fr g L sA.heap m) (N1 : News g L s1.heap led) (hm1 : ∀ p ∈ own, s1.heap.get? p.1 = some p.2) (hm2 : ∀ p ∈ own, sA.heap.get? p.1 = none) : News g L s1.heap (led ++ own) := by
  obtain ⟨oL, _, _, hLo, _⟩ := FQ.ns
  intro p hp
  rcases List.mem_append.mp hp with hp | hp
  · exact N1 p hp
  · refine ⟨hm1 p hp, fun e => ?_, ?_⟩
    · have := hm2 p hp
      rw [e, hLo] at this; cases this
    · cases q : g.get? p.1 with
      | none => rfl
      | some o =>
        have := hm2 p hp
        rw [FQ.keep _ _ q] at this; cases this
theorem news_dup {g h : Heap} {L : Addr} {p : Addr × Obj} {led : List (Addr × Obj)} (N : News g L h led) (hp : p ∈ led) : News g L h (p :: led) := fun q hq => (List.mem_cons.mp hq).elim (fun e => e ▸ N p hp) (N q)
theorem made_off {g : Heap} {L R : Addr} {o : Obj} {sA : Shared} {led own : List (Addr × Obj)} (NQ : News g L sA.heap ((R, o) :: led)) (hm2 : ∀ p ∈ own, sA.heap.get? p.1 = none) : OwnOff own [R] := by
  intro p hp b hb e
  rw [List.mem_singleton.mp hb] at e
  have := hm2 p hp
  rw [e, (NQ _ (.head _)).1] at this; cases this
def walkStep (st : Nat × Nat) (c : List Nat) : Nat × Nat := if c = [40] then (st.1, st.2 + 1) else if c = [41] ∧ st.2 > 0 then (st.1, st.2 - 1) else if c = [41] then (st.1 + 1, st.2) else st
def walked : Nat × Nat → List (List Nat) → List Str
  | _, [] => []
  | st, c :: r => wayDue (walkStep st c).1 (walkStep st c).2 :: walked (walkStep st c) r
def JWalk (x : Str) (R a : Addr) (vs : List Value) (n : Nat) (tl : List (Addr × Obj)) (i : Nat) (m : Str → Option Value) (led : List (Addr × Obj)) : Prop :=
  ∃ (up down : Nat) (q : List (Str × Tok)) (k : Nat) (tu tv : Tok), led = (R, W.listOf (strValues q).toArray k) :: (a, W.listOf vs.toArray n) :: tl ∧ q.map (·.1) ++ walked (up, down) ((us x).drop i) = walked (0, 0) (us x) ∧ q.length = i ∧ up + down ≤ i ∧ KnOk m [(Str.ofString "up", .int (up : Int) tu), (Str.ofString "down", .int (down : Int) tv), (Str.ofString "ways", .ref R)]

theorem JWalk.next {g : Heap} {L R a I₀ ta : Addr} {o ot : Obj} {x : Str} {vs : List Value} {n nn : Nat} {tl : List (Addr × Obj)} {i up down u' d' : Nat} {a' b' : Int} {q : List (Str × Tok)} {u : Nat × List Nat} {ty tu tv : Tok} {m' : Str → Option Value} {s₁ s' : Shared}
    (hu : (toks 0 x.cps.toList)[i]? = some u) (hq : q.map (·.1) ++ walked (up, down) ((us x).drop i) = walked (0, 0) (us x)) (hqi : q.length = i) (hud : up + down ≤ i) (F : Fr g L s'.heap m')
    (hm : KnOk m' [(Str.ofString "up", .int a' tu), (Str.ofString "down", .int b' tv), (Str.ofString "ways", .ref R)]) (hstep : walkStep (up, down) u.2 = (u', d')) (ha : a' = (u' : Int)) (hb : b' = (d' : Int)) (N : News g L s'.heap ((ta, ot) :: (I₀, o) :: (R, W.listOf ((strValues q).toArray.push (.str (wayDue a'.toNat b'.toNat) ty)) nn) :: (a, W.listOf vs.toArray n) :: tl)) 
    (n1 : R ≠ I₀) (n2 : a ≠ I₀) (hoB : OwnOff tl [I₀, R]) (r : RO s₁ s') :
    ∃ m' led', JWalk x R a vs n tl (i + 1) m' led' ∧ RO s₁ s' ∧ Fr g L s'.heap m' ∧ News g L s'.heap ((I₀, o) :: led') ∧ ∀ p ∈ led', p.1 ≠ I₀ := by
  subst ha; subst hb
  rw [Int.toNat_natCast, Int.toNat_natCast] at N
  have earr : (strValues q).toArray.push (.str (wayDue u' d') ty) = (strValues (q ++ [(wayDue u' d', ty)])).toArray := by rw [strValues_append]; simp [strValues]
  rw [earr] at N
  refine ⟨m', _, ⟨u', d', q ++ [(wayDue u' d', ty)], nn, tu, tv, rfl, ?_, by simp [hqi], ?_, hm⟩, r, F, fun p hp => N p (.tail _ hp), ?_⟩
  · have hul : (us x)[i]? = some u.2 := by rw [us, List.getElem?_map, hu]; rfl
    obtain ⟨hlt, he⟩ := List.getElem?_eq_some_iff.mp hul
    rw [← hq, List.drop_eq_getElem_cons hlt, he, walked, hstep, List.map_append, List.append_assoc]; rfl
  · have e1 : u' = (walkStep (up, down) u.2).1 := by rw [hstep]
    have e2 : d' = (walkStep (up, down) u.2).2 := by rw [hstep]
    unfold walkStep at e1 e2
    split at e1
    · rename_i h1; rw [if_pos h1] at e2; dsimp only at e1 e2; omega
    · rename_i h1; rw [if_neg h1] at e2
      split at e1
      · rename_i h2; rw [if_pos h2] at e2; dsimp only at e1 e2; omega
      · rename_i h2; rw [if_neg h2] at e2
        split at e1
        · rename_i h3; rw [if_pos h3] at e2; dsimp only at e1 e2; omega
        · rename_i h3; rw [if_neg h3] at e2; dsimp only at e1 e2; omega
  · intro p hp
    rcases List.mem_cons.mp hp with rfl | hp
    · exact n1
    · rcases List.mem_cons.mp hp with rfl | hp
      · exact n2
      · exact hoB p hp _ (.head _)
theorem ws_open {up down : Nat} {c : List Nat} (h : (mkS c == Str.ofString "(") = true) : walkStep (up, down) c = (up, down + 1) := by
  rw [op_eq] at h; rw [walkStep, if_pos (mkS_inj (eq_of_beq h))]
theorem ws_close {up down : Nat} {c : List Nat} (h0 : (mkS c == Str.ofString "(") = false) (h : (mkS c == Str.ofString ")") = true) (hd : 0 < (down : Int)) : walkStep (up, down) c = (up, down - 1) := by
  rw [cl_eq] at h; rw [walkStep, if_neg (not_is op_eq h0), if_pos ⟨mkS_inj (eq_of_beq h), by show down > 0; omega⟩]
theorem ws_up {up down : Nat} {c : List Nat} (h0 : (mkS c == Str.ofString "(") = false) (h : (mkS c == Str.ofString ")") = true) (hd : ¬ 0 < (down : Int)) : walkStep (up, down) c = (up + 1, down) := by
  rw [cl_eq] at h; rw [walkStep, if_neg (not_is op_eq h0), if_neg (fun e => hd (by have := e.2; show 0 < (down : Int); simp only at this; omega)), if_pos (mkS_inj (eq_of_beq h))]
theorem ws_skip {up down : Nat} {c : List Nat} (h0 : (mkS c == Str.ofString "(") = false) (h : (mkS c == Str.ofString ")") = false) : walkStep (up, down) c = (up, down) := by
  rw [walkStep, if_neg (not_is op_eq h0), if_neg (fun e => not_is cl_eq h e.1), if_neg (not_is cl_eq h)]

theorem own_two {tl : List (Addr × Obj)} {R I : Addr} (h : OwnOff tl [R]) (hI : ∀ p ∈ tl, p.1 ≠ I) : OwnOff tl [I, R] := by
  intro p hp b hb
  rcases List.mem_cons.mp hb with rfl | hb
  · exact hI p hp
  · exact h p hp b hb

theorem con_walked {w : World} {mean : ExcName → Option Value} {mg mb : Str → Option Value} (x : Str) (t : Tok) (hlen : x.length ≤ 500) : Con w mean mg mb 192 [.str x t] 3 (fun _ => True) (fun s v s' => ∃ D n q, v = .ref D ∧ s.heap.get? D = none ∧ s'.heap.get? D = some (W.listOf (strValues q).toArray n) ∧ q.map (·.1) = walked (0, 0) (us x)) := by
  intro A s Q E hh hd hu X T hpre hQ
  obtain ⟨ha, dp, fr, gd, un⟩ := A
  obtain rfl : ha = none := hh
  dsimp only at hd hu
  replace hh : (⟨none, dp, fr, gd, un⟩ : Around).handled = none := rfl
  refine wpAny_call ?_
  k_dflt (refine' enterF (binds := [(Str.ofString "text", .str x t)]) X T.nolimit ?ho ?hcd ?hroom ?hbind ?hloc ?_ ?c1 ?c2 ?c3 ?c4; (case ho => k_is); (case hcd => k_is); (case hroom => (dsimp only; omega)); (case hbind => exact BindsTo.of_eq rfl); (case hloc => exact locs rfl); (case c1 => rfl); (case c2 => rfl); (case c3 => rfl); (case c4 => decide))
  k_whole
  intro g L h₁ tk₁ hg F N
  rw [← hg] at X T
  (try dsimp only)
  try k_fold
  k_steps
  rename_i FQ NQ
  refine wpAny_For ?_
  k_steps
  refine Con.use (con_units x t (by omega)) hh (by simp only [Around.deeper]; omega) (by simp only [Around.deeper]; omega) X T (by assumption) (by assumption) (trivial) ?_
  intro v1 s1 hx1 F1 N1 hp1
  obtain ⟨a, vs, n, tl, rfl, hm1, hm2, hm3, hm4⟩ := hp1
  have hoR := made_off NQ (fun p hp => hm2 p (.tail _ hp))
  have haR := News.off NQ (hm2 _ (.head _)) _ (.head _)
  have N2 := made_news FQ N1 hm1 hm2
  simp only [List.cons_append, List.nil_append] at N2
  clear hm1 hm2
  refine for_list (items := vs) (JWalk x _ a vs n tl) hh ?hl F1 N2 ⟨0, 0, [], 0, _, _, rfl, rfl, rfl, Nat.le_refl _, rfl, rfl, rfl, trivial⟩ ?turn ?done
  case hl =>
    rintro i m led h ⟨up, down, q, k, tu, tv, rfl, _⟩ _ N
    exact ⟨_, (N _ (.tail _ (.head _))).1, rfl, _, rfl⟩
  case turn =>
    rintro E i v m led s₃ I₀ o hv ⟨up, down, q, k, tu, tv, rfl, hq, hqi, hud, hm⟩ hit hro F₃ N₃ hoff0
    replace F₃ := fr_knows _ F₃ hm
    simp only [kn] at F₃
    obtain ⟨u, hu, ta, t1, t2, rfl, hta⟩ := hm4.get' hv
    have N₄ := news_dup N₃ (.tail _ (.tail _ (.tail _ hta)))
    have n1 := neN (hoff0 _ (.head _))
    have n2 := neN (hoff0 _ (.tail _ (.head _)))
    have n3 := neN (hoR _ hta _ (.head _))
    have n4 := neN haR
    have hoB := own_two hoR (I := I₀) fun p hp => hoff0 p (.tail _ (.tail _ hp))
    clear hoR
    dsimp only at n1 n2 n3 n4
    clear N₃ hoff0 hit hv
    have hi5 : i < 500 := by
      have h1 := (List.getElem?_eq_some_iff.mp hu).1
      have h2 := toks_len 0 x.cps.toList
      have h3 : x.cps.toList.length = x.length := by simp [Str.length]
      omega
    generalize hQQ : (fun f s₃ => _ : Flow → Shared → Prop) = QQ
    k_steps
    all_goals (
      refine way_expr X T hh (by simp only [Around.deeper]; omega) (by simp only [Around.deeper]; omega) (by assumption) ⟨rfl, rfl, trivial⟩ (by assumption) (by omega) (by omega) (by omega) ?_
      intro t9 h9 k9 F9 N9
      k_steps
      rw [← hQQ]
      (rename News _ _ _ _ => NZ)
      (rename Fr _ _ _ _ => FZ))
    · exact JWalk.next hu hq hqi hud FZ ⟨rfl, rfl, rfl, trivial⟩ (ws_open (by assumption)) (by omega) (by omega) NZ n1 n2 hoB ⟨hro.gens, hro.os⟩
    · exact JWalk.next hu hq hqi hud FZ ⟨rfl, rfl, rfl, trivial⟩ (ws_close (by assumption) (by assumption) (by assumption)) (by omega) (by omega) NZ n1 n2 hoB ⟨hro.gens, hro.os⟩
    · exact JWalk.next hu hq hqi hud FZ ⟨rfl, rfl, rfl, trivial⟩ (ws_up (by assumption) (by assumption) (by assumption)) (by omega) (by omega) NZ n1 n2 hoB ⟨hro.gens, hro.os⟩
    · exact JWalk.next hu hq hqi hud FZ ⟨rfl, rfl, rfl, trivial⟩ (ws_skip (by assumption) (by assumption)) (by omega) (by omega) NZ n1 n2 hoB ⟨hro.gens, hro.os⟩
  case done =>
    rintro m led s₃ ⟨up, down, q, k, tu, tv, rfl, hq, hqi, hud, hm⟩ hro F₃ N₃
    replace F₃ := fr_knows _ F₃ hm
    simp only [kn] at F₃
    k_steps
    have hul : (us x).length = vs.length := by rw [us, List.length_map, hm4.length]
    refine hQ _ _ (Ext.of_ro hg (by assumption) ⟨hx1.gens.trans hro.gens, hro.os.trans hx1.os⟩) ⟨_, k, q, rfl, by rw [← hg]; exact (N₃ _ (.head _)).2.2, (N₃ _ (.head _)).1, ?_⟩
    rw [← hq, ← hul, List.drop_length, walked, List.append_nil]
end Mine
end
section
open PySem PySem.W PyProof.Rows PySem.Calls
set_option Elab.async false
set_option autoImplicit false
set_option linter.unusedVariables false
namespace Mine
set_option maxRecDepth 100000
set_option maxHeartbeats 4000000
section
variable {w : World} {A : Around} {s : Shared} {K : Frag} {R : Result → Shared → Prop} {name qual : Str} {params : Arguments} {body : List Stmt} {scope : Scope} {dV kV doc pm cdv ct oc : Value} {an od : Option Addr} {osl : Array (Option Value)} {f : Addr} {args : Args} {binds : List (Str × Value)}
/-- a call of a def with cells: they go onto the ledger -/
theorem enterC (X : K.In s.heap) (hlim : s.heap.NoLimit)
    (ho : K.lookup f = some ⟨oc, od, .func (fnOf name qual params body scope dV kV doc pm an cdv ct), osl⟩) (hcd : codeIn K cdv qual = true) (hroom : A.depth < recursionLimit)
    (hbind : BindsTo s (fnOf name qual params body scope dV kV doc pm an cdv ct) args binds) (hkind : (binds.all fun y => scope.names.lookup y.1 == some .local || scope.names.lookup y.1 == some .cell) = true)
    (hnd : ((cellsFrom 0 scope.names []).map (·.1)).Nodup)
    (h : ∀ g L h₁ tk cells, g = s.heap → Fr g L h₁ (bindL (envOfC qual scope L f cdv).kindOf binds fun _ => none) → News g L h₁ cells → CellsAre (bindC (envOfC qual scope L f cdv).kindOf binds fun _ => none) (cellsFrom (L + 1) scope.names []) cells →
      wpAny (model PG w) (A.deeper (envOfC qual scope L f cdv)) (execs body (envOfC qual scope L f cdv))
        (fun fl s' => R (.ok (.ret (match fl with | .ret v => v | _ => .none))) s')
        (fun _ _ => False)
        { s with heap := h₁, toks := tk })
    (hco : scope.isCoroutine = false := by rfl) (hgen : scope.isGenerator = false := by rfl) (hk : scope.kind = .function := by rfl) : codeAny (model PG w) A (.call (.ref f) args) R s := by
  refine codeAny_call_function hroom (X _ _ ho) rfl hco hgen rfl (codeRec_of X hcd) (hbind _ _ _ _ ?_)
  refine wpAny_newFunctionEnv_cells hk (kindsX hkind _) fun env' he s' x => ?_
  subst he
  refine ⟨hlim.keeps x.toInCall.keep, codeAny_func ?_⟩
  obtain ⟨h₁, tk, rfl, _⟩ := x.done
  obtain ⟨cells, NC, Y⟩ := Cl.news (h₀ := s.heap) (Nat.le_refl _) fun n c hm => ⟨x.cell n c (lookup_of_mem_nodup (cellsFrom_names scope.names 0 (s.heap.objs.size + 1) [] [] rfl ▸ hnd) hm), x.above n c hm⟩
  exact wpAny_mono (h s.heap s.heap.objs.size h₁ tk cells rfl ⟨x.toInCall.ns, x.toInCall.keep, Nat.le_refl _⟩ NC Y) (fun fl s' hl => hl) fun _ _ y => y.elim
end
section
variable {M : Model} {w : World} {A : Around} {E : Value → Shared → Prop} {s : Shared} {g : Heap} {L C : Addr} {oC : Obj} {mC : Str → Option Value} {rest news : List (Addr × Obj)} {scope : Scope} {cl : List (Str × Addr)} {env : Env} {x : Str} {pos : Pos} {v : Value} {Q : Value → Shared → Prop}
/-- a block's own name -/
theorem nameB_L (N : News g L s.heap ((C, oC) :: rest)) (hoC : LCg.NsObj oC mC) (hv : mC x = some v) (h : Q v s) (hk : scope.kind = .function := by rfl) (hx : scope.names.lookup x = some .local := by rfl) (hd : (x == ("__debug__" : Str)) = false := by decide) :
    wpAny M A (eval (.Name x pos) (compEnvC scope cl C env)) Q E s :=
  wpAny_Name (wpAny_loadName_local (by simpa [compEnvC, relabel] using hk) (lookup_relabel_local hx) (hoC.ns (N _ (.head _)).1) hv h) hd
/-- a name that the block takes from a cell -/
theorem nameB_C {c : Addr} {o : Obj} (N : News g L s.heap news) (hm : (c, o) ∈ news) (hd : o.data = .cell (some v)) (h : Q v s) (hc : cl.lookup x = some c := by rfl) (hk : scope.kind = .function := by rfl) (hx : (compEnvC scope cl C env).kindOf x = some .cell := by rfl) (hb : (x == ("__debug__" : Str)) = false := by decide) :
    wpAny M A (eval (.Name x pos) (compEnvC scope cl C env)) Q E s :=
  wpAny_Name (wpAny_loadName_cell (by simpa [compEnvC, relabel] using hk) hx hc ⟨o, (N _ hm).1, hd⟩ h) hb
end
theorem elt_flat {g : Heap} {L C : Addr} {rest : List (Addr × Obj)} {y : Value} {d : PyData} {s : Shared} (h : LRd [] y d) : EltIs g L C rest y d s :=
  ⟨[], h, (by intro p hp; cases hp), (by intro p hp; cases hp)⟩
/-- a block over pairs of the ledger that takes the second -/
theorem turn_second {w : World} {A : Around} {g : Heap} {L : Addr} {m : Str → Option Value} {led : List (Addr × Obj)} {env : Env} {scope : Scope} {cl : List (Str × Addr)} {s₁ : Shared} {x y : Str} {k : Nat} {p1 p2 p3 p4 : Pos} {vs : List Value} {ds : List (Nat × List Nat)}
    (hh : A.handled = none) (hkind : scope.kind = .function) (hx : scope.names.lookup x = some .local) (hy : scope.names.lookup y = some .local) (hxy : x ≠ y) (hb : (y == ("__debug__" : Str)) = false) (hall : All2 (TupIn led) vs ds) :
    ∀ C, s₁.heap.objs.size ≤ C → CTurn w A g L m led (compEnvC scope cl C env) C (.Name y p1) (.Tuple [.Name x p2, .Name y p3] k p4) [] (fun i v => vs[i]? = some v) (ds.map fun u => some (.str (mkS u.2))) s₁ := by
  intro C hC E i out v oC mC rest s₃ hx' hP hoC ro F N off
  obtain ⟨u, hu, ta, t1, t2, rfl, hta⟩ := hall.get' hP
  rw [List.getElem?_map, hu] at hx'
  obtain rfl := Option.some.inj hx'
  have hmem : (ta, ({ cls := .type "tuple", data := .seq #[.int (u.1 : Int) t1, .str (mkS u.2) t2] } : Obj)) ∈ (C, oC) :: (led ++ rest) := .tail _ (List.mem_append_left _ hta)
  refine assign_Tuple_tuple hh (News.isTup N hmem) (by rfl) (by rfl) fun h' he => ?_
  have keep : ∀ b o, s₃.heap.get? b = some o → h'.get? b = some o := fun b o e => he b o (Nat.ne_of_lt (Heap.lt_size e)) e
  have F₁ := F.keeps keep
  have N₁ := N.grown keep
  have zC := N₁ (C, oC) (.head _)
  show wpAny _ A (assignInOrder [fun v => assign (.Name x p2) (compEnvC scope cl C env) v, fun v => assign (.Name y p3) (compEnvC scope cl C env) v] [.int (u.1 : Int) t1, .str (mkS u.2) t2]) _ _ _
  unfold assignInOrder
  refine wpAny_bind (wpAny_holding (wpAny_assign_Name (wpAny_storeName_local (lookup_relabel_local hx) (hoC.ns zC.1) (fun h₃ hn₃ hs₃ => ?_) (by simp [compEnvC, relabel, hkind]))))
  obtain ⟨oC', heC, hoC'⟩ := LCg.ns_obj hn₃
  have F₃ : Fr g L h₃ m := fr_sameBut F₁ hs₃.extBut zC.2.1 zC.2.2
  have N₃ : News g L h₃ ((C, oC') :: (led ++ rest)) := news_cons (news_extBut (fun p hp => N₁ p (.tail _ hp)) hs₃.extBut off) heC zC.2.1 zC.2.2
  unfold assignInOrder
  refine wpAny_bind (wpAny_holding (wpAny_assign_Name (wpAny_storeName_local (lookup_relabel_local hy) (hoC'.ns heC) (fun h₄ hn₄ hs₄ => ?_) (by simp [compEnvC, relabel, hkind]))))
  obtain ⟨oC₂, heC₂, hoC₂⟩ := LCg.ns_obj hn₄
  have F₄ : Fr g L h₄ m := fr_sameBut F₃ hs₄.extBut zC.2.1 zC.2.2
  have N₄ : News g L h₄ ((C, oC₂) :: (led ++ rest)) := news_cons (news_extBut (fun p hp => N₃ p (.tail _ hp)) hs₄.extBut off) heC₂ zC.2.1 zC.2.2
  unfold assignInOrder
  refine wpAny_pure (wpAny_pure ⟨rfl, ?_⟩)
  refine wpAny_Name (wpAny_loadName_local (by simpa [compEnvC, relabel] using hkind) (lookup_relabel_local hy) (hoC₂.ns heC₂) (if_pos rfl) ?_) hb
  exact ⟨⟨oC₂, _, hoC₂, F₄, N₄, ⟨GExt.refl _, rfl⟩⟩, elt_flat LRd.str⟩
theorem strs_of {tl : List (Addr × Obj)} {h : Heap} (hp : ∀ p ∈ tl, h.get? p.1 = some p.2) : ∀ {ys : List Value} {xs : List Str}, All2 (LRd tl) ys (xs.map .str) → ∃ q, ys = strValues q ∧ q.map (·.1) = xs
  | [], [], _ => ⟨[], rfl, rfl⟩
  | y :: ys, x :: xs, .cons a r => by
    obtain ⟨t, rfl⟩ := (a h hp).strInv
    obtain ⟨q, rfl, rfl⟩ := strs_of hp r
    exact ⟨(x, t) :: q, rfl, rfl⟩
theorem ints_of {tl : List (Addr × Obj)} {h : Heap} (hp : ∀ p ∈ tl, h.get? p.1 = some p.2) : ∀ {ys : List Value} {xs : List Int}, All2 (LRd tl) ys (xs.map .int) → IntsAre ys xs
  | [], [], _ => .nil
  | y :: ys, x :: xs, .cons a r => by
    obtain ⟨t, rfl⟩ := (a h hp).intInv
    exact .cons _ _ (ints_of hp r)
theorem csrc_list {w : World} {A : Around} {env : Env} {elt target : Expr} {ifs : List Expr} {scope : Scope} {cl : List (Str × Addr)} {K : (g : Heap) → (L : Addr) → (m : Str → Option Value) → (led : List (Addr × Obj)) → (ds : List PyData) → Shared → Prop} {s₁ : Shared} {g : Heap} {L a : Addr} {m : Str → Option Value} {led : List (Addr × Obj)} {vs : List Value} {n : Nat} (outs : List (Option PyData))
    (hh : A.handled = none) (F : Fr g L s₁.heap m) (N : News g L s₁.heap led) (hm : (a, W.listOf vs.toArray n) ∈ led) (hz : vs.length ≤ 100000) (hlen : outs.length = vs.length)
    (turn : ∀ C, s₁.heap.objs.size ≤ C → CTurn w A g L m led (compEnvC scope cl C env) C elt target ifs (fun i v => vs[i]? = some v) outs s₁) (hK : K g L m led (outs.filterMap id) s₁) : CSrc w A env elt target ifs scope cl K (.ref a) s₁ :=
  ⟨g, L, m, led, vs.length, _, _, outs, F, N, CS.list hh (fun h _ N' => ⟨_, (N' _ hm).1, rfl, n, rfl⟩), start_list (items := vs) ⟨_, (N _ hm).1, rfl, n, rfl⟩, hlen, hz, turn, hK⟩
theorem csrc_range {w : World} {A : Around} {env : Env} {elt target : Expr} {ifs : List Expr} {scope : Scope} {cl : List (Str × Addr)} {K : (g : Heap) → (L : Addr) → (m : Str → Option Value) → (led : List (Addr × Obj)) → (ds : List PyData) → Shared → Prop} {s₁ : Shared} {g : Heap} {L r : Addr} {m : Str → Option Value} {led : List (Addr × Obj)} {n : Nat} {t u v : Tok} (outs : List (Option PyData))
    (hh : A.handled = none) (F : Fr g L s₁.heap m) (N : News g L s₁.heap led) (hr : IsRange s₁.heap r 0 (n : Int) 1 t u v) (hz : n ≤ 100000) (hlen : outs.length = n)
    (turn : ∀ C, s₁.heap.objs.size ≤ C → CTurn w A g L m led (compEnvC scope cl C env) C elt target ifs (fun (i : Nat) v => ∃ t, v = .int (i : Int) t) outs s₁) (hK : K g L m led (outs.filterMap id) s₁) : CSrc w A env elt target ifs scope cl K (.ref r) s₁ := by
  have hs : Builtin.Range.small 0 (n : Int) 1 = true := by
    exact small_one (by omega) (by omega) (by omega) (by omega)
  have hn : Builtin.Range.rangeSize 0 (n : Int) 1 = ((n : Nat) : Int) := by
    rw [rangeSize_nat]; simp
  refine ⟨g, L, m, led, n, _, _, outs, F, N, CS.range (a := 0) (c := 1) hh, start_range hr hs hn, hlen, hz, ?_, hK⟩
  intro C hC
  have e : (fun (i : Nat) v => ∃ t, v = Value.int (0 + (i : Int) * 1) t) = fun (i : Nat) v => ∃ t, v = Value.int (i : Int) t := by
    funext i v; rw [Int.mul_one, Int.zero_add]
  rw [e]
  exact turn C hC
theorem len_vals {prog : Program} {w : World} {A : Around} {E : Value → Shared → Prop} {s : Shared} {g : Heap} {L l : Addr} {news : List (Addr × Obj)} {vs : List Value} {n : Nat} {Q : Value → Shared → Prop} (N : News g L s.heap news) (hm : (l, W.listOf vs.toArray n) ∈ news) (hz : vs.length ≤ 100000)
    (h : ∀ t k, Q (.int (vs.length : Int) t) { s with toks := k }) : wpAny (model prog w) A (call (.builtin "len") [.ref l]) Q E s := by
  refine len_list (News.isList N hm) (by simp only [List.size_toArray]; omega) ?_
  rw [List.size_toArray]
  exact h _ _
theorem tail_at {prog : Program} {w : World} {A : Around} {E : Value → Shared → Prop} {s : Shared} {g : Heap} {L D : Addr} {news : List (Addr × Obj)} {value slice : PySem.Expr} {vs : List Value} {n : Nat} {y : Value} {k : Int} {u : Tok} {Q : Value → Shared → Prop} (N : News g L s.heap news) (hm : (D, W.listOf vs.toArray n) ∈ news) (h0 : 0 ≤ k) (hk : vs[k.toNat]? = some y) (hhi : k < 2 ^ 63) (h : Q y s)
    (hs : subscripted slice false (.ref D) (.int k u) = operate [.ref D, .int k u] (getItem (.ref D) (.int k u)) := by with_unfolding_all rfl) :
    wpAny (model prog w) A (subscriptTail value slice (.ref D) (.int k u)) Q E s := tail_item (News.isList N hm) h0 hk hhi h hs
theorem nameB_M {M : Model} {A : Around} {E : Value → Shared → Prop} {s : Shared} {g : Heap} {L C : Addr} {oC : Obj} {mC : Str → Option Value} {news : List (Addr × Obj)} {scope : Scope} {cl : List (Str × Addr)} {env : Env} {x : Str} {pos : Pos} {v : Value} {Q : Value → Shared → Prop} (N : News g L s.heap news) (hm : (C, oC) ∈ news) (hoC : LCg.NsObj oC mC) (hv : mC x = some v) (h : Q v s) (hk : scope.kind = .function) (hx : scope.names.lookup x = some .local) (hd : (x == ("__debug__" : Str)) = false) :
    wpAny M A (eval (.Name x pos) (compEnvC scope cl C env)) Q E s :=
  wpAny_Name (wpAny_loadName_local (by simpa [compEnvC, relabel] using hk) (lookup_relabel_local hx) (hoC.ns (N _ hm).1) hv h) hd
theorem strs_at {q : List (Str × Tok)} {U : List (List Nat)} (hq : q.map (·.1) = U.map mkS) {i : Nat} (hi : i < q.length) : ∃ c tc, (strValues q)[((i : Nat) : Int).toNat]? = some (.str (mkS c) tc) ∧ U[i]? = some c := by
  have h1 : (q.map (·.1))[i]? = (U.map mkS)[i]? := by rw [hq]
  have hq' : q[i]? = some q[i] := List.getElem?_eq_getElem hi
  rw [List.getElem?_map, List.getElem?_map, hq'] at h1
  cases hu : U[i]? with
  | none => rw [hu] at h1; cases h1
  | some c =>
    rw [hu] at h1
    have h2 : (q[i]).1 = mkS c := Option.some.inj h1
    refine ⟨c, (q[i]).2, ?_, rfl⟩
    rw [Int.toNat_natCast, strValues, List.getElem?_map, hq', ← h2]; rfl
def markOut (U : List (List Nat)) (i : Nat) : Option PyData := if U[i]? = some [34] then some (.int (i : Int)) else none
theorem strs_get {q : List (Str × Tok)} {U : List (List Nat)} (hq : q.map (·.1) = U.map mkS) {i : Nat} {y : Str} {c : List Nat} (h : (q.map (·.1))[((i : Nat) : Int).toNat]? = some y) (hc : U[i]? = some c) : y = mkS c := by
  rw [Int.toNat_natCast, hq, List.getElem?_map, hc] at h
  exact (Option.some.inj h).symm
theorem outs_at {α : Type} {f : Nat → α} {n i : Nat} {out : α} (h : ((List.range n).map f)[i]? = some out) : i < n ∧ out = f i := by
  have hl := (List.getElem?_eq_some_iff.mp h).1
  rw [List.length_map, List.length_range] at hl
  rw [List.getElem?_map, List.getElem?_range hl] at h
  exact ⟨hl, (Option.some.inj h).symm⟩
def marksI (U : List (List Nat)) : List Nat := (List.range U.length).filter fun i => U[i]? = some [34]
theorem marks_out (U : List (List Nat)) : ∀ l : List Nat, (l.map (markOut U)).filterMap id = ((l.filter fun i => U[i]? = some [34]).map fun (i : Nat) => (i : Int)).map PyData.int
  | [] => rfl
  | i :: r => by
    rw [List.map_cons, List.filter_cons]
    by_cases h : U[i]? = some [34]
    · rw [markOut, if_pos h]; simp [h, marks_out U r]
    · rw [markOut, if_neg h]; simp [h, marks_out U r]
theorem filterMap_some {α β : Type} (f : α → β) : ∀ l : List α, (l.map fun x => some (f x)).filterMap id = l.map f
  | [] => rfl
  | x :: r => by simp [filterMap_some f r]
end Mine
end
section
open PySem PySem.W PyProof.Rows PySem.Calls
set_option Elab.async false
set_option autoImplicit false
set_option linter.unusedVariables false
namespace Mine
set_option maxRecDepth 100000
set_option maxHeartbeats 4000000
theorem compTurn_two (elt t1 i1 t2 i2 : Expr) (scope : Scope) (pos : Pos) (it acc : Value) (env : Env) :
    compTurn (.ListComp elt [⟨t1, i1, [], 0⟩, ⟨t2, i2, [], 0⟩] scope pos) 0 it acc env = (standAt i1.pos >>= fun _ => pyNext it >>= fun r => match r with
      | none => pure (.done .next)
      | some v => letOwnedTupleGo t1 it v >>= fun _ => assign t1 env v >>= fun _ =>
        eval i2 env >>= fun x => standAt i2.pos >>= fun _ => foldedSetIterable i2 env x >>= fun x => holding [x] (pyIter x) >>= fun it2 => runOwn (.compStart (.ListComp elt [⟨t1, i1, [], 0⟩, ⟨t2, i2, [], 0⟩] scope pos) 1 it2 acc env) env >>= fun _ =>
          again (.compLoop (.ListComp elt [⟨t1, i1, [], 0⟩, ⟨t2, i2, [], 0⟩] scope pos) 0 it acc env)) := by rfl
theorem compTurn_inner (elt t1 i1 t2 i2 : Expr) (scope : Scope) (pos : Pos) (it acc : Value) (env : Env) :
    compTurn (.ListComp elt [⟨t1, i1, [], 0⟩, ⟨t2, i2, [], 0⟩] scope pos) 1 it acc env = (standAt i2.pos >>= fun _ => pyNext it >>= fun r => match r with
      | none => pure (.done .next)
      | some v => letOwnedTupleGo t2 it v >>= fun _ => assign t2 env v >>= fun _ =>
        (eval elt env >>= fun x => call (.builtin "list.append") [acc, x] >>= fun _ => pure ()) >>= fun _ =>
          again (.compLoop (.ListComp elt [⟨t1, i1, [], 0⟩, ⟨t2, i2, [], 0⟩] scope pos) 1 it acc env)) := by rfl
theorem compStart_inner {w : World} {A : Around} {R : Result → Shared → Prop} {s : Shared} {elt t1 i1 t2 i2 : Expr} {scope : Scope} {pos : Pos} {it acc : Value} {env : Env}
    (h0 : codeAny (model PG w) A (.compLoop (.ListComp elt [⟨t1, i1, [], 0⟩, ⟨t2, i2, [], 0⟩] scope pos) 1 it acc env) R s)
    (h : wpAny (model PG w) A (pyIter it) (fun it' s' => codeAny (model PG w) A (.compLoop (.ListComp elt [⟨t1, i1, [], 0⟩, ⟨t2, i2, [], 0⟩] scope pos) 1 it' acc env) R s')
      (notedBy (model PG w) A env fun x s' => R (.error x) s') s) :
    codeAny (model PG w) A (.compStart (.ListComp elt [⟨t1, i1, [], 0⟩, ⟨t2, i2, [], 0⟩] scope pos) 1 it acc env) R s := by
  refine codeAny_of_tree ?_
  show wpAny _ _ ((compStart (.ListComp elt [⟨t1, i1, [], 0⟩, ⟨t2, i2, [], 0⟩] scope pos) 1 it acc env).onRaise (fun x => do noteFrame x env; standAt theWindowsPlace)) _ _ s
  refine wpAny_notedAt ?_
  unfold compStart
  show wpAny _ _ (ask >>= _) _ _ s
  refine wpAny_bind (wpAny_askSetting (wpAny_ite ?_))
  split
  · first
      | exact wpAny_bind (wpAny_pure (wpAny_pure (And.intro rfl h0)))
      | exact wpAny_pure (And.intro rfl h0)
  · first
      | exact wpAny_bind (wpAny_rule (wpAny_bind (wpAny_standAt (wpAny_bind (wpAny_mono h (fun it' s' h' => wpAny_pure (And.intro rfl h')) fun _ _ x => x)))))
      | (refine wpAny_bind (wpAny_rule ?_); show wpAny _ _ (standAt i2.pos >>= _) _ _ s; exact wpAny_bind (wpAny_standAt (wpAny_bind (wpAny_mono h (fun it' s' h' => wpAny_pure (And.intro rfl h')) fun _ _ x => x))))
theorem innerLoop_any {w : World} {A : Around} {R : Result → Shared → Prop} {s : Shared} {elt t1 i1 t2 i2 : Expr} {scope : Scope} {pos : Pos} {it acc : Value} {env : Env} (I : Nat → Shared → Prop)
    (turn : ∀ (E : Value → Shared → Prop) n s, I n s → wpAny (model PG w) A (pyNext it) (fun r s₁ => match r with
      | none => R (.ok .next) s₁
      | some v => wpAny (model PG w) A (letOwnedTupleGo t2 it v) (fun _ s₁' => wpAny (model PG w) A (assign t2 env v) (fun _ s₂ =>
            wpAny (model PG w) A (eval elt env) (fun x s₄ =>
              wpAny (model PG w) A (call (.builtin "list.append") [acc, x]) (fun _ s₅ => ∃ m, m < n ∧ I m s₅) E s₄) E s₂) E s₁') E s₁) E s)
    (n : Nat) (h : I n s) :
    codeAny (model PG w) A (.compLoop (.ListComp elt [⟨t1, i1, [], 0⟩, ⟨t2, i2, [], 0⟩] scope pos) 1 it acc env) R s := by
  refine codeAny_loop rfl I (fun n s hI => ?_) n h
  show wpAny _ A ((compTurn (.ListComp elt [⟨t1, i1, [], 0⟩, ⟨t2, i2, [], 0⟩] scope pos) 1 it acc env).onRaise (fun x => do noteFrame x env; theTreesLotGoes x)) _ _ s
  refine wpAny_noted ?_
  rw [compTurn_inner]
  refine wpAny_bind (wpAny_standAt (wpAny_bind (wpAny_mono (turn _ n s hI) (fun r s₁ h₁ => ?_) fun _ _ h' => h')))
  cases r with
  | none => exact wpAny_pure h₁
  | some v =>
    refine wpAny_bind (wpAny_mono h₁ (fun _ s₁' h₁' => ?_) fun _ _ h' => h')
    refine wpAny_bind (wpAny_mono h₁' (fun _ s₂ h₂ => ?_) fun _ _ h' => h')
    exact wpAny_bind (wpAny_bind (wpAny_mono h₂ (fun x s₄ h₄ => wpAny_bind (wpAny_mono h₄ (fun _ s₅ h₅ => wpAny_pure (wpAny_pure ⟨rfl, h₅⟩)) fun _ _ h' => h')) fun _ _ h' => h'))
theorem outerLoop_any {w : World} {A : Around} {R : Result → Shared → Prop} {s : Shared} {elt t1 i1 t2 i2 : Expr} {scope : Scope} {pos : Pos} {it acc : Value} {env : Env} (I : Nat → Shared → Prop)
    (hs : ∀ x, foldedSetIterable i2 env x = pure x)
    (turn : ∀ (E : Value → Shared → Prop) n s, I n s → wpAny (model PG w) A (pyNext it) (fun r s₁ => match r with
      | none => R (.ok .next) s₁
      | some v => wpAny (model PG w) A (letOwnedTupleGo t1 it v) (fun _ s₁' => wpAny (model PG w) A (assign t1 env v) (fun _ s₂ =>
            wpAny (model PG w) A (eval i2 env) (fun x s₃ => wpAny (model PG w) A (pyIter x) (fun it2 s₄ =>
              codeAny (model PG w) (A.mark none) (.compStart (.ListComp elt [⟨t1, i1, [], 0⟩, ⟨t2, i2, [], 0⟩] scope pos) 1 it2 acc env) (fun r s₅ => match r with | .ok _ => ∃ m, m < n ∧ I m s₅ | .error e => cameBackBy (model PG w) A env E e s₅) s₄) E s₃) E s₂) E s₁') E s₁) E s)
    (n : Nat) (h : I n s) :
    codeAny (model PG w) A (.compLoop (.ListComp elt [⟨t1, i1, [], 0⟩, ⟨t2, i2, [], 0⟩] scope pos) 0 it acc env) R s := by
  refine codeAny_loop rfl I (fun n s hI => ?_) n h
  show wpAny _ A ((compTurn (.ListComp elt [⟨t1, i1, [], 0⟩, ⟨t2, i2, [], 0⟩] scope pos) 0 it acc env).onRaise (fun x => do noteFrame x env; theTreesLotGoes x)) _ _ s
  refine wpAny_noted ?_
  rw [compTurn_two]
  refine wpAny_bind (wpAny_standAt (wpAny_bind (wpAny_mono (turn _ n s hI) (fun r s₁ h₁ => ?_) fun _ _ h' => h')))
  cases r with
  | none => exact wpAny_pure h₁
  | some v =>
    refine wpAny_bind (wpAny_mono h₁ (fun _ s₁' h₁' => ?_) fun _ _ h' => h')
    refine wpAny_bind (wpAny_mono h₁' (fun _ s₂ h₂ => ?_) fun _ _ h' => h')
    refine wpAny_bind (wpAny_mono h₂ (fun x s₃ h₃ => wpAny_bind (wpAny_standAt (wpAny_bind (wpAny_of_eq (hs x) (wpAny_bind (wpAny_holding (wpAny_mono h₃ (fun it2 s₄ h₄ => ?_) fun _ _ h' => h'))))))) fun _ _ h' => h')
    refine wpAny_bind (wpAny_runOwn (codeAny_mono h₄ fun r s₅ h₅ => ?_))
    cases r with
    | ok f => exact wpAny_pure ⟨rfl, h₅⟩
    | error e => exact h₅
def intsFrom (a : Int) (n : Nat) : List Int := (List.range n).map fun (i : Nat) => a + (i : Int)
theorem intsFrom_succ (a : Int) (n : Nat) : intsFrom a (n + 1) = intsFrom a n ++ [a + (n : Int)] := by
  unfold intsFrom; rw [List.range_succ, List.map_append]; rfl
theorem ints_app : ∀ {vs ws : List Value} {ns ms : List Int}, IntsAre vs ns → IntsAre ws ms → IntsAre (vs ++ ws) (ns ++ ms)
  | _, _, _, _, .nil, h => h
  | _, _, _, _, .cons n t r, h => .cons n t (ints_app r h)
theorem ints_len : ∀ {vs : List Value} {ns : List Int}, IntsAre vs ns → vs.length = ns.length
  | _, _, .nil => rfl
  | _, _, .cons _ _ r => congrArg (· + 1) (ints_len r)
theorem inner_ints {w : World} {A : Around} {g : Heap} {L : Addr} {m : Str → Option Value} {led : List (Addr × Obj)} {n : Nat} {a : Int} {C D J : Addr} {R : Result → Shared → Prop} {s₁ s : Shared} {x : Str} {px px' : Pos} {t1 i1 i2 : Expr} {scope : Scope} {cl : List (Str × Addr)} {env : Env} {pos : Pos} {ys0 : List Value} {ns0 : List Int} {k0 : Nat}
    (hh : A.handled = none) (hkind : scope.kind = .function) (hx : scope.names.lookup x = some .local) (hb : (x == ("__debug__" : Str)) = false)
    (hJL : J ≠ L) (hCL : C ≠ L) (hDL : D ≠ L) (hJ0 : g.get? J = none) (hC0 : g.get? C = none) (hD0 : g.get? D = none) (hJC : J ≠ C) (hJD : J ≠ D) (hCD : C ≠ D) (hled : ∀ p ∈ led, p.1 ≠ J ∧ p.1 ≠ C ∧ p.1 ≠ D)
    (hy0 : IntsAre ys0 ns0) (hz : ns0.length + n ≤ 10000000)
    (fin : ∀ s' ys k, Fr g L s'.heap m → RO s₁ s' → (∃ mC, s'.heap.Ns C mC) → News g L s'.heap ((D, W.listOf ys.toArray k) :: led) → IntsAre ys (ns0 ++ intsFrom a n) → R (.ok .next) s')
    (F : Fr g L s.heap m) (ro : RO s₁ s) (hJ : s.heap.get? J = some (rangeO a n 1)) (hns : ∃ mC, s.heap.Ns C mC) (N : News g L s.heap ((D, W.listOf ys0.toArray k0) :: led)) :
    codeAny (model PG w) A (.compLoop (.ListComp (.Name x px) [⟨t1, i1, [], 0⟩, ⟨.Name x px', i2, [], 0⟩] scope pos) 1 (.ref J) (.ref D) (compEnvC scope cl C env)) R s := by
  have S := CS.range (w := w) (A := A) (g := g) (L := L) (led := (D, W.listOf ys0.toArray k0) :: led) (a := a) (c := 1) (n := n) hh
  refine innerLoop_any (I := fun k s' => ∃ i ys kk, k + i = n ∧ s'.heap.get? J = some (rangeO (a + (i : Nat) * 1) ((n : Int) - (i : Nat)) 1) ∧ Fr g L s'.heap m ∧ RO s₁ s' ∧ (∃ mC, s'.heap.Ns C mC) ∧ News g L s'.heap ((D, W.listOf ys.toArray kk) :: led) ∧ IntsAre ys (ns0 ++ intsFrom a i)) ?_ n
    ⟨0, ys0, k0, by omega, by simpa using hJ, F, ro, hns, N, by simpa [intsFrom] using hy0⟩
  rintro E k s' ⟨i, ys, kk, hk, hJo, F', ro', ⟨mC, hC⟩, N', hys⟩
  have offJ : ∀ p ∈ (D, W.listOf ys.toArray kk) :: led, p.1 ≠ J := by
    intro p hp
    rcases List.mem_cons.mp hp with rfl | hp
    · exact Ne.symm hJD
    · exact (hled p hp).1
  by_cases hi : i = n
  · subst hi
    refine wpAny_pyNext_range_end hh hJo (by omega) fun h' he => ?_
    refine fin _ ys kk (fr_sameBut F' he hJL hJ0) ⟨ro'.gens, ro'.os⟩ ⟨mC, ?_⟩ (news_extBut N' he offJ) hys
    obtain ⟨oC, es, ep, e, r⟩ := hC
    exact ⟨oC, es, ep, he _ _ (Ne.symm hJC) e, r⟩
  · refine wpAny_pyNext_range_item hJo (by omega) fun h' hit hs => ?_
    have he := hs.extBut
    refine let_go_it hit rfl (by decide +kernel) ?_
    obtain ⟨oC, es, ep, hCo, r⟩ := hC
    have hCo' := he _ _ (Ne.symm hJC) hCo
    have F₃ := fr_sameBut F' he hJL hJ0
    have N₃ := news_extBut N' he offJ
    refine wpAny_assign_Name (wpAny_storeName_local (lookup_relabel_local hx) ⟨oC, es, ep, hCo', r⟩ (fun h₃ hn₃ hs₃ => ?_) (by simp [compEnvC, relabel, hkind]))
    have F₄ : Fr g L h₃ m := fr_sameBut F₃ hs₃.extBut hCL hC0
    have N₄ := news_extBut N₃ hs₃.extBut (by
      intro p hp
      rcases List.mem_cons.mp hp with rfl | hp
      · exact Ne.symm hCD
      · exact (hled p hp).2.1)
    have hJ₄ := hs₃.extBut _ _ hJC hit
    refine wpAny_Name (wpAny_loadName_local (by simpa [compEnvC, relabel] using hkind) (lookup_relabel_local hx) hn₃ (if_pos rfl) ?_) hb
    have hlen := ints_len hys
    rw [List.length_append] at hlen
    have hl2 : (intsFrom a i).length = i := by simp [intsFrom]
    refine append_at (N₄ _ (.head _)).1 (fun h₅ hs₅ hD₅ => ?_) (by simp only [List.size_toArray, sizeLine_eq]; omega)
    refine ⟨k - 1, by omega, i + 1, ys ++ [Value.int (a + (i : Int) * 1) s'.toks], kk + 1, by omega, ?_, fr_sameBut F₄ hs₅.extBut hDL hD0, ⟨ro'.gens, ro'.os⟩, ⟨_, hn₃.sameBut hs₅ hCD⟩, ?_, ?_⟩
    · have e1 : a + ((i + 1 : Nat) : Int) * 1 = a + (i : Int) * 1 + 1 := by push_cast; omega
      have e2 : (n : Int) - ((i + 1 : Nat) : Int) = (n : Int) - (i : Int) - 1 := by push_cast; omega
      rw [e1, e2]; exact hs₅.extBut _ _ hJD hJ₄
    · intro p hp
      rcases List.mem_cons.mp hp with rfl | hp
      · refine ⟨?_, hDL, hD0⟩
        rw [hD₅]; simp
      · have z := N₄ p (.tail _ hp)
        exact ⟨hs₅.extBut _ _ (hled p hp).2.2 z.1, z.2⟩
    · rw [intsFrom_succ, ← List.append_assoc]
      refine ints_app hys ?_
      have e1 : a + (i : Int) * 1 = a + (i : Int) := by omega
      rw [e1]
      exact .cons _ _ .nil
def allInts (ps : Nat → Int × Nat) (n : Nat) : List Int := (List.range n).flatMap fun j => intsFrom (ps j).1 (ps j).2
theorem allInts_succ (ps : Nat → Int × Nat) (n : Nat) : allInts ps (n + 1) = allInts ps n ++ intsFrom (ps n).1 (ps n).2 := by
  unfold allInts; rw [List.range_succ, List.flatMap_append]; simp
theorem allInts_len (ps : Nat → Int × Nat) : ∀ n : Nat, (∀ j, j < n → (ps j).2 ≤ 1000) → (allInts ps n).length ≤ n * 1000
  | 0, _ => by simp [allInts]
  | n + 1, h => by
    rw [allInts_succ, List.length_append]
    have h1 := allInts_len ps n (fun j hj => h j (by omega))
    have h2 := h n (by omega)
    have h3 : (intsFrom (ps n).1 (ps n).2).length = (ps n).2 := by simp [intsFrom]
    omega
def CTurn2 (w : World) (A : Around) (g : Heap) (L : Addr) (m : Str → Option Value) (led : List (Addr × Obj)) (cenv : Env) (C : Addr) (p : Str) (i2 : Expr) (P : Nat → Value → Prop) (n : Nat) (ps : Nat → Int × Nat) (s₁ : Shared) : Prop :=
  ∀ (E : Value → Shared → Prop) (j : Nat) (v : Value) (oC : Obj) (mC : Str → Option Value) (rest : List (Addr × Obj)) (s₃ : Shared), j < n → P j v → LCg.NsObj oC mC → mC p = some v → RO s₁ s₃ → Fr g L s₃.heap m → News g L s₃.heap ((C, oC) :: (led ++ rest)) → (∀ p ∈ led ++ rest, p.1 ≠ C) →
    wpAny (model PG w) A (eval i2 cenv) (fun xv s₄ => TEnd g L m C led rest s₃ s₄ ∧ ∃ r t u v, xv = .ref r ∧ IsRange s₄.heap r (ps j).1 ((ps j).1 + ((ps j).2 : Int)) 1 t u v) E s₃
theorem outer_loop {w : World} {A : Around} {g : Heap} {L : Addr} {m : Str → Option Value} {led : List (Addr × Obj)} {n : Nat} {P : Nat → Value → Prop} {It : Nat → Obj → Prop} {ps : Nat → Int × Nat} {I C D : Addr} {R : Result → Shared → Prop} {s₁ s : Shared} {x p : Str} {px px' pp : Pos} {i1 i2 : Expr} {scope : Scope} {cl : List (Str × Addr)} {env : Env} {pos : Pos} {k₀ : Nat} {oI : Obj}
    (S : CS w A g L led n P It) (hsz : n ≤ 1000) (hps : ∀ j, j < n → (ps j).2 ≤ 1000 ∧ -1000000 ≤ (ps j).1 ∧ (ps j).1 ≤ 1000000) (hs2 : ∀ x, foldedSetIterable i2 (compEnvC scope cl C env) x = pure x)
    (hh : A.handled = none) (hkind : scope.kind = .function) (hx : scope.names.lookup x = some .local) (hb : (x == ("__debug__" : Str)) = false) (hp : scope.names.lookup p = some .local)
    (hIL : I ≠ L) (hCL : C ≠ L) (hDL : D ≠ L) (hI0 : g.get? I = none) (hC0 : g.get? C = none) (hD0 : g.get? D = none) (hIC : I ≠ C) (hID : I ≠ D) (hCD : C ≠ D) (hled : ∀ p ∈ led, p.1 ≠ I ∧ p.1 ≠ C ∧ p.1 ≠ D)
    (turn : CTurn2 w A g L m led (compEnvC scope cl C env) C p i2 P n ps s₁)
    (fin : ∀ s' ys k, Fr g L s'.heap m → RO s₁ s' → (∃ m, s'.heap.Ns C m) → News g L s'.heap ((D, W.listOf ys.toArray k) :: led) → IntsAre ys (allInts ps n) → R (.ok .next) s')
    (F : Fr g L s.heap m) (ro : RO s₁ s) (hIo : s.heap.get? I = some oI) (hit : It 0 oI) (hns : ∃ m, s.heap.Ns C m) (hD : s.heap.get? D = some (W.listOf #[] k₀)) (N : News g L s.heap led) :
    codeAny (model PG w) A (.compLoop (.ListComp (.Name x px) [⟨.Name p pp, i1, [], 0⟩, ⟨.Name x px', i2, [], 0⟩] scope pos) 0 (.ref I) (.ref D) (compEnvC scope cl C env)) R s := by
  refine outerLoop_any (I := fun k s' => ∃ i ys kk oI, k + i = n ∧ It i oI ∧ s'.heap.get? I = some oI ∧ Fr g L s'.heap m ∧ RO s₁ s' ∧ (∃ mC, s'.heap.Ns C mC) ∧ News g L s'.heap ((D, W.listOf ys.toArray kk) :: led) ∧ IntsAre ys (allInts ps i)) hs2 ?_ n
    ⟨0, [], k₀, oI, by omega, hit, hIo, F, ro, hns, news_cons N hD hDL hD0, .nil⟩
  rintro E k s' ⟨i, ys, kk, oI, hk, hit, hIo, F', ro', ⟨mC, hC⟩, N', hys⟩
  have Nled : News g L s'.heap led := fun p hp => N' p (.tail _ hp)
  have offI : ∀ p ∈ (D, W.listOf ys.toArray kk) :: led, p.1 ≠ I := by
    intro p hp
    rcases List.mem_cons.mp hp with rfl | hp
    · exact Ne.symm hID
    · exact (hled p hp).1
  obtain ⟨oC, es, ep, hCo, r⟩ := hC
  by_cases hi : i = n
  · subst hi
    refine S.done I oI s' _ _ hit hIo F'.keep Nled fun h' he => ?_
    exact fin _ ys kk (fr_sameBut F' he hIL hI0) ⟨ro'.gens, ro'.os⟩ ⟨mC, oC, es, ep, he _ _ (Ne.symm hIC) hCo, r⟩ (news_extBut N' he offI) hys
  · have hlt : i < n := by omega
    refine S.item i I oI s' _ _ hlt hit hIo F'.keep Nled fun v h' tk o' hP hit' ho' he => ?_
    obtain ⟨c, hc, hgo⟩ := S.go _ _ hit'
    refine let_go_it ho' hc hgo ?_
    have hCo' := he _ _ (Ne.symm hIC) hCo
    have F₃ := fr_sameBut F' he hIL hI0
    have N₃ := news_extBut N' he offI
    refine wpAny_assign_Name (wpAny_storeName_local (lookup_relabel_local hp) ⟨oC, es, ep, hCo', r⟩ (fun h₃ hn₃ hs₃ => ?_) (by simp [compEnvC, relabel, hkind]))
    obtain ⟨oC', heC, hoC'⟩ := LCg.ns_obj hn₃
    have F₄ : Fr g L h₃ m := fr_sameBut F₃ hs₃.extBut hCL hC0
    have offC : ∀ q ∈ led ++ [(I, o'), (D, W.listOf ys.toArray kk)], q.1 ≠ C := by
      intro q hq
      rcases List.mem_append.mp hq with hq | hq
      · exact (hled q hq).2.1
      · simp only [List.mem_cons, List.not_mem_nil, or_false] at hq
        rcases hq with rfl | rfl
        · exact hIC
        · exact Ne.symm hCD
    have N₄ : News g L h₃ ((C, oC') :: (led ++ [(I, o'), (D, W.listOf ys.toArray kk)])) := by
      refine news_cons (fun q hq => ?_) heC hCL hC0
      have hne := offC q hq
      rcases List.mem_append.mp hq with hq | hq
      · exact ⟨hs₃.extBut _ _ hne (N₃ q (.tail _ hq)).1, (N₃ q (.tail _ hq)).2⟩
      · simp only [List.mem_cons, List.not_mem_nil, or_false] at hq
        rcases hq with rfl | rfl
        · exact ⟨hs₃.extBut _ _ hIC ho', hIL, hI0⟩
        · exact ⟨hs₃.extBut _ _ (Ne.symm hCD) (N₃ _ (.head _)).1, (N₃ _ (.head _)).2⟩
    refine wpAny_mono (turn E i v oC' _ [(I, o'), (D, W.listOf ys.toArray kk)] _ hlt hP hoC' (if_pos rfl) ⟨ro'.gens, ro'.os⟩ F₄ N₄ offC) (fun xv s₄ h₄ => ?_) fun _ _ e => e
    obtain ⟨⟨oC₂, mC₂, hoC₂, F₅, N₅, ro₅⟩, rr, t1, t2, t3, rfl, hr⟩ := h₄
    obtain ⟨hp1, hp2, hp3⟩ := hps i hlt
    refine start_range (n := (ps i).2) hr (small_one (by omega) (by omega) (by omega) (by omega)) (by rw [rangeSize_nat]; simp; omega) _ _ fun oJ hoJ => ?_
    have zJ : s₄.heap.get? s₄.heap.objs.size = none := by
      cases q : s₄.heap.get? s₄.heap.objs.size with
      | none => rfl
      | some o => exact absurd (Heap.lt_size q) (Nat.lt_irrefl _)
    have old : ∀ b o, s₄.heap.get? b = some o → (s₄.heap.push oJ).get? b = some o := fun b o e => Heap.get?_push_of_some _ e
    have F₆ := F₅.keeps old
    have N₆ := N₅.grown old
    have zI := N₅ (I, o') (.tail _ (List.mem_append_right _ (.head _)))
    have zD := N₅ (D, W.listOf ys.toArray kk) (.tail _ (List.mem_append_right _ (.tail _ (.head _))))
    have zC := N₅ (C, oC₂) (.head _)
    have ne : ∀ b o, s₄.heap.get? b = some o → s₄.heap.objs.size ≠ b := fun b o e q => by rw [← q, zJ] at e; cases e
    have hJ : (s₄.heap.push oJ).get? s₄.heap.objs.size = some (rangeO (ps i).1 (ps i).2 1) := by
      rw [hoJ]
      have e : rangeO ((ps i).1 + ((0 : Nat) : Int) * 1) (((ps i).2 : Int) - ((0 : Nat) : Int)) 1 = rangeO (ps i).1 (ps i).2 1 := by simp
      rw [e]
      exact Heap.get?_push_size _ rfl
    obtain ⟨oL, _, _, hLo, _⟩ := F₅.ns
    have gJ : g.get? s₄.heap.objs.size = none := by
      cases q : g.get? s₄.heap.objs.size with
      | none => rfl
      | some o => rw [F₅.keep _ _ q] at zJ; cases zJ
    have key : codeAny (model PG w) (A.mark none) (.compLoop (.ListComp (.Name x px) [⟨.Name p pp, i1, [], 0⟩, ⟨.Name x px', i2, [], 0⟩] scope pos) 1 (.ref s₄.heap.objs.size) (.ref D) (compEnvC scope cl C env)) (fun r s₅ => match r with | .ok _ => ∃ m_1, m_1 < k ∧ ∃ i ys kk oI, m_1 + i = n ∧ It i oI ∧ s₅.heap.get? I = some oI ∧ Fr g L s₅.heap m ∧ RO s₁ s₅ ∧ (∃ mC, s₅.heap.Ns C mC) ∧ News g L s₅.heap ((D, W.listOf ys.toArray kk) :: led) ∧ IntsAre ys (allInts ps i) | .error e => cameBackBy (model PG w) A (compEnvC scope cl C env) E e s₅) { s₄ with heap := s₄.heap.push oJ } := by
      refine inner_ints (s₁ := s₁) (led := (I, o') :: led) (ys0 := ys) (ns0 := allInts ps i) (k0 := kk) (by simp [Around.mark, hh]) hkind hx hb (ne _ _ hLo) hCL hDL gJ hC0 hD0 (ne _ _ zC.1) (ne _ _ zD.1) hCD ?_ hys ?_ ?_ F₆ ⟨ro'.gens.trans ro₅.gens, ro₅.os.trans ro'.os⟩ hJ ⟨_, hoC₂.ns (old _ _ zC.1)⟩ ?_
      · intro q hq
        rcases List.mem_cons.mp hq with rfl | hq
        · exact ⟨fun e => ne _ _ zI.1 e.symm, hIC, hID⟩
        · exact ⟨fun e => ne _ _ (N₅ q (.tail _ (List.mem_append_left _ hq))).1 e.symm, (hled q hq).2⟩
      · have := allInts_len ps i (fun j hj => (hps j (by omega)).1)
        have : i * 1000 ≤ 1000 * 1000 := Nat.mul_le_mul_right _ (by omega)
        omega
      · intro s₇ ys' k' F₇ ro₇ ns₇ N₇ hys'
        refine ⟨k - 1, by omega, i + 1, ys', k', o', by omega, hit', (N₇ (I, o') (.tail _ (.head _))).1, F₇, ro₇, ns₇, fun q hq => ?_, by rw [allInts_succ]; exact hys'⟩
        rcases List.mem_cons.mp hq with rfl | hq
        · exact N₇ _ (.head _)
        · exact N₇ q (.tail _ (.tail _ hq))
      · intro q hq
        rcases List.mem_cons.mp hq with rfl | hq
        · exact ⟨old _ _ zD.1, zD.2⟩
        · rcases List.mem_cons.mp hq with rfl | hq
          · exact ⟨old _ _ zI.1, zI.2⟩
          · exact N₆ q (.tail _ (List.mem_append_left _ hq))
    exact compStart_inner key (wpAny_pyIter_rangeiter hJ key)
theorem rangeSize_two (k : Nat) : Builtin.Range.rangeSize 0 ((k : Int) - 1) 2 = ((k / 2 : Nat) : Int) := by
  unfold Builtin.Range.rangeSize
  rw [if_pos (by decide)]
  split <;> omega
theorem small_two {b : Int} (h1 : -1000000 ≤ b) (h2 : b ≤ 1000000) : Builtin.Range.small 0 b 2 = true := by
  unfold Builtin.Range.small
  have hs : 0 ≤ Builtin.Range.rangeSize 0 b 2 ∧ Builtin.Range.rangeSize 0 b 2 ≤ 1000000 := by
    unfold Builtin.Range.rangeSize
    rw [if_pos (by decide)]
    split <;> omega
  simp only [Builtin.Range.rangeFitsLong, Bool.and_eq_true, Bool.or_eq_true, decide_eq_true_eq, beq_iff_eq, show (2 : Int) > 0 by decide, if_true]
  omega
theorem ints_get : ∀ {vs : List Value} {ns : List Int}, IntsAre vs ns → ∀ {i : Nat} {n : Int}, ns[i]? = some n → ∃ t, vs[i]? = some (.int n t)
  | _, _, .nil, _, _, e => nomatch e
  | _, _, .cons n t r, 0, _, e => ⟨t, by rw [← Option.some.inj e]; rfl⟩
  | _, _, .cons n t r, i + 1, _, e => ints_get r e
def pairOf (M : List Nat) (j : Nat) : Int × Nat := ((M.getD (2 * j) 0 : Nat), M.getD (2 * j + 1) 0 + 1 - M.getD (2 * j) 0)
theorem marks_sorted (U : List (List Nat)) : (marksI U).Pairwise (· < ·) := List.Pairwise.filter _ (List.pairwise_lt_range)
def keepOut (U : List (List Nat)) (I : List Int) (i : Nat) : Option PyData := if (I.any (· == (i : Int))) = true then none else (U[i]?).map fun c => PyData.str (mkS c)
def keptU (U : List (List Nat)) (I : List Int) (l : List Nat) : List (List Nat) := l.filterMap fun (i : Nat) => if (I.any (· == (i : Int))) = true then none else U[i]?
theorem kept_out (U : List (List Nat)) (I : List Int) : ∀ l : List Nat, (l.map (keepOut U I)).filterMap id = ((keptU U I l).map mkS).map PyData.str
  | [] => rfl
  | i :: r => by
    rw [List.map_cons, keptU, List.filterMap_cons, List.filterMap_cons]
    have ih := kept_out U I r
    unfold keptU at ih
    unfold keepOut
    by_cases h : (I.any (· == (i : Int))) = true
    · simp only [h, if_true, id]; exact ih
    · simp only [h, if_false, id, Bool.false_eq_true]
      cases U[i]? with
      | none => exact ih
      | some c => simp only [Option.map_some, List.map_cons]; rw [← ih]; rfl
/-- a text with what is between two marks taken out -/
def bareU (U : List (List Nat)) : List (List Nat) := keptU U (allInts (pairOf (marksI U)) ((marksI U).length / 2)) (List.range U.length)
def bareF (x : Str) : Str := Str.join (Str.ofString "") ((bareU (us x)).map mkS)
theorem toks_two : ∀ (p : Nat) (l : List Nat), ∀ u ∈ toks p l, u.2.length ≤ 2
  | _, [] => fun u hu => nomatch hu
  | p, [c] => fun u hu => by rw [List.mem_singleton.mp hu]; simp
  | p, c :: d :: r => fun u hu => by
    by_cases h : c = 92
    · rw [toks_bs2 h] at hu
      rcases List.mem_cons.mp hu with rfl | hu
      · simp
      · exact toks_two (p + 2) r u hu
    · rw [toks_one h] at hu
      rcases List.mem_cons.mp hu with rfl | hu
      · simp
      · exact toks_two (p + 1) (d :: r) u hu
theorem us_two (x : Str) : ∀ c ∈ us x, c.length ≤ 2 := by
  intro c hc
  obtain ⟨u, hu, rfl⟩ := List.mem_map.mp hc
  exact toks_two _ _ u hu
theorem kept_mem {U : List (List Nat)} {I : List Int} {l : List Nat} : ∀ c ∈ keptU U I l, c ∈ U := by
  intro c hc
  obtain ⟨i, _, hi⟩ := List.mem_filterMap.mp hc
  split at hi
  · cases hi
  · exact List.mem_of_getElem? hi
theorem kept_ok {U : List (List Nat)} {I : List Int} {l : List Nat} (hU : ∀ c ∈ U, c.length ≤ 2) (hl : l.length ≤ 10000) : JoinOk (Str.ofString "") ((keptU U I l).map mkS) = true := by
  have h1 : ((keptU U I l).map mkS).length ≤ l.length := by
    rw [List.length_map]; exact List.length_filterMap_le _ _
  have h2 := StrLaws.sumLen_le (B := 2) ((keptU U I l).map mkS) (by
    intro y hy
    obtain ⟨c, hc, rfl⟩ := List.mem_map.mp hy
    have := hU c (kept_mem c hc)
    simpa [Str.length, mkS] using this)
  exact joinOk_of_weight (by omega) (by decide)
theorem comp2_expr {w : World} {A : Around} {env : Env} {x p : Str} {px px' pp : Pos} {i1 i2 : Expr} {scope : Scope} {cl : List (Str × Addr)} {pos : Pos} {s : Shared} {Q E : Value → Shared → Prop}
    (hh : A.handled = none) (hclos : closureFor scope env = pure cl) (hcell : ∀ y ∈ scope.names, y.2 ≠ .cell) (hkind : scope.kind = .function) (hnames : ∀ y ∈ scope.names, y.2 = .local → scope.names.lookup y.1 = some .local)
    (hx : scope.names.lookup x = some .local) (hb : (x == ("__debug__" : Str)) = false) (hp : scope.names.lookup p = some .local)
    (h : wpAny (model PG w) A (eval i1 env) (fun xv s₁ => ∃ g L m led n P It ps, Fr g L s₁.heap m ∧ News g L s₁.heap led ∧ CS w A g L led n P It ∧ (∀ (Q : Value → Shared → Prop) (E : Value → Shared → Prop), (∀ o, It 0 o → Q (.ref s₁.heap.objs.size) { s₁ with heap := s₁.heap.push o }) → wpAny (model PG w) A (pyIter xv) Q E s₁) ∧
      n ≤ 1000 ∧ (∀ j, j < n → (ps j).2 ≤ 1000 ∧ -1000000 ≤ (ps j).1 ∧ (ps j).1 ≤ 1000000) ∧ (∀ C, s₁.heap.objs.size ≤ C → CTurn2 w A g L m led (compEnvC scope cl C env) C p i2 P n ps s₁) ∧
      ∀ D s' ys k, Fr g L s'.heap m → RO s₁ s' → News g L s'.heap ((D, W.listOf ys.toArray k) :: led) → IntsAre ys (allInts ps n) → (∀ p ∈ led, p.1 ≠ D) → Q (.ref D) s') E s)
    (hs : ∀ x, foldedSetIterable i1 env x = pure x := by intro _; rfl) (hs2 : ∀ C x, foldedSetIterable i2 (compEnvC scope cl C env) x = pure x := by intro _ _; rfl) :
    wpAny (model PG w) A (eval (.ListComp (.Name x px) [⟨.Name p pp, i1, [], 0⟩, ⟨.Name x px', i2, [], 0⟩] scope pos) env) Q E s := by
  rw [eval_ListComp]
  refine wpAny_comprehension_free (use := none) rfl hs hclos hkind hnames (wpAny_mono h (fun xv s₁ h₁ => ?_) fun _ _ e => e)
  obtain ⟨g, L, m, led, n, P, It, ps, F, N, S, start, hsz, hps, turn, hK⟩ := h₁
  refine start _ _ fun oI hit => ?_
  refine wpAny_newObj_type (wpAny_newFunctionEnv hcell (by intro y hy; simp at hy) (fun h₁ hns₁ hsb₁ => ?_) hkind)
  dsimp only at hns₁ hsb₁ ⊢
  have hIs : (s₁.heap.push oI).objs.size = s₁.heap.objs.size + 1 := Heap.size_push ..
  generalize hH2 : (s₁.heap.push oI).push { cls := .type "list", dict := none, data := .seq ([] : List Value).toArray } = H2 at hns₁ hsb₁ ⊢
  have hC : H2.objs.size = s₁.heap.objs.size + 2 := by rw [← hH2, Heap.size_push, hIs]
  have hLlt : @LT.lt Nat _ L s₁.heap.objs.size := F.ns.lt
  have gle : g.objs.size ≤ s₁.heap.objs.size := Nat.le_trans F.above (Nat.le_of_lt hLlt)
  have fresh₀ : ∀ a, s₁.heap.objs.size ≤ a → g.get? a = none := fun a ha => lt_of_none (Nat.le_trans gle ha)
  have nled : ∀ p ∈ led, @LT.lt Nat _ p.1 s₁.heap.objs.size := fun p hp => Heap.lt_size (N p hp).1
  have old : ∀ b o, s₁.heap.get? b = some o → h₁.get? b = some o := fun b o e => hsb₁.extBut b o (by have q : @LT.lt Nat _ b s₁.heap.objs.size := Heap.lt_size e; rw [hC]; exact Nat.ne_of_lt (by omega)) (Heap.get?_push_of_some _ (hH2 ▸ Heap.get?_push_of_some _ (Heap.get?_push_of_some _ e)))
  rw [hIs]
  rw [hC] at hns₁ hsb₁ ⊢
  have key : ∀ s₃ : Shared, s₃.heap = h₁ → s₃.gens = s₁.gens → s₃.os = s₁.os → h₁.get? s₁.heap.objs.size = some oI → h₁.get? (s₁.heap.objs.size + 1) = some (W.listOf #[] 0) →
      codeAny (model PG w) A (.compLoop (.ListComp (.Name x px) [⟨.Name p pp, i1, [], 0⟩, ⟨.Name x px', i2, [], 0⟩] scope pos) 0 (.ref s₁.heap.objs.size) (.ref (s₁.heap.objs.size + 1)) (compEnvC scope cl (s₁.heap.objs.size + 2) env)) (compPost (model PG w) A E none Q (.ref (s₁.heap.objs.size + 1)) (s₁.heap.objs.size + 2)) s₃ := by
    intro s₃ e1 e2 e3 hIo hDo
    refine outer_loop (C := s₁.heap.objs.size + 2) (s₁ := s₁) (m := m) (k₀ := 0) S hsz hps (hs2 _) hh hkind hx hb hp (Nat.ne_of_gt hLlt) (Nat.ne_of_gt (by omega)) (Nat.ne_of_gt (by omega)) (fresh₀ _ (Nat.le_refl _)) (fresh₀ _ (by omega)) (fresh₀ _ (by omega)) (Nat.ne_of_lt (by omega)) (Nat.ne_of_lt (by omega)) (Nat.ne_of_gt (by omega)) ?_ (turn _ (by omega)) ?_ (oI := oI) ?_ ⟨by rw [e2]; exact GExt.refl _, e3⟩ (by rw [e1]; exact hIo) hit ⟨_, by rw [e1]; exact hns₁⟩ (by rw [e1]; exact hDo) ?_
    · intro p hp
      have := nled p hp
      exact ⟨Nat.ne_of_lt this, Nat.ne_of_lt (by omega), Nat.ne_of_lt (by omega)⟩
    · intro s' ys k F' ro' ns' N' hall
      obtain ⟨mC, hns⟩ := ns'
      refine ⟨mC, hns, fun h' hs' => ?_⟩
      have nD : ∀ p ∈ led, p.1 ≠ s₁.heap.objs.size + 1 := fun p hp => by have := nled p hp; exact Nat.ne_of_lt (by omega)
      refine hK (s₁.heap.objs.size + 1) { s' with heap := h' } ys k (fr_sameBut F' hs'.extBut (Nat.ne_of_gt (by omega)) (fresh₀ _ (by omega))) ⟨ro'.gens, ro'.os⟩ (news_extBut N' hs'.extBut ?_) hall nD
      intro p hp
      rcases List.mem_cons.mp hp with rfl | hp
      · exact Nat.ne_of_lt (by omega)
      · have := nled p hp; exact Nat.ne_of_lt (by omega)
    · rw [e1]; exact F.keeps old
    · rw [e1]; exact fun p hp => ⟨old _ _ (N p hp).1, (N p hp).2⟩
  have hI₁ : h₁.get? s₁.heap.objs.size = some oI := hsb₁.extBut _ _ (Nat.ne_of_lt (by omega)) (Heap.get?_push_of_some _ (hH2 ▸ Heap.get?_push_of_some _ (Heap.get?_push_size _ (S.nf _ _ hit))))
  have hD₁ : h₁.get? (s₁.heap.objs.size + 1) = some (W.listOf #[] 0) := hsb₁.extBut _ _ (Nat.ne_of_lt (by omega)) (Heap.get?_push_of_some _ (hH2 ▸ hIs ▸ Heap.get?_push_size _ rfl))
  exact codeAny_compStart_list (key _ rfl rfl rfl hI₁ hD₁) (S.self 0 _ oI _ _ _ hit hI₁ (key _ rfl rfl rfl hI₁ hD₁))
end Mine
end
section
open PySem PySem.W PyProof.Rows PySem.Calls
set_option Elab.async false
namespace Mine
set_option maxRecDepth 100000
set_option linter.unusedVariables false
set_option maxHeartbeats 4000000
theorem fillK3 (P : Params) : Challenge.rw_qw0046_01 = Challenge.rw_qw0046_01 ∧ hd.heap_39 P = hd.heap_39 P := by
  k_fill
  exact ⟨rfl, rfl⟩


local macro_rules | `(tactic| walk_at "call builtin:len") => `(tactic| (k_dflt (refine' len_vals ?k1 ?k2 ?k3 ?_; (case k1 => k_asm); (case k2 => k_mem); (case k3 => (first | (simp only [strValues_length]; omega) | omega)); k_whole); intro tl9 kl9; (try simp only [strValues_length])))
local macro_rules | `(tactic| walk_at "eval Name") => `(tactic| (k_inBlock; k_dflt (first
  | (refine' nameB_M ?N ?m ?o ?v ?_ ?a ?b ?c; (case a => rfl); (case b => rfl); (case c => decide); (case N => k_asm); (case o => assumption); (case m => k_mem); (case v => assumption); k_whole)
  | (refine' nameB_C ?N ?m ?d ?_ ?c ?a ?b ?e; (case c => rfl); (case a => rfl); (case b => rfl); (case e => decide); (case N => k_asm); (case m => k_mem); (case d => assumption); k_whole))))
local macro_rules | `(tactic| walk_at "subscriptTail") => `(tactic| ((with_reducible show wpAny _ _ (subscriptTail _ _ (Value.ref _) (Value.int _ _)) _ _ _); k_dflt (refine' tail_at ?N ?m ?z ?k ?i ?_ ?s; (case N => k_asm); (case m => k_mem); (case z => omega); (case k => assumption); (case i => omega); (case s => with_unfolding_all rfl); k_whole)))

theorem con_bare {w : World} {mean : ExcName → Option Value} {mg mb : Str → Option Value} (x : Str) (t : Tok) (hlen : x.length ≤ 500) : Con w mean mg mb 185 [.str x t] 3 (fun _ => True) (fun s v s' => ∃ t', v = .str (bareF x) t') := by
  intro A s Q E hh hd hu X T hpre hQ
  obtain ⟨ha, dp, fr, gd, un⟩ := A
  obtain rfl : ha = none := hh
  dsimp only at hd hu
  replace hh : (⟨none, dp, fr, gd, un⟩ : Around).handled = none := rfl
  refine wpAny_call ?_
  k_dflt (refine' enterC (binds := [(Str.ofString "text", .str x t)]) X T.nolimit ?ho ?hcd ?hroom ?hbind ?hkind ?hnd ?_ ?c1 ?c2 ?c3; (case ho => k_is); (case hcd => k_is); (case hroom => (dsimp only; omega)); (case hbind => exact BindsTo.of_eq rfl); (case hkind => rfl); (case hnd => decide +kernel); (case c1 => rfl); (case c2 => rfl); (case c3 => rfl))
  k_whole
  intro g L h₁ tk₁ cells hg F N Y
  rw [← hg] at X T
  (try dsimp only)
  try k_fold
  obtain ⟨o1, o2, o3, rfl, d1, d2, d3⟩ := CellsAre.three Y
  clear Y
  replace d1 : o1.data = .cell none := d1
  replace d2 : o2.data = .cell none := d2
  replace d3 : o3.data = .cell none := d3
  obtain ⟨mm, F⟩ : ∃ mm : Str → Option Value, Fr g L h₁ (fun y => if y = Str.ofString "text" then some (.str x t) else mm y) := ⟨_, fr_knows [(Str.ofString "text", .str x t)] F ⟨rfl, trivial⟩⟩
  k_steps
  refine wpAny_Assign_Name ?_ (by rfl)
  refine comp_expr (cl := []) (by rfl) (by decide) (by rfl) (by decide) ?_
  k_steps
  refine Con.use (con_units x t (by omega)) hh (by simp only [Around.deeper]; omega) (by simp only [Around.deeper]; omega) X T (by assumption) (by assumption) (trivial) ?_
  intro v1 s1 hx1 F1 N1 hp1
  obtain ⟨a, vs, n, tl, rfl, hm1, hm2, hm3, hm4⟩ := hp1
  have N2 := made_news (by assumption) N1 hm1 hm2
  have hvl : vs.length ≤ 500 := by
    have h1 := hm4.length
    have h2 := toks_len 0 x.cps.toList
    have h3 : x.cps.toList.length = x.length := by simp [Str.length]
    omega
  refine csrc_list (L := L) ((toks 0 x.cps.toList).map fun u => some (.str (mkS u.2))) hh F1 N2 (List.mem_append_right _ (.head _)) (by omega) (by rw [List.length_map, hm4.length]) (fun C hC => turn_second (by exact hh) ?hk1 ?hk2 ?hk3 ?hk4 ?hk5 (hm4.mono fun _ _ r => r.mono fun p hp => List.mem_append_right _ (.tail _ hp)) C hC) ?_
  case hk1 => rfl
  case hk2 => rfl
  case hk3 => rfl
  case hk4 => decide
  case hk5 => decide
  rw [filterMap_some]
  intro D s2 ys k tl2 F2 ro2 N2' hall off2
  obtain ⟨q, rfl, hq⟩ := strs_of (xs := us x |>.map mkS) (fun p hp => (N2' p (.tail _ (List.mem_append_right _ hp))).1) (by rw [us, List.map_map, List.map_map]; exact hall)
  have n1 := neN (off2 (L + 1 + 1 + 1, o1) (by simp))
  have n2 := neN (off2 (L + 1 + 1, o2) (by simp))
  have n3 := neN (off2 (L + 1, o3) (by simp))
  dsimp only at n1 n2 n3
  have N3 := news_sub N2' (news' := [(D, W.listOf (strValues q).toArray k), (L + 1 + 1 + 1, o1), (L + 1 + 1, o2), (L + 1, o3)]) (by intro p hp; simp only [List.mem_cons, List.not_mem_nil, or_false] at hp; rcases hp with rfl | rfl | rfl | rfl <;> simp)
  clear N2' N2 N1 off2 hall hm1 hm2 hm3 F1
  k_steps
  rename_i h9 oU F9 N9 dU
  have hql : q.length ≤ 500 := by
    have h1 := congrArg List.length hq
    have h2 := toks_len 0 x.cps.toList
    have h3 : x.cps.toList.length = x.length := by simp [Str.length]
    rw [List.length_map, List.length_map, us, List.length_map] at h1
    omega
  refine wpAny_Assign_Name ?_ (by rfl)
  refine comp_expr (cl := [(Str.ofString "units", L + 1)]) (by rfl) (by decide) (by rfl) (by decide) ?_
  k_steps
  rename_i h8 t8 u8 v8 hr8 F8 N8 hk8
  have hqs : q.length = (us x).length := by
    have h1 := congrArg List.length hq
    rw [List.length_map, List.length_map] at h1; exact h1
  refine csrc_range (L := L) ((List.range q.length).map (markOut (us x))) hh F8 N8 hr8 (by omega) (by simp) (CTurn.name ?hk1 ?hk2 ?body) ?_
  case hk1 => rfl
  case hk2 => rfl
  case body =>
    rintro E i out v C oC mC rest s₃ hout ⟨ti, rfl⟩ hoC hmC ro₃ F₃ N₃ off₃
    have N₃o := N₃
    simp only [List.cons_append, List.nil_append] at N₃
    obtain ⟨hi, rfl⟩ := outs_at hout
    obtain ⟨c, tc, hci, hcu⟩ := strs_at hq hi
    have hqg := fun (y : Str) h => strs_get (y := y) hq h hcu
    refine wpAny_tests_one ?_
    generalize hQQ : (fun ok s₅ => _ : Bool → Shared → Prop) = QQ
    k_steps
    rename_i y ty hy
    obtain rfl := hqg y hy
    rw [← hQQ, qt_eq, markOut, hcu]
    by_cases hc : c = [34]
    · subst hc
      rw [if_pos rfl, beq_self_eq_true]
      refine ⟨rfl, nameB_M N₃o (.head _) hoC hmC ?_ (by rfl) (by rfl) (by decide)⟩
      exact ⟨⟨oC, mC, hoC, F₃, N₃o, ⟨GExt.refl _, rfl⟩⟩, elt_flat LRd.int⟩
    · rw [if_neg (by simpa using hc)]
      refine ⟨by simp only [beq_eq_false_iff_ne, ne_eq]; exact fun e => hc (mkS_inj e), oC, mC, hoC, F₃, N₃o, ⟨GExt.refl _, rfl⟩⟩
  rw [marks_out]
  intro D2 s3 ys k2 tl3 F3 ro3 N3' hall3 off3
  have him := ints_of (fun p hp => (N3' p (.tail _ (List.mem_append_right _ hp))).1) hall3
  rw [hqs, ← marksI] at him
  have n4 := neN (off3 (L + 1 + 1 + 1, o1) (by simp))
  have n5 := neN (off3 (L + 1 + 1, o2) (by simp))
  have n6 := neN (off3 (L + 1, oU) (by simp))
  have n7 := neN (off3 (D, W.listOf (strValues q).toArray k) (by simp))
  dsimp only at n4 n5 n6 n7
  have N3 := news_sub N3' (news' := [(D2, W.listOf ys.toArray k2), (D, W.listOf (strValues q).toArray k), (L + 1 + 1 + 1, o1), (L + 1 + 1, o2), (L + 1, oU)]) (by intro p hp; simp only [List.mem_cons, List.not_mem_nil, or_false] at hp; rcases hp with rfl | rfl | rfl | rfl | rfl <;> simp)
  clear N3' off3 hall3
  k_steps
  rename_i h9b oM F9b N9b dM
  refine wpAny_Assign_Name ?_ (by rfl)
  have hml : ys.length = (marksI (us x)).length := by rw [ints_len him, List.length_map]
  have hmb : (marksI (us x)).length ≤ 500 := by
    have := List.length_filter_le (fun i => decide ((us x)[i]? = some [34])) (List.range (us x).length)
    rw [List.length_range] at this
    unfold marksI; omega
  have hys5 : ys.length ≤ 500 := by omega
  refine comp2_expr (cl := [(Str.ofString "marks", L + 1 + 1)]) (by exact hh) (by rfl) (by decide) (by rfl) (by decide) (by rfl) (by decide) (by rfl) ?_
  k_steps
  rename_i h10 t10 u10 v10 hr10 F10 N10 hk10
  have hM : ∀ i (hi : i < (marksI (us x)).length), (marksI (us x))[i] < 500 := by
    intro i hi
    have := List.getElem_mem hi
    have h2 := List.mem_range.mp (List.mem_filter.mp this).1
    omega
  have hMs := marks_sorted (us x)
  generalize hMM : marksI (us x) = M at *
  refine ⟨g, L, _, _, M.length / 2, _, _, pairOf M, F10, N10, CS.range (a := 0) (c := 2) hh, start_range hr10 (small_two (by omega) (by omega)) (by rw [hml]; exact rangeSize_two _), by omega, ?_, ?_, ?_⟩
  · intro j hj
    have h1 := hM (2 * j) (by omega)
    have h2 := hM (2 * j + 1) (by omega)
    have e1 : M.getD (2 * j) 0 = M[2 * j] := by rw [List.getD_eq_getElem?_getD, List.getElem?_eq_getElem (by omega)]; rfl
    have e2 : M.getD (2 * j + 1) 0 = M[2 * j + 1] := by rw [List.getD_eq_getElem?_getD, List.getElem?_eq_getElem (by omega)]; rfl
    unfold pairOf
    rw [e1, e2]
    dsimp only
    omega
  · rintro C hC E j v oC mC rest s₃ hj ⟨tj, rfl⟩ hoC hmC ro₃ F₃ N₃ off₃
    have N₃o := N₃
    simp only [List.cons_append, List.nil_append] at N₃
    have e1 : M.getD (2 * j) 0 = M[2 * j] := by rw [List.getD_eq_getElem?_getD, List.getElem?_eq_getElem (by omega)]; rfl
    have e2 : M.getD (2 * j + 1) 0 = M[2 * j + 1] := by rw [List.getD_eq_getElem?_getD, List.getElem?_eq_getElem (by omega)]; rfl
    have h1 := hM (2 * j) (by omega)
    have h2 := hM (2 * j + 1) (by omega)
    have h3 : M[2 * j] < M[2 * j + 1] := List.pairwise_iff_getElem.mp hMs _ _ (by omega) (by omega) (by omega)
    obtain ⟨ta, hta⟩ := ints_get (i := (0 + (j : Int) * 2).toNat) (n := (M[2 * j] : Nat)) him (by
      have e : (0 + (j : Int) * 2).toNat = 2 * j := by omega
      rw [e, List.getElem?_map, List.getElem?_eq_getElem (by omega)]; rfl)
    obtain ⟨tb, htb⟩ := ints_get (i := (0 + (j : Int) * 2 + 1).toNat) (n := (M[2 * j + 1] : Nat)) him (by
      have e : (0 + (j : Int) * 2 + 1).toNat = 2 * j + 1 := by omega
      rw [e, List.getElem?_map, List.getElem?_eq_getElem (by omega)]; rfl)
    generalize hv1 : M[2 * j] = m1 at *
    generalize hv2 : M[2 * j + 1] = m2 at *
    generalize hQQ : (fun ok s₅ => _ : Value → Shared → Prop) = QQ
    clear him
    k_steps
    rename_i h11 t11 u11 v11 hr11 F11 N11 hk11
    rw [← hQQ]
    have hpj : pairOf M j = ((m1 : Int), m2 + 1 - m1) := by unfold pairOf; rw [e1, e2]
    rw [hpj]
    have e3 : ((m1 : Int) + ((m2 + 1 - m1 : Nat) : Int)) = (m2 : Int) + 1 := by omega
    dsimp only
    rw [e3]
    exact ⟨⟨oC, mC, hoC, F11, N11, ⟨GExt.refl _, rfl⟩⟩, _, _, _, _, rfl, hr11⟩
  · intro D3 s4 zs k3 F4 ro4 N4' hin off4
    have n8 := neN (off4 (L + 1 + 1 + 1, o1) (by simp))
    have n9 := neN (off4 (L + 1 + 1, oM) (by simp))
    have n10 := neN (off4 (L + 1, oU) (by simp))
    have n11 := neN (off4 (D, W.listOf (strValues q).toArray k) (by simp))
    have n12 := neN (off4 (D2, W.listOf ys.toArray k2) (by simp))
    dsimp only at n8 n9 n10 n11 n12
    have N4 := news_sub N4' (news' := [(D3, W.listOf zs.toArray k3), (D, W.listOf (strValues q).toArray k), (L + 1 + 1 + 1, o1), (L + 1, oU)]) (by intro p hp; simp only [List.mem_cons, List.not_mem_nil, or_false] at hp; rcases hp with rfl | rfl | rfl | rfl <;> simp)
    clear N4' off4
    k_steps
    rename_i h12 oI F12 N12 dI
    refine comp_expr (cl := [(Str.ofString "units", L + 1), (Str.ofString "inner", L + 1 + 1 + 1)]) (by rfl) (by decide) (by rfl) (by decide) ?_
    k_steps
    rename_i h13 t13 u13 v13 hr13 F13 N13 hk13
    generalize hII : allInts (pairOf M) (M.length / 2) = II at *
    refine csrc_range (L := L) ((List.range q.length).map (keepOut (us x) II)) hh F13 N13 hr13 (by omega) (by simp) (CTurn.name ?hl1 ?hl2 ?body2) ?_
    case hl1 => rfl
    case hl2 => rfl
    case body2 =>
      rintro E i out v C oC mC rest s₃ hout ⟨ti, rfl⟩ hoC hmC ro₃ F₃ N₃ off₃
      have N₃o := N₃
      simp only [List.cons_append, List.nil_append] at N₃
      obtain ⟨hi, rfl⟩ := outs_at hout
      obtain ⟨c, tc, hci, hcu⟩ := strs_at hq hi
      have hqg := fun (y : Str) h => strs_get (y := y) hq h hcu
      refine wpAny_tests_one ?_
      generalize hQQ : (fun ok s₅ => _ : Bool → Shared → Prop) = QQ
      k_steps
      rw [← hQQ]
      by_cases hI : (II.any (· == (i : Int))) = true
      · have hk : keepOut (us x) II i = none := if_pos hI
        rw [hk]
        exact ⟨by rw [hI]; rfl, oC, mC, hoC, F₃, N₃o, ⟨GExt.refl _, rfl⟩⟩
      · have hk : keepOut (us x) II i = some (.str (mkS c)) := by rw [keepOut, if_neg hI, hcu]; rfl
        rw [hk]
        refine ⟨by rw [Bool.not_eq_true] at hI; rw [hI]; rfl, ?_⟩
        generalize hQ2 : (fun y s₆ => _ : Value → Shared → Prop) = Q2
        k_steps
        rename_i y _ hy
        obtain rfl := hqg y hy
        rw [← hQ2]
        exact ⟨⟨oC, mC, hoC, F₃, N₃o, ⟨GExt.refl _, rfl⟩⟩, elt_flat LRd.str⟩
    rw [kept_out]
    intro D4 s5 ws k4 tl5 F5 ro5 N5 hall5 off5
    obtain ⟨q2, rfl, hq2⟩ := strs_of (xs := (keptU (us x) II (List.range q.length)).map mkS) (fun p hp => (N5 p (.tail _ (List.mem_append_right _ hp))).1) hall5
    have hjo := kept_ok (I := II) (l := List.range q.length) (us_two x) (by rw [List.length_range]; omega)
    have hbf : bareF x = Str.join (Str.ofString "") ((keptU (us x) II (List.range q.length)).map mkS) := by
      rw [bareF, bareU, hMM, hII, hqs]
    clear hall5 off5 hin
    k_steps
    refine join_strs N5 (.head _) (by rw [hq2]; exact hjo) ?_
    intro t14 k14
    rw [hq2, ← hbf]
    k_steps
    refine hQ _ _ (Ext.of_ro hg (by assumption) ⟨hx1.gens.trans (ro2.gens.trans (ro3.gens.trans (ro4.gens.trans ro5.gens))), (((ro5.os.trans ro4.os).trans ro3.os).trans ro2.os).trans hx1.os⟩) ⟨_, rfl⟩
end Mine
end
section
open PySem PySem.W PyProof.Rows PySem.Calls
set_option Elab.async false
namespace Mine
set_option maxRecDepth 100000
set_option linter.unusedVariables false
set_option maxHeartbeats 4000000
theorem fillK4 (P : Params) : Challenge.rw_qw0046_01 = Challenge.rw_qw0046_01 ∧ hd.heap_39 P = hd.heap_39 P := by
  k_fill
  exact ⟨rfl, rfl⟩



theorem fm8 (a : Int) : 0 ≤ a.fmod 8 ∧ a.fmod 8 < 8 := ⟨Int.fmod_nonneg_of_pos a (by decide), Int.fmod_lt_of_pos a (by decide)⟩
theorem fmk (a : Int) : 0 ≤ a.fmod (8 ^ Int.toNat 8) ∧ a.fmod (8 ^ Int.toNat 8) < 8 ^ 8 := ⟨Int.fmod_nonneg_of_pos a (by decide), Int.fmod_lt_of_pos a (by decide)⟩
abbrev okS (x : Str) : Prop := ∀ c ∈ x.cps.toList, c < 1114112
theorem okS_app {x y : Str} (hx : okS x) (hy : okS y) : okS (x ++ y) := by
  intro c hc
  rw [Str.cps_append, Array.toList_append] at hc
  exact (List.mem_append.mp hc).elim (hx c) (hy c)
def SmallStrs (vs : List Value) : Prop := vs.length = 8 ∧ ∀ v ∈ vs, ∃ y t, v = Value.str y t ∧ y.length ≤ 2 ∧ okS y
theorem tail_piece {prog : Program} {w : World} {A : Around} {E : Value → Shared → Prop} {s : Shared} {g : Heap} {L D : Addr} {news : List (Addr × Obj)} {value slice : PySem.Expr} {vs : List Value} {n : Nat} {k : Int} {u : Tok} {Q : Value → Shared → Prop} (N : News g L s.heap news) (hm : (D, W.listOf vs.toArray n) ∈ news) (hv : SmallStrs vs) (h0 : 0 ≤ k) (hk : k < 8) (h : ∀ y t, y.length ≤ 2 → okS y → Q (.str y t) s)
    (hs : subscripted slice false (.ref D) (.int k u) = operate [.ref D, .int k u] (getItem (.ref D) (.int k u)) := by with_unfolding_all rfl) :
    wpAny (model prog w) A (subscriptTail value slice (.ref D) (.int k u)) Q E s := by
  have hlt : k.toNat < vs.length := by rw [hv.1]; omega
  obtain ⟨y, t, hy, hy2, hy3⟩ := hv.2 _ (List.getElem_mem hlt)
  refine tail_item (News.isList N hm) h0 (y := .str y t) ?_ (by omega) (h y t hy2 hy3) hs
  rw [← hy, List.getElem?_eq_getElem hlt]
def JTexts (R P : Addr) (vs : List Value) (n : Nat) (i : Nat) (m : Str → Option Value) (led : List (Addr × Obj)) : Prop :=
  ∃ (q : List (Str × Tok)) (k : Nat), led = [(R, W.listOf (strValues q).toArray k), (P, W.listOf vs.toArray n)] ∧ q.length = 6 + i ∧ (∀ y ∈ q.map (·.1), y.length ≤ 16 ∧ okS y) ∧ KnOk m [(Str.ofString "pieces", .ref P), (Str.ofString "texts", .ref R)]

def q6 (t1 t2 t3 t4 t5 t6 : Tok) : List (Str × Tok) := [(Str.ofString "(a)", t1), (Str.ofString "a)(b", t2), (Str.ofString "\"(\\\"\" (x)", t3), (Str.ofString "\\( ()", t4), (Str.ofString "\"(a)", t5), (Str.ofString "(\"\")(", t6)]
theorem q6_eq {t1 t2 t3 t4 t5 t6 : Tok} : #[Value.str (Str.ofString "(a)") t1, Value.str (Str.ofString "a)(b") t2, Value.str (Str.ofString "\"(\\\"\" (x)") t3, Value.str (Str.ofString "\\( ()") t4, Value.str (Str.ofString "\"(a)") t5, Value.str (Str.ofString "(\"\")(") t6] = (strValues (q6 t1 t2 t3 t4 t5 t6)).toArray := rfl
theorem q6_len {t1 t2 t3 t4 t5 t6 : Tok} : ∀ y ∈ (q6 t1 t2 t3 t4 t5 t6).map (·.1), y.length ≤ 16 ∧ okS y := by
  have : ∀ y ∈ [Str.ofString "(a)", Str.ofString "a)(b", Str.ofString "\"(\\\"\" (x)", Str.ofString "\\( ()", Str.ofString "\"(a)", Str.ofString "(\"\")("], y.length ≤ 16 ∧ okS y := by decide
  exact this
theorem small8 {t1 t2 t3 t4 t5 t6 t7 t8 : Tok} : SmallStrs [Value.str (Str.ofString "(") t1, Value.str (Str.ofString ")") t2, Value.str (Str.ofString "\"") t3, Value.str (Str.ofString "\\") t4, Value.str (Str.ofString "a") t5, Value.str (Str.ofString "\\\"") t6, Value.str (Str.ofString "\\(") t7, Value.str (Str.ofString " ") t8] := by
  refine ⟨rfl, ?_⟩
  intro v hv
  simp only [List.mem_cons, List.not_mem_nil, or_false] at hv
  rcases hv with rfl | rfl | rfl | rfl | rfl | rfl | rfl | rfl <;> exact ⟨_, _, rfl, by decide, by decide⟩
theorem ints_len' : ∀ {vs : List Value} {ns : List Int}, IntsAre vs ns → vs.length = ns.length
  | _, _, .nil => rfl
  | _, _, .cons _ _ r => congrArg (· + 1) (ints_len' r)
theorem ints_get' : ∀ {vs : List Value} {ns : List Int}, IntsAre vs ns → ∀ {i : Nat} {v : Value}, vs[i]? = some v → ∃ n t, v = .int n t
  | _, _, .nil, _, _, e => nomatch e
  | _, _, .cons n t r, 0, _, e => ⟨n, t, (Option.some.inj e).symm⟩
  | _, _, .cons n t r, i + 1, _, e => ints_get' r e
def IW (g : Heap) (L : Addr) (s0 : Shared) (R P : Addr) (led : List (Addr × Obj)) (n : Nat) (s' : Shared) : Prop :=
  ∃ (a : Int) (ta : Tok) (y : Str) (ty : Tok) (j : Nat) (m' : Str → Option Value), n = a.toNat ∧ 0 ≤ a ∧ a < (8 : Int) ^ j ∧ 1 ≤ j ∧ j ≤ 8 ∧ y.length + 2 * j ≤ 18 ∧ okS y ∧ RO s0 s' ∧ KnOk m' [(Str.ofString "left", .int a ta), (Str.ofString "text", .str y ty), (Str.ofString "pieces", .ref P), (Str.ofString "texts", .ref R)] ∧ Fr g L s'.heap m' ∧ News g L s'.heap led
theorem IW.next {g : Heap} {L : Addr} {s0 s1 s' : Shared} {R P : Addr} {led : List (Addr × Obj)} {n j : Nat} {a : Int} {ta ty : Tok} {y z : Str} {m' : Str → Option Value} (hn : n = a.toNat) (h0 : 0 ≤ a) (ha : a < (8 : Int) ^ j) (h1 : 1 ≤ j) (h8 : j ≤ 8) (hy : y.length + 2 * j ≤ 18) (hoy : okS y) (hp : 0 < a.fdiv 8) (hz : z.length ≤ 2) (hoz : okS z) (r : RO s0 s1) (r' : RO s1 s')
    (F : Fr g L s'.heap m') (N : News g L s'.heap led) (hm : KnOk m' [(Str.ofString "left", .int (a.fdiv 8) ta), (Str.ofString "text", .str (y ++ z) ty), (Str.ofString "pieces", .ref P), (Str.ofString "texts", .ref R)]) : ∃ k, k < n ∧ IW g L s0 R P led k s' := by
  have e : a.fdiv 8 = a / 8 := Int.fdiv_eq_ediv_of_nonneg a (by decide)
  rw [e] at hp hm
  obtain ⟨i, rfl⟩ : ∃ i, j = i + 1 := ⟨j - 1, by omega⟩
  rw [Int.pow_succ] at ha
  have hi : 1 ≤ i := by
    cases i with
    | zero => simp at ha; omega
    | succ i => omega
  refine ⟨(a / 8).toNat, by omega, a / 8, ta, y ++ z, ty, i, m', rfl, by omega, ?_, hi, by omega, by rw [Str.length_append]; omega, okS_app hoy hoz, ⟨r.gens.trans r'.gens, r'.os.trans r.os⟩, hm, F, N⟩
  generalize (8 : Int) ^ i = Z at ha ⊢
  omega
local macro_rules | `(tactic| walk_at "subscriptTail") => `(tactic| (k_dflt (refine' tail_piece ?N ?m ?v ?z ?k ?_ ?s; (case N => k_asm); (case m => k_mem); (case v => exact small8); (case z => exact (fm8 _).1); (case k => exact (fm8 _).2); (case s => with_unfolding_all rfl); k_whole); intro y9 t9 hy9 ho9))

theorem con_texts {w : World} {mean : ExcName → Option Value} {mg mb : Str → Option Value} (d : Addr) (ds : List Value) (ns : List Int) (hns : ns.length ≤ 63) (hi : IntsAre ds ns) : Con w mean mg mb 173 [.ref d] 1 (fun s => s.heap.IsList d ds.toArray) (fun s v s' => ∃ D n q, v = .ref D ∧ s.heap.get? D = none ∧ s'.heap.get? D = some (W.listOf (strValues q).toArray n) ∧ q.length ≤ 70 ∧ ∀ y ∈ q.map (·.1), y.length ≤ 16 ∧ okS y) := by
  intro A s Q E hh hd hu X T hpre hQ
  obtain ⟨ha, dp, fr, gd, un⟩ := A
  obtain rfl : ha = none := hh
  dsimp only at hd hu
  replace hh : (⟨none, dp, fr, gd, un⟩ : Around).handled = none := rfl
  refine wpAny_call ?_
  k_dflt (refine' enterF (binds := [(Str.ofString "numbers", .ref d)]) X T.nolimit ?ho ?hcd ?hroom ?hbind ?hloc ?_ ?c1 ?c2 ?c3 ?c4; (case ho => k_is); (case hcd => k_is); (case hroom => (dsimp only; omega)); (case hbind => exact BindsTo.of_eq rfl); (case hloc => exact locs rfl); (case c1 => rfl); (case c2 => rfl); (case c3 => rfl); (case c4 => decide))
  k_whole
  intro g L h₁ tk₁ hg F N
  rw [← hg] at X T
  (try dsimp only)
  try k_fold
  k_steps
  rename News _ _ _ _ => N5
  rw [q6_eq] at N5
  refine wpAny_For ?_
  k_steps
  refine for_list (items := ds) (JTexts _ _ _ 0) hh ?hl (by assumption) N5 ⟨q6 _ _ _ _ _ _, 0, rfl, rfl, q6_len, rfl, rfl, trivial⟩ ?turn ?done
  case hl =>
    intro i m led h _ F' _
    obtain ⟨o, ho, r⟩ := hpre
    exact ⟨o, F'.keep _ _ (hg ▸ ho), r⟩
  case turn =>
    rintro E i v m led s₃ I₀ o hv ⟨q, k, rfl, hql, hqy, hm⟩ hit hro F₃ N₃ hoff0
    replace F₃ := fr_knows _ F₃ hm
    simp only [kn] at F₃
    have hds := ints_len' hi
    have hi9 : i < ds.length := (List.getElem?_eq_some_iff.mp hv).1
    obtain ⟨nn, tn, rfl⟩ := ints_get' hi hv
    have n1 := neN (hoff0 _ (.head _))
    have n2 := neN (hoff0 _ (.tail _ (.head _)))
    dsimp only at n1 n2
    generalize hQQ : (fun f s₃ => _ : Flow → Shared → Prop) = QQ
    k_steps
    (rename News _ _ _ _ => NW)
    (rename Fr _ _ _ _ => FW)
    refine while_rule (IW g L s₃ _ _ _) ?_ _ ⟨_, _, _, _, 8, _, rfl, (fmk _).1, (fmk _).2, by decide, by decide, by omega, (by assumption), ⟨GExt.refl _, rfl⟩, ⟨rfl, rfl, rfl, rfl, trivial⟩, FW, NW⟩
    rintro E n s₄ ⟨a, ta, y, ty, j, m₂, hn, h0, ha, h1, h8, hy, hoy, hro₂, hm₂, F₄, N₄⟩
    replace F₄ := fr_knows _ F₄ hm₂
    simp only [kn] at F₄
    generalize hQ2 : (fun f s₃ => _ : Flow → Shared → Prop) = Q2
    have ha9 : a < 16777216 := by
      have : (8 : Int) ^ j ≤ 16777216 := by
        rcases (by omega : j = 1 ∨ j = 2 ∨ j = 3 ∨ j = 4 ∨ j = 5 ∨ j = 6 ∨ j = 7 ∨ j = 8) with rfl | rfl | rfl | rfl | rfl | rfl | rfl | rfl <;> decide
      omega
    k_steps
    · rw [← hQ2]
      (rename News _ _ _ _ => NE)
      (rename Fr _ _ _ _ => FE)
      exact IW.next hn h0 ha h1 h8 hy hoy (by assumption) (by assumption) (by assumption) hro₂ ⟨GExt.refl _, rfl⟩ FE NE ⟨rfl, rfl, rfl, rfl, trivial⟩
    · clear hQ2
      rw [← hQQ]
      (rename News _ _ _ _ => NE)
      (rename Fr _ _ _ _ => FE)
      rw [sv_push] at NE
      refine ⟨_, _, ⟨q ++ [(y, ty)], k + 1, rfl, by simp; omega, ?_, rfl, rfl, trivial⟩, ⟨hro.gens.trans hro₂.gens, hro₂.os.trans hro.os⟩, FE, NE, ?_⟩
      · intro z hz
        rw [List.map_append] at hz
        rcases List.mem_append.mp hz with hz | hz
        · exact hqy z hz
        · have : z = y := by simpa using hz
          subst this; exact ⟨by omega, hoy⟩
      · intro p hp
        simp only [List.mem_cons, List.not_mem_nil, or_false] at hp
        rcases hp with rfl | rfl
        · exact n1
        · exact n2
  case done =>
    rintro m led s₃ ⟨q, k, rfl, hql, hqy, hm⟩ hro F₃ N₃
    replace F₃ := fr_knows _ F₃ hm
    simp only [kn] at F₃
    k_steps
    refine hQ _ _ (Ext.of_ro hg (by assumption) ⟨hro.gens, hro.os⟩) ⟨_, k, q, rfl, by rw [← hg]; exact (N₃ _ (.head _)).2.2, (N₃ _ (.head _)).1, ?_, hqy⟩
    have := ints_len' hi
    omega
end Mine
end
section
open PySem PySem.W PyProof.Rows
set_option autoImplicit false
namespace Mine
theorem dot_eq : Str.ofString "." = mkS [46] := by decide
theorem dd_eq : Str.ofString ".." = mkS [46, 46] := by decide
theorem dw_eq : Str.ofString "d" = mkS [100] := by decide
theorem sl_eq : Str.ofString "/" = mkS [47] := by decide
theorem cps_mk (a b : List Nat) : mkS a ++ mkS b = mkS (a ++ b) := Str.ext' (by simp [Str.cps_append, mkS])
/-- signs of a join -/
def jn (c : Nat) : List (List Nat) → List Nat
  | [] => []
  | [x] => x
  | x :: r => x ++ c :: jn c r
theorem jn_cons {c : Nat} {x y : List Nat} {r : List (List Nat)} : jn c (x :: y :: r) = x ++ c :: jn c (y :: r) := rfl
theorem join_jn (c : Nat) : ∀ ps : List Str, Str.join (mkS [c]) ps = mkS (jn c (ps.map (·.cps.toList)))
  | [] => rfl
  | [x] => (mkS_toList x).symm
  | x :: y :: r => by
    show x ++ mkS [c] ++ Str.join (mkS [c]) (y :: r) = _
    rw [join_jn c (y :: r)]
    conv => lhs; rw [← mkS_toList x]
    rw [cps_mk, cps_mk, List.map_cons, List.map_cons, List.map_cons, jn_cons]
    simp
theorem jn_inj {c : Nat} : ∀ (a b : List (List Nat)), a ≠ [] → b ≠ [] → (∀ p ∈ a, c ∉ p) → (∀ p ∈ b, c ∉ p) → jn c a = jn c b → a = b := by
  have cut : ∀ (x y r s : List Nat), c ∉ x → c ∉ y → x ++ c :: r = y ++ c :: s → x = y ∧ r = s := by
    intro x
    induction x with
    | nil =>
      intro y r s _ hy e
      cases y with
      | nil => simpa using e
      | cons a y => simp only [List.nil_append, List.cons_append, List.cons.injEq] at e; exact absurd (e.1 ▸ List.mem_cons_self) hy
    | cons a x ih =>
      intro y r s hx hy e
      cases y with
      | nil => simp only [List.nil_append, List.cons_append, List.cons.injEq] at e; exact absurd (e.1 ▸ List.mem_cons_self) hx
      | cons b y =>
        simp only [List.cons_append, List.cons.injEq] at e
        obtain ⟨h1, h2⟩ := ih y r s (fun h => hx (.tail _ h)) (fun h => hy (.tail _ h)) e.2
        exact ⟨by rw [e.1, h1], h2⟩
  intro a
  induction a with
  | nil => intro b h; exact absurd rfl h
  | cons x r ih =>
    intro b _ hb ha hbf e
    cases b with
    | nil => exact absurd rfl hb
    | cons y s =>
      have hx := ha x (.head _)
      have hy := hbf y (.head _)
      cases r with
      | nil =>
        cases s with
        | nil => rw [show x = y from e]
        | cons y' s =>
          rw [jn_cons] at e
          exact absurd (show c ∈ x from by rw [show x = _ from e]; simp) hx
      | cons x' r =>
        cases s with
        | nil =>
          rw [jn_cons] at e
          exact absurd (show c ∈ y from by rw [show y = _ from e.symm]; simp) hy
        | cons y' s =>
          rw [jn_cons, jn_cons] at e
          obtain ⟨h1, h2⟩ := cut _ _ _ _ hx hy e
          rw [h1, ih (y' :: s) (by simp) (by simp) (fun p hp => ha p (.tail _ hp)) (fun p hp => hbf p (.tail _ hp)) h2]
theorem split_ne (x y : Str) : Txt.split x y ≠ [] := by
  unfold Txt.split
  split
  · simp
  · split
    · simp
    · rw [StrLaws.partsBetween_eq]
      obtain ⟨p, r, e⟩ := StrLaws.partsFrom_ne x y.length 0 (Builtin.Str.occurrences x y 0 x.length (x.length + 1))
      rw [e]; simp
theorem map_toList_inj {a b : List Str} (h : a.map (·.cps.toList) = b.map (·.cps.toList)) : a = b := by
  have : ∀ a b : List Str, a.map (·.cps.toList) = b.map (·.cps.toList) → a = b := by
    intro a
    induction a with
    | nil => intro b h; cases b with
      | nil => rfl
      | cons y s => simp at h
    | cons x r ih => intro b h; cases b with
      | nil => simp at h
      | cons y s =>
        simp only [List.map_cons, List.cons.injEq] at h
        rw [ih s h.2, show x = y from by rw [← mkS_toList x, h.1, mkS_toList]]
  exact this a b h
theorem split_join (c : Nat) (ps : List Str) (hn : ps ≠ []) (hf : ∀ p ∈ ps, c ∉ p.cps.toList) : Txt.split (Str.join (mkS [c]) ps) (mkS [c]) = ps := by
  have h1 := StrLaws.join_split (Str.join (mkS [c]) ps) (mkS [c])
  rw [join_jn, join_jn] at h1
  refine map_toList_inj (jn_inj (c := c) _ _ (by simpa using split_ne _ _) (by simpa using hn) ?_ ?_ ?_)
  · intro p hp
    obtain ⟨q, hq, rfl⟩ := List.mem_map.mp hp
    exact StrLaws.split_free _ c q hq
  · intro p hp
    obtain ⟨q, hq, rfl⟩ := List.mem_map.mp hp
    exact hf q hq
  · rw [join_jn]; exact mkS_inj h1
/-- the components of a way -/
def way (u d : Nat) : List Str := List.replicate u sDD ++ List.replicate d (Str.ofString "d")
def comps (u d : Nat) : List Str := if u + d > 0 then way u d else [sDot]
theorem wayDue_join (u d : Nat) : wayDue u d = Str.join sSl (comps u d) := by
  unfold wayDue comps
  split <;> rfl
theorem mem_comps {u d : Nat} {p : Str} (h : p ∈ comps u d) : p = mkS [46] ∨ p = mkS [46, 46] ∨ p = mkS [100] := by
  unfold comps way at h
  split at h
  · rcases List.mem_append.mp h with h | h
    · have := (List.mem_replicate.mp h).2
      rw [this, sDD, dd_eq]; exact .inr (.inl rfl)
    · have := (List.mem_replicate.mp h).2
      rw [this, dw_eq]; exact .inr (.inr rfl)
  · rw [List.mem_singleton.mp h, sDot, dot_eq]; exact .inl rfl
theorem step_is (c : List Nat) : stepOf c = mkS [46] ∨ stepOf c = mkS [46, 46] ∨ stepOf c = mkS [100] := by
  unfold stepOf
  split
  · rw [dw_eq]; exact .inr (.inr rfl)
  · split
    · rw [dd_eq]; exact .inr (.inl rfl)
    · rw [dot_eq]; exact .inl rfl
theorem piece_free {p : Str} (h : p = mkS [46] ∨ p = mkS [46, 46] ∨ p = mkS [100]) : 47 ∉ p.cps.toList := by
  rcases h with rfl | rfl | rfl <;> decide
theorem comps_ne (u d : Nat) : comps u d ≠ [] := by
  unfold comps way
  split
  · intro h
    have := congrArg List.length h
    simp at this; omega
  · simp
theorem join_snoc (sep y : Str) : ∀ ps : List Str, ps ≠ [] → Str.join sep (ps ++ [y]) = Str.join sep ps ++ (sep ++ y)
  | [], h => absurd rfl h
  | [x], _ => by show x ++ sep ++ y = x ++ (sep ++ y); rw [Str.append_assoc]
  | x :: z :: r, _ => by
    show x ++ sep ++ Str.join sep (z :: (r ++ [y])) = x ++ sep ++ Str.join sep (z :: r) ++ (sep ++ y)
    have := join_snoc sep y (z :: r) (by simp)
    rw [List.cons_append] at this
    rw [this, Str.append_assoc, Str.append_assoc, Str.append_assoc]
theorem npAll_snoc (ps : List Str) (y : Str) : npAll (ps ++ [y]) = npStep (npAll ps) y := by unfold npAll; rw [List.foldl_append]; rfl
theorem np_dot (nc : List Str) : npStep nc (Str.ofString ".") = nc := npStep_skip (.inr rfl)
theorem np_d (nc : List Str) : npStep nc (Str.ofString "d") = nc ++ [Str.ofString "d"] := npStep_app (by decide) (.inl (by decide))
theorem way_d (u d : Nat) : way u d ++ [Str.ofString "d"] = way u (d + 1) := by
  unfold way
  rw [List.replicate_succ', List.append_assoc]
theorem way_u (u : Nat) : way u 0 ++ [sDD] = way (u + 1) 0 := by
  unfold way
  rw [List.replicate_succ']; simp
theorem np_up0 (u : Nat) : npStep (way u 0) (Str.ofString "..") = way (u + 1) 0 := by
  rw [← way_u]
  refine npStep_app (by decide) (.inr ?_)
  cases u with
  | zero => exact .inl rfl
  | succ u => refine .inr ?_; unfold way; rw [List.replicate_succ']; simp
theorem np_up (u d : Nat) : npStep (way u (d + 1)) (Str.ofString "..") = way u d := by
  have h : ¬ ((Str.ofString "..").length = 0 ∨ Str.ofString ".." = sDot) := by decide
  rw [npStep_pop h]
  · rw [← way_d]; simp
  · rintro (h | h | h)
    · exact h rfl
    · rw [← way_d] at h; simp at h
    · rw [← way_d] at h
      simp only [List.getLast?_append, List.getLast?_singleton, Option.some_or, Option.some.injEq] at h
      exact absurd h (by decide)
theorem npAll_way : ∀ (u d : Nat), npAll (way u d) = way u d
  | 0, 0 => rfl
  | u + 1, 0 => by rw [← way_u, npAll_snoc, npAll_way u 0, show sDD = Str.ofString ".." from rfl, np_up0, ← way_u]; rfl
  | u, d + 1 => by rw [← way_d, npAll_snoc, npAll_way u d, np_d]
theorem npAll_comps (u d : Nat) : npAll (comps u d) = way u d := by
  unfold comps
  split
  · exact npAll_way u d
  · have h1 : u = 0 := by omega
    have h2 : d = 0 := by omega
    subst h1; subst h2
    exact np_dot []
theorem np_way (u d : Nat) (c : List Nat) : npStep (way u d) (stepOf c) = way (walkStep (u, d) c).1 (walkStep (u, d) c).2 := by
  unfold stepOf walkStep
  by_cases h1 : c = [40]
  · rw [if_pos h1, if_pos h1, np_d, way_d]
  · rw [if_neg h1, if_neg h1]
    by_cases h2 : c = [41]
    · rw [if_pos h2]
      cases d with
      | zero => rw [if_neg (by simp), if_pos h2, np_up0]
      | succ d => rw [if_pos ⟨h2, by simp⟩, np_up]; rfl
    · rw [if_neg h2, if_neg (fun h => h2 h.1), if_neg h2, np_dot]
theorem join_len0 (u d : Nat) : (Str.join sSl (way u d)).length = 0 ↔ ¬ u + d > 0 := by
  constructor
  · intro h hp
    have hl : ∀ (ps : List Str), (∀ p ∈ ps, p.length ≠ 0) → ps ≠ [] → (Str.join sSl ps).length ≠ 0 := by
      intro ps hps hne
      cases ps with
      | nil => exact absurd rfl hne
      | cons x r =>
        have := hps x (.head _)
        cases r with
        | nil => exact this
        | cons y r =>
          show (x ++ sSl ++ Str.join sSl (y :: r)).length ≠ 0
          rw [Str.length_append, Str.length_append]; omega
    have e : way u d = comps u d := by rw [comps, if_pos hp]
    refine hl (way u d) (fun p hp' => ?_) (e ▸ comps_ne u d) h
    rw [e] at hp'
    rcases mem_comps hp' with rfl | rfl | rfl <;> decide
  · intro h
    have h1 : u = 0 := by omega
    have h2 : d = 0 := by omega
    subst h1; subst h2; rfl
theorem npath_way {x : Str} {u d : Nat} (h : npAll (Txt.split x sSl) = way u d) : npath x = wayDue u d := by
  unfold npath wayDue
  rw [h]
  by_cases hp : u + d > 0
  · rw [if_neg (fun e => (join_len0 u d).mp e hp), if_pos hp]; rfl
  · rw [if_pos ((join_len0 u d).mpr hp), if_neg hp]; rfl
theorem way_step (u d : Nat) (c : List Nat) : wayOf (wayDue u d) c = wayDue (walkStep (u, d) c).1 (walkStep (u, d) c).2 := by
  unfold wayOf
  refine npath_way ?_
  have e : wayDue u d ++ (Str.ofString "/" ++ stepOf c) = Str.join (mkS [47]) (comps u d ++ [stepOf c]) := by
    rw [join_snoc _ _ _ (comps_ne u d), wayDue_join, sSl, sl_eq]
  rw [e, show sSl = mkS [47] from sl_eq, split_join 47 _ (by simp) (fun p hp => ?_), npAll_snoc, npAll_comps, np_way]
  rcases List.mem_append.mp hp with hp | hp
  · exact piece_free (mem_comps hp)
  · rw [List.mem_singleton.mp hp]; exact piece_free (step_is c)
theorem ways_walked : ∀ (cs : List (List Nat)) (st : Nat × Nat), waysOf (wayDue st.1 st.2) cs = walked st cs
  | [], _ => rfl
  | c :: r, (u, d) => by
    rw [waysOf, walked, way_step, ways_walked r]
end Mine
end
section
open PySem PySem.W PyProof.Rows
set_option autoImplicit false
namespace Mine
theorem jn_last (c : Nat) : ∀ ps : List (List Nat), ps ≠ [] → (∀ p ∈ ps, p ≠ [] ∧ c ∉ p) → ∃ a, (jn c ps).getLast? = some a ∧ a ≠ c
  | [], h, _ => absurd rfl h
  | [x], _, h => by
    obtain ⟨h1, h2⟩ := h x (.head _)
    refine ⟨x.getLast h1, List.getLast?_eq_some_getLast h1, fun e => h2 (e ▸ List.getLast_mem h1)⟩
  | x :: y :: r, _, h => by
    obtain ⟨a, ha, hn⟩ := jn_last c (y :: r) (by simp) (fun p hp => h p (.tail _ hp))
    refine ⟨a, ?_, hn⟩
    rw [jn_cons, List.getLast?_append, List.getLast?_cons, ha]; rfl
theorem jn_head (c : Nat) : ∀ ps : List (List Nat), ps ≠ [] → (∀ p ∈ ps, p ≠ [] ∧ c ∉ p) → ∃ a, (jn c ps).head? = some a ∧ a ≠ c
  | [], h, _ => absurd rfl h
  | x :: r, _, h => by
    obtain ⟨h1, h2⟩ := h x (.head _)
    obtain ⟨a, x', rfl⟩ := List.exists_cons_of_ne_nil h1
    refine ⟨a, ?_, fun e => h2 (e ▸ List.mem_cons_self)⟩
    cases r with
    | nil => rfl
    | cons y r => rw [jn_cons]; rfl
def cs47 (u d : Nat) : List (List Nat) := (comps u d).map (·.cps.toList)
theorem cs47_ok (u d : Nat) : cs47 u d ≠ [] ∧ ∀ p ∈ cs47 u d, p ≠ [] ∧ 47 ∉ p := by
  refine ⟨by simpa [cs47] using comps_ne u d, fun p hp => ?_⟩
  obtain ⟨q, hq, rfl⟩ := List.mem_map.mp hp
  refine ⟨?_, piece_free (mem_comps hq)⟩
  rcases mem_comps hq with rfl | rfl | rfl <;> decide
theorem wayDue_cps (u d : Nat) : wayDue u d = mkS (jn 47 (cs47 u d)) := by
  rw [wayDue_join, sSl, sl_eq, join_jn]; rfl
theorem way_len (u d : Nat) : (wayDue u d).length ≤ 3 * (u + d) + 3 := by
  have h0 : (comps u d).length ≤ u + d + 1 := by
    unfold comps way; split <;> simp
  rw [wayDue_join]
  have h1 := StrLaws.join_length_le sSl (comps u d)
  have h2 := StrLaws.sumLen_le (B := 2) (comps u d) (fun y hy => by rcases mem_comps hy with rfl | rfl | rfl <;> decide)
  have h3 : sSl.length = 1 := by decide
  rw [h3] at h1
  omega
theorem step_ok (u d : Nat) (c : List Nat) : StepOk (wayDue u d) c := by
  obtain ⟨ha, hb⟩ := cs47_ok u d
  obtain ⟨a, ha1, ha2⟩ := jn_head 47 _ ha hb
  obtain ⟨z, hz1, hz2⟩ := jn_last 47 _ ha hb
  have hne : jn 47 (cs47 u d) ≠ [] := fun e => by rw [e] at ha1; cases ha1
  have hlen : (wayDue u d).length = (jn 47 (cs47 u d)).length := by rw [wayDue_cps]; simp [Str.length, mkS]
  have hpos : 0 < (jn 47 (cs47 u d)).length := List.length_pos_iff.mpr hne
  refine ⟨by omega, ?_, ?_⟩
  · unfold Txt.endswith
    rw [sl_eq]
    by_cases hs : Builtin.Str.subAt (wayDue u d) (mkS [47]) ((wayDue u d).length - (mkS [47]).length) = true
    · exfalso
      have := (StrLaws.subAt_one (wayDue u d) 47 ((wayDue u d).length - (mkS [47]).length)).mp ⟨by show _ + 1 ≤ _; show (wayDue u d).length - 1 + 1 ≤ _; omega, hs⟩
      rw [List.getLast?_eq_getElem?] at hz1
      have e : (wayDue u d).cps.toList = jn 47 (cs47 u d) := by rw [wayDue_cps]; simp [mkS]
      have e2 : (mkS [47]).length = 1 := rfl
      rw [e, e2, hlen, hz1] at this
      exact hz2 (Option.some.inj this)
    · rw [Bool.not_eq_true] at hs
      rw [hs, Bool.and_false]
  · obtain ⟨x', hx'⟩ : ∃ r, jn 47 (cs47 u d) = a :: r := by
      cases h : jn 47 (cs47 u d) with
      | nil => exact absurd h hne
      | cons b r => rw [h] at ha1; cases ha1; exact ⟨r, rfl⟩
    have e : (wayDue u d ++ (Str.ofString "/" ++ stepOf c)).cps.toList = a :: (x' ++ ((Str.ofString "/" ++ stepOf c)).cps.toList) := by
      rw [wayDue_cps, hx', Str.cps_append]; simp [mkS]
    have e2 : Txt.slice (wayDue u d ++ (Str.ofString "/" ++ stepOf c)) none (some 1) = mkS [a] := by
      refine (StrLaws.sliceText_to (x := wayDue u d ++ (Str.ofString "/" ++ stepOf c)) (j := 1) ⟨by omega, by rw [e]; simp; omega⟩).trans ?_
      rw [e]; rfl
    rw [e2, sl_eq]
    simp only [bne_iff_ne, ne_eq]
    intro h
    exact ha2 (by simpa using mkS_inj h)
theorem ways_ok : ∀ (cs : List (List Nat)) (u d : Nat), u + d + cs.length ≤ 1600 → WaysOk (wayDue u d) cs
  | [], _, _, _ => trivial
  | c :: r, u, d, h => by
    refine ⟨step_ok u d c, ?_, ?_⟩
    · have := way_len u d; simp only [List.length_cons] at h; omega
    · rw [way_step]
      refine ways_ok r _ _ ?_
      simp only [List.length_cons] at h
      unfold walkStep
      split
      · show u + (d + 1) + _ ≤ _; omega
      · split
        · show u + (d - 1) + _ ≤ _; omega
        · split
          · show u + 1 + d + _ ≤ _; omega
          · show u + d + _ ≤ _; omega
/-- where the steps end -/
def walkAll (st : Nat × Nat) (cs : List (List Nat)) : Nat × Nat := cs.foldl walkStep st
theorem walkAll_up (cs : List (List Nat)) : ∀ st : Nat × Nat, st.1 ≤ (walkAll st cs).1 := by
  induction cs with
  | nil => intro st; exact Nat.le_refl _
  | cons c r ih =>
    intro st
    refine Nat.le_trans ?_ (ih (walkStep st c))
    unfold walkStep
    split
    · exact Nat.le_refl _
    · split
      · exact Nat.le_refl _
      · split
        · exact Nat.le_succ _
        · exact Nat.le_refl _
theorem chk_walk : ∀ (cs : List (List Nat)) (d : Nat), chk d cs = decide (walkAll (0, d) cs = (0, 0))
  | [], d => by
    show (d == 0) = decide ((0, d) = (0, 0))
    cases d with
    | zero => rfl
    | succ d => simp
  | c :: r, d => by
    have e : walkAll (0, d) (c :: r) = walkAll (walkStep (0, d) c) r := rfl
    rw [chk, e]
    unfold walkStep
    by_cases h1 : c = [40]
    · rw [if_pos h1, if_pos h1, chk_walk r (d + 1)]
    · rw [if_neg h1, if_neg h1]
      by_cases h2 : c = [41]
      · rw [if_pos h2]
        by_cases h3 : d = 0
        · rw [if_pos h3, if_neg (by simp [h3]), if_pos h2]
          symm
          have := walkAll_up r (0 + 1, d)
          simp only [decide_eq_false_iff_not]
          intro h
          have h' : walkAll (0 + 1, d) r = (0, 0) := h
          rw [h'] at this
          simp at this
        · rw [if_neg h3, if_pos ⟨h2, by show d > 0; omega⟩, chk_walk r (d - 1)]
      · rw [if_neg h2, if_neg (fun h => h2 h.1), if_neg h2, chk_walk r d]
theorem wayDue_dot (u d : Nat) : (wayDue u d = Str.ofString ".") ↔ (u, d) = (0, 0) := by
  constructor
  · intro h
    by_cases hp : u + d > 0
    · exfalso
      have h1 := npath_way (x := wayDue u d) (u := u) (d := d) (by
        rw [wayDue_join, show sSl = mkS [47] from sl_eq, split_join 47 _ (comps_ne u d) (fun p hp => piece_free (mem_comps hp)), npAll_comps])
      have h2 : Txt.split (wayDue u d) (mkS [47]) = comps u d := by
        rw [wayDue_join, show sSl = mkS [47] from sl_eq, split_join 47 _ (comps_ne u d) (fun p hp => piece_free (mem_comps hp))]
      have h3 : Txt.split (Str.ofString ".") (mkS [47]) = comps 0 0 := by
        rw [← split_join 47 _ (comps_ne 0 0) (fun p hp => piece_free (mem_comps hp))]; rfl
      rw [h, h3] at h2
      rw [comps, comps, if_neg (by omega), if_pos hp, way] at h2
      have hm : Str.ofString "." ∈ List.replicate u sDD ++ List.replicate d (Str.ofString "d") := by rw [← h2]; exact .head _
      rcases List.mem_append.mp hm with hm | hm
      · exact absurd (List.mem_replicate.mp hm).2 (by decide)
      · exact absurd (List.mem_replicate.mp hm).2 (by decide)
    · simp; omega
  · intro h
    obtain ⟨rfl, rfl⟩ := Prod.mk.inj h
    rfl
theorem walked_last : ∀ (cs : List (List Nat)) (st : Nat × Nat), (wayDue st.1 st.2 :: walked st cs).getLast? = some (wayDue (walkAll st cs).1 (walkAll st cs).2)
  | [], st => rfl
  | c :: r, st => by
    rw [walked]
    have := walked_last r (walkStep st c)
    rw [List.getLast?_cons_cons, this]; rfl
/-- the last way is a dot just where the signs close -/
theorem right_due (cs : List (List Nat)) : ∃ y, (Str.ofString "." :: walked (0, 0) cs).getLast? = some y ∧ (y == Str.ofString ".") = chk 0 cs := by
  refine ⟨_, walked_last cs (0, 0), ?_⟩
  rw [chk_walk, Bool.eq_iff_iff, beq_iff_eq, decide_eq_true_eq, wayDue_dot]
end Mine
end
section
open PySem PySem.W PyProof.Rows
set_option autoImplicit false
namespace Mine
theorem cps_mk3 (a b : List Nat) : mkS a ++ mkS b = mkS (a ++ b) := Str.ext' (by simp [Str.cps_append, mkS])
mutual
/-- what stands outside of two marks -/
def skO : List (List Nat) → List (List Nat)
  | [] => []
  | c :: r => if c = [34] then (match skI r with | none => c :: r | some t => t) else c :: skO r
/-- behind a mark: what stands behind the next -/
def skI : List (List Nat) → Option (List (List Nat))
  | [] => none
  | c :: r => if c = [34] then some (skO r) else skI r
end
theorem skO_cons (c : List Nat) (r : List (List Nat)) : skO (c :: r) = if c = [34] then (match skI r with | none => c :: r | some t => t) else c :: skO r := by rw [skO]
theorem skI_cons (c : List Nat) (r : List (List Nat)) : skI (c :: r) = if c = [34] then some (skO r) else skI r := by rw [skI]
/-- the signs' places are right -/
inductive TOk (l : List Nat) : Nat → List (Nat × List Nat) → Prop
  | nil {p : Nat} : l.drop p = [] → TOk l p []
  | cons {p : Nat} {u : Nat × List Nat} {r : List (Nat × List Nat)} : u.1 + 1 = p + u.2.length → l.drop p = u.2 ++ l.drop (p + u.2.length) → p + u.2.length ≤ l.length → TOk l (p + u.2.length) r → TOk l p (u :: r)
theorem drop_more {l r : List Nat} {p : Nat} {a : List Nat} (h : l.drop p = a ++ r) : l.drop (p + a.length) = r := by
  rw [← List.drop_drop, h]; simp
theorem toks_ok (l : List Nat) : ∀ (p : Nat) (m : List Nat), l.drop p = m → TOk l p (toks p m)
  | _, [], h => .nil h
  | p, [c], h => by
    have h1 := drop_more (a := [c]) (r := []) (by simpa using h)
    have h2 := congrArg List.length h
    simp at h2
    exact .cons rfl (by rw [h]; simpa using h1.symm) (by simp; omega) (.nil h1)
  | p, c :: d :: r, h => by
    have h2 := congrArg List.length h
    simp at h2
    by_cases hc : c = 92
    · rw [toks_bs2 hc]
      have h1 := drop_more (a := [c, d]) (r := r) (by simpa using h)
      exact .cons rfl (by rw [h]; simpa using h1.symm) (by simp; omega) (toks_ok l (p + 2) r h1)
    · rw [toks_one hc]
      have h1 := drop_more (a := [c]) (r := d :: r) (by simpa using h)
      exact .cons rfl (by rw [h]; simpa using h1.symm) (by simp; omega) (toks_ok l (p + 1) (d :: r) h1)
theorem tok_flat {l : List Nat} : ∀ {p : Nat} {U : List (Nat × List Nat)}, TOk l p U → (U.map (·.2)).flatten = l.drop p
  | _, _, .nil h => by rw [h]; rfl
  | _, _, .cons h1 h2 h3 r => by rw [List.map_cons, List.flatten_cons, tok_flat r, ← h2]
def cat (res : List Str) : List Nat := (res.map (·.cps.toList)).flatten
theorem cat_app (a b : List Str) : cat (a ++ b) = cat a ++ cat b := by simp [cat]
def fin3 (l : List Nat) (st : StSt) : List Nat := cat st.2.2 ++ l.drop st.1
theorem take_more {l a : List Nat} {s p : Nat} (hs : s ≤ p) (h : l.drop p = a ++ l.drop (p + a.length)) : (l.drop s).take (p + a.length - s) = (l.drop s).take (p - s) ++ a := by
  have e1 : p + a.length - s = (p - s) + a.length := by omega
  rw [e1, List.take_add, List.drop_drop]
  have e2 : s + (p - s) = p := by omega
  rw [e2, h]; simp
theorem take_whole {l : List Nat} {s p : Nat} (hs : s ≤ p) : (l.drop s).take (p - s) ++ l.drop p = l.drop s := by
  have e2 : s + (p - s) = p := by omega
  have := List.take_append_drop (p - s) (l.drop s)
  rw [List.drop_drop, e2] at this
  exact this
theorem fold_both (x : Str) : ∀ (U : List (Nat × List Nat)),
    (∀ (p st0 : Nat) (res : List Str), TOk x.cps.toList p U → st0 ≤ p → fin3 x.cps.toList (U.foldl (stStep x) (st0, none, res)) = cat res ++ (x.cps.toList.drop st0).take (p - st0) ++ (skO (U.map (·.2))).flatten) ∧
    (∀ (p st0 o : Nat) (res : List Str), TOk x.cps.toList p U → st0 ≤ o → o < p → o ≤ x.cps.toList.length → fin3 x.cps.toList (U.foldl (stStep x) (st0, some o, res)) = match skI (U.map (·.2)) with | none => cat res ++ x.cps.toList.drop st0 | some t => cat res ++ (x.cps.toList.drop st0).take (o - st0) ++ t.flatten) := by
  intro U
  induction U with
  | nil =>
    refine ⟨?_, ?_⟩
    · rintro p st0 res (h | _) hs
      have := take_whole (l := x.cps.toList) hs
      rw [h, List.append_nil] at this
      show cat res ++ x.cps.toList.drop st0 = _
      rw [this, List.map_nil, skO]; simp
    · rintro p st0 o res _ _ _ _
      rw [List.map_nil, skI]; rfl
  | cons u r ih =>
    obtain ⟨ihO, ihI⟩ := ih
    refine ⟨?_, ?_⟩
    · rintro p st0 res (_ | ⟨h1, h2, h3, h4⟩) hs
      rw [List.foldl_cons, List.map_cons, skO_cons]
      by_cases hq : u.2 = [34]
      · have e : stStep x (st0, none, res) u = (st0, some u.1, res) := by rw [stStep, if_pos hq]
        have hu : u.1 = p := by rw [hq] at h1; simp at h1; exact h1
        have hl : u.2.length = 1 := by rw [hq]; rfl
        rw [e, if_pos hq, ihI _ st0 u.1 res h4 (by omega) (by omega) (by omega)]
        cases hk : skI (r.map (·.2)) with
        | none =>
          dsimp only
          rw [List.flatten_cons, tok_flat h4, ← h2, List.append_assoc, take_whole hs]
        | some t => dsimp only; rw [hu]
      · have e : stStep x (st0, none, res) u = (st0, none, res) := by rw [stStep, if_neg hq]
        rw [e, if_neg hq, ihO _ st0 res h4 (by omega), take_more hs h2, List.flatten_cons]
        simp only [List.append_assoc]
    · rintro p st0 o res (_ | ⟨h1, h2, h3, h4⟩) hs ho hl0
      rw [List.foldl_cons, List.map_cons, skI_cons]
      by_cases hq : u.2 = [34]
      · have hu : u.1 = p := by rw [hq] at h1; simp at h1; exact h1
        have hl : u.2.length = 1 := by rw [hq]; rfl
        have e : stStep x (st0, some o, res) u = (u.1 + 1, none, if st0 = o then res else res ++ [Txt.slice x (some (st0 : Int)) (some (o : Int))]) := by rw [stStep, if_pos hq]
        rw [e, if_pos hq, ihO _ (u.1 + 1) _ h4 (by omega)]
        have hz : p + u.2.length - (u.1 + 1) = 0 := by omega
        rw [hz, List.take_zero, List.append_nil]
        dsimp only
        have hc : cat (if st0 = o then res else res ++ [Txt.slice x (some (st0 : Int)) (some (o : Int))]) = cat res ++ (x.cps.toList.drop st0).take (o - st0) := by
          by_cases hso : st0 = o
          · rw [if_pos hso, hso]; simp
          · rw [if_neg hso, cat_app, slice_is (by omega) (by omega) (by simp [Str.length] at hl0 ⊢; omega)]
            have e1 : ((o : Int) - (st0 : Int)).toNat = o - st0 := by omega
            rw [e1, Int.toNat_natCast]; simp [cat, mkS]
        rw [hc]
      · have e : stStep x (st0, some o, res) u = (st0, some o, res) := by rw [stStep, if_neg hq]
        rw [e, if_neg hq, ihI _ st0 o res h4 hs (by omega) hl0]
theorem join_cat : ∀ ps : List Str, Str.join (Str.ofString "") ps = mkS (cat ps)
  | [] => rfl
  | [x] => by show x = mkS (cat [x]); simp [cat, mkS]
  | x :: y :: r => by
    show x ++ Str.ofString "" ++ Str.join (Str.ofString "") (y :: r) = _
    rw [join_cat (y :: r)]
    have e : x ++ Str.ofString "" = mkS x.cps.toList := Str.append_empty x
    rw [e, cps_mk3]
    simp [cat]
theorem skO_none : ∀ U : List (List Nat), (∀ c ∈ U, c ≠ [34]) → skO U = U
  | [], _ => by rw [skO]
  | c :: r, h => by
    rw [skO_cons, if_neg (h c (.head _)), skO_none r fun d hd => h d (.tail _ hd)]
theorem strip_is (x : Str) : stripF x = mkS (skO (us x)).flatten := by
  have hok := toks_ok x.cps.toList 0 x.cps.toList rfl
  unfold stripF
  split
  · rename_i h
    have h1 := StrLaws.found_one x 34
    have e : (⟨#[34]⟩ : Str) = Str.ofString "\"" := by decide
    rw [e, h] at h1
    have h2 : 34 ∉ x.cps.toList := by simpa using h1
    have h3 := tok_flat hok
    rw [List.drop_zero] at h3
    rw [skO_none, us, h3, mkS_toList]
    intro c hc e
    subst e
    refine h2 ?_
    rw [← h3]
    exact List.mem_flatten.mpr ⟨_, hc, .head _⟩
  · have h := (fold_both x (toks 0 x.cps.toList)).1 0 0 [] hok (Nat.le_refl _)
    rw [show (cat [] : List Nat) = [] from rfl, List.take_zero, List.append_nil, List.nil_append] at h
    unfold us
    rw [← h]
    unfold strip stAll
    dsimp only
    rw [join_cat]
    congr 1
    unfold fin3
    split
    · rename_i hlt
      rw [cat_app]
      have e2 := StrLaws.sliceText_from (x := x) (i := ((List.foldl (stStep x) (0, none, []) (toks 0 x.cps.toList)).1 : Int)) ⟨by omega, by simp [Str.length] at hlt ⊢; omega⟩
      have e3 : Txt.slice x (some ((List.foldl (stStep x) (0, none, []) (toks 0 x.cps.toList)).1 : Int)) none = mkS (x.cps.toList.drop (List.foldl (stStep x) (0, none, []) (toks 0 x.cps.toList)).1) := by
        refine Eq.trans e2 ?_
        rw [Int.toNat_natCast, List.take_of_length_le (by rw [List.length_drop]; omega)]; rfl
      rw [e3]; simp [cat, mkS]
    · rename_i hlt
      rw [List.drop_eq_nil_iff.mpr (by simp [Str.length] at hlt ⊢; omega), List.append_nil]
-- the law's own way: by places
def markFrom : Nat → List (List Nat) → List Nat
  | _, [] => []
  | k, c :: r => if c = [34] then k :: markFrom (k + 1) r else markFrom (k + 1) r
def inn : List Nat → List Int
  | a :: b :: r => intsFrom (a : Int) (b + 1 - a) ++ inn r
  | _ => []
def keptFrom : Nat → List (List Nat) → List Int → List (List Nat)
  | _, [], _ => []
  | k, c :: r, I => if (I.any (· == (k : Int))) = true then keptFrom (k + 1) r I else c :: keptFrom (k + 1) r I
theorem marks_from : ∀ (U : List (List Nat)) (k : Nat), ((List.range U.length).filter fun i => U[i]? = some [34]).map (· + k) = markFrom k U
  | [], _ => rfl
  | c :: r, k => by
    have ih := marks_from r (k + 1)
    have e : (List.range (c :: r).length) = 0 :: (List.range r.length).map (· + 1) := by
      rw [List.length_cons, List.range_succ_eq_map]
    rw [e, List.filter_cons, markFrom]
    have e2 : (((List.range r.length).map (· + 1)).filter fun i => (c :: r)[i]? = some [34]) = ((List.range r.length).filter fun i => r[i]? = some [34]).map (· + 1) := by
      rw [List.filter_map]; rfl
    rw [e2]
    have e3 : (((List.range r.length).filter fun i => r[i]? = some [34]).map (· + 1)).map (· + k) = markFrom (k + 1) r := by
      rw [← ih, List.map_map]
      refine List.map_congr_left fun i _ => ?_
      simp only [Function.comp_apply]; omega
    by_cases h : c = [34]
    · subst h
      simp only [List.getElem?_cons_zero, decide_true, if_true, List.map_cons, Nat.zero_add]
      rw [e3]
    · rw [if_neg h, if_neg (by simpa using h), e3]
theorem marks_is (U : List (List Nat)) : marksI U = markFrom 0 U := by
  rw [← marks_from U 0]; simp [marksI]
theorem inn_is : ∀ M : List Nat, allInts (pairOf M) (M.length / 2) = inn M
  | [] => rfl
  | [a] => by simp [inn, allInts]
  | a :: b :: r => by
    have ih := inn_is r
    have e : (a :: b :: r).length / 2 = r.length / 2 + 1 := by simp only [List.length_cons]; omega
    rw [e, inn, ← ih]
    unfold allInts
    rw [List.range_succ_eq_map, List.flatMap_cons, List.flatMap_map]
    rfl
theorem kept_from (U : List (List Nat)) (I : List Int) : ∀ k : Nat, ((List.range U.length).filterMap fun (i : Nat) => if (I.any (· == ((i + k : Nat) : Int))) = true then none else U[i]?) = keptFrom k U I := by
  induction U with
  | nil => intro k; rfl
  | cons c r ih =>
    intro k
    have e : (List.range (c :: r).length) = 0 :: (List.range r.length).map (· + 1) := by
      rw [List.length_cons, List.range_succ_eq_map]
    rw [e, List.filterMap_cons, keptFrom, List.filterMap_map, Nat.zero_add]
    have e3 : (List.filterMap ((fun (i : Nat) => if (I.any (· == ((i + k : Nat) : Int))) = true then none else (c :: r)[i]?) ∘ (· + 1)) (List.range r.length)) = keptFrom (k + 1) r I := by
      rw [← ih (k + 1)]
      congr 1
      funext i
      simp only [Function.comp_apply, List.getElem?_cons_succ]
      have : i + 1 + k = i + (k + 1) := by omega
      rw [this]
    rw [e3]
    by_cases h : (I.any (· == (k : Int))) = true
    · rw [if_pos h, if_pos h]
    · rw [if_neg h, if_neg h]; rfl
theorem bare_is (U : List (List Nat)) : bareU U = keptFrom 0 U (inn (markFrom 0 U)) := by
  rw [bareU, keptU, marks_is, inn_is, ← kept_from]; rfl
theorem any_iff {I : List Int} {k : Int} : (I.any (· == k)) = true ↔ k ∈ I := by
  rw [List.any_eq_true]
  exact ⟨fun ⟨y, hy, e⟩ => by rw [← eq_of_beq e]; exact hy, fun h => ⟨k, h, beq_self_eq_true k⟩⟩
theorem mem_ints {a : Int} {n : Nat} {k : Int} : k ∈ intsFrom a n ↔ a ≤ k ∧ k < a + n := by
  unfold intsFrom
  rw [List.mem_map]
  constructor
  · rintro ⟨i, hi, rfl⟩
    have := List.mem_range.mp hi; omega
  · rintro ⟨h1, h2⟩
    exact ⟨(k - a).toNat, List.mem_range.mpr (by omega), by omega⟩
theorem mark_ge : ∀ (U : List (List Nat)) (k : Nat), ∀ i ∈ markFrom k U, k ≤ i
  | [], _, _, h => nomatch h
  | c :: r, k, i, h => by
    rw [markFrom] at h
    split at h
    · rcases List.mem_cons.mp h with rfl | h
      · exact Nat.le_refl _
      · exact Nat.le_of_succ_le (mark_ge r (k + 1) i h)
    · exact Nat.le_of_succ_le (mark_ge r (k + 1) i h)
theorem inn_ge : ∀ (M : List Nat) (k : Nat), (∀ i ∈ M, k ≤ i) → ∀ j ∈ inn M, (k : Int) ≤ j
  | [], _, _, _, h => nomatch h
  | [a], _, _, _, h => nomatch h
  | a :: b :: r, k, hM, j, h => by
    rw [inn] at h
    rcases List.mem_append.mp h with h | h
    · have := (mem_ints.mp h).1
      have := hM a (.head _)
      omega
    · exact inn_ge r k (fun i hi => hM i (.tail _ (.tail _ hi))) j h
theorem kept_congr : ∀ (U : List (List Nat)) (k : Nat) (I J : List Int), (∀ i : Nat, k ≤ i → ((i : Int) ∈ I ↔ (i : Int) ∈ J)) → keptFrom k U I = keptFrom k U J
  | [], _, _, _, _ => rfl
  | c :: r, k, I, J, h => by
    rw [keptFrom, keptFrom, kept_congr r (k + 1) I J fun i hi => h i (by omega)]
    have := h k (Nat.le_refl _)
    rw [← any_iff, ← any_iff] at this
    by_cases hI : (I.any (· == (k : Int))) = true
    · rw [if_pos hI, if_pos (this.mp hI)]
    · rw [if_neg hI, if_neg fun e => hI (this.mpr e)]
theorem kept_nil : ∀ (U : List (List Nat)) (k : Nat), keptFrom k U [] = U
  | [], _ => rfl
  | c :: r, k => by rw [keptFrom, if_neg (by simp), kept_nil r (k + 1)]
theorem inside : ∀ (r : List (List Nat)) (j : Nat), match markFrom j r with
    | [] => skI r = none
    | b :: rest => ∃ r', skI r = some (skO r') ∧ rest = markFrom (b + 1) r' ∧ r'.length < r.length ∧ j ≤ b ∧ ∀ I : List Int, (∀ i : Nat, j ≤ i → i ≤ b → (i : Int) ∈ I) → keptFrom j r I = keptFrom (b + 1) r' I
  | [], j => by rw [markFrom]; dsimp only; rw [skI]
  | c :: r, j => by
    rw [markFrom]
    by_cases h : c = [34]
    · rw [if_pos h]
      refine ⟨r, by rw [skI_cons, if_pos h], rfl, by simp, Nat.le_refl _, fun I hI => ?_⟩
      rw [keptFrom, if_pos (any_iff.mpr (hI j (Nat.le_refl _) (Nat.le_refl _)))]
    · rw [if_neg h]
      have ih := inside r (j + 1)
      cases hm : markFrom (j + 1) r with
      | nil => rw [hm] at ih; dsimp only at ih ⊢; rw [skI_cons, if_neg h, ih]
      | cons b rest =>
        rw [hm] at ih
        obtain ⟨r', h1, h2, h3, h4, h5⟩ := ih
        refine ⟨r', by rw [skI_cons, if_neg h, h1], h2, by simp only [List.length_cons]; omega, by omega, fun I hI => ?_⟩
        rw [keptFrom, if_pos (any_iff.mpr (hI j (Nat.le_refl _) (by omega)))]
        exact h5 I fun i hi hib => hI i (by omega) hib
theorem kept_sk : ∀ (n : Nat) (U : List (List Nat)) (k : Nat), U.length ≤ n → keptFrom k U (inn (markFrom k U)) = skO U := by
  intro n
  induction n with
  | zero =>
    intro U k hU
    have : U = [] := List.length_eq_zero_iff.mp (by omega)
    subst this; rw [skO]; rfl
  | succ n ih =>
    intro U k hU
    cases U with
    | nil => rw [skO]; rfl
    | cons c r =>
      rw [skO_cons, markFrom]
      by_cases h : c = [34]
      · rw [if_pos h, if_pos h]
        have hin := inside r (k + 1)
        cases hm : markFrom (k + 1) r with
        | nil =>
          rw [hm] at hin
          dsimp only at hin
          rw [hin]
          show keptFrom k (c :: r) [] = _
          rw [kept_nil]
        | cons b rest =>
          rw [hm] at hin
          obtain ⟨r', h1, h2, h3, h4, h5⟩ := hin
          rw [h1]
          dsimp only
          rw [inn]
          have hk : ∀ i : Nat, k ≤ i → i ≤ b → (i : Int) ∈ intsFrom (k : Int) (b + 1 - k) ++ inn rest := fun i hi hib => List.mem_append_left _ (mem_ints.mpr ⟨by omega, by omega⟩)
          rw [keptFrom, if_pos (any_iff.mpr (hk k (Nat.le_refl _) (by omega))), h5 _ fun i hi hib => hk i (by omega) hib]
          rw [kept_congr r' (b + 1) _ (inn rest) fun i hi => ⟨fun e => (List.mem_append.mp e).elim (fun e => by have := (mem_ints.mp e).2; omega) id, fun e => List.mem_append_right _ e⟩, h2]
          exact ih r' (b + 1) (by simp only [List.length_cons] at hU; omega)
      · rw [if_neg h, if_neg h]
        have hk : ¬ ((inn (markFrom (k + 1) r)).any (· == (k : Int))) = true := by
          rw [any_iff]
          intro e
          have := inn_ge _ (k + 1) (mark_ge r (k + 1)) _ e
          omega
        rw [keptFrom, if_neg hk, ih r (k + 1) (by simp only [List.length_cons] at hU; omega)]
theorem bare_sk (U : List (List Nat)) : bareU U = skO U := by rw [bare_is, kept_sk U.length U 0 (Nat.le_refl _)]
theorem cat_mkS (l : List (List Nat)) : cat (l.map mkS) = l.flatten := by
  induction l with
  | nil => rfl
  | cons a r ih => rw [List.map_cons, List.flatten_cons, ← ih]; simp [cat, mkS]
/-- what the code takes out is what the law takes out -/
theorem strip_bare (x : Str) : stripF x = bareF x := by
  rw [strip_is, bareF, join_cat, bare_sk, cat_mkS]
theorem sk_len : ∀ (n : Nat) (U : List (List Nat)), U.length ≤ n → (skO U).flatten.length ≤ U.flatten.length ∧ ∀ t, skI U = some t → t.flatten.length ≤ U.flatten.length := by
  intro n
  induction n with
  | zero =>
    intro U hU
    have : U = [] := List.length_eq_zero_iff.mp (by omega)
    subst this
    exact ⟨by rw [skO]; exact Nat.le_refl _, fun t h => by rw [skI] at h; cases h⟩
  | succ n ih =>
    intro U hU
    cases U with
    | nil => exact ⟨by rw [skO]; exact Nat.le_refl _, fun t h => by rw [skI] at h; cases h⟩
    | cons c r =>
      have ih' := ih r (by simp only [List.length_cons] at hU; omega)
      rw [skO_cons, skI_cons]
      by_cases h : c = [34]
      · rw [if_pos h, if_pos h]
        refine ⟨?_, fun t e => ?_⟩
        · cases hk : skI r with
          | none => exact Nat.le_refl _
          | some t => have := ih'.2 t hk; simp only [List.flatten_cons, List.length_append]; omega
        · rw [← Option.some.inj e]; have := ih'.1; simp only [List.flatten_cons, List.length_append]; omega
      · rw [if_neg h, if_neg h]
        refine ⟨?_, fun t e => ?_⟩
        · have := ih'.1; simp only [List.flatten_cons, List.length_append]; omega
        · have := ih'.2 t e; simp only [List.flatten_cons, List.length_append]; omega
theorem strip_len (x : Str) : (stripF x).length ≤ x.length := by
  rw [strip_is]
  have h1 := (sk_len _ (us x) (Nat.le_refl _)).1
  have h2 := tok_flat (toks_ok x.cps.toList 0 x.cps.toList rfl)
  rw [List.drop_zero] at h2
  have h3 : (us x).flatten = x.cps.toList := h2
  rw [h3] at h1
  simpa [Str.length, mkS] using h1
end Mine
end
section
open PySem PySem.W PyProof.Rows PySem.Calls
set_option Elab.async false
set_option autoImplicit false
set_option linter.unusedVariables false
namespace Mine
set_option maxRecDepth 100000
set_option maxHeartbeats 4000000
/-- a datum that may be compared -/
structure Cmp (k : Nat) (d : PyData) : Prop where
  lay : d.canLay0 = true
  deep : d.depth ≤ k
theorem Cmp.str {k : Nat} {x : Str} (h : okS x) : Cmp k (.str x) := ⟨by
  show PyData.strOk x = true
  unfold PyData.strOk
  rw [← Array.all_toList, List.all_eq_true]
  intro c hc
  exact decide_eq_true (h c hc), Nat.zero_le _⟩
theorem Cmp.int {k : Nat} {i : Int} : Cmp k (.int i) := ⟨rfl, Nat.zero_le _⟩
theorem cmp_all {k : Nat} : ∀ {ds : List PyData}, (∀ d ∈ ds, Cmp k d) → PyData.canLayAll0 ds = true ∧ PyData.depthAll ds ≤ k
  | [], _ => ⟨rfl, Nat.zero_le _⟩
  | d :: r, h => by
    have h1 := h d (.head _)
    have h2 := cmp_all fun e he => h e (.tail _ he)
    refine ⟨?_, ?_⟩
    · rw [PyData.canLayAll0, h1.lay, h2.1]; rfl
    · rw [PyData.depthAll]; exact Nat.max_le.mpr ⟨h1.deep, h2.2⟩
theorem Cmp.list {k : Nat} {ds : List PyData} (h : ∀ d ∈ ds, Cmp k d) : Cmp (k + 1) (.list ds) :=
  ⟨by rw [PyData.canLay0]; exact (cmp_all h).1, by rw [PyData.depth]; exact Nat.succ_le_succ (cmp_all h).2⟩
theorem Cmp.tuple {k : Nat} {ds : List PyData} (h : ∀ d ∈ ds, Cmp k d) : Cmp (k + 1) (.tuple ds) :=
  ⟨by rw [PyData.canLay0]; exact (cmp_all h).1, by rw [PyData.depth]; exact Nat.succ_le_succ (cmp_all h).2⟩
theorem Cmp.shaped {k : Nat} {d : PyData} (h : Cmp k d) (hk : k ≤ 64) : PySem.SeqAt.shaped d = true := by
  unfold SeqAt.shaped
  rw [h.lay, Bool.true_and]; exact decide_eq_true (Nat.le_trans h.deep hk)
section
variable {prog : Program} {w : World} {A : Around} {E Q : Value → Shared → Prop} {s : Shared} {a b : Value} {d : PyData} {k : Nat}
theorem ne_same (ra : Rd s.heap a d) (rb : Rd s.heap b d) (hd : Cmp k d) (hk : k ≤ 64) (hu : A.units + 64 < cLine) (h : Q (.bool false) s) : wpAny (model prog w) A (compareOp .NotEq a b) Q E s := by
  obtain ⟨as, ra⟩ := ra
  obtain ⟨bs, rb⟩ := rb
  refine SeqAt.compareNe_shaped ra rb (hd.shaped hk) (hd.shaped hk) hu ?_
  rw [SeqAt.eqv_refl d hd.lay]; exact h
theorem eq_same (ra : Rd s.heap a d) (rb : Rd s.heap b d) (hd : Cmp k d) (hk : k ≤ 64) (hu : A.units + 64 < cLine) (h : Q (.bool true) s) : wpAny (model prog w) A (compareOp .Eq a b) Q E s := by
  obtain ⟨as, ra⟩ := ra
  obtain ⟨bs, rb⟩ := rb
  refine SeqAt.compareEq_shaped ra rb (hd.shaped hk) (hd.shaped hk) hu ?_
  rw [SeqAt.eqv_refl d hd.lay]; exact h
end
theorem NewV.ext {s₀ s s' : Shared} {v : Value} {d : PyData} (h : NewV s₀ v s d) (x : Ext s s') : NewV s₀ v s' d := let ⟨tl, h1, h2⟩ := h; ⟨tl, h1, fun p hp => ⟨x.heap _ _ (h2 p hp).1, (h2 p hp).2⟩⟩
theorem NewV.before {s₀ s₁ s : Shared} {v : Value} {d : PyData} (h : NewV s₁ v s d) (x : Ext s₀ s₁) : NewV s₀ v s d := let ⟨tl, h1, h2⟩ := h
  ⟨tl, h1, fun p hp => ⟨(h2 p hp).1, by
    cases e : s₀.heap.get? p.1 with
    | none => rfl
    | some o => have := x.heap _ _ e; rw [(h2 p hp).2] at this; cases this⟩⟩
theorem NewV.flat {s s' : Shared} {v : Value} {d : PyData} (h : LRd [] v d) : NewV s v s' d := ⟨[], h, fun p hp => nomatch hp⟩
/-- a block whose element is made by calls alone -/
theorem turn_new {w : World} {A : Around} {g : Heap} {L : Addr} {m : Str → Option Value} {led : List (Addr × Obj)} {env : Env} {scope : Scope} {cl : List (Str × Addr)} {elt : Expr} {P : Nat → Value → Prop} {ds : List PyData} {s₁ : Shared} {x : Str} {px : Pos}
    (hkind : scope.kind = .function) (hx : scope.names.lookup x = some .local)
    (body : ∀ (E Q : Value → Shared → Prop) (i : Nat) (d : PyData) (v : Value) (C : Addr) (oC : Obj) (mC : Str → Option Value) (rest : List (Addr × Obj)) (s₃ : Shared), ds[i]? = some d → P i v → LCg.NsObj oC mC → mC x = some v → Fr g L s₃.heap m → News g L s₃.heap ((C, oC) :: (led ++ rest)) →
      (∀ y s₆, Ext s₃ s₆ → NewV s₃ y s₆ d → Q y s₆) → wpAny (model PG w) A (eval elt (compEnvC scope cl C env)) Q E s₃) :
    ∀ C, s₁.heap.objs.size ≤ C → CTurn w A g L m led (compEnvC scope cl C env) C elt (.Name x px) [] P (ds.map some) s₁ := by
  refine CTurn.name hkind hx ?_
  intro E i out v C oC mC rest s₃ hout hP hoC hmC ro F N off
  rw [List.getElem?_map] at hout
  cases hd : ds[i]? with
  | none => rw [hd] at hout; cases hout
  | some d =>
    rw [hd] at hout
    obtain rfl := Option.some.inj hout
    refine wpAny_tests_nil ⟨rfl, body E _ i d v C oC mC rest s₃ hd hP hoC hmC F N fun y s₆ x6 hn => ?_⟩
    obtain ⟨tl, h1, h2⟩ := hn
    obtain ⟨oL, _, _, hLo, _⟩ := F.ns
    refine ⟨⟨oC, mC, hoC, Fr.ext F x6, News.ext N x6, x6.ro⟩, tl, h1, fun p hp => ⟨(h2 p hp).1, fun e => ?_, ?_⟩, fun p hp => ⟨fun e => ?_, fun q hq e => ?_⟩⟩
    · have := (h2 p hp).2; rw [e, hLo] at this; cases this
    · cases e : g.get? p.1 with
      | none => rfl
      | some o => have := F.keep _ _ e; rw [(h2 p hp).2] at this; cases this
    · have := (h2 p hp).2; rw [e, (N (C, oC) (.head _)).1] at this; cases this
    · have := (h2 p hp).2; rw [e, (N q (.tail _ (List.mem_append_right _ hq))).1] at this; cases this
theorem filterMap_id {α : Type} : ∀ l : List α, (l.map some).filterMap id = l
  | [] => rfl
  | x :: r => by simp [filterMap_id r]
theorem okS_mk {l : List Nat} : okS (mkS l) ↔ ∀ c ∈ l, c < 1114112 := Iff.rfl
theorem us_ok {x : Str} (h : okS x) : ∀ c ∈ us x, okS (mkS c) := by
  intro c hc
  have h2 := tok_flat (toks_ok x.cps.toList 0 x.cps.toList rfl)
  rw [List.drop_zero] at h2
  have h3 : (us x).flatten = x.cps.toList := h2
  intro n hn
  exact h n (h3 ▸ List.mem_flatten.mpr ⟨c, hc, hn⟩)
theorem cmp_toks {x : Str} (h : okS x) : Cmp 2 (.list ((toks 0 x.cps.toList).map uD)) := by
  refine Cmp.list fun d hd => ?_
  obtain ⟨u, hu, rfl⟩ := List.mem_map.mp hd
  refine Cmp.tuple fun e he => ?_
  simp only [List.mem_cons, List.not_mem_nil, or_false] at he
  rcases he with rfl | rfl
  · exact Cmp.int
  · exact Cmp.str (us_ok h _ (List.mem_map.mpr ⟨u, hu, rfl⟩))
theorem sk_mem : ∀ (n : Nat) (U : List (List Nat)), U.length ≤ n → (∀ c ∈ skO U, c ∈ U) ∧ ∀ t, skI U = some t → ∀ c ∈ t, c ∈ U := by
  intro n
  induction n with
  | zero =>
    intro U hU
    have : U = [] := List.length_eq_zero_iff.mp (by omega)
    subst this
    exact ⟨by rw [skO]; exact fun c h => h, fun t h => by rw [skI] at h; cases h⟩
  | succ n ih =>
    intro U hU
    cases U with
    | nil => exact ⟨by rw [skO]; exact fun c h => h, fun t h => by rw [skI] at h; cases h⟩
    | cons c r =>
      have ih' := ih r (by simp only [List.length_cons] at hU; omega)
      rw [skO_cons, skI_cons]
      by_cases h : c = [34]
      · rw [if_pos h, if_pos h]
        refine ⟨?_, fun t e => ?_⟩
        · cases hk : skI r with
          | none => exact fun d hd => hd
          | some t => exact fun d hd => .tail _ (ih'.2 t hk d hd)
        · rw [← Option.some.inj e]; exact fun d hd => .tail _ (ih'.1 d hd)
      · rw [if_neg h, if_neg h]
        refine ⟨fun d hd => ?_, fun t e d hd => .tail _ (ih'.2 t e d hd)⟩
        rcases List.mem_cons.mp hd with rfl | hd
        · exact .head _
        · exact .tail _ (ih'.1 d hd)
theorem strip_ok {x : Str} (h : okS x) : okS (stripF x) := by
  rw [strip_is]
  intro n hn
  have hn' : n ∈ (skO (us x)).flatten := hn
  obtain ⟨c, hc, hnc⟩ := List.mem_flatten.mp hn'
  exact us_ok h c ((sk_mem _ (us x) (Nat.le_refl _)).1 c hc) n hnc
theorem way_ok (u d : Nat) : okS (wayDue u d) := by
  rw [wayDue_cps]
  have : ∀ ps : List (List Nat), (∀ p ∈ ps, ∀ c ∈ p, c < 1114112) → ∀ c ∈ jn 47 ps, c < 1114112 := by
    intro ps
    induction ps with
    | nil => intro _ c hc; cases hc
    | cons a r ih =>
      intro h c hc
      cases r with
      | nil => exact h a (.head _) c hc
      | cons b r =>
        rw [jn_cons] at hc
        rcases List.mem_append.mp hc with hc | hc
        · exact h a (.head _) c hc
        · rcases List.mem_cons.mp hc with rfl | hc
          · decide
          · exact ih (fun p hp => h p (.tail _ hp)) c hc
  refine okS_mk.mpr (this _ fun p hp => ?_)
  obtain ⟨q, hq, rfl⟩ := List.mem_map.mp hp
  rcases mem_comps hq with rfl | rfl | rfl <;> decide
theorem walked_ok : ∀ (cs : List (List Nat)) (st : Nat × Nat), ∀ y ∈ walked st cs, okS y
  | [], _, _, h => nomatch h
  | c :: r, st, y, h => by
    rw [walked] at h
    rcases List.mem_cons.mp h with rfl | h
    · exact way_ok _ _
    · exact walked_ok r _ y h
end Mine
end
section
open PySem PySem.W PyProof.Rows PySem.Calls
set_option Elab.async false
set_option autoImplicit false
set_option linter.unusedVariables false
namespace Mine
set_option maxRecDepth 100000
set_option maxHeartbeats 4000000
def dToks (y : Str) : PyData := .list ((toks 0 y.cps.toList).map uD)
def dWays (z : Str) : PyData := .list ((Str.ofString "." :: walked (0, 0) (us z)).map PyData.str)
theorem texts_at {α : Type} {P : Str → Prop} {q : List (Str × Tok)} {f : Str → α} {i : Nat} {d0 : α} {v : Value} (hd0 : ((q.map (·.1)).map f)[i]? = some d0) (hv : (strValues q)[i]? = some v) (hqs : ∀ y ∈ q.map (·.1), P y) : ∃ y t, v = .str y t ∧ d0 = f y ∧ P y := by
  rw [strValues, List.getElem?_map] at hv
  rw [List.getElem?_map, List.getElem?_map] at hd0
  cases hq : q[i]? with
  | none => rw [hq] at hv; cases hv
  | some p =>
    rw [hq] at hv hd0
    refine ⟨p.1, p.2, (Option.some.inj hv).symm, (Option.some.inj hd0).symm, ?_⟩
    exact hqs p.1 (List.mem_map.mpr ⟨p, List.mem_of_getElem? hq, rfl⟩)
theorem texts_at' {α : Type} {P : Str → Prop} {q : List (Str × Tok)} {f : Str → α} {i : Nat} {d0 : Option α} {v : Value} (hd0 : (((q.map (·.1)).map f).map some)[i]? = some d0) (hv : (strValues q)[i]? = some v) (hqs : ∀ y ∈ q.map (·.1), P y) : ∃ y t, v = .str y t ∧ d0 = some (f y) ∧ P y := by
  rw [List.getElem?_map] at hd0
  cases h : ((q.map (·.1)).map f)[i]? with
  | none => rw [h] at hd0; cases hd0
  | some a =>
    rw [h] at hd0
    obtain ⟨y, t, h1, h2, h3⟩ := texts_at h hv hqs
    exact ⟨y, t, h1, by rw [← Option.some.inj hd0, h2], h3⟩
theorem walked_len : ∀ (cs : List (List Nat)) (st : Nat × Nat), (walked st cs).length = cs.length
  | [], _ => rfl
  | c :: r, st => by rw [walked, List.length_cons, walked_len r, List.length_cons]
theorem toks_le {y : Str} {n : Nat} (h : y.length ≤ n) : (toks 0 y.cps.toList).length ≤ n := by
  have h1 := toks_len 0 y.cps.toList
  have h2 : y.cps.toList.length = y.length := by simp [Str.length]
  omega
theorem LRd.bool {tl : List (Addr × Obj)} {b : Bool} : LRd tl (.bool b) (.bool b) := fun _ _ => rd_bool
theorem ways_at {h : Heap} {q : List (Str × Tok)} {i : Nat} {d0 : PyData} {v : Value} {ys : List Value} {tl : List (Addr × Obj)} (hd0 : ((q.map (·.1)).map fun y => PyData.bool (rightT y))[i]? = some d0) (hv : ys[i]? = some v) (hall : All2 (LRd tl) ys ((q.map (·.1)).map fun y => dWays (bareF y))) (hp : ∀ p ∈ tl, h.get? p.1 = some p.2) (hlen : ∀ y ∈ q.map (·.1), y.length ≤ 16) :
    ∃ (vs0 : List Value) (a0 : Addr) (y0 : Str) (t0 : Tok) (y1 : Str), vs0.length ≤ 17 ∧ v = .ref a0 ∧ h.IsList a0 (vs0 ++ [Value.str y0 t0]).toArray ∧ d0 = .bool (rightT y1) ∧ (y0 == Str.ofString ".") = rightT y1 := by
  obtain ⟨dd, hdd, hr⟩ := hall.get' hv
  rw [List.getElem?_map, List.getElem?_map] at hd0 hdd
  cases hq : q[i]? with
  | none => rw [hq] at hd0; cases hd0
  | some p =>
    rw [hq] at hd0 hdd
    obtain rfl := Option.some.inj hdd
    obtain rfl := Option.some.inj hd0
    have hl := hlen p.1 (List.mem_map.mpr ⟨p, List.mem_of_getElem? hq, rfl⟩)
    have hR : Rd h v (.list ((Str.ofString "." :: walked (0, 0) (us (bareF p.1))).map PyData.str)) := hr h hp
    obtain ⟨a, vs, rfl, hls, hall2⟩ := hR.listInv
    obtain ⟨z, hz, hzr⟩ := right_due (us (bareF p.1))
    have hne : vs ≠ [] := by
      intro e
      have := hall2.length
      rw [e] at this; simp at this
    have hvl : vs.length = (us (bareF p.1)).length + 1 := by
      have := hall2.length
      rw [this, List.length_map, List.length_cons, walked_len]
    have hul : (us (bareF p.1)).length ≤ 16 := by
      rw [us, List.length_map]
      exact toks_le (by rw [← strip_bare]; exact Nat.le_trans (strip_len p.1) hl)
    have hlast : vs = vs.dropLast ++ [vs.getLast hne] := (List.dropLast_concat_getLast hne).symm
    have hgl : vs[vs.length - 1]? = some (vs.getLast hne) := by rw [← List.getLast?_eq_getElem?, List.getLast?_eq_some_getLast hne]
    obtain ⟨dz, hdz, hrz⟩ := hall2.get' hgl
    have hdz2 : dz = .str z := by
      rw [hall2.length, ← List.getLast?_eq_getElem?, List.getLast?_map, hz] at hdz
      exact (Option.some.inj hdz).symm
    rw [hdz2] at hrz
    obtain ⟨t, ht⟩ := hrz.strInv
    refine ⟨vs.dropLast, a, z, t, p.1, by rw [List.length_dropLast]; omega, rfl, ?_, rfl, ?_⟩
    · rw [← ht, ← hlast]; exact hls
    · rw [hzr, rightT, strip_bare]
theorem bools_of {tl : List (Addr × Obj)} {h : Heap} (hp : ∀ p ∈ tl, h.get? p.1 = some p.2) : ∀ {ys : List Value} {xs : List Bool}, All2 (LRd tl) ys (xs.map .bool) → ys = xs.map Value.bool
  | [], [], _ => rfl
  | y :: ys, x :: xs, .cons a r => by
    obtain ⟨as, h1⟩ := a h hp
    rw [List.map_cons, ← bools_of hp r]
    cases h1; rfl
theorem pair_at {q : List (Str × Tok)} {rs : List Bool} (hrr : (q.map (·.1)).map rightT = rs) {i : Nat} (hi : i < q.length) : ∃ y t, (strValues q)[((i : Nat) : Int).toNat]? = some (.str y t) ∧ (rs.map Value.bool)[((i : Nat) : Int).toNat]? = some (.bool (rightT y)) ∧ y ∈ q.map (·.1) := by
  have hq' : q[i]? = some q[i] := List.getElem?_eq_getElem hi
  refine ⟨q[i].1, q[i].2, ?_, ?_, List.mem_map.mpr ⟨q[i], List.getElem_mem hi, rfl⟩⟩
  · rw [Int.toNat_natCast, strValues, List.getElem?_map, hq']; rfl
  · rw [Int.toNat_natCast, ← hrr, List.getElem?_map, List.getElem?_map, List.getElem?_map, hq']; rfl
theorem str_at {q : List (Str × Tok)} {i : Nat} {y y' : Str} {t : Tok} (h : (strValues q)[i]? = some (.str y t)) (h' : (q.map (·.1))[i]? = some y') : y' = y := by
  rw [strValues, List.getElem?_map] at h
  rw [List.getElem?_map] at h'
  cases hq : q[i]? with
  | none => rw [hq] at h; cases h
  | some p =>
    rw [hq] at h h'
    have e1 : p.1 = y' := Option.some.inj h'
    have e2 : Value.str p.1 p.2 = .str y t := Option.some.inj h
    rw [← e1]
    exact (Value.str.inj e2).1
theorem none_out {α : Type} : ∀ l : List Nat, (l.map fun _ => (none : Option α)).filterMap id = []
  | [] => rfl
  | x :: r => by simp [none_out r]
theorem val_len {q : List (Str × Tok)} (hqs : ∀ y ∈ q.map (·.1), y.length ≤ 16 ∧ okS y) {p : Str × Tok} (hp : p ∈ q) : p.1.length ≤ 500 ∧ (stripF p.1).length ≤ 500 := by
  have h1 := (hqs p.1 (List.mem_map.mpr ⟨p, hp, rfl⟩)).1
  have h2 := strip_len p.1
  omega
theorem pair_at2 {q : List (Str × Tok)} {rs : List Bool} (hrr : (q.map (·.1)).map rightT = rs) {i : Nat} (hi : i < q.length) {d0 : PyData} (hd : ((q.map (·.1)).map fun y => PyData.str (valT y))[i]? = some d0) : ∃ y t, (strValues q)[((i : Nat) : Int).toNat]? = some (.str y t) ∧ (rs.map Value.bool)[((i : Nat) : Int).toNat]? = some (.bool (rightT y)) ∧ y ∈ q.map (·.1) ∧ d0 = .str (valT y) := by
  have hq' : q[i]? = some q[i] := List.getElem?_eq_getElem hi
  refine ⟨q[i].1, q[i].2, ?_, ?_, List.mem_map.mpr ⟨q[i], List.getElem_mem hi, rfl⟩, ?_⟩
  · rw [Int.toNat_natCast, strValues, List.getElem?_map, hq']; rfl
  · rw [Int.toNat_natCast, ← hrr, List.getElem?_map, List.getElem?_map, List.getElem?_map, hq']; rfl
  · rw [List.getElem?_map, List.getElem?_map, hq'] at hd
    exact (Option.some.inj hd).symm
theorem val_ok {y : Str} (h : okS y) : okS (valT y) := by
  unfold valT
  split
  · exact h
  · decide
theorem made_new {s s' : Shared} {v : Value} {ds : List (Nat × List Nat)} (h : Made s v s' ds) : NewV s v s' (.list (ds.map uD)) := by
  obtain ⟨a, vs, n, tl, rfl, h1, h2, h3, h4⟩ := h
  exact ⟨(a, W.listOf vs.toArray n) :: tl, LRd.list (.head _) ((h4.mono fun _ _ r => r.lrd.mono fun p hp => .tail _ hp).mapR), fun p hp => ⟨h1 p hp, h2 p hp⟩⟩
theorem reduce_new {w : World} {mean : ExcName → Option Value} {mg mb : Str → Option Value} {A : Around} {s0 s5 : Shared} {v : Value} {z : Str} {td : Tok} {k n0 : Nat} {Q E : Value → Shared → Prop} (hh : A.handled = none) (hdp : A.depth + 6 < recursionLimit) (hu : A.units + 8 * 6 + 100 < cLine) (X : (hd.heap_39 w.params).In s0.heap) (T : TT mean mg mb s0.heap) (x5 : Ext s0 s5) (NG : NewGen w mean mg mb (toks 0 z.cps.toList) s0 v s5) (hz : z.length ≤ 100)
    (hQ : ∀ y s6, Ext s0 s6 → NewV s0 y s6 (dWays z) → Q y s6) : wpAny (model PG w) A (call (.ref 58) [.ref 199, v, .ref s5.heap.objs.size]) Q E { s5 with heap := s5.heap.push (W.listOf #[Value.str (Str.ofString ".") td] n0), toks := k } := by
  obtain ⟨ga, Lg, oG, oL, gs, rfl, h1, h2, h3, h4, h5, h6, h7, h8, h9⟩ := NG.it
  have old : ∀ b o, s5.heap.get? b = some o → (s5.heap.push (W.listOf #[Value.str (Str.ofString ".") td] n0)).get? b = some o := fun b o e => Heap.get?_push_of_some _ e
  refine con_reduce (s1 := s0) (U := toks 0 z.cps.toList) (Lg := Lg) (oG := oG) (oL := oL) (gs := gs) (n0 := n0) (td := td) hh X hdp hu T ⟨fun b o e => old _ _ (x5.heap b o e), by rw [Heap.size_push]; exact Nat.le_trans x5.size (Nat.le_succ _), x5.gens, x5.os⟩ h1 h2 h3 (old _ _ h4) (old _ _ h5) ?_ h7 h9 (Heap.get?_push_size _ rfl) x5.size (Nat.ne_of_gt (Heap.lt_size h4)) (Nat.ne_of_gt (Heap.lt_size h5)) (by have := toks_le hz; omega) ?_ ?_
  · obtain ⟨o, nm, qn, ho, r⟩ := h6
    exact ⟨o, nm, qn, old _ _ ho, r⟩
  · have := ways_ok (us z) 0 0 (by have := toks_le hz; rw [us, List.length_map]; omega)
    exact this
  · rintro v6 s6 x6 ⟨D, n, q, rfl, hf, hD, hq⟩
    refine hQ _ _ x6 ⟨[(D, W.listOf (strValues q).toArray n)], ?_, ?_⟩
    · have e : dWays z = .list ((q.map (·.1)).map PyData.str) := by
        rw [hq]
        have hw := ways_walked (us z) (0, 0)
        have hw' : waysOf (Str.ofString ".") ((toks 0 z.cps.toList).map (·.2)) = walked (0, 0) (us z) := hw
        rw [hw']; rfl
      rw [e]
      exact LRd.list (.head _) (lrd_strs q)
    · intro p hp
      rw [List.mem_singleton.mp hp]
      exact ⟨hD, hf⟩
end Mine
end
section
open PySem PySem.W PyProof.Rows PySem.Calls
set_option Elab.async false
namespace Mine
set_option maxRecDepth 100000
set_option linter.unusedVariables false
set_option maxHeartbeats 4000000
theorem fillK5 (P : Params) : Challenge.rw_qw0046_01 = Challenge.rw_qw0046_01 ∧ hd.heap_39 P = hd.heap_39 P := by
  k_fill
  exact ⟨rfl, rfl⟩
local macro_rules | `(tactic| k_steps) => `(tactic| repeat' (
  (fail_if_success (with_reducible show wpAny _ _ (exec (Stmt.For _ _ _ _ _) _) _ _ _));
  (fail_if_success (with_reducible show wpAny _ _ (exec (Stmt.While _ _ _ _) _) _ _ _));
  (fail_if_success (with_reducible show wpAny _ _ (exec (Stmt.Try _ _ _ _ _) _) _ _ _));
  (fail_if_success (with_reducible show wpAny _ _ (exec (Stmt.Assign _ (Expr.ListComp _ _ _ _) _) _) _ _ _));
  (fail_if_success (with_reducible show wpAny _ _ (eval (Expr.ListComp _ _ _ _) _) _ _ _));
  (fail_if_success (with_reducible show wpAny _ _ (call (Value.ref _) _ _) _ _ _));
  (fail_if_success (with_reducible show wpAny _ _ (call (Value.type "list") _ _) _ _ _));
  (fail_if_success (with_reducible show wpAny _ _ (compareOp CmpOp.NotEq (Value.ref _) (Value.ref _)) _ _ _));
  (fail_if_success (with_reducible show wpAny _ _ (compareOp CmpOp.Eq (Value.ref _) (Value.ref _)) _ _ _));
  (fail_if_success (with_reducible show wpAny _ _ (newList _) _ _ _));
  (fail_if_success (with_reducible show Exists _));
  first | (k_unfold; (try dsimp only)) | walk1 | (dsimp only; walk1)))

local macro_rules | `(tactic| walk_at "eval Name") => `(tactic| (k_inBlock; k_dflt (first
  | (refine' nameB_M ?N ?m ?o ?v ?_ ?a ?b ?c; (case a => rfl); (case b => rfl); (case c => decide); (case N => k_asm); (case o => assumption); (case m => k_mem); (case v => assumption); k_whole)
  | (refine' nameB_C ?N ?m ?d ?_ ?c ?a ?b ?e; (case c => rfl); (case a => rfl); (case b => rfl); (case e => decide); (case N => k_asm); (case m => k_mem); (case d => assumption); k_whole))))
local macro_rules | `(tactic| walk_at "subscriptTail") => `(tactic| ((with_reducible show wpAny _ _ (subscriptTail _ _ (Value.ref _) (Value.int _ _)) _ _ _); k_dflt (refine' tail_at ?N ?m ?z ?k ?i ?_ ?s; (case N => k_asm); (case m => k_mem); (case z => omega); (case k => assumption); (case i => omega); (case s => with_unfolding_all rfl); k_whole)))
local macro_rules | `(tactic| walk_at "call builtin:len") => `(tactic| (k_dflt (refine' len_vals ?k1 ?k2 ?k3 ?_; (case k1 => k_asm); (case k2 => k_mem); (case k3 => (first | (simp only [strValues_length]; omega) | omega)); k_whole); intro tl9 kl9; (try simp only [strValues_length])))

theorem law_code {w : World} {mean : ExcName → Option Value} {mg mb : Str → Option Value} {A : Around} {s : Shared} {R : Result → Shared → Prop} {d : Addr} {ds : List Value} {ns : List Int} (hh : A.handled = none) (hdp : A.depth + 8 < recursionLimit) (hu : A.units + 300 < cLine) (X : (hd.heap_39 w.params).In s.heap) (T : TT mean mg mb s.heap)
    (hl : s.heap.IsList d ds.toArray) (hi : IntsAre ds ns) (hns : ns.length ≤ 63) (hR : ∀ s', Ext s s' → R (.ok (.ret (.bool true))) s') : codeAny (model PG w) A (.call (.ref 204) ⟨[.ref d], []⟩) R s := by
  obtain ⟨ha, dp, fr, gd, un⟩ := A
  obtain rfl : ha = none := hh
  dsimp only at hdp hu
  replace hh : (⟨none, dp, fr, gd, un⟩ : Around).handled = none := rfl
  k_dflt (refine' enterC (binds := [(Str.ofString "script", .ref d)]) X T.nolimit ?ho ?hcd ?hroom ?hbind ?hkind ?hnd ?_ ?c1 ?c2 ?c3; (case ho => k_is); (case hcd => k_is); (case hroom => (dsimp only; omega)); (case hbind => exact BindsTo.of_eq rfl); (case hkind => rfl); (case hnd => decide +kernel); (case c1 => rfl); (case c2 => rfl); (case c3 => rfl))
  k_whole
  intro g L h₁ tk₁ cells hg F N Y
  rw [← hg] at X T
  (try dsimp only)
  try k_fold
  obtain ⟨o1, o2, rfl, d1, d2⟩ := CellsAre.two Y
  clear Y
  replace d1 : o1.data = .cell none := d1
  replace d2 : o2.data = .cell none := d2
  obtain ⟨mm, F⟩ : ∃ mm : Str → Option Value, Fr g L h₁ (fun y => if y = Str.ofString "script" then some (.ref d) else mm y) := ⟨_, fr_knows [(Str.ofString "script", .ref d)] F ⟨rfl, trivial⟩⟩
  rw [← hg] at hl
  k_steps
  (rename News _ _ _ _ => N9)
  (rename Fr _ _ _ _ => F9)
  refine Con.use (con_texts _ _ (List.take 3 ns) (by omega) (by assumption)) hh (by simp only [Around.deeper]; omega) (by simp only [Around.deeper]; omega) X T (by assumption) (by assumption) (News.isList N9 (.head _)) ?_
  intro v1 s1 hx1 F1 N1 hp1
  obtain ⟨D, n, q, rfl, hf, hD, hq70, hqs⟩ := hp1
  have n1 := neN (News.off N9 hf (L + 1 + 1, o1) (by simp))
  have n2 := neN (News.off N9 hf (L + 1, o2) (by simp))
  dsimp only at n1 n2
  have N2 := news_sub (News.add F9 N1 hf hD) (news' := [(D, W.listOf (strValues q).toArray n), (L + 1 + 1, o1), (L + 1, o2)]) (by intro p hp; simp only [List.mem_cons, List.not_mem_nil, or_false] at hp; rcases hp with rfl | rfl | rfl <;> simp)
  clear N1 N9 F9
  k_steps
  rename_i h9 oD F3 N3 dD
  refine comp_expr (cl := []) (by rfl) (by decide) (by rfl) (by decide) ?_
  k_steps
  refine csrc_list (L := L) (vs := strValues q) (((q.map (·.1)).map dToks).map some) hh F3 N3 (.head _) (by rw [strValues_length]; omega) (by simp [strValues_length]) (turn_new ?k1 ?k2 ?b1) ?_
  case k1 => rfl
  case k2 => rfl
  case b1 =>
    rintro E Q i d0 v C oC mC rest s₃ hd0 hv hoC hmC F₃ N₃ hQ3
    obtain ⟨y, t, rfl, rfl, hy, hoy⟩ := texts_at hd0 hv hqs
    simp only [List.cons_append, List.nil_append] at N₃
    k_steps
    refine Con.use (con_gen y t (by omega)) (by exact hh) (by simp only [Around.deeper]; omega) (by simp only [Around.deeper]; omega) X T (by assumption) (by assumption) (trivial) ?_
    intro v5 s5 hx5 F5 N5 hp5
    k_steps
    refine list_gen (s0 := s₃) (by exact hh) (by simp only [Around.deeper]; omega) (X.keeps F₃.keep) (T.keeps F₃.keep) hx5 hp5 (by have := toks_le hy; omega) ?_
    exact fun v2 s6 x6 hn => hQ3 _ _ x6 hn
  rw [filterMap_id]
  intro D1 s2 ys1 k1 tl1 F4 ro2 N4 hall1 off1
  simp only [List.cons_append, List.nil_append] at N4
  k_steps
  refine comp_expr (cl := []) (by rfl) (by decide) (by rfl) (by decide) ?_
  k_steps
  refine csrc_list (L := L) (vs := strValues q) (((q.map (·.1)).map dToks).map some) hh F4 N4 (.tail _ (.head _)) (by rw [strValues_length]; omega) (by simp [strValues_length]) (turn_new ?k1 ?k2 ?b1) ?_
  case k1 => rfl
  case k2 => rfl
  case b1 =>
    rintro E Q i d0 v C oC mC rest s₃ hd0 hv hoC hmC F₃ N₃ hQ3
    obtain ⟨y, t, rfl, rfl, hy, hoy⟩ := texts_at hd0 hv hqs
    simp only [List.cons_append, List.nil_append] at N₃
    k_steps
    refine Con.use (con_units y t (by omega)) (by exact hh) (by simp only [Around.deeper]; omega) (by simp only [Around.deeper]; omega) X T (by assumption) (by assumption) (trivial) ?_
    intro v5 s5 hx5 F5 N5 hp5
    exact hQ3 _ _ hx5 (made_new hp5)
  rw [filterMap_id]
  intro D2 s3 ys2 k2 tl2 F5 ro3 N5 hall2 off2
  simp only [List.cons_append, List.nil_append] at N5
  refine ne_same (k := 3) (d := .list ((q.map (·.1)).map dToks)) ?ra ?rb ?cm (by decide) (by simp only [Around.deeper]; omega) ?_
  case ra => exact (LRd.list (.tail _ (.head _)) (hall1.mono fun _ _ r => r.mono fun p hp => by simp [hp])).at N5
  case rb => exact (LRd.list (.head _) (hall2.mono fun _ _ r => r.mono fun p hp => by simp [hp])).at N5
  case cm =>
    refine Cmp.list fun d hd => ?_
    obtain ⟨y, hy, rfl⟩ := List.mem_map.mp hd
    exact cmp_toks (hqs y hy).2
  have N6 := news_sub N5 (news' := [(D, W.listOf (strValues q).toArray n), (L + 1 + 1, o1), (L + 1, oD)]) (by intro p hp; simp only [List.mem_cons, List.not_mem_nil, or_false] at hp; rcases hp with rfl | rfl | rfl <;> simp)
  clear N5 N4 hall1 hall2 off1 off2
  k_steps
  refine comp_assign (cl := []) (by rfl) (by rfl) (by decide) (by rfl) (by decide) (by rfl) (by rfl) ?_
  k_steps
  refine csrc_list (L := L) (vs := strValues q) (((q.map (·.1)).map fun y => PyData.str (stripF y)).map some) hh F5 N6 (.head _) (by rw [strValues_length]; omega) (by simp [strValues_length]) (turn_new ?k1 ?k2 ?b1) ⟨rfl, ?_⟩
  case k1 => rfl
  case k2 => rfl
  case b1 =>
    rintro E Q i d0 v C oC mC rest s₃ hd0 hv hoC hmC F₃ N₃ hQ3
    obtain ⟨y, t, rfl, rfl, hy, hoy⟩ := texts_at hd0 hv hqs
    simp only [List.cons_append, List.nil_append] at N₃
    k_steps
    refine Con.use (con_strip y t (by omega)) (by exact hh) (by simp only [Around.deeper]; omega) (by simp only [Around.deeper]; omega) X T (by assumption) (by assumption) (trivial) ?_
    intro v5 s5 hx5 F5 N5 hp5
    obtain ⟨t5, rfl⟩ := hp5
    exact hQ3 _ _ hx5 (NewV.flat LRd.str)
  rw [filterMap_id]
  intro D3 s4 ys3 k3 tl3 F7 ro4 N7 hall3 off3
  obtain ⟨b, rfl, hb⟩ := strs_of (xs := (q.map (·.1)).map stripF) (fun p hp => (N7 p (.tail _ (List.mem_append_right _ hp))).1) (by rw [List.map_map]; exact hall3)
  have n3 := neN (off3 (D, W.listOf (strValues q).toArray n) (by simp))
  have n4 := neN (off3 (L + 1 + 1, o1) (by simp))
  have n5 := neN (off3 (L + 1, oD) (by simp))
  dsimp only at n3 n4 n5
  have N8 := news_sub N7 (news' := [(D3, W.listOf (strValues b).toArray k3), (D, W.listOf (strValues q).toArray n), (L + 1 + 1, o1), (L + 1, oD)]) (by intro p hp; simp only [List.mem_cons, List.not_mem_nil, or_false] at hp; rcases hp with rfl | rfl | rfl | rfl <;> simp)
  have hbl : b.length = q.length := by have := congrArg List.length hb; simpa using this
  have hbs : ∀ z ∈ b.map (·.1), z.length ≤ 16 ∧ okS z := by
    intro z hz
    rw [hb] at hz
    obtain ⟨y, hy, rfl⟩ := List.mem_map.mp hz
    exact ⟨Nat.le_trans (strip_len y) (hqs y hy).1, strip_ok (hqs y hy).2⟩
  clear N7 hall3 off3 N6 F3 N3
  dsimp only at F7 ⊢
  k_steps
  refine comp_expr (cl := []) (by rfl) (by decide) (by rfl) (by decide) ?_
  k_steps
  refine csrc_list (L := L) (vs := strValues q) (((q.map (·.1)).map fun y => PyData.str (bareF y)).map some) hh F7 N8 (.tail _ (.head _)) (by rw [strValues_length]; omega) (by simp [strValues_length]) (turn_new ?k1 ?k2 ?b1) ?_
  case k1 => rfl
  case k2 => rfl
  case b1 =>
    rintro E Q i d0 v C oC mC rest s₃ hd0 hv hoC hmC F₃ N₃ hQ3
    obtain ⟨y, t, rfl, rfl, hy, hoy⟩ := texts_at hd0 hv hqs
    simp only [List.cons_append, List.nil_append] at N₃
    k_steps
    refine Con.use (con_bare y t (by omega)) (by exact hh) (by simp only [Around.deeper]; omega) (by simp only [Around.deeper]; omega) X T (by assumption) (by assumption) (trivial) ?_
    intro v5 s5 hx5 F5 N5 hp5
    obtain ⟨t5, rfl⟩ := hp5
    exact hQ3 _ _ hx5 (NewV.flat LRd.str)
  rw [filterMap_id]
  intro D4 s5 ys4 k4 tl4 F9 ro5 N9 hall4 off4
  simp only [List.cons_append, List.nil_append] at N9
  have hbd : (b.map (·.1)).map PyData.str = (q.map (·.1)).map fun y => PyData.str (bareF y) := by
    rw [hb, List.map_map]
    refine List.map_congr_left fun y _ => ?_
    show PyData.str (stripF y) = _
    rw [strip_bare]
  refine ne_same (k := 3) (d := .list ((q.map (·.1)).map fun y => PyData.str (bareF y))) ?ra ?rb ?cm (by decide) (by simp only [Around.deeper]; omega) ?_
  case ra => rw [← hbd]; exact rd_list (N9 _ (.tail _ (.head _))).1 (rd_strs b)
  case rb => exact (LRd.list (.head _) (hall4.mono fun _ _ r => r.mono fun p hp => by simp [hp])).at N9
  case cm =>
    rw [← hbd]
    refine Cmp.list fun d hd => ?_
    obtain ⟨y, hy, rfl⟩ := List.mem_map.mp hd
    exact Cmp.str (hbs y hy).2
  have N10 := news_sub N9 (news' := [(D3, W.listOf (strValues b).toArray k3), (D, W.listOf (strValues q).toArray n), (L + 1 + 1, o1), (L + 1, oD)]) (by intro p hp; simp only [List.mem_cons, List.not_mem_nil, or_false] at hp; rcases hp with rfl | rfl | rfl | rfl <;> simp)
  clear N9 hall4 off4 N8
  k_steps
  refine comp_assign (cl := []) (by rfl) (by rfl) (by decide) (by rfl) (by decide) (by rfl) (by rfl) ?_
  k_steps
  refine csrc_list (L := L) (vs := strValues b) (((b.map (·.1)).map dWays).map some) hh F9 N10 (.head _) (by rw [strValues_length]; omega) (by simp [strValues_length]) (turn_new ?k1 ?k2 ?b1) ⟨rfl, ?_⟩
  case k1 => rfl
  case k2 => rfl
  case b1 =>
    rintro E Q i d0 v C oC mC rest s₃ hd0 hv hoC hmC F₃ N₃ hQ3
    obtain ⟨y, t, rfl, rfl, hy, hoy⟩ := texts_at hd0 hv hbs
    simp only [List.cons_append, List.nil_append] at N₃
    k_steps
    refine Con.use (con_gen y t (by omega)) (by exact hh) (by simp only [Around.deeper]; omega) (by simp only [Around.deeper]; omega) X T (by assumption) (by assumption) (trivial) ?_
    intro v5 s5 hx5 F5 N5 hp5
    k_steps
    refine wpAny_newObj_type ?_ (by show (1 : Nat) ≤ _; rw [sizeLine_eq]; omega)
    k_steps
    · exact (X.keeps F₃.keep).keeps fun b o e => Heap.get?_push_of_some _ (hx5.heap b o e)
    refine reduce_new (by exact hh) (by simp only [Around.deeper]; omega) (by simp only [Around.deeper]; omega) (X.keeps F₃.keep) (T.keeps F₃.keep) hx5 hp5 (by omega) ?_
    exact fun v2 s6 x6 hn => hQ3 _ _ x6 hn
  rw [filterMap_id]
  intro D5 s6 ys5 k5 tl5 F11 ro6 N11 hall5 off5
  simp only [List.cons_append, List.nil_append] at N11
  have n6 := neN (off5 (D3, W.listOf (strValues b).toArray k3) (by simp))
  have n7 := neN (off5 (D, W.listOf (strValues q).toArray n) (by simp))
  have n8 := neN (off5 (L + 1 + 1, o1) (by simp))
  have n9 := neN (off5 (L + 1, oD) (by simp))
  dsimp only at n6 n7 n8 n9
  have hR5 := LRd.list (tl := (D5, W.listOf ys5.toArray k5) :: tl5) (.head _) (hall5.mono fun _ _ r => r.mono fun p hp => .tail _ hp)
  have N12 := news_sub N11 (news' := (D, W.listOf (strValues q).toArray n) :: (L + 1 + 1, o1) :: (L + 1, oD) :: (D5, W.listOf ys5.toArray k5) :: tl5) (by intro p hp; simp only [List.mem_cons] at hp ⊢; rcases hp with h | h | h | h | h <;> simp [h])
  clear N10 N11 off5 hall5
  dsimp only at F11 ⊢
  k_steps
  refine comp_assign (cl := []) (by rfl) (by rfl) (by decide) (by rfl) (by decide) (by rfl) (by rfl) ?_
  k_steps
  refine csrc_list (L := L) (vs := strValues q) (((q.map (·.1)).map fun y => dWays (bareF y)).map some) hh F11 N12 (.head _) (by rw [strValues_length]; omega) (by simp [strValues_length]) (CTurn.name ?k1 ?k2 ?b1) ⟨rfl, ?_⟩
  case k1 => rfl
  case k2 => rfl
  case b1 =>
    rintro E i out v C oC mC rest s₃ hout hv hoC hmC ro₃ F₃ N₃ off₃
    obtain ⟨y, t, rfl, rfl, hy, hoy⟩ := texts_at' hout hv hqs
    refine wpAny_tests_nil ⟨rfl, ?_⟩
    have N₃o := N₃
    simp only [List.cons_append] at N₃
    generalize hQQ : (fun y s₆ => _ : Value → Shared → Prop) = QQ
    k_steps
    walk1
    k_steps
    refine Con.use (con_bare y t (by omega)) (by exact hh) (by simp only [Around.deeper]; omega) (by simp only [Around.deeper]; omega) X T (by assumption) (by assumption) (trivial) ?_
    intro v5 s5 hx5 F5 N5 hp5
    obtain ⟨t5, rfl⟩ := hp5
    k_steps
    refine Con.use (con_walked (bareF y) t5 (by rw [← strip_bare]; have := strip_len y; omega)) (by exact hh) (by simp only [Around.deeper]; omega) (by simp only [Around.deeper]; omega) X T (by assumption) (by assumption) (trivial) ?_
    intro v6 s6 hx6 F6 N6 hp6
    obtain ⟨D', n', q', rfl, hf6, hD6, hq6⟩ := hp6
    have N7' := News.add F5 N6 hf6 hD6
    k_steps
    have hwl : q'.length ≤ 16 := by
      have h1 := congrArg List.length hq6
      rw [List.length_map, walked_len, us, List.length_map] at h1
      have h2 := toks_le (y := bareF y) (n := 16) (by rw [← strip_bare]; exact Nat.le_trans (strip_len y) hy)
      omega
    refine add_strs (xs := [(Str.ofString ".", _)]) (ys := q') F6 N7' (.tail _ (.head _)) (.head _) (by simp only [List.length_cons, List.length_nil]; omega) ?_
    intro Dn h9 F9 N9 lt9
    rw [← hQQ]
    have hsub : ∀ p ∈ (C, oC) :: (((D, W.listOf (strValues q).toArray n) :: (L + 1 + 1, o1) :: (L + 1, oD) :: (D5, W.listOf ys5.toArray k5) :: tl5) ++ rest), p.1 < Dn := fun p hp => lt9 p (.tail _ (.tail _ hp))
    refine ⟨⟨oC, mC, hoC, F9, fun p hp => N9 p (.tail _ (.tail _ (.tail _ hp))), ⟨hx5.gens.trans hx6.gens, hx6.os.trans hx5.os⟩⟩, [(Dn, _)], ?_, fun p hp => N9 p (by rw [List.mem_singleton.mp hp]; exact .head _), ?_⟩
    · have e : ∀ tk : Tok, dWays (bareF y) = .list (((([(Str.ofString ".", tk)] : List (Str × Tok)) ++ q').map (·.1)).map PyData.str) := by
        intro tk
        rw [List.map_append, hq6]; rfl
      rw [e s₃.toks]
      exact LRd.list (.head _) (lrd_strs _)
    · intro p hp
      rw [List.mem_singleton.mp hp]
      exact ⟨Nat.ne_of_gt (hsub (C, oC) (.head _)), fun r hr => Nat.ne_of_gt (hsub r (.tail _ (List.mem_append_right _ hr)))⟩
  rw [filterMap_id]
  intro D6 s7 ys6 k6 tl6 F13 ro7 N13 hall6 off6
  simp only [List.cons_append] at N13
  have hbw : (b.map (·.1)).map dWays = (q.map (·.1)).map fun y => dWays (bareF y) := by
    rw [hb, List.map_map]
    refine List.map_congr_left fun y _ => ?_
    show dWays (stripF y) = _
    rw [strip_bare]
  have n10 := neN (off6 (D, W.listOf (strValues q).toArray n) (by simp))
  have n11 := neN (off6 (L + 1 + 1, o1) (by simp))
  have n12 := neN (off6 (L + 1, oD) (by simp))
  dsimp only at n10 n11 n12 F13 ⊢
  k_steps
  refine ne_same (k := 3) (d := .list ((q.map (·.1)).map fun y => dWays (bareF y))) ?ra ?rb ?cm (by decide) (by simp only [Around.deeper]; omega) ?_
  case ra => rw [← hbw]; exact (hR5.mono fun p hp => by rcases List.mem_cons.mp hp with rfl | hp <;> simp_all).at N13
  case rb => exact (LRd.list (.head _) (hall6.mono fun _ _ r => r.mono fun p hp => by simp [hp])).at N13
  case cm =>
    refine Cmp.list fun d hd => ?_
    obtain ⟨y, hy, rfl⟩ := List.mem_map.mp hd
    refine Cmp.list (k := 1) fun e he => ?_
    obtain ⟨z, hz, rfl⟩ := List.mem_map.mp he
    rcases List.mem_cons.mp hz with rfl | hz
    · exact Cmp.str (by decide)
    · exact Cmp.str (walked_ok _ _ z hz)
  have N14 := news_sub N13 (news' := (D6, W.listOf ys6.toArray k6) :: (D, W.listOf (strValues q).toArray n) :: (L + 1 + 1, o1) :: (L + 1, oD) :: tl6) (by intro p hp; simp only [List.mem_cons] at hp ⊢; rcases hp with h | h | h | h | h <;> simp [h])
  clear N12 N13 off6
  k_steps
  refine wpAny_Assign_Name ?_ (by rfl)
  refine comp_expr (cl := []) (by rfl) (by decide) (by rfl) (by decide) ?_
  k_steps
  have hl6 : ys6.length = q.length := by have := hall6.length; simpa using this
  refine csrc_list (L := L) (vs := ys6) (((q.map (·.1)).map fun y => PyData.bool (rightT y)).map some) hh F13 N14 (.head _) (by omega) (by simp [hl6]) (turn_new ?k1 ?k2 ?b1) ?_
  case k1 => rfl
  case k2 => rfl
  case b1 =>
    rintro E Q i d0 v C oC mC rest s₃ hd0 hv hoC hmC F₃ N₃ hQ3
    obtain ⟨vs0, a0, y0, t0, y1, hle, rfl, hla, rfl, hy1⟩ := ways_at (h := s₃.heap) hd0 hv hall6 (fun p hp => (N₃ p (.tail _ (List.mem_append_left _ (.tail _ (.tail _ (.tail _ (.tail _ hp))))))).1) (fun y hy => (hqs y hy).1)
    simp only [List.cons_append] at N₃
    k_steps
    refine tail_lastH hla (by have := sizeLine_eq; omega) ?_ (by with_unfolding_all rfl)
    k_steps
    rw [hy1]
    exact hQ3 _ _ ⟨fun _ _ e => e, Nat.le_refl _, GExt.refl _, rfl⟩ (NewV.flat LRd.bool)
  rw [filterMap_id]
  intro D7 s8 ys7 k7 tl7 F15 ro8 N15 hall7 off7
  simp only [List.cons_append] at N15
  have hrs : ys7 = ((q.map (·.1)).map rightT).map Value.bool := bools_of (tl := tl7) (fun p hp => (N15 p (by simp only [List.mem_cons, List.mem_append]; simp [hp])).1) (by rw [List.map_map]; exact hall7)
  subst hrs
  generalize hrr : (q.map (·.1)).map rightT = rs at *
  have hrl : rs.length = q.length := by rw [← hrr, List.length_map, List.length_map]
  have n13 := neN (off7 (D, W.listOf (strValues q).toArray n) (by simp))
  have n14 := neN (off7 (L + 1 + 1, o1) (by simp))
  have n15 := neN (off7 (L + 1, oD) (by simp))
  dsimp only at n13 n14 n15
  have N16 := news_sub N15 (news' := [(D7, W.listOf (rs.map Value.bool).toArray k7), (D, W.listOf (strValues q).toArray n), (L + 1 + 1, o1), (L + 1, oD)]) (by intro p hp; simp only [List.mem_cons, List.not_mem_nil, or_false] at hp; rcases hp with rfl | rfl | rfl | rfl <;> simp)
  clear N15 N14 off7 hall7 hall6
  k_steps
  rename_i h16 oR F17 N17 dR
  refine comp_expr (cl := [(Str.ofString "right", L + 1 + 1), (Str.ofString "drawn", L + 1)]) (by rfl) (by decide) (by rfl) (by decide) ?_
  k_steps
  rename_i h18 t18 u18 v18 hr18 F18 N18 hk18
  refine csrc_range (L := L) ((List.range q.length).map fun _ => (none : Option PyData)) hh F18 N18 hr18 (by omega) (by simp) (CTurn.name ?k1 ?k2 ?b1) ?_
  case k1 => rfl
  case k2 => rfl
  case b1 =>
    rintro E i out v C oC mC rest s₃ hout ⟨ti, rfl⟩ hoC hmC ro₃ F₃ N₃ off₃
    have N₃o := N₃
    simp only [List.cons_append, List.nil_append] at N₃
    obtain ⟨hi9, rfl⟩ := outs_at hout
    obtain ⟨y, ty, hqi, hri, hym⟩ := pair_at hrr hi9
    have hyl := hqs y hym
    refine wpAny_tests_one ?_
    generalize hQQ : (fun ok s₅ => _ : Bool → Shared → Prop) = QQ
    have hqg : ∀ y', (q.map (·.1))[((i : Nat) : Int).toNat]? = some y' → y' = y := fun y' h => str_at hqi h
    k_steps
    rename_i y' t' hy'
    obtain rfl := hqg y' hy'
    refine Con.use (con_check y' t' (by omega) (by have := strip_len y'; omega)) (by exact hh) (by simp only [Around.deeper]; omega) (by simp only [Around.deeper]; omega) X T (by assumption) (by assumption) (trivial) ?_
    intro v5 s5 hx5 F5 N5 hp5
    subst hp5
    k_steps
    rw [← hQQ]
    exact ⟨by simp [rightT], oC, mC, hoC, F5, News.ext N₃o hx5, ⟨hx5.gens, hx5.os⟩⟩
  rw [none_out]
  intro D8 s9 ys8 k8 tl8 F20 ro9 N20 hall8 off8
  obtain rfl : ys8 = [] := by cases hall8; rfl
  k_steps
  walk1
  k_steps
  (rename News _ _ _ _ => N21)
  (rename Fr _ _ _ _ => F21)
  refine ne_same (k := 1) (d := .list []) ?ra ?rb ?cm (by decide) (by simp only [Around.deeper]; omega) ?_
  case ra => exact rd_list (vs := []) (N21 _ (.tail _ (.head _))).1 .nil
  case rb => exact rd_list (vs := []) (N21 _ (.head _)).1 .nil
  case cm => exact Cmp.list fun d hd => nomatch hd
  have N22 := news_sub N21 (news' := [(D7, W.listOf (rs.map Value.bool).toArray k7), (D, W.listOf (strValues q).toArray n), (L + 1 + 1, oR), (L + 1, oD)]) (by intro p hp; simp only [List.mem_cons, List.not_mem_nil, or_false] at hp; rcases hp with rfl | rfl | rfl | rfl <;> simp)
  clear N21 off8 hall8
  k_steps
  refine Con.use (con_val D q (by omega) (fun p hp => val_len hqs hp)) hh (by simp only [Around.deeper]; omega) (by simp only [Around.deeper]; omega) X T (by assumption) (by assumption) (News.isList N22 (.tail _ (.head _))) ?_
  intro v10 s10 hx10 F10 N10 hp10
  obtain ⟨DV, nv, qv, rfl, hfv, hDV, hqv⟩ := hp10
  have N23 := News.add F21 N10 hfv hDV
  have F23 := F10
  clear N10 F10
  k_steps
  refine comp_expr (cl := [(Str.ofString "right", L + 1 + 1), (Str.ofString "drawn", L + 1)]) (by rfl) (by decide) (by rfl) (by decide) ?_
  k_steps
  rename_i h24 t24 u24 v24 hr24 F24 N24 hk24
  refine csrc_range (L := L) (((q.map (·.1)).map fun y => PyData.str (valT y)).map some) hh F24 N24 hr24 (by omega) (by simp) (turn_new ?k1 ?k2 ?b1) ?_
  case k1 => rfl
  case k2 => rfl
  case b1 =>
    rintro E Q i d0 v C oC mC rest s₃ hd0 ⟨ti, rfl⟩ hoC hmC F₃ N₃ hQ3
    simp only [List.cons_append, List.nil_append] at N₃
    have hi9 : i < q.length := by
      have := (List.getElem?_eq_some_iff.mp hd0).1
      simpa using this
    obtain ⟨y, ty, hqi, hri, hym, hd1⟩ := pair_at2 hrr hi9 hd0
    subst hd1
    have hqg : ∀ y', (q.map (·.1))[((i : Nat) : Int).toNat]? = some y' → y' = y := fun y' h => str_at hqi h
    cases hrt : rightT y with
    | true =>
      rw [hrt] at hri
      have hvt : valT y = y := if_pos hrt
      rw [hvt] at hQ3
      k_steps
      rename_i y' t' hy'
      obtain rfl := hqg y' hy'
      exact hQ3 _ _ (Ext.refl _) (NewV.flat LRd.str)
    | false =>
      rw [hrt] at hri
      have hvt : valT y = Str.ofString "('', '')" := if_neg (by rw [hrt]; exact Bool.false_ne_true)
      rw [hvt] at hQ3
      k_steps
      exact hQ3 _ _ ⟨fun _ _ e => e, Nat.le_refl _, GExt.refl _, rfl⟩ (NewV.flat LRd.str)
  rw [filterMap_id]
  intro D9 s12 ys9 k9 tl9 F26 ro12 N26 hall9 off9
  k_steps
  refine eq_same (k := 3) (d := .list ((q.map (·.1)).map fun y => PyData.str (valT y))) ?ra ?rb ?cm (by decide) (by simp only [Around.deeper]; omega) ?_
  case ra =>
    have e : ((q.map (·.1)).map fun y => PyData.str (valT y)) = (qv.map (·.1)).map PyData.str := by rw [hqv]; simp only [List.map_map, Function.comp_def]
    rw [e]
    exact rd_list (N26 (DV, W.listOf (strValues qv).toArray nv) (by simp)).1 (rd_strs qv)
  case rb => exact (LRd.list (.head _) (hall9.mono fun _ _ r => r.mono fun p hp => by simp [hp])).at N26
  case cm =>
    refine Cmp.list fun d hd => ?_
    obtain ⟨y, hy, rfl⟩ := List.mem_map.mp hd
    exact Cmp.str (val_ok (hqs y hy).2)
  clear off9 hall9
  k_steps
  exact hR _ (Ext.of_ro hg F26 ⟨hx1.gens.trans (ro2.gens.trans (ro3.gens.trans (ro4.gens.trans (ro5.gens.trans (ro6.gens.trans (ro7.gens.trans (ro8.gens.trans (ro9.gens.trans (hx10.gens.trans ro12.gens))))))))), ((((((((((ro12.os.trans hx10.os).trans ro9.os).trans ro8.os).trans ro7.os).trans ro6.os).trans ro5.os).trans ro4.os).trans ro3.os).trans ro2.os).trans hx1.os)⟩)
end Mine
end
end
section
open PySem PySem.W PyProof.Rows PySem.Calls
set_option maxRecDepth 100000 in
set_option maxHeartbeats 4000000 in
theorem PySem.Challenge.cw_qw0046_01_holds : PySem.Challenge.rw_qw0046_01.Holds := by
  w_on
  refine holds_law Mine.hd.said fun said => ?_
  refine holds_open (q := Mine.hd.view_39) (loose := Mine.hd.loose) (Xt := fun s => xlAt Mine.hd.view_39 [] s && recOk (RowW.records PySem.Challenge.rw_qw0046_01.row.toRowW) s) (XP := XL Mine.hd.view_39 []) (Yf := (kHook Mine.hd.heap_39 Mine.hd.at Mine.hd.keys).obs) (Ya := (kHook Mine.hd.heap_39 Mine.hd.at Mine.hd.keys).val) (YP := (kHook Mine.hd.heap_39 Mine.hd.at Mine.hd.keys).says) (N := 2640)
    Mine.hd.left (kHook Mine.hd.heap_39 Mine.hd.at Mine.hd.keys).of (kHook Mine.hd.heap_39 Mine.hd.at Mine.hd.keys).keeps (fun s e => xl_of s (Bool.and_eq_true_iff.mp e).1) XL.keeps (by rfl) (by rfl) (by rfl) (fun s e => recFacts_of (Bool.and_eq_true_iff.mp e).2) (by rfl) said (by decide +kernel) ⟨rfl, rfl, rfl, rfl, rfl, by decide +kernel⟩ ?hw ?hc
  case hw => w_witness2
  k_fill
  intro w s₀ s₁ mg mb G Y fa o pm cd doc dV kV ho hd' hcd hD hmg hg args vals as hpre hlay hrd hwl hlo
  have KX := kIn_of Y
  have X := (Ground.X G).1
  have V := (Ground.X G).2
  refine Ground.open G ?_
  intro T B D TE TW
  have hmg' := hmg
  have ho' := ho
  wrow_args hpre hlay hrd hwl hlo
  all_goals (
    first | refine callC_kw (enter_call ?_) | refine enter_call ?_ | refine callC_kw (enter_callW ?_) | refine enter_callW ?_ | w_how
    w_top on)
  have e204 : some (Value.ref fa) = some (Value.ref 204) := hmg'.symm.trans (mg_of (n := Str.ofString "law") (v := .ref 204) KX T.g (by k_is))
  obtain rfl : fa = 204 := Value.ref.inj (Option.some.inj e204)
  refine Mine.law_code (mean := _) (by rfl) (by decide) (by decide) KX T (by assumption) (by assumption) (by omega) ?_
  intro s' x
  refine ⟨.inl ⟨.bool true, .bool true, [], rfl, ?hn, .bool true, ?hp, ?hu⟩, OldK.of_keep x.heap, x.os, x.gens.bare (AllBare.of_eq hg)⟩
  case hn => intro cls; rfl
  case hp =>
    refine postW_of (X := true) rfl ?_ rfl
    show (WTm.eq WTm.res (WTm.lit (WData.bool true))).value _ _ = some (WData.bool (true == true))
    exact w_eq_bool (w_res rfl) w_lit
  case hu => exact unshared_nil
end
