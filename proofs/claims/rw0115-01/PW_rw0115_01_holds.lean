import PyProof.Rows.All
import Wide.All
import OpenK.AllK
import Wide.FinOn
import KE.KUnpack
import PySem.Challenge.RW_rw0115_01
open PySem PySem.W PyProof.Rows
set_option Elab.async false
set_option maxRecDepth 100000
set_option maxHeartbeats 8000000
set_option linter.unusedVariables false
open PySem PySem.W PyProof.Rows
namespace Mine
/-- what a def of the text holds -/
def fnAt : Option Stmt → Option (Arguments × List Stmt × Scope)
  | some (.FunctionDef _ a b _ _ _ sc _ _ _) => some (a, b, sc)
  | _ => none
def topFn (n : Nat) : Option (Arguments × List Stmt × Scope) := fnAt (PySem.Challenge.pw_rw0115_01.main.body[n]?)
def clsFn (n m : Nat) : Option (Arguments × List Stmt × Scope) := match PySem.Challenge.pw_rw0115_01.main.body[n]? with
  | some (.ClassDef _ _ _ b _ _ _ _ _ _ _) => fnAt b[m]?
  | _ => none

/-- what the top leaves, as far as the law reads it -/
noncomputable def KF : Params → Frag := by
  refine (?f : (a21 : Arguments) → (b21 : List Stmt) → (s21 : Scope) → topFn 0 = some (a21, b21, s21) → (a38 : Arguments) → (b38 : List Stmt) → (s38 : Scope) → clsFn 2 1 = some (a38, b38, s38) → (a45 : Arguments) → (b45 : List Stmt) → (s45 : Scope) → clsFn 2 2 = some (a45, b45, s45) → (a52 : Arguments) → (b52 : List Stmt) → (s52 : Scope) → clsFn 2 3 = some (a52, b52, s52) → (a59 : Arguments) → (b59 : List Stmt) → (s59 : Scope) → clsFn 2 4 = some (a59, b59, s59) → (a66 : Arguments) → (b66 : List Stmt) → (s66 : Scope) → clsFn 2 5 = some (a66, b66, s66) → (a73 : Arguments) → (b73 : List Stmt) → (s73 : Scope) → clsFn 2 6 = some (a73, b73, s73) → (a80 : Arguments) → (b80 : List Stmt) → (s80 : Scope) → clsFn 2 7 = some (a80, b80, s80) → (a94 : Arguments) → (b94 : List Stmt) → (s94 : Scope) → topFn 3 = some (a94, b94, s94) → (a101 : Arguments) → (b101 : List Stmt) → (s101 : Scope) → topFn 5 = some (a101, b101, s101) → (a108 : Arguments) → (b108 : List Stmt) → (s108 : Scope) → topFn 6 = some (a108, b108, s108) → (a115 : Arguments) → (b115 : List Stmt) → (s115 : Scope) → topFn 7 = some (a115, b115, s115) → (a125 : Arguments) → (b125 : List Stmt) → (s125 : Scope) → topFn 60 = some (a125, b125, s125) → (a132 : Arguments) → (b132 : List Stmt) → (s132 : Scope) → topFn 61 = some (a132, b132, s132) → (a139 : Arguments) → (b139 : List Stmt) → (s139 : Scope) → topFn 62 = some (a139, b139, s139) → (a144 : Arguments) → (b144 : List Stmt) → (s144 : Scope) → topFn 64 = some (a144, b144, s144) → (a149 : Arguments) → (b149 : List Stmt) → (s149 : Scope) → topFn 65 = some (a149, b149, s149) → (a154 : Arguments) → (b154 : List Stmt) → (s154 : Scope) → topFn 66 = some (a154, b154, s154) → (a159 : Arguments) → (b159 : List Stmt) → (s159 : Scope) → topFn 67 = some (a159, b159, s159) → (a164 : Arguments) → (b164 : List Stmt) → (s164 : Scope) → topFn 68 = some (a164, b164, s164) → (a169 : Arguments) → (b169 : List Stmt) → (s169 : Scope) → topFn 69 = some (a169, b169, s169) → (a174 : Arguments) → (b174 : List Stmt) → (s174 : Scope) → topFn 70 = some (a174, b174, s174) → (a179 : Arguments) → (b179 : List Stmt) → (s179 : Scope) → topFn 71 = some (a179, b179, s179) → (a184 : Arguments) → (b184 : List Stmt) → (s184 : Scope) → topFn 72 = some (a184, b184, s184) → Params → Frag) _ _ _ rfl _ _ _ rfl _ _ _ rfl _ _ _ rfl _ _ _ rfl _ _ _ rfl _ _ _ rfl _ _ _ rfl _ _ _ rfl _ _ _ rfl _ _ _ rfl _ _ _ rfl _ _ _ rfl _ _ _ rfl _ _ _ rfl _ _ _ rfl _ _ _ rfl _ _ _ rfl _ _ _ rfl _ _ _ rfl _ _ _ rfl _ _ _ rfl _ _ _ rfl _ _ _ rfl
  exact fun a21 b21 s21 _ a38 b38 s38 _ a45 b45 s45 _ a52 b52 s52 _ a59 b59 s59 _ a66 b66 s66 _ a73 b73 s73 _ a80 b80 s80 _ a94 b94 s94 _ a101 b101 s101 _ a108 b108 s108 _ a115 b115 s115 _ a125 b125 s125 _ a132 b132 s132 _ a139 b139 s139 _ a144 b144 s144 _ a149 b149 s149 _ a154 b154 s154 _ a159 b159 s159 _ a164 b164 s164 _ a169 b169 s169 _ a174 b174 s174 _ a179 b179 s179 _ a184 b184 s184 _ => fun P => [
    (2, ⟨@PySem.Value.none, (@Option.none @Nat), (@PySem.Data.dict #[] 0), #[]⟩),
    (3, ⟨(@PySem.Value.type "dict"), (@Option.none @Nat), (@PySem.Data.dict #[(@PySem.DictEntry.mk (@PySem.PyData.keyHash P (.ofString "__name__")) (@PySem.Value.str (.ofString "__name__") 165) (@PySem.Value.str (.ofString "law_rw0115_01") 560)), (@PySem.DictEntry.mk (@PySem.PyData.keyHash P (.ofString "__doc__")) (@PySem.Value.str (.ofString "__doc__") 166) @PySem.Value.none), (@PySem.DictEntry.mk (@PySem.PyData.keyHash P (.ofString "__package__")) (@PySem.Value.str (.ofString "__package__") 167) @PySem.Value.none), (@PySem.DictEntry.mk (@PySem.PyData.keyHash P (.ofString "__loader__")) (@PySem.Value.str (.ofString "__loader__") 168) (@PySem.Value.builtin "__main__.__loader__#opaque")), (@PySem.DictEntry.mk (@PySem.PyData.keyHash P (.ofString "__spec__")) (@PySem.Value.str (.ofString "__spec__") 169) @PySem.Value.none), (@PySem.DictEntry.mk (@PySem.PyData.keyHash P (.ofString "__annotations__")) (@PySem.Value.str (.ofString "__annotations__") 170) (@PySem.Value.ref 6)), (@PySem.DictEntry.mk (@PySem.PyData.keyHash P (.ofString "__builtins__")) (@PySem.Value.str (.ofString "__builtins__") 171) (@PySem.Value.ref 4)), (@PySem.DictEntry.mk (@PySem.PyData.keyHash P (.ofString "__file__")) (@PySem.Value.str (.ofString "__file__") 173) (@PySem.Value.str (.ofString "/claim/cut.py") 172)), (@PySem.DictEntry.mk (@PySem.PyData.keyHash P (.ofString "__cached__")) (@PySem.Value.str (.ofString "__cached__") 174) @PySem.Value.none), (@PySem.DictEntry.mk (@PySem.PyData.keyHash P (.ofString "_wall")) (@PySem.Value.str (.ofString "_wall") 193) (@PySem.Value.ref 21)), (@PySem.DictEntry.mk (@PySem.PyData.keyHash P (.ofString "Whitespace")) (@PySem.Value.str (.ofString "Whitespace") 296) (@PySem.Value.ref 83)), (@PySem.DictEntry.mk (@PySem.PyData.keyHash P (.ofString "format_witnesses")) (@PySem.Value.str (.ofString "format_witnesses") 305) (@PySem.Value.ref 94)), (@PySem.DictEntry.mk (@PySem.PyData.keyHash P (.ofString "_iter_escaped_chars")) (@PySem.Value.str (.ofString "_iter_escaped_chars") 317) (@PySem.Value.ref 101)), (@PySem.DictEntry.mk (@PySem.PyData.keyHash P (.ofString "_strip_quoted_realnames")) (@PySem.Value.str (.ofString "_strip_quoted_realnames") 329) (@PySem.Value.ref 108)), (@PySem.DictEntry.mk (@PySem.PyData.keyHash P (.ofString "_check_parenthesis")) (@PySem.Value.str (.ofString "_check_parenthesis") 339) (@PySem.Value.ref 115)), (@PySem.DictEntry.mk (@PySem.PyData.keyHash P (.ofString "ENDMARKER")) (@PySem.Value.str (.ofString "ENDMARKER") 343) (@PySem.Value.int 0 342)), (@PySem.DictEntry.mk (@PySem.PyData.keyHash P (.ofString "LPAR")) (@PySem.Value.str (.ofString "LPAR") 345) (@PySem.Value.int 7 344)), (@PySem.DictEntry.mk (@PySem.PyData.keyHash P (.ofString "RPAR")) (@PySem.Value.str (.ofString "RPAR") 347) (@PySem.Value.int 8 346)), (@PySem.DictEntry.mk (@PySem.PyData.keyHash P (.ofString "LSQB")) (@PySem.Value.str (.ofString "LSQB") 349) (@PySem.Value.int 9 348)), (@PySem.DictEntry.mk (@PySem.PyData.keyHash P (.ofString "RSQB")) (@PySem.Value.str (.ofString "RSQB") 351) (@PySem.Value.int 10 350)), (@PySem.DictEntry.mk (@PySem.PyData.keyHash P (.ofString "COLON")) (@PySem.Value.str (.ofString "COLON") 353) (@PySem.Value.int 11 352)), (@PySem.DictEntry.mk (@PySem.PyData.keyHash P (.ofString "COMMA")) (@PySem.Value.str (.ofString "COMMA") 355) (@PySem.Value.int 12 354)), (@PySem.DictEntry.mk (@PySem.PyData.keyHash P (.ofString "SEMI")) (@PySem.Value.str (.ofString "SEMI") 357) (@PySem.Value.int 13 356)), (@PySem.DictEntry.mk (@PySem.PyData.keyHash P (.ofString "PLUS")) (@PySem.Value.str (.ofString "PLUS") 359) (@PySem.Value.int 14 358)), (@PySem.DictEntry.mk (@PySem.PyData.keyHash P (.ofString "MINUS")) (@PySem.Value.str (.ofString "MINUS") 361) (@PySem.Value.int 15 360)), (@PySem.DictEntry.mk (@PySem.PyData.keyHash P (.ofString "STAR")) (@PySem.Value.str (.ofString "STAR") 363) (@PySem.Value.int 16 362)), (@PySem.DictEntry.mk (@PySem.PyData.keyHash P (.ofString "SLASH")) (@PySem.Value.str (.ofString "SLASH") 365) (@PySem.Value.int 17 364)), (@PySem.DictEntry.mk (@PySem.PyData.keyHash P (.ofString "VBAR")) (@PySem.Value.str (.ofString "VBAR") 367) (@PySem.Value.int 18 366)), (@PySem.DictEntry.mk (@PySem.PyData.keyHash P (.ofString "AMPER")) (@PySem.Value.str (.ofString "AMPER") 369) (@PySem.Value.int 19 368)), (@PySem.DictEntry.mk (@PySem.PyData.keyHash P (.ofString "LESS")) (@PySem.Value.str (.ofString "LESS") 371) (@PySem.Value.int 20 370)), (@PySem.DictEntry.mk (@PySem.PyData.keyHash P (.ofString "GREATER")) (@PySem.Value.str (.ofString "GREATER") 373) (@PySem.Value.int 21 372)), (@PySem.DictEntry.mk (@PySem.PyData.keyHash P (.ofString "EQUAL")) (@PySem.Value.str (.ofString "EQUAL") 375) (@PySem.Value.int 22 374)), (@PySem.DictEntry.mk (@PySem.PyData.keyHash P (.ofString "DOT")) (@PySem.Value.str (.ofString "DOT") 377) (@PySem.Value.int 23 376)), (@PySem.DictEntry.mk (@PySem.PyData.keyHash P (.ofString "PERCENT")) (@PySem.Value.str (.ofString "PERCENT") 379) (@PySem.Value.int 24 378)), (@PySem.DictEntry.mk (@PySem.PyData.keyHash P (.ofString "LBRACE")) (@PySem.Value.str (.ofString "LBRACE") 381) (@PySem.Value.int 25 380)), (@PySem.DictEntry.mk (@PySem.PyData.keyHash P (.ofString "RBRACE")) (@PySem.Value.str (.ofString "RBRACE") 383) (@PySem.Value.int 26 382)), (@PySem.DictEntry.mk (@PySem.PyData.keyHash P (.ofString "EQEQUAL")) (@PySem.Value.str (.ofString "EQEQUAL") 385) (@PySem.Value.int 27 384)), (@PySem.DictEntry.mk (@PySem.PyData.keyHash P (.ofString "NOTEQUAL")) (@PySem.Value.str (.ofString "NOTEQUAL") 387) (@PySem.Value.int 28 386)), (@PySem.DictEntry.mk (@PySem.PyData.keyHash P (.ofString "LESSEQUAL")) (@PySem.Value.str (.ofString "LESSEQUAL") 389) (@PySem.Value.int 29 388)), (@PySem.DictEntry.mk (@PySem.PyData.keyHash P (.ofString "GREATEREQUAL")) (@PySem.Value.str (.ofString "GREATEREQUAL") 391) (@PySem.Value.int 30 390)), (@PySem.DictEntry.mk (@PySem.PyData.keyHash P (.ofString "TILDE")) (@PySem.Value.str (.ofString "TILDE") 393) (@PySem.Value.int 31 392)), (@PySem.DictEntry.mk (@PySem.PyData.keyHash P (.ofString "CIRCUMFLEX")) (@PySem.Value.str (.ofString "CIRCUMFLEX") 395) (@PySem.Value.int 32 394)), (@PySem.DictEntry.mk (@PySem.PyData.keyHash P (.ofString "LEFTSHIFT")) (@PySem.Value.str (.ofString "LEFTSHIFT") 397) (@PySem.Value.int 33 396)), (@PySem.DictEntry.mk (@PySem.PyData.keyHash P (.ofString "RIGHTSHIFT")) (@PySem.Value.str (.ofString "RIGHTSHIFT") 399) (@PySem.Value.int 34 398)), (@PySem.DictEntry.mk (@PySem.PyData.keyHash P (.ofString "DOUBLESTAR")) (@PySem.Value.str (.ofString "DOUBLESTAR") 401) (@PySem.Value.int 35 400)), (@PySem.DictEntry.mk (@PySem.PyData.keyHash P (.ofString "PLUSEQUAL")) (@PySem.Value.str (.ofString "PLUSEQUAL") 403) (@PySem.Value.int 36 402)), (@PySem.DictEntry.mk (@PySem.PyData.keyHash P (.ofString "MINEQUAL")) (@PySem.Value.str (.ofString "MINEQUAL") 405) (@PySem.Value.int 37 404)), (@PySem.DictEntry.mk (@PySem.PyData.keyHash P (.ofString "STAREQUAL")) (@PySem.Value.str (.ofString "STAREQUAL") 407) (@PySem.Value.int 38 406)), (@PySem.DictEntry.mk (@PySem.PyData.keyHash P (.ofString "SLASHEQUAL")) (@PySem.Value.str (.ofString "SLASHEQUAL") 409) (@PySem.Value.int 39 408)), (@PySem.DictEntry.mk (@PySem.PyData.keyHash P (.ofString "PERCENTEQUAL")) (@PySem.Value.str (.ofString "PERCENTEQUAL") 411) (@PySem.Value.int 40 410)), (@PySem.DictEntry.mk (@PySem.PyData.keyHash P (.ofString "AMPEREQUAL")) (@PySem.Value.str (.ofString "AMPEREQUAL") 413) (@PySem.Value.int 41 412)), (@PySem.DictEntry.mk (@PySem.PyData.keyHash P (.ofString "VBAREQUAL")) (@PySem.Value.str (.ofString "VBAREQUAL") 415) (@PySem.Value.int 42 414)), (@PySem.DictEntry.mk (@PySem.PyData.keyHash P (.ofString "CIRCUMFLEXEQUAL")) (@PySem.Value.str (.ofString "CIRCUMFLEXEQUAL") 417) (@PySem.Value.int 43 416)), (@PySem.DictEntry.mk (@PySem.PyData.keyHash P (.ofString "LEFTSHIFTEQUAL")) (@PySem.Value.str (.ofString "LEFTSHIFTEQUAL") 419) (@PySem.Value.int 44 418)), (@PySem.DictEntry.mk (@PySem.PyData.keyHash P (.ofString "RIGHTSHIFTEQUAL")) (@PySem.Value.str (.ofString "RIGHTSHIFTEQUAL") 421) (@PySem.Value.int 45 420)), (@PySem.DictEntry.mk (@PySem.PyData.keyHash P (.ofString "DOUBLESTAREQUAL")) (@PySem.Value.str (.ofString "DOUBLESTAREQUAL") 423) (@PySem.Value.int 46 422)), (@PySem.DictEntry.mk (@PySem.PyData.keyHash P (.ofString "DOUBLESLASH")) (@PySem.Value.str (.ofString "DOUBLESLASH") 425) (@PySem.Value.int 47 424)), (@PySem.DictEntry.mk (@PySem.PyData.keyHash P (.ofString "DOUBLESLASHEQUAL")) (@PySem.Value.str (.ofString "DOUBLESLASHEQUAL") 427) (@PySem.Value.int 48 426)), (@PySem.DictEntry.mk (@PySem.PyData.keyHash P (.ofString "AT")) (@PySem.Value.str (.ofString "AT") 429) (@PySem.Value.int 49 428)), (@PySem.DictEntry.mk (@PySem.PyData.keyHash P (.ofString "ATEQUAL")) (@PySem.Value.str (.ofString "ATEQUAL") 431) (@PySem.Value.int 50 430)), (@PySem.DictEntry.mk (@PySem.PyData.keyHash P (.ofString "RARROW")) (@PySem.Value.str (.ofString "RARROW") 433) (@PySem.Value.int 51 432)), (@PySem.DictEntry.mk (@PySem.PyData.keyHash P (.ofString "ELLIPSIS")) (@PySem.Value.str (.ofString "ELLIPSIS") 435) (@PySem.Value.int 52 434)), (@PySem.DictEntry.mk (@PySem.PyData.keyHash P (.ofString "COLONEQUAL")) (@PySem.Value.str (.ofString "COLONEQUAL") 437) (@PySem.Value.int 53 436)), (@PySem.DictEntry.mk (@PySem.PyData.keyHash P (.ofString "EXCLAMATION")) (@PySem.Value.str (.ofString "EXCLAMATION") 439) (@PySem.Value.int 54 438)), (@PySem.DictEntry.mk (@PySem.PyData.keyHash P (.ofString "NT_OFFSET")) (@PySem.Value.str (.ofString "NT_OFFSET") 441) (@PySem.Value.int 256 440)), (@PySem.DictEntry.mk (@PySem.PyData.keyHash P (.ofString "EXACT_TOKEN_TYPES")) (@PySem.Value.str (.ofString "EXACT_TOKEN_TYPES") 538) (@PySem.Value.ref 116)), (@PySem.DictEntry.mk (@PySem.PyData.keyHash P (.ofString "ISTERMINAL")) (@PySem.Value.str (.ofString "ISTERMINAL") 545) (@PySem.Value.ref 125)), (@PySem.DictEntry.mk (@PySem.PyData.keyHash P (.ofString "ISNONTERMINAL")) (@PySem.Value.str (.ofString "ISNONTERMINAL") 552) (@PySem.Value.ref 132)), (@PySem.DictEntry.mk (@PySem.PyData.keyHash P (.ofString "ISEOF")) (@PySem.Value.str (.ofString "ISEOF") 559) (@PySem.Value.ref 139)), (@PySem.DictEntry.mk (@PySem.PyData.keyHash P (.ofString "_law_brackets")) (@PySem.Value.str (.ofString "_law_brackets") 567) (@PySem.Value.ref 144)), (@PySem.DictEntry.mk (@PySem.PyData.keyHash P (.ofString "_law_free")) (@PySem.Value.str (.ofString "_law_free") 573) (@PySem.Value.ref 149)), (@PySem.DictEntry.mk (@PySem.PyData.keyHash P (.ofString "_law_whole")) (@PySem.Value.str (.ofString "_law_whole") 579) (@PySem.Value.ref 154)), (@PySem.DictEntry.mk (@PySem.PyData.keyHash P (.ofString "_law_lead")) (@PySem.Value.str (.ofString "_law_lead") 585) (@PySem.Value.ref 159)), (@PySem.DictEntry.mk (@PySem.PyData.keyHash P (.ofString "_law_columns")) (@PySem.Value.str (.ofString "_law_columns") 591) (@PySem.Value.ref 164)), (@PySem.DictEntry.mk (@PySem.PyData.keyHash P (.ofString "_law_apart")) (@PySem.Value.str (.ofString "_law_apart") 597) (@PySem.Value.ref 169)), (@PySem.DictEntry.mk (@PySem.PyData.keyHash P (.ofString "_law_road")) (@PySem.Value.str (.ofString "_law_road") 603) (@PySem.Value.ref 174)), (@PySem.DictEntry.mk (@PySem.PyData.keyHash P (.ofString "_law_inserted")) (@PySem.Value.str (.ofString "_law_inserted") 609) (@PySem.Value.ref 179)), (@PySem.DictEntry.mk (@PySem.PyData.keyHash P (.ofString "law")) (@PySem.Value.str (.ofString "law") 615) (@PySem.Value.ref 184))] 78), #[]⟩),
    (15, ⟨(@PySem.Value.type "tuple"), (@Option.none @Nat), (@PySem.Data.seq #[] 0), #[]⟩),
    (17, ⟨(@PySem.Value.type "tuple"), (@Option.none @Nat), (@PySem.Data.seq #[(@PySem.Value.str (.ofString "k") 190)] 0), #[]⟩),
    (18, ⟨(@PySem.Value.type "tuple"), (@Option.none @Nat), (@PySem.Data.seq #[] 0), #[]⟩),
    (20, ⟨(@PySem.Value.type "code"), (@Option.none @Nat), (@PySem.Data.fields #[(@PySem.Value.str (.ofString "_wall") 187), (@PySem.Value.str (.ofString "_wall") 188), (@PySem.Value.str (.ofString "/claim/cut.py") 189), (@PySem.Value.int 1 0), (@PySem.Value.int 1 0), (@PySem.Value.int 0 0), (@PySem.Value.int 0 0), (@PySem.Value.int 3 0), (@PySem.Value.ref 15), (@PySem.Value.bool @Bool.true), (@PySem.Value.int 181 0), (@PySem.Value.ref 16), @PySem.Value.none, (@PySem.Value.ref 17), (@PySem.Value.ref 18), (@PySem.Value.ref 19), (@PySem.Value.int 191 0), (@PySem.Value.int 1 0), (@PySem.Value.str (.ofString "/claim/cut.py") 192)]), #[]⟩),
    (21, ⟨(@PySem.Value.type "function"), (@Option.none @Nat), .func ⟨(.ofString "_wall"), (.ofString "_wall"), a21, .stmts b21, s21, 3, [], @PySem.Value.none, @PySem.Value.none, @PySem.Value.none, (@PySem.Value.str (.ofString "__main__") 164), (@Option.none @Nat), (@PySem.Value.ref 20), @PySem.Value.none, 0⟩, #[]⟩),
    (32, ⟨(@PySem.Value.type "tuple"), (@Option.none @Nat), (@PySem.Data.seq #[] 0), #[]⟩),
    (34, ⟨(@PySem.Value.type "tuple"), (@Option.none @Nat), (@PySem.Data.seq #[(@PySem.Value.str (.ofString "self") 216), (@PySem.Value.str (.ofString "ws") 217), (@PySem.Value.str (.ofString "S") 218), (@PySem.Value.str (.ofString "T") 219), (@PySem.Value.str (.ofString "count") 220), (@PySem.Value.str (.ofString "b") 221), (@PySem.Value.str (.ofString "n") 222), (@PySem.Value.str (.ofString "nt") 223), (@PySem.Value.str (.ofString "ch") 224)] 0), #[]⟩),
    (35, ⟨(@PySem.Value.type "tuple"), (@Option.none @Nat), (@PySem.Data.seq #[] 0), #[]⟩),
    (37, ⟨(@PySem.Value.type "code"), (@Option.none @Nat), (@PySem.Data.fields #[(@PySem.Value.str (.ofString "__init__") 213), (@PySem.Value.str (.ofString "Whitespace.__init__") 214), (@PySem.Value.str (.ofString "/claim/cut.py") 215), (@PySem.Value.int 8 0), (@PySem.Value.int 2 0), (@PySem.Value.int 0 0), (@PySem.Value.int 0 0), (@PySem.Value.int 3 0), (@PySem.Value.ref 32), (@PySem.Value.bool @Bool.true), (@PySem.Value.int 181 0), (@PySem.Value.ref 33), @PySem.Value.none, (@PySem.Value.ref 34), (@PySem.Value.ref 35), (@PySem.Value.ref 36), (@PySem.Value.int 225 0), (@PySem.Value.int 8 0), (@PySem.Value.str (.ofString "/claim/cut.py") 226)]), #[]⟩),
    (38, ⟨(@PySem.Value.type "function"), (@Option.none @Nat), .func ⟨(.ofString "__init__"), (.ofString "Whitespace.__init__"), a38, .stmts b38, s38, 3, [], @PySem.Value.none, @PySem.Value.none, @PySem.Value.none, (@PySem.Value.str (.ofString "cpy313.tabnanny") 194), (@Option.none @Nat), (@PySem.Value.ref 37), @PySem.Value.none, 0⟩, #[]⟩),
    (39, ⟨(@PySem.Value.type "tuple"), (@Option.none @Nat), (@PySem.Data.seq #[] 0), #[]⟩),
    (41, ⟨(@PySem.Value.type "tuple"), (@Option.none @Nat), (@PySem.Data.seq #[(@PySem.Value.str (.ofString "self") 231), (@PySem.Value.str (.ofString "count") 232), (@PySem.Value.str (.ofString "trailing") 233)] 0), #[]⟩),
    (42, ⟨(@PySem.Value.type "tuple"), (@Option.none @Nat), (@PySem.Data.seq #[] 0), #[]⟩),
    (44, ⟨(@PySem.Value.type "code"), (@Option.none @Nat), (@PySem.Data.fields #[(@PySem.Value.str (.ofString "longest_run_of_spaces") 228), (@PySem.Value.str (.ofString "Whitespace.longest_run_of_spaces") 229), (@PySem.Value.str (.ofString "/claim/cut.py") 230), (@PySem.Value.int 31 0), (@PySem.Value.int 1 0), (@PySem.Value.int 0 0), (@PySem.Value.int 0 0), (@PySem.Value.int 3 0), (@PySem.Value.ref 39), (@PySem.Value.bool @Bool.true), (@PySem.Value.int 181 0), (@PySem.Value.ref 40), @PySem.Value.none, (@PySem.Value.ref 41), (@PySem.Value.ref 42), (@PySem.Value.ref 43), (@PySem.Value.int 234 0), (@PySem.Value.int 31 0), (@PySem.Value.str (.ofString "/claim/cut.py") 235)]), #[]⟩),
    (45, ⟨(@PySem.Value.type "function"), (@Option.none @Nat), .func ⟨(.ofString "longest_run_of_spaces"), (.ofString "Whitespace.longest_run_of_spaces"), a45, .stmts b45, s45, 3, [], @PySem.Value.none, @PySem.Value.none, @PySem.Value.none, (@PySem.Value.str (.ofString "cpy313.tabnanny") 194), (@Option.none @Nat), (@PySem.Value.ref 44), @PySem.Value.none, 0⟩, #[]⟩),
    (46, ⟨(@PySem.Value.type "tuple"), (@Option.none @Nat), (@PySem.Data.seq #[] 0), #[]⟩),
    (48, ⟨(@PySem.Value.type "tuple"), (@Option.none @Nat), (@PySem.Data.seq #[(@PySem.Value.str (.ofString "self") 240), (@PySem.Value.str (.ofString "tabsize") 241), (@PySem.Value.str (.ofString "count") 242), (@PySem.Value.str (.ofString "trailing") 243), (@PySem.Value.str (.ofString "il") 244), (@PySem.Value.str (.ofString "i") 245)] 0), #[]⟩),
    (49, ⟨(@PySem.Value.type "tuple"), (@Option.none @Nat), (@PySem.Data.seq #[] 0), #[]⟩),
    (51, ⟨(@PySem.Value.type "code"), (@Option.none @Nat), (@PySem.Data.fields #[(@PySem.Value.str (.ofString "indent_level") 237), (@PySem.Value.str (.ofString "Whitespace.indent_level") 238), (@PySem.Value.str (.ofString "/claim/cut.py") 239), (@PySem.Value.int 35 0), (@PySem.Value.int 2 0), (@PySem.Value.int 0 0), (@PySem.Value.int 0 0), (@PySem.Value.int 3 0), (@PySem.Value.ref 46), (@PySem.Value.bool @Bool.true), (@PySem.Value.int 181 0), (@PySem.Value.ref 47), @PySem.Value.none, (@PySem.Value.ref 48), (@PySem.Value.ref 49), (@PySem.Value.ref 50), (@PySem.Value.int 246 0), (@PySem.Value.int 35 0), (@PySem.Value.str (.ofString "/claim/cut.py") 247)]), #[]⟩),
    (52, ⟨(@PySem.Value.type "function"), (@Option.none @Nat), .func ⟨(.ofString "indent_level"), (.ofString "Whitespace.indent_level"), a52, .stmts b52, s52, 3, [], @PySem.Value.none, @PySem.Value.none, @PySem.Value.none, (@PySem.Value.str (.ofString "cpy313.tabnanny") 194), (@Option.none @Nat), (@PySem.Value.ref 51), @PySem.Value.none, 0⟩, #[]⟩),
    (53, ⟨(@PySem.Value.type "tuple"), (@Option.none @Nat), (@PySem.Data.seq #[] 0), #[]⟩),
    (55, ⟨(@PySem.Value.type "tuple"), (@Option.none @Nat), (@PySem.Data.seq #[(@PySem.Value.str (.ofString "self") 252), (@PySem.Value.str (.ofString "other") 253)] 0), #[]⟩),
    (56, ⟨(@PySem.Value.type "tuple"), (@Option.none @Nat), (@PySem.Data.seq #[] 0), #[]⟩),
    (58, ⟨(@PySem.Value.type "code"), (@Option.none @Nat), (@PySem.Data.fields #[(@PySem.Value.str (.ofString "equal") 249), (@PySem.Value.str (.ofString "Whitespace.equal") 250), (@PySem.Value.str (.ofString "/claim/cut.py") 251), (@PySem.Value.int 42 0), (@PySem.Value.int 2 0), (@PySem.Value.int 0 0), (@PySem.Value.int 0 0), (@PySem.Value.int 3 0), (@PySem.Value.ref 53), (@PySem.Value.bool @Bool.true), (@PySem.Value.int 181 0), (@PySem.Value.ref 54), @PySem.Value.none, (@PySem.Value.ref 55), (@PySem.Value.ref 56), (@PySem.Value.ref 57), (@PySem.Value.int 254 0), (@PySem.Value.int 42 0), (@PySem.Value.str (.ofString "/claim/cut.py") 255)]), #[]⟩),
    (59, ⟨(@PySem.Value.type "function"), (@Option.none @Nat), .func ⟨(.ofString "equal"), (.ofString "Whitespace.equal"), a59, .stmts b59, s59, 3, [], @PySem.Value.none, @PySem.Value.none, @PySem.Value.none, (@PySem.Value.str (.ofString "cpy313.tabnanny") 194), (@Option.none @Nat), (@PySem.Value.ref 58), @PySem.Value.none, 0⟩, #[]⟩),
    (60, ⟨(@PySem.Value.type "tuple"), (@Option.none @Nat), (@PySem.Data.seq #[] 0), #[]⟩),
    (62, ⟨(@PySem.Value.type "tuple"), (@Option.none @Nat), (@PySem.Data.seq #[(@PySem.Value.str (.ofString "self") 260), (@PySem.Value.str (.ofString "other") 261), (@PySem.Value.str (.ofString "n") 262), (@PySem.Value.str (.ofString "a") 263), (@PySem.Value.str (.ofString "ts") 264)] 0), #[]⟩),
    (63, ⟨(@PySem.Value.type "tuple"), (@Option.none @Nat), (@PySem.Data.seq #[] 0), #[]⟩),
    (65, ⟨(@PySem.Value.type "code"), (@Option.none @Nat), (@PySem.Data.fields #[(@PySem.Value.str (.ofString "not_equal_witness") 257), (@PySem.Value.str (.ofString "Whitespace.not_equal_witness") 258), (@PySem.Value.str (.ofString "/claim/cut.py") 259), (@PySem.Value.int 45 0), (@PySem.Value.int 2 0), (@PySem.Value.int 0 0), (@PySem.Value.int 0 0), (@PySem.Value.int 3 0), (@PySem.Value.ref 60), (@PySem.Value.bool @Bool.true), (@PySem.Value.int 181 0), (@PySem.Value.ref 61), @PySem.Value.none, (@PySem.Value.ref 62), (@PySem.Value.ref 63), (@PySem.Value.ref 64), (@PySem.Value.int 265 0), (@PySem.Value.int 45 0), (@PySem.Value.str (.ofString "/claim/cut.py") 266)]), #[]⟩),
    (66, ⟨(@PySem.Value.type "function"), (@Option.none @Nat), .func ⟨(.ofString "not_equal_witness"), (.ofString "Whitespace.not_equal_witness"), a66, .stmts b66, s66, 3, [], @PySem.Value.none, @PySem.Value.none, @PySem.Value.none, (@PySem.Value.str (.ofString "cpy313.tabnanny") 194), (@Option.none @Nat), (@PySem.Value.ref 65), @PySem.Value.none, 0⟩, #[]⟩),
    (67, ⟨(@PySem.Value.type "tuple"), (@Option.none @Nat), (@PySem.Data.seq #[] 0), #[]⟩),
    (69, ⟨(@PySem.Value.type "tuple"), (@Option.none @Nat), (@PySem.Data.seq #[(@PySem.Value.str (.ofString "self") 271), (@PySem.Value.str (.ofString "other") 272)] 0), #[]⟩),
    (70, ⟨(@PySem.Value.type "tuple"), (@Option.none @Nat), (@PySem.Data.seq #[] 0), #[]⟩),
    (72, ⟨(@PySem.Value.type "code"), (@Option.none @Nat), (@PySem.Data.fields #[(@PySem.Value.str (.ofString "less") 268), (@PySem.Value.str (.ofString "Whitespace.less") 269), (@PySem.Value.str (.ofString "/claim/cut.py") 270), (@PySem.Value.int 53 0), (@PySem.Value.int 2 0), (@PySem.Value.int 0 0), (@PySem.Value.int 0 0), (@PySem.Value.int 3 0), (@PySem.Value.ref 67), (@PySem.Value.bool @Bool.true), (@PySem.Value.int 181 0), (@PySem.Value.ref 68), @PySem.Value.none, (@PySem.Value.ref 69), (@PySem.Value.ref 70), (@PySem.Value.ref 71), (@PySem.Value.int 273 0), (@PySem.Value.int 53 0), (@PySem.Value.str (.ofString "/claim/cut.py") 274)]), #[]⟩),
    (73, ⟨(@PySem.Value.type "function"), (@Option.none @Nat), .func ⟨(.ofString "less"), (.ofString "Whitespace.less"), a73, .stmts b73, s73, 3, [], @PySem.Value.none, @PySem.Value.none, @PySem.Value.none, (@PySem.Value.str (.ofString "cpy313.tabnanny") 194), (@Option.none @Nat), (@PySem.Value.ref 72), @PySem.Value.none, 0⟩, #[]⟩),
    (74, ⟨(@PySem.Value.type "tuple"), (@Option.none @Nat), (@PySem.Data.seq #[] 0), #[]⟩),
    (76, ⟨(@PySem.Value.type "tuple"), (@Option.none @Nat), (@PySem.Data.seq #[(@PySem.Value.str (.ofString "self") 279), (@PySem.Value.str (.ofString "other") 280)] 0), #[]⟩),
    (77, ⟨(@PySem.Value.type "tuple"), (@Option.none @Nat), (@PySem.Data.seq #[] 0), #[]⟩),
    (79, ⟨(@PySem.Value.type "code"), (@Option.none @Nat), (@PySem.Data.fields #[(@PySem.Value.str (.ofString "not_less_witness") 276), (@PySem.Value.str (.ofString "Whitespace.not_less_witness") 277), (@PySem.Value.str (.ofString "/claim/cut.py") 278), (@PySem.Value.int 56 0), (@PySem.Value.int 2 0), (@PySem.Value.int 0 0), (@PySem.Value.int 0 0), (@PySem.Value.int 3 0), (@PySem.Value.ref 74), (@PySem.Value.bool @Bool.true), (@PySem.Value.int 181 0), (@PySem.Value.ref 75), @PySem.Value.none, (@PySem.Value.ref 76), (@PySem.Value.ref 77), (@PySem.Value.ref 78), (@PySem.Value.int 281 0), (@PySem.Value.int 56 0), (@PySem.Value.str (.ofString "/claim/cut.py") 282)]), #[]⟩),
    (80, ⟨(@PySem.Value.type "function"), (@Option.none @Nat), .func ⟨(.ofString "not_less_witness"), (.ofString "Whitespace.not_less_witness"), a80, .stmts b80, s80, 3, [], @PySem.Value.none, @PySem.Value.none, @PySem.Value.none, (@PySem.Value.str (.ofString "cpy313.tabnanny") 194), (@Option.none @Nat), (@PySem.Value.ref 79), @PySem.Value.none, 0⟩, #[]⟩),
    (81, ⟨(@PySem.Value.type "tuple"), (@Option.none @Nat), (@PySem.Data.seq #[(@PySem.Value.str (.ofString "is_simple") 284), (@PySem.Value.str (.ofString "n") 285), (@PySem.Value.str (.ofString "norm") 286), (@PySem.Value.str (.ofString "nt") 287), (@PySem.Value.str (.ofString "raw") 288)] 0), #[]⟩),
    (82, ⟨(@PySem.Value.type "dict"), (@Option.none @Nat), (@PySem.Data.dict #[(@PySem.DictEntry.mk (@PySem.PyData.keyHash P (.ofString "__module__")) (@PySem.Value.str (.ofString "__module__") 203) (@PySem.Value.str (.ofString "cpy313.tabnanny") 194)), (@PySem.DictEntry.mk (@PySem.PyData.keyHash P (.ofString "__firstlineno__")) (@PySem.Value.str (.ofString "__firstlineno__") 207) (@PySem.Value.int 5 206)), (@PySem.DictEntry.mk (@PySem.PyData.keyHash P (.ofString "S")) (@PySem.Value.str (.ofString "S") 211) (@PySem.Value.str (.ofString " ") 209)), (@PySem.DictEntry.mk (@PySem.PyData.keyHash P (.ofString "T")) (@PySem.Value.str (.ofString "T") 212) (@PySem.Value.str (.ofString "\t") 210)), (@PySem.DictEntry.mk (@PySem.PyData.keyHash P (.ofString "__init__")) (@PySem.Value.str (.ofString "__init__") 227) (@PySem.Value.ref 38)), (@PySem.DictEntry.mk (@PySem.PyData.keyHash P (.ofString "longest_run_of_spaces")) (@PySem.Value.str (.ofString "longest_run_of_spaces") 236) (@PySem.Value.ref 45)), (@PySem.DictEntry.mk (@PySem.PyData.keyHash P (.ofString "indent_level")) (@PySem.Value.str (.ofString "indent_level") 248) (@PySem.Value.ref 52)), (@PySem.DictEntry.mk (@PySem.PyData.keyHash P (.ofString "equal")) (@PySem.Value.str (.ofString "equal") 256) (@PySem.Value.ref 59)), (@PySem.DictEntry.mk (@PySem.PyData.keyHash P (.ofString "not_equal_witness")) (@PySem.Value.str (.ofString "not_equal_witness") 267) (@PySem.Value.ref 66)), (@PySem.DictEntry.mk (@PySem.PyData.keyHash P (.ofString "less")) (@PySem.Value.str (.ofString "less") 275) (@PySem.Value.ref 73)), (@PySem.DictEntry.mk (@PySem.PyData.keyHash P (.ofString "not_less_witness")) (@PySem.Value.str (.ofString "not_less_witness") 283) (@PySem.Value.ref 80)), (@PySem.DictEntry.mk (@PySem.PyData.keyHash P (.ofString "__static_attributes__")) (@PySem.Value.str (.ofString "__static_attributes__") 289) (@PySem.Value.ref 81)), (@PySem.DictEntry.mk (@PySem.PyData.keyHash P (.ofString "__dict__")) (@PySem.Value.str (.ofString "__dict__") 291) (@PySem.Value.ref 84)), (@PySem.DictEntry.mk (@PySem.PyData.keyHash P (.ofString "__weakref__")) (@PySem.Value.str (.ofString "__weakref__") 293) (@PySem.Value.ref 85)), (@PySem.DictEntry.mk (@PySem.PyData.keyHash P (.ofString "__doc__")) (@PySem.Value.str (.ofString "__doc__") 294) @PySem.Value.none)] 4), #[]⟩),
    (83, ⟨(@PySem.Value.type "type"), (@Option.none @Nat), (@PySem.Data.cls (@PySem.ClassData.mk (.ofString "Whitespace") [(@PySem.Value.type "object")] [(@PySem.Value.ref 83), (@PySem.Value.type "object")] 82 (.ofString "Whitespace") @Bool.true [] [] @Bool.false (@Option.none @Bool) @Bool.false)), #[(@Option.none @PySem.Value), (@Option.none @PySem.Value), (@Option.some @PySem.Value (@PySem.Value.str (.ofString "Whitespace") 196)), (@Option.some @PySem.Value (@PySem.Value.str (.ofString "Whitespace") 204)), (@Option.some @PySem.Value (@PySem.Value.builtin "object.__new__")), (@Option.some @PySem.Value (@PySem.Value.bool @Bool.true))]⟩),
    (84, ⟨(@PySem.Value.type "getset_descriptor"), (@Option.none @Nat), (@PySem.Data.fields #[(@PySem.Value.str (.ofString "__dict__") 290), (@PySem.Value.ref 83), (@PySem.Value.builtin "function.__dict__"), (@PySem.Value.builtin "function.__dict__#set")]), #[]⟩),
    (85, ⟨(@PySem.Value.type "getset_descriptor"), (@Option.none @Nat), (@PySem.Data.fields #[(@PySem.Value.str (.ofString "__weakref__") 292), (@PySem.Value.ref 83), (@PySem.Value.builtin "ExceptionGroup.__weakref__"), @PySem.Value.none]), #[]⟩),
    (88, ⟨(@PySem.Value.type "tuple"), (@Option.none @Nat), (@PySem.Data.seq #[] 0), #[]⟩),
    (90, ⟨(@PySem.Value.type "tuple"), (@Option.none @Nat), (@PySem.Data.seq #[(@PySem.Value.str (.ofString "w") 300), (@PySem.Value.str (.ofString "firsts") 301), (@PySem.Value.str (.ofString "prefix") 302)] 0), #[]⟩),
    (91, ⟨(@PySem.Value.type "tuple"), (@Option.none @Nat), (@PySem.Data.seq #[] 0), #[]⟩),
    (93, ⟨(@PySem.Value.type "code"), (@Option.none @Nat), (@PySem.Data.fields #[(@PySem.Value.str (.ofString "format_witnesses") 297), (@PySem.Value.str (.ofString "format_witnesses") 298), (@PySem.Value.str (.ofString "/claim/cut.py") 299), (@PySem.Value.int 58 0), (@PySem.Value.int 1 0), (@PySem.Value.int 0 0), (@PySem.Value.int 0 0), (@PySem.Value.int 3 0), (@PySem.Value.ref 88), (@PySem.Value.bool @Bool.true), (@PySem.Value.int 181 0), (@PySem.Value.ref 89), @PySem.Value.none, (@PySem.Value.ref 90), (@PySem.Value.ref 91), (@PySem.Value.ref 92), (@PySem.Value.int 303 0), (@PySem.Value.int 58 0), (@PySem.Value.str (.ofString "/claim/cut.py") 304)]), #[]⟩),
    (94, ⟨(@PySem.Value.type "function"), (@Option.none @Nat), .func ⟨(.ofString "format_witnesses"), (.ofString "format_witnesses"), a94, .stmts b94, s94, 3, [], @PySem.Value.none, @PySem.Value.none, @PySem.Value.none, (@PySem.Value.str (.ofString "cpy313.tabnanny") 194), (@Option.none @Nat), (@PySem.Value.ref 93), @PySem.Value.none, 0⟩, #[]⟩),
    (95, ⟨(@PySem.Value.type "tuple"), (@Option.none @Nat), (@PySem.Data.seq #[] 0), #[]⟩),
    (97, ⟨(@PySem.Value.type "tuple"), (@Option.none @Nat), (@PySem.Data.seq #[(@PySem.Value.str (.ofString "addr") 311), (@PySem.Value.str (.ofString "pos") 312), (@PySem.Value.str (.ofString "escape") 313), (@PySem.Value.str (.ofString "ch") 314)] 0), #[]⟩),
    (98, ⟨(@PySem.Value.type "tuple"), (@Option.none @Nat), (@PySem.Data.seq #[] 0), #[]⟩),
    (100, ⟨(@PySem.Value.type "code"), (@Option.none @Nat), (@PySem.Data.fields #[(@PySem.Value.str (.ofString "_iter_escaped_chars") 308), (@PySem.Value.str (.ofString "_iter_escaped_chars") 309), (@PySem.Value.str (.ofString "/claim/cut.py") 310), (@PySem.Value.int 65 0), (@PySem.Value.int 1 0), (@PySem.Value.int 0 0), (@PySem.Value.int 0 0), (@PySem.Value.int 35 0), (@PySem.Value.ref 95), (@PySem.Value.bool @Bool.true), (@PySem.Value.int 181 0), (@PySem.Value.ref 96), @PySem.Value.none, (@PySem.Value.ref 97), (@PySem.Value.ref 98), (@PySem.Value.ref 99), (@PySem.Value.int 315 0), (@PySem.Value.int 65 0), (@PySem.Value.str (.ofString "/claim/cut.py") 316)]), #[]⟩),
    (101, ⟨(@PySem.Value.type "function"), (@Option.none @Nat), .func ⟨(.ofString "_iter_escaped_chars"), (.ofString "_iter_escaped_chars"), a101, .stmts b101, s101, 3, [], @PySem.Value.none, @PySem.Value.none, @PySem.Value.none, (@PySem.Value.str (.ofString "cpy313.email.utils") 306), (@Option.none @Nat), (@PySem.Value.ref 100), @PySem.Value.none, 0⟩, #[]⟩),
    (102, ⟨(@PySem.Value.type "tuple"), (@Option.none @Nat), (@PySem.Data.seq #[] 0), #[]⟩),
    (104, ⟨(@PySem.Value.type "tuple"), (@Option.none @Nat), (@PySem.Data.seq #[(@PySem.Value.str (.ofString "addr") 321), (@PySem.Value.str (.ofString "start") 322), (@PySem.Value.str (.ofString "open_pos") 323), (@PySem.Value.str (.ofString "result") 324), (@PySem.Value.str (.ofString "pos") 325), (@PySem.Value.str (.ofString "ch") 326)] 0), #[]⟩),
    (105, ⟨(@PySem.Value.type "tuple"), (@Option.none @Nat), (@PySem.Data.seq #[] 0), #[]⟩),
    (107, ⟨(@PySem.Value.type "code"), (@Option.none @Nat), (@PySem.Data.fields #[(@PySem.Value.str (.ofString "_strip_quoted_realnames") 318), (@PySem.Value.str (.ofString "_strip_quoted_realnames") 319), (@PySem.Value.str (.ofString "/claim/cut.py") 320), (@PySem.Value.int 78 0), (@PySem.Value.int 1 0), (@PySem.Value.int 0 0), (@PySem.Value.int 0 0), (@PySem.Value.int 3 0), (@PySem.Value.ref 102), (@PySem.Value.bool @Bool.true), (@PySem.Value.int 181 0), (@PySem.Value.ref 103), @PySem.Value.none, (@PySem.Value.ref 104), (@PySem.Value.ref 105), (@PySem.Value.ref 106), (@PySem.Value.int 327 0), (@PySem.Value.int 78 0), (@PySem.Value.str (.ofString "/claim/cut.py") 328)]), #[]⟩),
    (108, ⟨(@PySem.Value.type "function"), (@Option.none @Nat), .func ⟨(.ofString "_strip_quoted_realnames"), (.ofString "_strip_quoted_realnames"), a108, .stmts b108, s108, 3, [], @PySem.Value.none, @PySem.Value.none, @PySem.Value.none, (@PySem.Value.str (.ofString "cpy313.email.utils") 306), (@Option.none @Nat), (@PySem.Value.ref 107), @PySem.Value.none, 0⟩, #[]⟩),
    (109, ⟨(@PySem.Value.type "tuple"), (@Option.none @Nat), (@PySem.Data.seq #[] 0), #[]⟩),
    (111, ⟨(@PySem.Value.type "tuple"), (@Option.none @Nat), (@PySem.Data.seq #[(@PySem.Value.str (.ofString "addr") 333), (@PySem.Value.str (.ofString "opens") 334), (@PySem.Value.str (.ofString "pos") 335), (@PySem.Value.str (.ofString "ch") 336)] 0), #[]⟩),
    (112, ⟨(@PySem.Value.type "tuple"), (@Option.none @Nat), (@PySem.Data.seq #[] 0), #[]⟩),
    (114, ⟨(@PySem.Value.type "code"), (@Option.none @Nat), (@PySem.Data.fields #[(@PySem.Value.str (.ofString "_check_parenthesis") 330), (@PySem.Value.str (.ofString "_check_parenthesis") 331), (@PySem.Value.str (.ofString "/claim/cut.py") 332), (@PySem.Value.int 96 0), (@PySem.Value.int 1 0), (@PySem.Value.int 0 0), (@PySem.Value.int 0 0), (@PySem.Value.int 3 0), (@PySem.Value.ref 109), (@PySem.Value.bool @Bool.true), (@PySem.Value.int 181 0), (@PySem.Value.ref 110), @PySem.Value.none, (@PySem.Value.ref 111), (@PySem.Value.ref 112), (@PySem.Value.ref 113), (@PySem.Value.int 337 0), (@PySem.Value.int 96 0), (@PySem.Value.str (.ofString "/claim/cut.py") 338)]), #[]⟩),
    (115, ⟨(@PySem.Value.type "function"), (@Option.none @Nat), .func ⟨(.ofString "_check_parenthesis"), (.ofString "_check_parenthesis"), a115, .stmts b115, s115, 3, [], @PySem.Value.none, @PySem.Value.none, @PySem.Value.none, (@PySem.Value.str (.ofString "cpy313.email.utils") 306), (@Option.none @Nat), (@PySem.Value.ref 114), @PySem.Value.none, 0⟩, #[]⟩),
    (116, ⟨(@PySem.Value.type "dict"), (@Option.none @Nat), (@PySem.Data.dict #[(@PySem.DictEntry.mk (@PySem.PyData.keyHash P (.ofString "!")) (@PySem.Value.str (.ofString "!") 442) (@PySem.Value.int 54 438)), (@PySem.DictEntry.mk (@PySem.PyData.keyHash P (.ofString "!=")) (@PySem.Value.str (.ofString "!=") 444) (@PySem.Value.int 28 386)), (@PySem.DictEntry.mk (@PySem.PyData.keyHash P (.ofString "%")) (@PySem.Value.str (.ofString "%") 446) (@PySem.Value.int 24 378)), (@PySem.DictEntry.mk (@PySem.PyData.keyHash P (.ofString "%=")) (@PySem.Value.str (.ofString "%=") 448) (@PySem.Value.int 40 410)), (@PySem.DictEntry.mk (@PySem.PyData.keyHash P (.ofString "&")) (@PySem.Value.str (.ofString "&") 450) (@PySem.Value.int 19 368)), (@PySem.DictEntry.mk (@PySem.PyData.keyHash P (.ofString "&=")) (@PySem.Value.str (.ofString "&=") 452) (@PySem.Value.int 41 412)), (@PySem.DictEntry.mk (@PySem.PyData.keyHash P (.ofString "(")) (@PySem.Value.str (.ofString "(") 454) (@PySem.Value.int 7 344)), (@PySem.DictEntry.mk (@PySem.PyData.keyHash P (.ofString ")")) (@PySem.Value.str (.ofString ")") 456) (@PySem.Value.int 8 346)), (@PySem.DictEntry.mk (@PySem.PyData.keyHash P (.ofString "*")) (@PySem.Value.str (.ofString "*") 458) (@PySem.Value.int 16 362)), (@PySem.DictEntry.mk (@PySem.PyData.keyHash P (.ofString "**")) (@PySem.Value.str (.ofString "**") 460) (@PySem.Value.int 35 400)), (@PySem.DictEntry.mk (@PySem.PyData.keyHash P (.ofString "**=")) (@PySem.Value.str (.ofString "**=") 462) (@PySem.Value.int 46 422)), (@PySem.DictEntry.mk (@PySem.PyData.keyHash P (.ofString "*=")) (@PySem.Value.str (.ofString "*=") 464) (@PySem.Value.int 38 406)), (@PySem.DictEntry.mk (@PySem.PyData.keyHash P (.ofString "+")) (@PySem.Value.str (.ofString "+") 466) (@PySem.Value.int 14 358)), (@PySem.DictEntry.mk (@PySem.PyData.keyHash P (.ofString "+=")) (@PySem.Value.str (.ofString "+=") 468) (@PySem.Value.int 36 402)), (@PySem.DictEntry.mk (@PySem.PyData.keyHash P (.ofString ",")) (@PySem.Value.str (.ofString ",") 470) (@PySem.Value.int 12 354)), (@PySem.DictEntry.mk (@PySem.PyData.keyHash P (.ofString "-")) (@PySem.Value.str (.ofString "-") 472) (@PySem.Value.int 15 360)), (@PySem.DictEntry.mk (@PySem.PyData.keyHash P (.ofString "-=")) (@PySem.Value.str (.ofString "-=") 474) (@PySem.Value.int 37 404)), (@PySem.DictEntry.mk (@PySem.PyData.keyHash P (.ofString "->")) (@PySem.Value.str (.ofString "->") 476) (@PySem.Value.int 51 432)), (@PySem.DictEntry.mk (@PySem.PyData.keyHash P (.ofString ".")) (@PySem.Value.str (.ofString ".") 478) (@PySem.Value.int 23 376)), (@PySem.DictEntry.mk (@PySem.PyData.keyHash P (.ofString "...")) (@PySem.Value.str (.ofString "...") 480) (@PySem.Value.int 52 434)), (@PySem.DictEntry.mk (@PySem.PyData.keyHash P (.ofString "/")) (@PySem.Value.str (.ofString "/") 482) (@PySem.Value.int 17 364)), (@PySem.DictEntry.mk (@PySem.PyData.keyHash P (.ofString "//")) (@PySem.Value.str (.ofString "//") 484) (@PySem.Value.int 47 424)), (@PySem.DictEntry.mk (@PySem.PyData.keyHash P (.ofString "//=")) (@PySem.Value.str (.ofString "//=") 486) (@PySem.Value.int 48 426)), (@PySem.DictEntry.mk (@PySem.PyData.keyHash P (.ofString "/=")) (@PySem.Value.str (.ofString "/=") 488) (@PySem.Value.int 39 408)), (@PySem.DictEntry.mk (@PySem.PyData.keyHash P (.ofString ":")) (@PySem.Value.str (.ofString ":") 490) (@PySem.Value.int 11 352)), (@PySem.DictEntry.mk (@PySem.PyData.keyHash P (.ofString ":=")) (@PySem.Value.str (.ofString ":=") 492) (@PySem.Value.int 53 436)), (@PySem.DictEntry.mk (@PySem.PyData.keyHash P (.ofString ";")) (@PySem.Value.str (.ofString ";") 494) (@PySem.Value.int 13 356)), (@PySem.DictEntry.mk (@PySem.PyData.keyHash P (.ofString "<")) (@PySem.Value.str (.ofString "<") 496) (@PySem.Value.int 20 370)), (@PySem.DictEntry.mk (@PySem.PyData.keyHash P (.ofString "<<")) (@PySem.Value.str (.ofString "<<") 498) (@PySem.Value.int 33 396)), (@PySem.DictEntry.mk (@PySem.PyData.keyHash P (.ofString "<<=")) (@PySem.Value.str (.ofString "<<=") 500) (@PySem.Value.int 44 418)), (@PySem.DictEntry.mk (@PySem.PyData.keyHash P (.ofString "<=")) (@PySem.Value.str (.ofString "<=") 502) (@PySem.Value.int 29 388)), (@PySem.DictEntry.mk (@PySem.PyData.keyHash P (.ofString "=")) (@PySem.Value.str (.ofString "=") 504) (@PySem.Value.int 22 374)), (@PySem.DictEntry.mk (@PySem.PyData.keyHash P (.ofString "==")) (@PySem.Value.str (.ofString "==") 506) (@PySem.Value.int 27 384)), (@PySem.DictEntry.mk (@PySem.PyData.keyHash P (.ofString ">")) (@PySem.Value.str (.ofString ">") 508) (@PySem.Value.int 21 372)), (@PySem.DictEntry.mk (@PySem.PyData.keyHash P (.ofString ">=")) (@PySem.Value.str (.ofString ">=") 510) (@PySem.Value.int 30 390)), (@PySem.DictEntry.mk (@PySem.PyData.keyHash P (.ofString ">>")) (@PySem.Value.str (.ofString ">>") 511) (@PySem.Value.int 34 398)), (@PySem.DictEntry.mk (@PySem.PyData.keyHash P (.ofString ">>=")) (@PySem.Value.str (.ofString ">>=") 512) (@PySem.Value.int 45 420)), (@PySem.DictEntry.mk (@PySem.PyData.keyHash P (.ofString "@")) (@PySem.Value.str (.ofString "@") 513) (@PySem.Value.int 49 428)), (@PySem.DictEntry.mk (@PySem.PyData.keyHash P (.ofString "@=")) (@PySem.Value.str (.ofString "@=") 514) (@PySem.Value.int 50 430)), (@PySem.DictEntry.mk (@PySem.PyData.keyHash P (.ofString "[")) (@PySem.Value.str (.ofString "[") 515) (@PySem.Value.int 9 348)), (@PySem.DictEntry.mk (@PySem.PyData.keyHash P (.ofString "]")) (@PySem.Value.str (.ofString "]") 516) (@PySem.Value.int 10 350)), (@PySem.DictEntry.mk (@PySem.PyData.keyHash P (.ofString "^")) (@PySem.Value.str (.ofString "^") 517) (@PySem.Value.int 32 394)), (@PySem.DictEntry.mk (@PySem.PyData.keyHash P (.ofString "^=")) (@PySem.Value.str (.ofString "^=") 518) (@PySem.Value.int 43 416)), (@PySem.DictEntry.mk (@PySem.PyData.keyHash P (.ofString "{")) (@PySem.Value.str (.ofString "{") 519) (@PySem.Value.int 25 380)), (@PySem.DictEntry.mk (@PySem.PyData.keyHash P (.ofString "|")) (@PySem.Value.str (.ofString "|") 520) (@PySem.Value.int 18 366)), (@PySem.DictEntry.mk (@PySem.PyData.keyHash P (.ofString "|=")) (@PySem.Value.str (.ofString "|=") 521) (@PySem.Value.int 42 414)), (@PySem.DictEntry.mk (@PySem.PyData.keyHash P (.ofString "}")) (@PySem.Value.str (.ofString "}") 522) (@PySem.Value.int 26 382)), (@PySem.DictEntry.mk (@PySem.PyData.keyHash P (.ofString "~")) (@PySem.Value.str (.ofString "~") 523) (@PySem.Value.int 31 392))] 48), #[]⟩),
    (119, ⟨(@PySem.Value.type "tuple"), (@Option.none @Nat), (@PySem.Data.seq #[] 0), #[]⟩),
    (121, ⟨(@PySem.Value.type "tuple"), (@Option.none @Nat), (@PySem.Data.seq #[(@PySem.Value.str (.ofString "x") 542)] 0), #[]⟩),
    (122, ⟨(@PySem.Value.type "tuple"), (@Option.none @Nat), (@PySem.Data.seq #[] 0), #[]⟩),
    (124, ⟨(@PySem.Value.type "code"), (@Option.none @Nat), (@PySem.Data.fields #[(@PySem.Value.str (.ofString "ISTERMINAL") 539), (@PySem.Value.str (.ofString "ISTERMINAL") 540), (@PySem.Value.str (.ofString "/claim/cut.py") 541), (@PySem.Value.int 159 0), (@PySem.Value.int 1 0), (@PySem.Value.int 0 0), (@PySem.Value.int 0 0), (@PySem.Value.int 3 0), (@PySem.Value.ref 119), (@PySem.Value.bool @Bool.true), (@PySem.Value.int 181 0), (@PySem.Value.ref 120), @PySem.Value.none, (@PySem.Value.ref 121), (@PySem.Value.ref 122), (@PySem.Value.ref 123), (@PySem.Value.int 543 0), (@PySem.Value.int 159 0), (@PySem.Value.str (.ofString "/claim/cut.py") 544)]), #[]⟩),
    (125, ⟨(@PySem.Value.type "function"), (@Option.none @Nat), .func ⟨(.ofString "ISTERMINAL"), (.ofString "ISTERMINAL"), a125, .stmts b125, s125, 3, [], @PySem.Value.none, @PySem.Value.none, @PySem.Value.none, (@PySem.Value.str (.ofString "cpy313.token") 340), (@Option.none @Nat), (@PySem.Value.ref 124), @PySem.Value.none, 0⟩, #[]⟩),
    (126, ⟨(@PySem.Value.type "tuple"), (@Option.none @Nat), (@PySem.Data.seq #[] 0), #[]⟩),
    (128, ⟨(@PySem.Value.type "tuple"), (@Option.none @Nat), (@PySem.Data.seq #[(@PySem.Value.str (.ofString "x") 549)] 0), #[]⟩),
    (129, ⟨(@PySem.Value.type "tuple"), (@Option.none @Nat), (@PySem.Data.seq #[] 0), #[]⟩),
    (131, ⟨(@PySem.Value.type "code"), (@Option.none @Nat), (@PySem.Data.fields #[(@PySem.Value.str (.ofString "ISNONTERMINAL") 546), (@PySem.Value.str (.ofString "ISNONTERMINAL") 547), (@PySem.Value.str (.ofString "/claim/cut.py") 548), (@PySem.Value.int 161 0), (@PySem.Value.int 1 0), (@PySem.Value.int 0 0), (@PySem.Value.int 0 0), (@PySem.Value.int 3 0), (@PySem.Value.ref 126), (@PySem.Value.bool @Bool.true), (@PySem.Value.int 181 0), (@PySem.Value.ref 127), @PySem.Value.none, (@PySem.Value.ref 128), (@PySem.Value.ref 129), (@PySem.Value.ref 130), (@PySem.Value.int 550 0), (@PySem.Value.int 161 0), (@PySem.Value.str (.ofString "/claim/cut.py") 551)]), #[]⟩),
    (132, ⟨(@PySem.Value.type "function"), (@Option.none @Nat), .func ⟨(.ofString "ISNONTERMINAL"), (.ofString "ISNONTERMINAL"), a132, .stmts b132, s132, 3, [], @PySem.Value.none, @PySem.Value.none, @PySem.Value.none, (@PySem.Value.str (.ofString "cpy313.token") 340), (@Option.none @Nat), (@PySem.Value.ref 131), @PySem.Value.none, 0⟩, #[]⟩),
    (133, ⟨(@PySem.Value.type "tuple"), (@Option.none @Nat), (@PySem.Data.seq #[] 0), #[]⟩),
    (135, ⟨(@PySem.Value.type "tuple"), (@Option.none @Nat), (@PySem.Data.seq #[(@PySem.Value.str (.ofString "x") 556)] 0), #[]⟩),
    (136, ⟨(@PySem.Value.type "tuple"), (@Option.none @Nat), (@PySem.Data.seq #[] 0), #[]⟩),
    (138, ⟨(@PySem.Value.type "code"), (@Option.none @Nat), (@PySem.Data.fields #[(@PySem.Value.str (.ofString "ISEOF") 553), (@PySem.Value.str (.ofString "ISEOF") 554), (@PySem.Value.str (.ofString "/claim/cut.py") 555), (@PySem.Value.int 163 0), (@PySem.Value.int 1 0), (@PySem.Value.int 0 0), (@PySem.Value.int 0 0), (@PySem.Value.int 3 0), (@PySem.Value.ref 133), (@PySem.Value.bool @Bool.true), (@PySem.Value.int 181 0), (@PySem.Value.ref 134), @PySem.Value.none, (@PySem.Value.ref 135), (@PySem.Value.ref 136), (@PySem.Value.ref 137), (@PySem.Value.int 557 0), (@PySem.Value.int 163 0), (@PySem.Value.str (.ofString "/claim/cut.py") 558)]), #[]⟩),
    (139, ⟨(@PySem.Value.type "function"), (@Option.none @Nat), .func ⟨(.ofString "ISEOF"), (.ofString "ISEOF"), a139, .stmts b139, s139, 3, [], @PySem.Value.none, @PySem.Value.none, @PySem.Value.none, (@PySem.Value.str (.ofString "cpy313.token") 340), (@Option.none @Nat), (@PySem.Value.ref 138), @PySem.Value.none, 0⟩, #[]⟩),
    (140, ⟨(@PySem.Value.type "tuple"), (@Option.none @Nat), (@PySem.Data.seq #[] 0), #[]⟩),
    (143, ⟨(@PySem.Value.type "code"), (@Option.none @Nat), (@PySem.Data.fields #[(@PySem.Value.str (.ofString "_law_brackets") 562), (@PySem.Value.str (.ofString "_law_brackets") 563), (@PySem.Value.str (.ofString "/claim/cut.py") 564), (@PySem.Value.int 166 0), (@PySem.Value.int 3 0), (@PySem.Value.int 0 0), (@PySem.Value.int 0 0), (@PySem.Value.int 3 0), (@PySem.Value.ref 140), (@PySem.Value.bool @Bool.true), (@PySem.Value.int 181 0), (@PySem.Value.ref 141), @PySem.Value.none, @PySem.Value.none, @PySem.Value.none, (@PySem.Value.ref 142), (@PySem.Value.int 565 0), (@PySem.Value.int 166 0), (@PySem.Value.str (.ofString "/claim/cut.py") 566)]), #[]⟩),
    (144, ⟨(@PySem.Value.type "function"), (@Option.none @Nat), .func ⟨(.ofString "_law_brackets"), (.ofString "_law_brackets"), a144, .stmts b144, s144, 3, [], @PySem.Value.none, @PySem.Value.none, @PySem.Value.none, (@PySem.Value.str (.ofString "law_rw0115_01") 560), (@Option.none @Nat), (@PySem.Value.ref 143), @PySem.Value.none, 0⟩, #[]⟩),
    (145, ⟨(@PySem.Value.type "tuple"), (@Option.none @Nat), (@PySem.Data.seq #[] 0), #[]⟩),
    (148, ⟨(@PySem.Value.type "code"), (@Option.none @Nat), (@PySem.Data.fields #[(@PySem.Value.str (.ofString "_law_free") 568), (@PySem.Value.str (.ofString "_law_free") 569), (@PySem.Value.str (.ofString "/claim/cut.py") 570), (@PySem.Value.int 180 0), (@PySem.Value.int 3 0), (@PySem.Value.int 0 0), (@PySem.Value.int 0 0), (@PySem.Value.int 3 0), (@PySem.Value.ref 145), (@PySem.Value.bool @Bool.true), (@PySem.Value.int 181 0), (@PySem.Value.ref 146), @PySem.Value.none, @PySem.Value.none, @PySem.Value.none, (@PySem.Value.ref 147), (@PySem.Value.int 571 0), (@PySem.Value.int 180 0), (@PySem.Value.str (.ofString "/claim/cut.py") 572)]), #[]⟩),
    (149, ⟨(@PySem.Value.type "function"), (@Option.none @Nat), .func ⟨(.ofString "_law_free"), (.ofString "_law_free"), a149, .stmts b149, s149, 3, [], @PySem.Value.none, @PySem.Value.none, @PySem.Value.none, (@PySem.Value.str (.ofString "law_rw0115_01") 560), (@Option.none @Nat), (@PySem.Value.ref 148), @PySem.Value.none, 0⟩, #[]⟩),
    (150, ⟨(@PySem.Value.type "tuple"), (@Option.none @Nat), (@PySem.Data.seq #[] 0), #[]⟩),
    (153, ⟨(@PySem.Value.type "code"), (@Option.none @Nat), (@PySem.Data.fields #[(@PySem.Value.str (.ofString "_law_whole") 574), (@PySem.Value.str (.ofString "_law_whole") 575), (@PySem.Value.str (.ofString "/claim/cut.py") 576), (@PySem.Value.int 191 0), (@PySem.Value.int 4 0), (@PySem.Value.int 0 0), (@PySem.Value.int 0 0), (@PySem.Value.int 3 0), (@PySem.Value.ref 150), (@PySem.Value.bool @Bool.true), (@PySem.Value.int 181 0), (@PySem.Value.ref 151), @PySem.Value.none, @PySem.Value.none, @PySem.Value.none, (@PySem.Value.ref 152), (@PySem.Value.int 577 0), (@PySem.Value.int 191 0), (@PySem.Value.str (.ofString "/claim/cut.py") 578)]), #[]⟩),
    (154, ⟨(@PySem.Value.type "function"), (@Option.none @Nat), .func ⟨(.ofString "_law_whole"), (.ofString "_law_whole"), a154, .stmts b154, s154, 3, [], @PySem.Value.none, @PySem.Value.none, @PySem.Value.none, (@PySem.Value.str (.ofString "law_rw0115_01") 560), (@Option.none @Nat), (@PySem.Value.ref 153), @PySem.Value.none, 0⟩, #[]⟩),
    (155, ⟨(@PySem.Value.type "tuple"), (@Option.none @Nat), (@PySem.Data.seq #[] 0), #[]⟩),
    (158, ⟨(@PySem.Value.type "code"), (@Option.none @Nat), (@PySem.Data.fields #[(@PySem.Value.str (.ofString "_law_lead") 580), (@PySem.Value.str (.ofString "_law_lead") 581), (@PySem.Value.str (.ofString "/claim/cut.py") 582), (@PySem.Value.int 194 0), (@PySem.Value.int 1 0), (@PySem.Value.int 0 0), (@PySem.Value.int 0 0), (@PySem.Value.int 3 0), (@PySem.Value.ref 155), (@PySem.Value.bool @Bool.true), (@PySem.Value.int 181 0), (@PySem.Value.ref 156), @PySem.Value.none, @PySem.Value.none, @PySem.Value.none, (@PySem.Value.ref 157), (@PySem.Value.int 583 0), (@PySem.Value.int 194 0), (@PySem.Value.str (.ofString "/claim/cut.py") 584)]), #[]⟩),
    (159, ⟨(@PySem.Value.type "function"), (@Option.none @Nat), .func ⟨(.ofString "_law_lead"), (.ofString "_law_lead"), a159, .stmts b159, s159, 3, [], @PySem.Value.none, @PySem.Value.none, @PySem.Value.none, (@PySem.Value.str (.ofString "law_rw0115_01") 560), (@Option.none @Nat), (@PySem.Value.ref 158), @PySem.Value.none, 0⟩, #[]⟩),
    (160, ⟨(@PySem.Value.type "tuple"), (@Option.none @Nat), (@PySem.Data.seq #[] 0), #[]⟩),
    (163, ⟨(@PySem.Value.type "code"), (@Option.none @Nat), (@PySem.Data.fields #[(@PySem.Value.str (.ofString "_law_columns") 586), (@PySem.Value.str (.ofString "_law_columns") 587), (@PySem.Value.str (.ofString "/claim/cut.py") 588), (@PySem.Value.int 196 0), (@PySem.Value.int 1 0), (@PySem.Value.int 0 0), (@PySem.Value.int 0 0), (@PySem.Value.int 3 0), (@PySem.Value.ref 160), (@PySem.Value.bool @Bool.true), (@PySem.Value.int 181 0), (@PySem.Value.ref 161), @PySem.Value.none, @PySem.Value.none, @PySem.Value.none, (@PySem.Value.ref 162), (@PySem.Value.int 589 0), (@PySem.Value.int 196 0), (@PySem.Value.str (.ofString "/claim/cut.py") 590)]), #[]⟩),
    (164, ⟨(@PySem.Value.type "function"), (@Option.none @Nat), .func ⟨(.ofString "_law_columns"), (.ofString "_law_columns"), a164, .stmts b164, s164, 3, [], @PySem.Value.none, @PySem.Value.none, @PySem.Value.none, (@PySem.Value.str (.ofString "law_rw0115_01") 560), (@Option.none @Nat), (@PySem.Value.ref 163), @PySem.Value.none, 0⟩, #[]⟩),
    (165, ⟨(@PySem.Value.type "tuple"), (@Option.none @Nat), (@PySem.Data.seq #[] 0), #[]⟩),
    (168, ⟨(@PySem.Value.type "code"), (@Option.none @Nat), (@PySem.Data.fields #[(@PySem.Value.str (.ofString "_law_apart") 592), (@PySem.Value.str (.ofString "_law_apart") 593), (@PySem.Value.str (.ofString "/claim/cut.py") 594), (@PySem.Value.int 199 0), (@PySem.Value.int 3 0), (@PySem.Value.int 0 0), (@PySem.Value.int 0 0), (@PySem.Value.int 3 0), (@PySem.Value.ref 165), (@PySem.Value.bool @Bool.true), (@PySem.Value.int 181 0), (@PySem.Value.ref 166), @PySem.Value.none, @PySem.Value.none, @PySem.Value.none, (@PySem.Value.ref 167), (@PySem.Value.int 595 0), (@PySem.Value.int 199 0), (@PySem.Value.str (.ofString "/claim/cut.py") 596)]), #[]⟩),
    (169, ⟨(@PySem.Value.type "function"), (@Option.none @Nat), .func ⟨(.ofString "_law_apart"), (.ofString "_law_apart"), a169, .stmts b169, s169, 3, [], @PySem.Value.none, @PySem.Value.none, @PySem.Value.none, (@PySem.Value.str (.ofString "law_rw0115_01") 560), (@Option.none @Nat), (@PySem.Value.ref 168), @PySem.Value.none, 0⟩, #[]⟩),
    (170, ⟨(@PySem.Value.type "tuple"), (@Option.none @Nat), (@PySem.Data.seq #[] 0), #[]⟩),
    (173, ⟨(@PySem.Value.type "code"), (@Option.none @Nat), (@PySem.Data.fields #[(@PySem.Value.str (.ofString "_law_road") 598), (@PySem.Value.str (.ofString "_law_road") 599), (@PySem.Value.str (.ofString "/claim/cut.py") 600), (@PySem.Value.int 202 0), (@PySem.Value.int 3 0), (@PySem.Value.int 0 0), (@PySem.Value.int 0 0), (@PySem.Value.int 3 0), (@PySem.Value.ref 170), (@PySem.Value.bool @Bool.true), (@PySem.Value.int 181 0), (@PySem.Value.ref 171), @PySem.Value.none, @PySem.Value.none, @PySem.Value.none, (@PySem.Value.ref 172), (@PySem.Value.int 601 0), (@PySem.Value.int 202 0), (@PySem.Value.str (.ofString "/claim/cut.py") 602)]), #[]⟩),
    (174, ⟨(@PySem.Value.type "function"), (@Option.none @Nat), .func ⟨(.ofString "_law_road"), (.ofString "_law_road"), a174, .stmts b174, s174, 3, [], @PySem.Value.none, @PySem.Value.none, @PySem.Value.none, (@PySem.Value.str (.ofString "law_rw0115_01") 560), (@Option.none @Nat), (@PySem.Value.ref 173), @PySem.Value.none, 0⟩, #[]⟩),
    (175, ⟨(@PySem.Value.type "tuple"), (@Option.none @Nat), (@PySem.Data.seq #[] 0), #[]⟩),
    (178, ⟨(@PySem.Value.type "code"), (@Option.none @Nat), (@PySem.Data.fields #[(@PySem.Value.str (.ofString "_law_inserted") 604), (@PySem.Value.str (.ofString "_law_inserted") 605), (@PySem.Value.str (.ofString "/claim/cut.py") 606), (@PySem.Value.int 218 0), (@PySem.Value.int 1 0), (@PySem.Value.int 0 0), (@PySem.Value.int 0 0), (@PySem.Value.int 3 0), (@PySem.Value.ref 175), (@PySem.Value.bool @Bool.true), (@PySem.Value.int 181 0), (@PySem.Value.ref 176), @PySem.Value.none, @PySem.Value.none, @PySem.Value.none, (@PySem.Value.ref 177), (@PySem.Value.int 607 0), (@PySem.Value.int 218 0), (@PySem.Value.str (.ofString "/claim/cut.py") 608)]), #[]⟩),
    (179, ⟨(@PySem.Value.type "function"), (@Option.none @Nat), .func ⟨(.ofString "_law_inserted"), (.ofString "_law_inserted"), a179, .stmts b179, s179, 3, [], @PySem.Value.none, @PySem.Value.none, @PySem.Value.none, (@PySem.Value.str (.ofString "law_rw0115_01") 560), (@Option.none @Nat), (@PySem.Value.ref 178), @PySem.Value.none, 0⟩, #[]⟩),
    (180, ⟨(@PySem.Value.type "tuple"), (@Option.none @Nat), (@PySem.Data.seq #[] 0), #[]⟩),
    (183, ⟨(@PySem.Value.type "code"), (@Option.none @Nat), (@PySem.Data.fields #[(@PySem.Value.str (.ofString "law") 610), (@PySem.Value.str (.ofString "law") 611), (@PySem.Value.str (.ofString "/claim/cut.py") 612), (@PySem.Value.int 231 0), (@PySem.Value.int 1 0), (@PySem.Value.int 0 0), (@PySem.Value.int 0 0), (@PySem.Value.int 3 0), (@PySem.Value.ref 180), (@PySem.Value.bool @Bool.true), (@PySem.Value.int 181 0), (@PySem.Value.ref 181), @PySem.Value.none, @PySem.Value.none, @PySem.Value.none, (@PySem.Value.ref 182), (@PySem.Value.int 613 0), (@PySem.Value.int 231 0), (@PySem.Value.str (.ofString "/claim/cut.py") 614)]), #[]⟩),
    (184, ⟨(@PySem.Value.type "function"), (@Option.none @Nat), .func ⟨(.ofString "law"), (.ofString "law"), a184, .stmts b184, s184, 3, [], @PySem.Value.none, @PySem.Value.none, @PySem.Value.none, (@PySem.Value.str (.ofString "law_rw0115_01") 560), (@Option.none @Nat), (@PySem.Value.ref 183), @PySem.Value.none, 0⟩, #[]⟩)]

/-- the text as the proof reads it: two of its defs -/
noncomputable def vw : Program := by
  refine (?f : (x y : Stmt) → PySem.Challenge.pw_rw0115_01.main.body[3]? = some x → PySem.Challenge.pw_rw0115_01.main.body[72]? = some y → Program) _ _ rfl rfl
  exact fun x y _ _ => { PySem.Challenge.pw_rw0115_01 with main := { PySem.Challenge.pw_rw0115_01.main with body := [x, y] } }
abbrev lsF : List Str := [.ofString "_wall", .ofString "Whitespace", .ofString "_iter_escaped_chars", .ofString "_strip_quoted_realnames", .ofString "_check_parenthesis", .ofString "ISTERMINAL", .ofString "ISNONTERMINAL", .ofString "ISEOF", .ofString "_law_brackets", .ofString "_law_free", .ofString "_law_whole", .ofString "_law_lead", .ofString "_law_columns", .ofString "_law_apart", .ofString "_law_road", .ofString "_law_inserted", .ofString "ENDMARKER", .ofString "LPAR", .ofString "RPAR", .ofString "LSQB", .ofString "RSQB", .ofString "COLON", .ofString "COMMA", .ofString "SEMI", .ofString "PLUS", .ofString "MINUS", .ofString "STAR", .ofString "SLASH", .ofString "VBAR", .ofString "AMPER", .ofString "LESS", .ofString "GREATER", .ofString "EQUAL", .ofString "DOT", .ofString "PERCENT", .ofString "LBRACE", .ofString "RBRACE", .ofString "EQEQUAL", .ofString "NOTEQUAL", .ofString "LESSEQUAL", .ofString "GREATEREQUAL", .ofString "TILDE", .ofString "CIRCUMFLEX", .ofString "LEFTSHIFT", .ofString "RIGHTSHIFT", .ofString "DOUBLESTAR", .ofString "PLUSEQUAL", .ofString "MINEQUAL", .ofString "STAREQUAL", .ofString "SLASHEQUAL", .ofString "PERCENTEQUAL", .ofString "AMPEREQUAL", .ofString "VBAREQUAL", .ofString "CIRCUMFLEXEQUAL", .ofString "LEFTSHIFTEQUAL", .ofString "RIGHTSHIFTEQUAL", .ofString "DOUBLESTAREQUAL", .ofString "DOUBLESLASH", .ofString "DOUBLESLASHEQUAL", .ofString "AT", .ofString "ATEQUAL", .ofString "RARROW", .ofString "ELLIPSIS", .ofString "COLONEQUAL", .ofString "EXCLAMATION", .ofString "NT_OFFSET", .ofString "EXACT_TOKEN_TYPES"]
abbrev asF : List Addr := [2, 3, 15, 17, 18, 20, 21, 32, 34, 35, 37, 38, 39, 41, 42, 44, 45, 46, 48, 49, 51, 52, 53, 55, 56, 58, 59, 60, 62, 63, 65, 66, 67, 69, 70, 72, 73, 74, 76, 77, 79, 80, 81, 82, 83, 84, 85, 88, 90, 91, 93, 94, 95, 97, 98, 100, 101, 102, 104, 105, 107, 108, 109, 111, 112, 114, 115, 116, 119, 121, 122, 124, 125, 126, 128, 129, 131, 132, 133, 135, 136, 138, 139, 140, 143, 144, 145, 148, 149, 150, 153, 154, 155, 158, 159, 160, 163, 164, 165, 168, 169, 170, 173, 174, 175, 178, 179, 180, 183, 184]
noncomputable abbrev HF : Hook := kHook KF asF (fun _ => by rfl)
end Mine

open PySem PySem.W PyProof.Rows

namespace Mine
abbrev PW : Program := PySem.Challenge.pw_rw0115_01
noncomputable abbrev XtF : Shared → Bool := fun s => xlAt vw [] s && recOk (RowW.records PySem.Challenge.rw_rw0115_01.row.toRowW) s
theorem topFast (p : Program) (w : World) (N : Nat) : topFrom treeTable p w N = fun s₀ => (match s₀.heap.isNs mainGlobals && s₀.gens.size == 0 with
  | true => (PySem.W.Fast.tw14082659384304107361 PySem.W.Fast.tw14364793385576792824 p w s₀.heap.objs.size (s₀.heap.nsMap mainGlobals "__annotations__") N s₀ (topStub p)).bind fun s₁ => match staticsOk (importedModules p.main.body) s₀.heap s₁.heap && namesBound p s₁.heap && gensDone s₁ && laidKept s₀.heap s₁.heap with
      | true => some s₁
      | false => none
  | false => none) := by
  rw [← PySem.W.Fast.te14082659384304107361, ← PySem.W.Fast.te14364793385576792824]; rfl
theorem left_of {p q : Program} {loose : List Str} {Xt : Shared → Bool} {α : Type} {Yf : Shared → α} {Ya : World → α} {N : Nat} {g0 : Bool} (row : String)
    (h : ∀ b w, ((fencedOpening treeTable p w N).bind (topFrom treeTable p (w.withFollow row b) N)).map (fun s => (openSeen q loose (importedModules p.main.body) Xt g0 s, Yf s)) = some (openGood q loose, Ya (w.withFollow row b))) : LeftO p q loose Xt Yf Ya N g0 := fun w => by
  have e := World.withFollow_self w row
  have x := h (w.params.followText row) w
  rw [e] at x
  exact x
theorem half0 (w : World) : ((fencedOpening treeTable PW w 4998).bind (topFrom treeTable PW (w.withFollow "special-get-raises" false) 4998)).map (fun s => (openSeen vw lsF (importedModules PW.main.body) XtF true s, (Hook.obs HF) s)) = some (openGood vw lsF, (Hook.val HF) (w.withFollow "special-get-raises" false)) := by
  rw [topFast]
  kernel_rfl
theorem half1 (w : World) : ((fencedOpening treeTable PW w 4998).bind (topFrom treeTable PW (w.withFollow "special-get-raises" true) 4998)).map (fun s => (openSeen vw lsF (importedModules PW.main.body) XtF true s, (Hook.obs HF) s)) = some (openGood vw lsF, (Hook.val HF) (w.withFollow "special-get-raises" true)) := by
  rw [topFast]
  kernel_rfl
theorem leftF : LeftO PW vw lsF XtF (Hook.obs HF) (Hook.val HF) 4998 := left_of "special-get-raises" fun b w => by
  cases b
  · exact half0 w
  · exact half1 w
theorem saidF : PySem.Challenge.rw_rw0115_01.wellSaid = true := by decide +kernel
theorem hwF : PySem.Challenge.rw_rw0115_01.row.toRowW.promised := by w_witness2
end Mine

namespace Mine
open PySem PySem.W PyProof.Rows PySem.Calls PySem.Spec

abbrev VSP := Value → Shared → Prop

/-- plain data -/
inductive D where
  | none
  | bool (b : Bool)
  | int (i : Int)
  | str (s : Str)
  | tup (l : List D)
  | list (l : List D)
  | inst (l : List D)
  | opq (a : Addr)

/-- the one object that may grow: the table of the code of format_witnesses -/
abbrev PT : Addr := 89

abbrev wsNames : List Str := ["raw", "n", "nt", "norm", "is_simple"]

def KeysAre : List DictEntry → List Str → Prop
  | [], [] => True
  | e :: es, n :: ns => (∃ t, e.key = .str n t) ∧ KeysAre es ns
  | _, _ => False

mutual
def Rd (h : Heap) (M : List Addr) : Value → D → Prop
  | v, .none => v = .none
  | v, .bool b => v = .bool b
  | v, .int i => ∃ t, v = .int i t
  | v, .str s => ∃ t, v = .str s t
  | v, .tup l => ∃ a items, v = .ref a ∧ a ∉ M ∧ a ≠ PT ∧ h.IsTuple a items ∧ RdL h M items.toList l
  | v, .list l => ∃ a items, v = .ref a ∧ a ∉ M ∧ a ≠ PT ∧ h.IsList a items ∧ RdL h M items.toList l
  | v, .inst l => ∃ x dx n sl es, v = .ref x ∧ x ∉ M ∧ x ≠ PT ∧ dx ∉ M ∧ dx ≠ PT ∧ h.get? x = some ⟨.ref 83, some dx, .plain, sl⟩ ∧ h.get? dx = some (dictOf es n) ∧ KeysAre es (wsNames.take l.length) ∧ RdL h M (es.map (·.val)) l
  | v, .opq a => v = .ref a ∧ a ∉ M ∧ a ≠ PT ∧ ∃ o, h.get? a = some o
def RdL (h : Heap) (M : List Addr) : List Value → List D → Prop
  | vs, [] => vs = []
  | vs, d :: l => ∃ v r, vs = v :: r ∧ Rd h M v d ∧ RdL h M r l
end

theorem rdl_nil {h : Heap} {M : List Addr} : RdL h M [] [] := by unfold RdL; rfl
theorem rdl_cons {h : Heap} {M : List Addr} {v : Value} {r : List Value} {d : D} {l : List D} (a : Rd h M v d) (b : RdL h M r l) : RdL h M (v :: r) (d :: l) := by
  unfold RdL; exact ⟨v, r, rfl, a, b⟩

mutual
theorem Rd.mono {h h' : Heap} {M M' : List Addr} (k : ∀ b o, b ∉ M → b ≠ PT → h.get? b = some o → b ∉ M' ∧ h'.get? b = some o) : ∀ {d : D} {v : Value}, Rd h M v d → Rd h' M' v d
  | .none, _, x => by unfold Rd at x ⊢; exact x
  | .bool _, _, x => by unfold Rd at x ⊢; exact x
  | .int _, _, x => by unfold Rd at x ⊢; exact x
  | .str _, _, x => by unfold Rd at x ⊢; exact x
  | .tup l, _, x => by
    unfold Rd at x ⊢
    obtain ⟨a, items, e, hm, hp, ⟨o, ho, r⟩, y⟩ := x
    have z := k a o hm hp ho
    exact ⟨a, items, e, z.1, hp, ⟨o, z.2, r⟩, RdL.mono k y⟩
  | .list l, _, x => by
    unfold Rd at x ⊢
    obtain ⟨a, items, e, hm, hp, ⟨o, ho, r⟩, y⟩ := x
    have z := k a o hm hp ho
    exact ⟨a, items, e, z.1, hp, ⟨o, z.2, r⟩, RdL.mono k y⟩
  | .inst l, _, x => by
    unfold Rd at x ⊢
    obtain ⟨a, dx, n, sl, es, e, h1, h2, h3, h4, g1, g2, ks, y⟩ := x
    have z1 := k _ _ h1 h2 g1
    have z2 := k _ _ h3 h4 g2
    exact ⟨a, dx, n, sl, es, e, z1.1, h2, z2.1, h4, z1.2, z2.2, ks, RdL.mono k y⟩
  | .opq a, _, x => by
    unfold Rd at x ⊢
    obtain ⟨e, h1, h2, o, g⟩ := x
    have z := k _ _ h1 h2 g
    exact ⟨e, z.1, h2, o, z.2⟩
theorem RdL.mono {h h' : Heap} {M M' : List Addr} (k : ∀ b o, b ∉ M → b ≠ PT → h.get? b = some o → b ∉ M' ∧ h'.get? b = some o) : ∀ {l : List D} {vs : List Value}, RdL h M vs l → RdL h' M' vs l
  | [], _, x => by unfold RdL at x ⊢; exact x
  | d :: l, _, x => by
    unfold RdL at x ⊢
    obtain ⟨v, r, e, a, b⟩ := x
    exact ⟨v, r, e, Rd.mono k a, RdL.mono k b⟩
end

theorem RdL.length {h : Heap} {M : List Addr} : ∀ {l : List D} {vs : List Value}, RdL h M vs l → vs.length = l.length
  | [], _, x => by unfold RdL at x; rw [x]; rfl
  | d :: l, _, x => by
    unfold RdL at x
    obtain ⟨v, r, rfl, _, b⟩ := x
    rw [List.length_cons, List.length_cons, RdL.length b]
theorem RdL.get {h : Heap} {M : List Addr} : ∀ {l : List D} {vs : List Value}, RdL h M vs l → ∀ {i : Nat} {d : D}, l[i]? = some d → ∃ v, vs[i]? = some v ∧ Rd h M v d
  | [], _, _, i, d, e => by simp at e
  | d₀ :: l, _, x, i, d, e => by
    unfold RdL at x
    obtain ⟨v, r, rfl, a, b⟩ := x
    cases i with
    | zero => simp at e; subst e; exact ⟨v, by simp, a⟩
    | succ i => simp at e; obtain ⟨v', e', y⟩ := RdL.get b e; exact ⟨v', by simpa using e', y⟩
theorem RdL.append {h : Heap} {M : List Addr} : ∀ {l l' : List D} {vs vs' : List Value}, RdL h M vs l → RdL h M vs' l' → RdL h M (vs ++ vs') (l ++ l')
  | [], _, _, _, x, y => by unfold RdL at x; subst x; exact y
  | d :: l, _, _, _, x, y => by
    unfold RdL at x
    obtain ⟨v, r, rfl, a, b⟩ := x
    exact rdl_cons a (RdL.append b y)
theorem RdL.take {h : Heap} {M : List Addr} : ∀ {l : List D} {vs : List Value} (n : Nat), RdL h M vs l → RdL h M (vs.take n) (l.take n)
  | _, _, 0, _ => by simp only [List.take_zero]; exact rdl_nil
  | [], _, n + 1, x => by unfold RdL at x; subst x; exact rdl_nil
  | d :: l, _, n + 1, x => by
    unfold RdL at x
    obtain ⟨v, r, rfl, a, b⟩ := x
    exact rdl_cons a (RdL.take n b)
theorem RdL.drop {h : Heap} {M : List Addr} : ∀ {l : List D} {vs : List Value} (n : Nat), RdL h M vs l → RdL h M (vs.drop n) (l.drop n)
  | _, _, 0, x => x
  | [], _, n + 1, x => by unfold RdL at x; subst x; exact rdl_nil
  | d :: l, _, n + 1, x => by
    unfold RdL at x
    obtain ⟨v, r, rfl, a, b⟩ := x
    exact RdL.drop n b

/-- what a piece of a run may do: everything stands but X (and the one table) -/
structure KpX (X : List Addr) (GX : List Nat) (s s' : Shared) : Prop where
  heap : ∀ b o, b ≠ PT → b ∉ X → s.heap.get? b = some o → s'.heap.get? b = some o
  tab : ∀ ps, s.heap.TableAt 93 PT ps → s.heap.IsCode 93 PT ps → ∃ more, s'.heap.TableAt 93 PT (ps ++ more) ∧ s'.heap.IsCode 93 PT (ps ++ more)
  gens : ∀ i x, i ∉ GX → s.gens[i]? = some x → s'.gens[i]? = some x
  bare : AllBare s.gens → AllBare s'.gens
  os : s'.os = s.os
abbrev Kp := KpX [] []

theorem KpX.refl {X : List Addr} {GX : List Nat} (s : Shared) : KpX X GX s s := ⟨fun _ _ _ _ e => e, fun ps a b => ⟨#[], by simpa using a, by simpa using b⟩, fun _ _ _ e => e, id, rfl⟩
theorem KpX.trans {X : List Addr} {GX : List Nat} {s s' s'' : Shared} (x : KpX X GX s s') (y : KpX X GX s' s'') : KpX X GX s s'' :=
  ⟨fun b o h1 h2 e => y.heap b o h1 h2 (x.heap b o h1 h2 e), fun ps a b => by
    obtain ⟨m1, a1, b1⟩ := x.tab ps a b
    obtain ⟨m2, a2, b2⟩ := y.tab _ a1 b1
    exact ⟨m1 ++ m2, by rw [← Array.append_assoc]; exact a2, by rw [← Array.append_assoc]; exact b2⟩,
   fun i z h e => y.gens i z h (x.gens i z h e), fun a => y.bare (x.bare a), y.os.trans x.os⟩
theorem KpX.weak {X X' : List Addr} {GX GX' : List Nat} {s s' : Shared} (x : KpX X GX s s') (h : ∀ b ∈ X, b ∈ X') (g : ∀ b ∈ GX, b ∈ GX') : KpX X' GX' s s' :=
  ⟨fun b o h1 h2 e => x.heap b o h1 (fun q => h2 (h b q)) e, x.tab, fun i z h e => x.gens i z (fun q => h (g i q)) e, x.bare, x.os⟩
theorem Kp.to {X : List Addr} {GX : List Nat} {s s' : Shared} (x : Kp s s') : KpX X GX s s' := x.weak (fun _ h => nomatch h) (fun _ h => nomatch h)
/-- a heap that keeps everything -/
theorem Kp.of {s : Shared} {h' : Heap} {tk : Nat} (k : ∀ b o, s.heap.get? b = some o → h'.get? b = some o) : Kp s { s with heap := h', toks := tk } :=
  ⟨fun b o _ _ e => k b o e, fun ps a b => ⟨#[], by simpa using a.keeps k, by simpa using b.keeps k⟩, fun _ _ _ e => e, id, rfl⟩
theorem Kp.push {s : Shared} {o : Obj} {tk : Nat} : Kp s { s with heap := s.heap.push o, toks := tk } := Kp.of fun _ _ e => Heap.get?_push_of_some _ e
theorem Kp.toks {s : Shared} {tk : Nat} : Kp s { s with toks := tk } := Kp.of (h' := s.heap) fun _ _ e => e

theorem Rd.kp {s s' : Shared} {M : List Addr} {v : Value} {d : D} (x : Rd s.heap M v d) (k : Kp s s') : Rd s'.heap M v d := x.mono fun b o h1 h2 e => ⟨h1, k.heap b o h2 (by simp) e⟩
theorem RdL.kp {s s' : Shared} {M : List Addr} {v : List Value} {d : List D} (x : RdL s.heap M v d) (k : Kp s s') : RdL s'.heap M v d := x.mono fun b o h1 h2 e => ⟨h1, k.heap b o h2 (by simp) e⟩
theorem Rd.hidden {h : Heap} {M M' : List Addr} {v : Value} {d : D} (x : Rd h M v d) (k : ∀ b ∈ M', b ∈ M) : Rd h M' v d := x.mono fun b o h1 _ e => ⟨fun q => h1 (k b q), e⟩


/-- what is known of the top's heap -/
structure Top0 (K : Frag) (H : Heap) : Prop where
  k : K.In H
  g : ∃ mg, H.Ns mainGlobals mg
  b : ∃ mb, H.Ns builtinsNs mb ∧ ∀ x : Str, x ≠ "__name__" → mb x = bootBuiltins x
  nolimit : H.NoLimit
  tab : ∃ ps, H.TableAt 93 PT ps
  bm : ∃ mg bm ob, H.Ns mainGlobals mg ∧ mg "__builtins__" = some (.ref bm) ∧ bm ≠ builtinsNs ∧ H.get? bm = some ob ∧ ob.cls = .type "module" ∧ ob.dict = some builtinsNs ∧ ob.data = .plain
  noK : ∀ o, K.lookup PT ≠ some o

/-- a heap in which the top's stands -/
structure Amb (H h : Heap) : Prop where
  keep : ∀ b o, b ≠ PT → H.get? b = some o → h.get? b = some o
  tab : ∃ ps, h.TableAt 93 PT ps ∧ h.IsCode 93 PT ps

theorem ns_ne {h : Heap} {a : Addr} {m : Str → Option Value} {ps : Array Value} (n : h.Ns a m) (t : h.get? PT = some { cls := .none, data := .fields ps }) : a ≠ PT := by
  obtain ⟨o, es, ep, ho, hd, _⟩ := n
  rintro rfl
  rw [t] at ho
  cases ho
  cases hd
theorem nsKpx {X : List Addr} {GX : List Nat} {s s' : Shared} {a : Addr} {m : Str → Option Value} (n : s.heap.Ns a m) (k : KpX X GX s s') (ha : a ≠ PT) (hx : a ∉ X) : s'.heap.Ns a m := n.at' fun o e => k.heap a o ha hx e

section
variable {K : Frag} {H : Heap}
theorem Amb.kpx {X : List Addr} {GX : List Nat} {s s' : Shared} (x : Amb H s.heap) (k : KpX X GX s s') (hX : ∀ b ∈ X, H.get? b = none) : Amb H s'.heap := by
  obtain ⟨ps, t1, t2⟩ := x.tab
  obtain ⟨more, t3, t4⟩ := k.tab ps t1 t2
  exact ⟨fun b o h e => k.heap b o h (fun q => by rw [hX b q] at e; cases e) (x.keep b o h e), ⟨_, t3, t4⟩⟩
theorem Amb.kp {s s' : Shared} (x : Amb H s.heap) (k : Kp s s') : Amb H s'.heap := x.kpx k fun _ h => nomatch h
theorem Amb.inK {h : Heap} (x : Amb H h) (T : Top0 K H) : K.In h := fun a o e => x.keep a o (fun q => T.noK o (q ▸ e)) (T.k a o e)
theorem Amb.ns {h : Heap} (x : Amb H h) (T : Top0 K H) {a : Addr} {m : Str → Option Value} (n : H.Ns a m) : h.Ns a m := by
  obtain ⟨ps, t⟩ := T.tab
  exact n.at' fun o e => x.keep a o (ns_ne n t.2) e
theorem Amb.nolimit {h : Heap} (x : Amb H h) (T : Top0 K H) : h.NoLimit := let ⟨mc, a, b⟩ := T.nolimit; ⟨mc, x.ns T a, b⟩
theorem Amb.fresh {h : Heap} (x : Amb H h) : H.get? h.objs.size = none := by
  cases q : H.get? h.objs.size with
  | none => rfl
  | some o =>
    by_cases e : h.objs.size = PT
    · obtain ⟨ps, t, _⟩ := x.tab
      exact absurd (Heap.lt_size t.2) (by rw [e]; exact Nat.lt_irrefl _)
    · exact absurd (Heap.lt_size (x.keep _ _ e q)) (Nat.lt_irrefl _)
theorem Amb.ne_pt {h : Heap} (x : Amb H h) : h.objs.size ≠ PT := by
  intro e
  obtain ⟨ps, t, _⟩ := x.tab
  exact absurd (Heap.lt_size t.2) (by rw [e]; exact Nat.lt_irrefl _)
end

/-- what a name holds: data that stays, or a list of the frame's own -/
inductive AV where
  | d (x : D)
  | own (a : Addr) (l : List AV)
  | obj (x dx : Addr) (l : List D)

mutual
def RdA (h : Heap) (M : List Addr) : Value → AV → Prop
  | v, .d x => Rd h M v x
  | v, .own a l => v = .ref a ∧ a ∈ M ∧ ∃ items, h.PlainList a items ∧ RdAL h M items.toList l
  | v, .obj x dx l => v = .ref x ∧ x ∈ M ∧ dx ∈ M ∧ ∃ sl es n, h.get? x = some ⟨.ref 83, some dx, .plain, sl⟩ ∧ h.get? dx = some (dictOf es n) ∧ KeysAre es (wsNames.take l.length) ∧ RdL h M (es.map (·.val)) l
def RdAL (h : Heap) (M : List Addr) : List Value → List AV → Prop
  | vs, [] => vs = []
  | vs, d :: l => ∃ v r, vs = v :: r ∧ RdA h M v d ∧ RdAL h M r l
end
mutual
def AV.addrs : AV → List Addr
  | .d _ => []
  | .own a l => a :: AV.addrsL l
  | .obj x dx _ => [x, dx]
def AV.addrsL : List AV → List Addr
  | [] => []
  | z :: l => AV.addrs z ++ AV.addrsL l
end
mutual
def AV.frz : AV → D
  | .d x => x
  | .own _ l => .list (AV.frzL l)
  | .obj _ _ l => .inst l
def AV.frzL : List AV → List D
  | [] => []
  | z :: l => AV.frz z :: AV.frzL l
end

theorem rdal_nil {h : Heap} {M : List Addr} : RdAL h M [] [] := by unfold RdAL; rfl
theorem rdal_cons {h : Heap} {M : List Addr} {v : Value} {r : List Value} {d : AV} {l : List AV} (a : RdA h M v d) (b : RdAL h M r l) : RdAL h M (v :: r) (d :: l) := by
  unfold RdAL; exact ⟨v, r, rfl, a, b⟩
theorem rda_d {h : Heap} {M : List Addr} {v : Value} {x : D} : RdA h M v (.d x) ↔ Rd h M v x := by unfold RdA; exact Iff.rfl

mutual
theorem RdA.mono {h h' : Heap} {M M' : List Addr} (k : ∀ b o, b ∉ M → b ≠ PT → h.get? b = some o → b ∉ M' ∧ h'.get? b = some o) : ∀ {d : AV} {v : Value}, (∀ b ∈ d.addrs, b ∈ M' ∧ ∀ o, h.get? b = some o → h'.get? b = some o) → RdA h M v d → RdA h' M' v d
  | .d _, _, _, x => by unfold RdA at x ⊢; exact x.mono k
  | .own a l, _, q, x => by
    unfold RdA at x ⊢
    obtain ⟨e, hm, items, hp, y⟩ := x
    have q1 := q a (by unfold AV.addrs; exact .head _)
    exact ⟨e, q1.1, items, hp.at q1.2, RdAL.mono k (fun b hb => q b (by unfold AV.addrs; exact .tail _ hb)) y⟩
  | .obj x dx l, _, q, r => by
    unfold RdA at r ⊢
    obtain ⟨e, h1, h2, sl, es, n, g1, g2, ks, y⟩ := r
    have q1 := q x (by unfold AV.addrs; exact .head _)
    have q2 := q dx (by unfold AV.addrs; exact .tail _ (.head _))
    exact ⟨e, q1.1, q2.1, sl, es, n, q1.2 _ g1, q2.2 _ g2, ks, y.mono k⟩
theorem RdAL.mono {h h' : Heap} {M M' : List Addr} (k : ∀ b o, b ∉ M → b ≠ PT → h.get? b = some o → b ∉ M' ∧ h'.get? b = some o) : ∀ {l : List AV} {vs : List Value}, (∀ b ∈ AV.addrsL l, b ∈ M' ∧ ∀ o, h.get? b = some o → h'.get? b = some o) → RdAL h M vs l → RdAL h' M' vs l
  | [], _, _, x => by unfold RdAL at x ⊢; exact x
  | d :: l, _, q, x => by
    unfold RdAL at x ⊢
    obtain ⟨v, r, e, a, b⟩ := x
    exact ⟨v, r, e, RdA.mono k (fun b hb => q b (by unfold AV.addrsL; exact List.mem_append.mpr (.inl hb))) a, RdAL.mono k (fun b hb => q b (by unfold AV.addrsL; exact List.mem_append.mpr (.inr hb))) b⟩
end
mutual
theorem RdA.mem {h : Heap} {M : List Addr} : ∀ {d : AV} {v : Value}, RdA h M v d → ∀ b ∈ d.addrs, b ∈ M
  | .d _, _, _, b, hb => by unfold AV.addrs at hb; cases hb
  | .own a l, _, x, b, hb => by
    unfold RdA at x
    obtain ⟨e, hm, items, hp, y⟩ := x
    unfold AV.addrs at hb
    rcases List.mem_cons.mp hb with rfl | hb
    · exact hm
    · exact RdAL.mem y b hb
  | .obj x dx l, _, r, b, hb => by
    unfold RdA at r
    obtain ⟨e, h1, h2, _⟩ := r
    unfold AV.addrs at hb
    rcases List.mem_cons.mp hb with rfl | hb
    · exact h1
    · rw [List.mem_singleton.mp hb]; exact h2
theorem RdAL.mem {h : Heap} {M : List Addr} : ∀ {l : List AV} {vs : List Value}, RdAL h M vs l → ∀ b ∈ AV.addrsL l, b ∈ M
  | [], _, _, b, hb => by unfold AV.addrsL at hb; cases hb
  | d :: l, _, x, b, hb => by
    unfold RdAL at x
    obtain ⟨v, r, e, a, y⟩ := x
    unfold AV.addrsL at hb
    rcases List.mem_append.mp hb with hb | hb
    · exact RdA.mem a b hb
    · exact RdAL.mem y b hb
end
mutual
/-- what a name holds, seen as data that stays: where its own lists are no longer hidden -/
theorem RdA.frz {h : Heap} {M M' : List Addr} (k : ∀ b ∈ M', b ∈ M) (hpt : h.get? PT = none ∨ ∃ ps, h.get? PT = some ({ cls := .none, data := .fields ps } : Obj)) : ∀ {d : AV} {v : Value}, (∀ b ∈ d.addrs, b ∉ M') → RdA h M v d → Rd h M' v d.frz
  | .d _, _, _, x => by unfold RdA at x; unfold AV.frz; exact x.hidden k
  | .own a l, _, q, x => by
    unfold RdA at x
    obtain ⟨e, hm, items, hp, y⟩ := x
    unfold AV.frz Rd
    refine ⟨a, items, e, q a (by unfold AV.addrs; exact .head _), ?_, hp.isList, RdAL.frz k hpt (fun b hb => q b (by unfold AV.addrs; exact .tail _ hb)) y⟩
    rintro rfl
    obtain ⟨n, g⟩ := hp
    rcases hpt with e | ⟨ps, e⟩ <;> rw [e] at g <;> cases g
  | .obj x dx l, _, q, r => by
    unfold RdA at r
    obtain ⟨e, h1, h2, sl, es, n, g1, g2, ks, y⟩ := r
    unfold AV.frz Rd
    refine ⟨x, dx, n, sl, es, e, q x (by unfold AV.addrs; exact .head _), ?_, q dx (by unfold AV.addrs; exact .tail _ (.head _)), ?_, g1, g2, ks, y.mono fun b o hb _ e => ⟨fun z => hb (k b z), e⟩⟩
    · rintro rfl
      rcases hpt with e | ⟨ps, e⟩ <;> rw [e] at g1 <;> cases g1
    · rintro rfl
      rcases hpt with e | ⟨ps, e⟩ <;> rw [e] at g2 <;> cases g2
theorem RdAL.frz {h : Heap} {M M' : List Addr} (k : ∀ b ∈ M', b ∈ M) (hpt : h.get? PT = none ∨ ∃ ps, h.get? PT = some ({ cls := .none, data := .fields ps } : Obj)) : ∀ {l : List AV} {vs : List Value}, (∀ b ∈ AV.addrsL l, b ∉ M') → RdAL h M vs l → RdL h M' vs (AV.frzL l)
  | [], _, _, x => by unfold RdAL at x; subst x; unfold AV.frzL; exact rdl_nil
  | d :: l, _, q, x => by
    unfold RdAL at x
    obtain ⟨v, r, rfl, a, b⟩ := x
    unfold AV.frzL
    exact rdl_cons (RdA.frz k hpt (fun b hb => q b (by unfold AV.addrsL; exact List.mem_append.mpr (.inl hb))) a) (RdAL.frz k hpt (fun b hb => q b (by unfold AV.addrsL; exact List.mem_append.mpr (.inr hb))) b)
end
theorem frzL_d (l : List D) : AV.frzL (l.map .d) = l := by
  induction l with
  | nil => unfold AV.frzL; rfl
  | cons d l ih => rw [List.map_cons]; unfold AV.frzL AV.frz; rw [ih]
theorem addrsL_d (l : List D) : AV.addrsL (l.map .d) = [] := by
  induction l with
  | nil => unfold AV.addrsL; rfl
  | cons d l ih => rw [List.map_cons]; unfold AV.addrsL AV.addrs; rw [ih]; rfl
theorem RdL.toA {h : Heap} {M : List Addr} : ∀ {l : List D} {vs : List Value}, RdL h M vs l → RdAL h M vs (l.map .d)
  | [], _, x => by unfold RdL at x; subst x; exact rdal_nil
  | d :: l, _, x => by
    unfold RdL at x
    obtain ⟨v, r, rfl, a, b⟩ := x
    exact rdal_cons (rda_d.mpr a) (RdL.toA b)
theorem RdAL.toD {h : Heap} {M : List Addr} : ∀ {l : List D} {vs : List Value}, RdAL h M vs (l.map .d) → RdL h M vs l
  | [], _, x => by unfold RdAL at x; subst x; exact rdl_nil
  | d :: l, _, x => by
    rw [List.map_cons] at x
    unfold RdAL at x
    obtain ⟨v, r, rfl, a, b⟩ := x
    exact rdl_cons (rda_d.mp a) (RdAL.toD b)
theorem RdAL.length {h : Heap} {M : List Addr} : ∀ {l : List AV} {vs : List Value}, RdAL h M vs l → vs.length = l.length
  | [], _, x => by unfold RdAL at x; rw [x]; rfl
  | d :: l, _, x => by
    unfold RdAL at x
    obtain ⟨v, r, rfl, _, b⟩ := x
    rw [List.length_cons, List.length_cons, RdAL.length b]
theorem RdAL.get {h : Heap} {M : List Addr} : ∀ {l : List AV} {vs : List Value}, RdAL h M vs l → ∀ {i : Nat} {d : AV}, l[i]? = some d → ∃ v, vs[i]? = some v ∧ RdA h M v d
  | [], _, _, i, d, e => by simp at e
  | d₀ :: l, _, x, i, d, e => by
    unfold RdAL at x
    obtain ⟨v, r, rfl, a, b⟩ := x
    cases i with
    | zero => simp at e; subst e; exact ⟨v, by simp, a⟩
    | succ i => simp at e; obtain ⟨v', e', y⟩ := RdAL.get b e; exact ⟨v', by simpa using e', y⟩
theorem RdAL.append {h : Heap} {M : List Addr} : ∀ {l l' : List AV} {vs vs' : List Value}, RdAL h M vs l → RdAL h M vs' l' → RdAL h M (vs ++ vs') (l ++ l')
  | [], _, _, _, x, y => by unfold RdAL at x; subst x; exact y
  | d :: l, _, _, _, x, y => by
    unfold RdAL at x
    obtain ⟨v, r, rfl, a, b⟩ := x
    exact rdal_cons a (RdAL.append b y)

abbrev Vars := Str → Option AV
def upd (σ : Vars) (x : Str) (v : AV) : Vars := fun y => if y = x then some v else σ y

def Loads (h : Heap) (env : Env) (x : Str) (v : Value) : Prop :=
  (env.kindOf x = some .local ∧ ∃ m, h.Ns env.locals m ∧ m x = some v) ∨ (env.kindOf x = some .cell ∧ ∃ c, env.cells.lookup x = some c ∧ h.IsCell c (some v))

/-- a state in which expressions are read: M is hidden from data -/
structure StE (H : Heap) (env : Env) (M : List Addr) (σ : Vars) (s : Shared) : Prop where
  amb : Amb H s.heap
  alive : ∀ m ∈ M, ∃ o, s.heap.get? m = some o
  fresh : ∀ m ∈ M, H.get? m = none
  locM : env.locals ∈ M
  cellM : ∀ x c, env.cells.lookup x = some c → c ∈ M
  kind : env.scope.kind = .function
  glob : env.globals = mainGlobals
  blt : env.builtins = builtinsNs
  vars : ∀ x av, σ x = some av → ∃ v, Loads s.heap env x v ∧ RdA s.heap M v av

section
variable {K : Frag} {H : Heap} {env : Env} {M : List Addr} {σ : Vars} {s s' : Shared}
theorem StE.ne_pt (S : StE H env M σ s) {K : Frag} (T : Top0 K H) {m : Addr} (h : m ∈ M) : m ≠ PT := by
  rintro rfl
  obtain ⟨ps, t⟩ := T.tab
  have := S.fresh _ h
  rw [t.2] at this
  cases this
theorem StE.size_notin (S : StE H env M σ s) : s.heap.objs.size ∉ M := fun q => by
  obtain ⟨o, e⟩ := S.alive _ q
  exact Nat.lt_irrefl _ (Heap.lt_size e)
theorem Loads.kp (T : Top0 K H) (S : StE H env M σ s) (k : Kp s s') {x : Str} {v : Value} (l : Loads s.heap env x v) : Loads s'.heap env x v := by
  rcases l with ⟨e, m, n, y⟩ | ⟨e, c, lc, ⟨o, g, r⟩⟩
  · exact .inl ⟨e, m, nsKpx n k (S.ne_pt T S.locM) (by simp), y⟩
  · exact .inr ⟨e, c, lc, ⟨o, k.heap c o (S.ne_pt T (S.cellM _ _ lc)) (by simp) g, r⟩⟩
theorem RdA.kp (T : Top0 K H) (S : StE H env M σ s) (k : Kp s s') {v : Value} {d : AV} (x : RdA s.heap M v d) : RdA s'.heap M v d :=
  x.mono (fun b o h1 h2 e => ⟨h1, k.heap b o h2 (by simp) e⟩) fun b hb => ⟨x.mem b hb, fun o e => k.heap b o (S.ne_pt T (x.mem b hb)) (by simp) e⟩
theorem StE.kp (T : Top0 K H) (S : StE H env M σ s) (k : Kp s s') : StE H env M σ s' where
  amb := S.amb.kp k
  alive := fun m h => let ⟨o, e⟩ := S.alive m h; ⟨o, k.heap m o (S.ne_pt T h) (by simp) e⟩
  fresh := S.fresh
  locM := S.locM
  cellM := S.cellM
  kind := S.kind
  glob := S.glob
  blt := S.blt
  vars := fun x av e => let ⟨v, l, r⟩ := S.vars x av e; ⟨v, l.kp T S k, r.kp T S k⟩
end
end Mine

namespace Mine
open PySem PySem.W PyProof.Rows PySem.Calls PySem.Spec

structure AOk (A : Around) (n : Nat) : Prop where
  hh : A.handled = none
  dep : A.depth + n + 20 < recursionLimit
  un : A.units + 20 * n + 400 < cLine

section
variable {prog : Program} {w : World} {K : Frag} {H : Heap} {A : Around} {env : Env} {M : List Addr} {σ : Vars} {n : Nat}

variable (prog w H A env M σ) in
/-- the expression comes to av, and nothing that stood is changed -/
def EvT (e : Expr) (av : AV) : Prop :=
  ∀ (s : Shared) (Q : Value → Shared → Prop) (E : Value → Shared → Prop), StE H env M σ s → (∀ v s', Kp s s' → RdA s'.heap M v av → Q v s') → wpAny (model prog w) A (eval e env) Q E s
variable (prog w H A env M σ) in
def TsT (e : Expr) (b : Bool) : Prop :=
  ∀ (s : Shared) (Q : Bool → Shared → Prop) (E : Value → Shared → Prop), StE H env M σ s → (∀ s', Kp s s' → Q b s') → wpAny (model prog w) A (isTrue e env (eval e env)) Q E s
variable (prog w H A M) in
/-- an operation upon two values -/
def OpT (op : Operator) (a b c : AV) : Prop :=
  ∀ (s : Shared) (u v : Value) (Q : Value → Shared → Prop) (E : Value → Shared → Prop), Amb H s.heap → (∀ m ∈ M, ∃ o, s.heap.get? m = some o) → RdA s.heap M u a → RdA s.heap M v b → (∀ r s', Kp s s' → RdA s'.heap M r c → Q r s') → wpAny (model prog w) A (binaryOp op u v) Q E s
variable (prog w H A M) in
def CmpT (op : CmpOp) (a b : AV) (c : Bool) : Prop :=
  ∀ (s : Shared) (u v : Value) (Q : Value → Shared → Prop) (E : Value → Shared → Prop), Amb H s.heap → RdA s.heap M u a → RdA s.heap M v b → (∀ s', Kp s s' → Q (.bool c) s') → wpAny (model prog w) A (compareOp op u v) Q E s

theorem ev_int {i : Int} {k : Nat} {pos : Pos} : EvT prog w H A env M σ (.Constant (.int i) k pos) (.d (.int i)) := fun s Q E S h =>
  wpAny_bind (m := fresh) (f := fun t => pure (Value.int i t)) (wpAny_fresh (wpAny_pure (h _ _ Kp.toks (rda_d.mpr (by unfold Rd; exact ⟨_, rfl⟩)))))
theorem ev_str {x : Str} {k : Nat} {pos : Pos} : EvT prog w H A env M σ (.Constant (.str x) k pos) (.d (.str x)) := fun s Q E S h =>
  wpAny_mkText (h _ _ Kp.toks (rda_d.mpr (by unfold Rd; exact ⟨_, rfl⟩)))
theorem ev_bool {b : Bool} {k : Nat} {pos : Pos} : EvT prog w H A env M σ (.Constant (.bool b) k pos) (.d (.bool b)) := fun s Q E S h =>
  wpAny_pure (h _ _ (KpX.refl _) (rda_d.mpr (by unfold Rd; rfl)))
theorem ev_none {k : Nat} {pos : Pos} : EvT prog w H A env M σ (.Constant .none k pos) (.d .none) := fun s Q E S h =>
  wpAny_pure (h _ _ (KpX.refl _) (rda_d.mpr (by unfold Rd; rfl)))
theorem ev_name {x : Str} {pos : Pos} {av : AV} (hx : σ x = some av) (hd : (x == ("__debug__" : Str)) = false := by decide) : EvT prog w H A env M σ (.Name x pos) av := fun s Q E S h => by
  obtain ⟨v, l, r⟩ := S.vars x av hx
  refine wpAny_Name ?_ hd
  rcases l with ⟨e, m, n, y⟩ | ⟨e, c, lc, hc⟩
  · exact wpAny_loadName_local S.kind e n y (h _ _ (KpX.refl _) r)
  · exact wpAny_loadName_cell S.kind e lc hc (h _ _ (KpX.refl _) r)

theorem ev_bin (T : Top0 K H) {l r : Expr} {op : Operator} {pos : Pos} {a b c : AV} (h1 : EvT prog w H A env M σ l a) (h2 : EvT prog w H A env M σ r b) (o : OpT prog w H A M op a b c) :
    EvT prog w H A env M σ (.BinOp l op r pos) c := fun s Q E S h => by
  refine wpAny_BinOp (h1 s _ _ S fun u s1 k1 r1 => h2 s1 _ _ (S.kp T k1) fun v s2 k2 r2 => ?_)
  have S2 := (S.kp T k1).kp T k2
  exact o s2 u v _ _ S2.amb S2.alive (r1.kp T (S.kp T k1) k2) r2 fun x s3 k3 r3 => h x s3 ((k1.trans k2).trans k3) r3

theorem ev_cmp (T : Top0 K H) {l r : Expr} {op : CmpOp} {pos : Pos} {a b : AV} {c : Bool} (h1 : EvT prog w H A env M σ l a) (h2 : EvT prog w H A env M σ r b) (o : CmpT prog w H A M op a b c) (hm : behindInMarks op r = false := by rfl) :
    EvT prog w H A env M σ (.Compare l [op] [r] pos) (.d (.bool c)) := fun s Q E S h => by
  refine wpAny_Compare1 (h1 s _ _ S fun u s1 k1 r1 => h2 s1 _ _ (S.kp T k1) fun v s2 k2 r2 => ?_) hm
  have S2 := (S.kp T k1).kp T k2
  exact o s2 u v _ _ S2.amb (r1.kp T (S.kp T k1) k2) r2 fun s3 k3 => h _ s3 ((k1.trans k2).trans k3) (rda_d.mpr (by unfold Rd; rfl))
theorem ts_cmp (T : Top0 K H) {l r : Expr} {op : CmpOp} {pos : Pos} {a b : AV} {c : Bool} (h1 : EvT prog w H A env M σ l a) (h2 : EvT prog w H A env M σ r b) (o : CmpT prog w H A M op a b c) (hm : behindInMarks op r = false := by rfl) :
    TsT prog w H A env M σ (.Compare l [op] [r] pos) c := fun s Q E S h => by
  refine wpAny_isTrue_Compare1 (h1 s _ _ S fun u s1 k1 r1 => h2 s1 _ _ (S.kp T k1) fun v s2 k2 r2 => ?_) hm
  have S2 := (S.kp T k1).kp T k2
  exact o s2 u v _ _ S2.amb (r1.kp T (S.kp T k1) k2) r2 fun s3 k3 => wpAny_truthy_bool (h s3 ((k1.trans k2).trans k3))
theorem ts_val (T : Top0 K H) {e : Expr} {b : Bool} (h1 : EvT prog w H A env M σ e (.d (.bool b))) (he : isTrue e env (eval e env) = (do let v ← eval e env; standAt (Expr.pos e); holding [v] (truthy v)) := by rfl) : TsT prog w H A env M σ e b := fun s Q E S h => by
  refine isTrue_plain (h1 s _ _ S fun v s1 k1 r1 => ?_) he
  have e := rda_d.mp r1
  unfold Rd at e
  subst e
  exact wpAny_truthy_bool (h s1 k1)

theorem ev_ifexp (T : Top0 K H) {t x y : Expr} {pos : Pos} {b : Bool} {av : AV} (h : TsT prog w H A env M σ t b) (h1 : b = true → EvT prog w H A env M σ x av) (h2 : b = false → EvT prog w H A env M σ y av) :
    EvT prog w H A env M σ (.IfExp t x y pos) av := fun s Q E S hq => by
  refine wpAny_IfExp (h s _ _ S fun s1 k1 => ?_)
  cases b with
  | true => exact h1 rfl s1 _ _ (S.kp T k1) fun v s2 k2 r => hq v s2 (k1.trans k2) r
  | false => exact h2 rfl s1 _ _ (S.kp T k1) fun v s2 k2 r => hq v s2 (k1.trans k2) r

variable (prog w H A env M σ) in
/-- all | any of a list of tests, in order, as the language asks them -/
def AllT (op : BoolOp) (es : List Expr) (b : Bool) : Prop :=
  ∀ (s : Shared) (Q : Bool → Shared → Prop) (E : Value → Shared → Prop), StE H env M σ s → (∀ s', Kp s s' → Q b s') → wpAny (model prog w) A (allTrue op es env) Q E s
theorem all_nil_or : AllT prog w H A env M σ .Or [] false := fun s Q E S h => wpAny_allTrue_Or_nil (h s (KpX.refl _))
theorem all_nil_and : AllT prog w H A env M σ .And [] true := fun s Q E S h => wpAny_allTrue_And_nil (h s (KpX.refl _))
theorem all_or (T : Top0 K H) {x : Expr} {es : List Expr} {b c : Bool} (h1 : TsT prog w H A env M σ x b) (h2 : b = false → AllT prog w H A env M σ .Or es c) : AllT prog w H A env M σ .Or (x :: es) (b || c) := fun s Q E S h => by
  refine wpAny_allTrue_Or_cons (h1 s _ _ S fun s1 k1 => ?_)
  cases b with
  | true => exact h s1 k1
  | false => exact h2 rfl s1 _ _ (S.kp T k1) fun s2 k2 => h s2 (k1.trans k2)
theorem all_and (T : Top0 K H) {x : Expr} {es : List Expr} {b c : Bool} (h1 : TsT prog w H A env M σ x b) (h2 : b = true → AllT prog w H A env M σ .And es c) : AllT prog w H A env M σ .And (x :: es) (b && c) := fun s Q E S h => by
  refine wpAny_allTrue_And_cons (h1 s _ _ S fun s1 k1 => ?_)
  cases b with
  | true => exact h2 rfl s1 _ _ (S.kp T k1) fun s2 k2 => h s2 (k1.trans k2)
  | false => exact h s1 k1
theorem ts_boolop {op : BoolOp} {es : List Expr} {pos : Pos} {b : Bool} (h1 : AllT prog w H A env M σ op es b) : TsT prog w H A env M σ (.BoolOp op es pos) b := fun s Q E S h => wpAny_isTrue_BoolOp (h1 s _ _ S h)

theorem int_of {s : Shared} {v : Value} {i : Int} (x : RdA s.heap M v (.d (.int i))) : ∃ t, v = .int i t := by have e := rda_d.mp x; unfold Rd at e; exact e
theorem str_of {s : Shared} {v : Value} {i : Str} (x : RdA s.heap M v (.d (.str i))) : ∃ t, v = .str i t := by have e := rda_d.mp x; unfold Rd at e; exact e
theorem bool_of {s : Shared} {v : Value} {i : Bool} (x : RdA s.heap M v (.d (.bool i))) : v = .bool i := by have e := rda_d.mp x; unfold Rd at e; exact e
theorem none_of {s : Shared} {v : Value} (x : RdA s.heap M v (.d .none)) : v = .none := by have e := rda_d.mp x; unfold Rd at e; exact e
theorem rd_int {h : Heap} {i : Int} {t : Tok} : RdA h M (.int i t) (.d (.int i)) := rda_d.mpr (by unfold Rd; exact ⟨_, rfl⟩)
theorem rd_str {h : Heap} {i : Str} {t : Tok} : RdA h M (.str i t) (.d (.str i)) := rda_d.mpr (by unfold Rd; exact ⟨_, rfl⟩)
theorem rd_bool {h : Heap} {i : Bool} : RdA h M (.bool i) (.d (.bool i)) := rda_d.mpr (by unfold Rd; rfl)
theorem rd_none {h : Heap} : RdA h M .none (.d .none) := rda_d.mpr (by unfold Rd; rfl)

theorem op_add {a b : Int} : OpT prog w H A M .Add (.d (.int a)) (.d (.int b)) (.d (.int (a + b))) := fun s u v Q E _ _ x y h => by
  obtain ⟨t, rfl⟩ := int_of x
  obtain ⟨t', rfl⟩ := int_of y
  exact @add_int _ _ _ _ _ _ _ _ _ _ (h _ _ Kp.toks rd_int)
theorem op_sub {a b : Int} : OpT prog w H A M .Sub (.d (.int a)) (.d (.int b)) (.d (.int (a - b))) := fun s u v Q E _ _ x y h => by
  obtain ⟨t, rfl⟩ := int_of x
  obtain ⟨t', rfl⟩ := int_of y
  exact @sub_int _ _ _ _ _ _ _ _ _ _ (h _ _ Kp.toks rd_int)
theorem op_mul {a b : Int} (ok : IntMulOk a b) : OpT prog w H A M .Mult (.d (.int a)) (.d (.int b)) (.d (.int (a * b))) := fun s u v Q E _ _ x y h => by
  obtain ⟨t, rfl⟩ := int_of x
  obtain ⟨t', rfl⟩ := int_of y
  exact @mul_int _ _ _ _ _ _ _ _ _ _ (h _ _ Kp.toks rd_int) ok
theorem op_mod {a b : Int} (hb : b ≠ 0) : OpT prog w H A M .Mod (.d (.int a)) (.d (.int b)) (.d (.int (Int.fmod a b))) := fun s u v Q E _ _ x y h => by
  obtain ⟨t, rfl⟩ := int_of x
  obtain ⟨t', rfl⟩ := int_of y
  exact @mod_int' _ _ _ _ _ _ _ _ _ _ hb (h _ _ Kp.toks rd_int)
theorem op_div {a b : Int} (hb : b ≠ 0) (hp : Builtin.divisionGoesByPylong a b = false) : OpT prog w H A M .FloorDiv (.d (.int a)) (.d (.int b)) (.d (.int (Int.fdiv a b))) := fun s u v Q E _ _ x y h => by
  obtain ⟨t, rfl⟩ := int_of x
  obtain ⟨t', rfl⟩ := int_of y
  exact @floordiv_int _ _ _ _ _ _ _ _ _ _ hb (h _ _ Kp.toks rd_int) (.inl hp)
theorem op_adds {a b : Str} (hl : a.length + b.length ≤ sizeLine) : OpT prog w H A M .Add (.d (.str a)) (.d (.str b)) (.d (.str (a ++ b))) := fun s u v Q E _ _ x y h => by
  obtain ⟨t, rfl⟩ := str_of x
  obtain ⟨t', rfl⟩ := str_of y
  exact add_str (fun _ _ => h _ _ Kp.toks rd_str) hl
theorem op_muls {a : Str} {b : Int} (ok : MulOk a b) : OpT prog w H A M .Mult (.d (.str a)) (.d (.int b)) (.d (.str (Txt.mul a b))) := fun s u v Q E _ _ x y h => by
  obtain ⟨t, rfl⟩ := str_of x
  obtain ⟨t', rfl⟩ := int_of y
  exact SB.mul ok fun _ _ => h _ _ Kp.toks rd_str

theorem cmp_eq_int {a b : Int} : CmpT prog w H A M .Eq (.d (.int a)) (.d (.int b)) (a == b) := fun s u v Q E _ x y h => by
  obtain ⟨t, rfl⟩ := int_of x; obtain ⟨t', rfl⟩ := int_of y; exact @eq_int _ _ _ _ _ _ _ _ _ _ (h s (KpX.refl _))
theorem cmp_ne_int {a b : Int} : CmpT prog w H A M .NotEq (.d (.int a)) (.d (.int b)) (a != b) := fun s u v Q E _ x y h => by
  obtain ⟨t, rfl⟩ := int_of x; obtain ⟨t', rfl⟩ := int_of y; exact @ne_int _ _ _ _ _ _ _ _ _ _ (h s (KpX.refl _))
theorem cmp_lt_int {a b : Int} : CmpT prog w H A M .Lt (.d (.int a)) (.d (.int b)) (decide (a < b)) := fun s u v Q E _ x y h => by
  obtain ⟨t, rfl⟩ := int_of x; obtain ⟨t', rfl⟩ := int_of y; exact @lt_int _ _ _ _ _ _ _ _ _ _ (h s (KpX.refl _))
theorem cmp_le_int {a b : Int} : CmpT prog w H A M .LtE (.d (.int a)) (.d (.int b)) (decide (a ≤ b)) := fun s u v Q E _ x y h => by
  obtain ⟨t, rfl⟩ := int_of x; obtain ⟨t', rfl⟩ := int_of y; exact @le_int _ _ _ _ _ _ _ _ _ _ (h s (KpX.refl _))
theorem cmp_gt_int {a b : Int} : CmpT prog w H A M .Gt (.d (.int a)) (.d (.int b)) (decide (a > b)) := fun s u v Q E _ x y h => by
  obtain ⟨t, rfl⟩ := int_of x; obtain ⟨t', rfl⟩ := int_of y; exact @gt_int _ _ _ _ _ _ _ _ _ _ (h s (KpX.refl _))
theorem cmp_ge_int {a b : Int} : CmpT prog w H A M .GtE (.d (.int a)) (.d (.int b)) (decide (a ≥ b)) := fun s u v Q E _ x y h => by
  obtain ⟨t, rfl⟩ := int_of x; obtain ⟨t', rfl⟩ := int_of y; exact @ge_int _ _ _ _ _ _ _ _ _ _ (h s (KpX.refl _))
theorem cmp_eq_str {a b : Str} : CmpT prog w H A M .Eq (.d (.str a)) (.d (.str b)) (a == b) := fun s u v Q E _ x y h => by
  obtain ⟨t, rfl⟩ := str_of x; obtain ⟨t', rfl⟩ := str_of y; exact eq_str (h s (KpX.refl _))
theorem cmp_ne_str {a b : Str} : CmpT prog w H A M .NotEq (.d (.str a)) (.d (.str b)) (a != b) := fun s u v Q E _ x y h => by
  obtain ⟨t, rfl⟩ := str_of x; obtain ⟨t', rfl⟩ := str_of y; exact ne_str (h s (KpX.refl _))
theorem cmp_is_bool {a b : Bool} : CmpT prog w H A M .Is (.d (.bool a)) (.d (.bool b)) (a == b) := fun s u v Q E _ x y h => by
  obtain rfl := bool_of x; obtain rfl := bool_of y; exact is_bool (h s (KpX.refl _))
theorem cmp_isnot_bool {a b : Bool} : CmpT prog w H A M .IsNot (.d (.bool a)) (.d (.bool b)) (!(a == b)) := fun s u v Q E _ x y h => by
  obtain rfl := bool_of x; obtain rfl := bool_of y; exact isnot_bool (h s (KpX.refl _))
end
end Mine

namespace Mine
open PySem PySem.W PyProof.Rows PySem.Calls PySem.Spec

section
variable {prog : Program} {w : World} {K : Frag} {H : Heap} {A : Around} {env : Env} {M : List Addr} {σ : Vars} {n : Nat}

variable (prog w H A env M σ) in
/-- several expressions, one behind the other -/
def EvLs (pos : Pos) (es : List Expr) (avs : List AV) : Prop :=
  ∀ (s : Shared) (Q : List Value → Shared → Prop) (E : Value → Shared → Prop), StE H env M σ s → (∀ vs s', Kp s s' → RdAL s'.heap M vs avs → Q vs s') → wpAny (model prog w) A (spliced (backTo pos (starEach es env))) Q E s
theorem RdAL.kp (T : Top0 K H) {s s' : Shared} (S : StE H env M σ s) (k : Kp s s') {vs : List Value} {l : List AV} (x : RdAL s.heap M vs l) : RdAL s'.heap M vs l :=
  x.mono (fun b o h1 h2 e => ⟨h1, k.heap b o h2 (by simp) e⟩) fun b hb => ⟨x.mem b hb, fun o e => k.heap b o (S.ne_pt T (x.mem b hb)) (by simp) e⟩
theorem evs_nil {pos : Pos} : EvLs prog w H A env M σ pos [] [] := fun s Q E S h => by
  show wpAny _ _ (pure []) _ _ _
  exact wpAny_pure (h [] s (KpX.refl _) rdal_nil)
theorem evs_cons (T : Top0 K H) {pos : Pos} {e : Expr} {es : List Expr} {av : AV} {avs : List AV} (h1 : EvT prog w H A env M σ e av) (h2 : EvLs prog w H A env M σ pos es avs)
    (he : starEach (e :: es) env = (false, eval e env) :: starEach es env := by rfl) : EvLs prog w H A env M σ pos (e :: es) (av :: avs) := fun s Q E S h => by
  rw [he]
  show wpAny _ _ (do let v ← eval e env; let here ← (pure [v] : Sem (List Value)); return here ++ (← holding here (spliced (backTo pos (starEach es env))))) _ _ _
  refine wpAny_bind (h1 s _ _ S fun v s1 k1 r1 => wpAny_bind (wpAny_pure (wpAny_bind (wpAny_holding (h2 s1 _ _ (S.kp T k1) fun vs s2 k2 r2 => wpAny_pure ?_)))))
  exact h (v :: vs) s2 (k1.trans k2) (rdal_cons (r1.kp T (S.kp T k1) k2) r2)

variable (prog w H A M) in
/-- a callee: what it hands back for values that bear avs -/
def CallT (f : Value) (avs : List AV) (av : AV) : Prop :=
  ∀ (s : Shared) (vs : List Value) (Q : Value → Shared → Prop) (E : Value → Shared → Prop), Amb H s.heap → (∀ m ∈ M, ∃ o, s.heap.get? m = some o) → (∀ m ∈ M, H.get? m = none) → RdAL s.heap M vs avs →
    (∀ v s', Kp s s' → RdA s'.heap M v av → Q v s') → wpAny (model prog w) A (call f vs) Q E s

/-- what a callee is kept by while it is called -/
def KeepsF (K : Frag) (f : Value) : Prop := (match f with | .ref _ => keepIn K f = true | _ => True)
theorem keeps_f {K : Frag} {M : Model} {f : Value} (h : KeepsF K f) (hp : Heap) (X : K.In hp) : ∃ k, (k = Keeper.frame ∨ k = Keeper.machine ∨ k = Keeper.boundFrame) ∧ Looks M hp (keeperOf f) k := by
  cases f with
  | ref a => exact keeps_K h hp X
  | _ => exact ⟨.machine, .inr (.inl rfl), Looks.of_pure rfl⟩

theorem call_with (T : Top0 K H) {pos : Pos} {f : Value} {first : List Value} {args : List Expr} {avs : List AV} {s : Shared} {Q : Value → Shared → Prop} {E : Value → Shared → Prop} (hf : KeepsF K f) (S : StE H env M σ s)
    (h1 : EvLs prog w H A env M σ pos args avs) (hs : (backTo pos (starEach args env)).any (·.1) = false)
    (h : ∀ vs s', Kp s s' → RdAL s'.heap M vs avs → wpAny (model prog w) A (call f (first ++ vs)) Q E s') : wpAny (model prog w) A (callWith pos f first (backTo pos (starEach args env)) []) Q E s := by
  refine callWith_of (P := fun h => K.In h) (by rw [hs]; rfl) (keeps_f hf) ?_
  generalize he : backTo pos (starEach args env) = tr at *
  cases tr with
  | nil =>
    refine evalArgs_nil3 ⟨S.amb.inK T, ?_⟩
    have z : wpAny (model prog w) A (spliced (backTo pos (starEach args env))) (fun vs s' => vs = [] → wpAny (model prog w) A (call f (first ++ vs)) Q E s') E s := h1 s _ _ S fun vs s' k r _ => h vs s' k r
    rw [he] at z
    exact fun Γ p hΓ => z Γ p hΓ rfl Γ p hΓ
  | cons x r =>
    obtain ⟨b, x⟩ := x
    have hb : b = false := by
      simp only [List.any_cons, Bool.or_eq_false_iff] at hs; exact hs.1
    subst hb
    refine evalArgs_plain ?_
    rw [← he]
    exact h1 s _ _ S fun vs s' k r => ⟨(S.amb.kp k).inK T, h vs s' k r⟩

variable (prog w H A env M σ) in
/-- a name of the module's or of the interpreter's -/
def FnT (x : Str) (f : Value) : Prop := ∀ (s : Shared) (pos : Pos) (Q : Value → Shared → Prop) (E : Value → Shared → Prop), StE H env M σ s → Q f s → wpAny (model prog w) A (eval (.Name x pos) env) Q E s
theorem fn_glob (T : Top0 K H) {x : Str} {f : Value} (e : nsIn K mainGlobals x = some (some f)) (hx : env.kindOf x = some .globalImplicit) (hd : (x == ("__debug__" : Str)) = false := by decide) : FnT prog w H A env M σ x f := fun s pos Q E S h => by
  obtain ⟨mg, G⟩ := T.g
  exact Name_function_global S.kind hx (loadGlobal_global (by rw [S.glob]; exact S.amb.ns T G) (mg_of T.k G e) h) hd
theorem fn_blt (T : Top0 K H) {x : Str} {f : Value} (e : nsIn K mainGlobals x = some none) (hv : bootBuiltins x = some f) (hx : env.kindOf x = some .globalImplicit) (hn : x ≠ "__name__" := by decide) (hd : (x == ("__debug__" : Str)) = false := by decide) : FnT prog w H A env M σ x f := fun s pos Q E S h => by
  obtain ⟨mg, G⟩ := T.g
  obtain ⟨mb, B, hb⟩ := T.b
  exact Name_function_global S.kind hx (loadGlobal_builtin (by rw [S.glob]; exact S.amb.ns T G) (mg_none_of T.k G e) (by rw [S.blt]; exact S.amb.ns T B) ((hb x hn).trans hv) h) hd

theorem ev_call (T : Top0 K H) {x : Str} {f : Value} {np pos : Pos} {args : List Expr} {avs : List AV} {av : AV} (hn : FnT prog w H A env M σ x f) (hf : KeepsF K f) (h1 : EvLs prog w H A env M σ pos args avs) (hc : CallT prog w H A M f avs av)
    (hs : (backTo pos (starEach args env)).any (·.1) = false := by rfl) : EvT prog w H A env M σ (.Call (.Name x np) args [] pos) av := fun s Q E S h => by
  refine wpAny_Call_ofName (hn s np _ _ S (call_with T hf S h1 hs fun vs s1 k1 r1 => ?_))
  exact hc s1 _ _ _ (S.kp T k1).amb (S.kp T k1).alive S.fresh r1 fun v s2 k2 r2 => h v s2 (k1.trans k2) r2

theorem ev_tuple (T : Top0 K H) {es : List Expr} {ds : List D} {k : Nat} {pos : Pos} (h1 : EvLs prog w H A env M σ pos es (ds.map .d)) (hl : ds.length ≤ sizeLine) : EvT prog w H A env M σ (.Tuple es k pos) (.d (.tup ds)) := fun s Q E S h => by
  refine wpAny_Tuple_spliced (h1 s _ _ S fun vs s1 k1 r1 => ?_)
  have S1 := S.kp T k1
  have r := r1.toD
  refine ⟨by rw [r.length]; exact hl, h _ _ (k1.trans Kp.push) (rda_d.mpr ?_)⟩
  unfold Rd
  refine ⟨_, vs.toArray, rfl, S1.size_notin, S1.amb.ne_pt, ⟨_, Heap.get?_push_size _ rfl, rfl, _, rfl⟩, ?_⟩
  exact r.kp (s' := { s1 with heap := s1.heap.push _ }) Kp.push
theorem ev_list (T : Top0 K H) {es : List Expr} {ds : List D} {pos : Pos} (h1 : EvLs prog w H A env M σ pos es (ds.map .d)) (hl : ds.length ≤ sizeLine) : EvT prog w H A env M σ (.List es pos) (.d (.list ds)) := fun s Q E S h => by
  refine wpAny_List_spliced (h1 s _ _ S fun vs s1 k1 r1 => ?_)
  have S1 := S.kp T k1
  have r := r1.toD
  refine ⟨by rw [r.length]; exact hl, h _ _ (k1.trans Kp.push) (rda_d.mpr ?_)⟩
  unfold Rd
  refine ⟨_, vs.toArray, rfl, S1.size_notin, S1.amb.ne_pt, ⟨_, Heap.get?_push_size _ rfl, rfl, _, rfl⟩, ?_⟩
  exact r.kp (s' := { s1 with heap := s1.heap.push _ }) Kp.push

theorem list_of {h : Heap} {v : Value} {l : List D} (x : RdA h M v (.d (.list l))) : ∃ a items, v = .ref a ∧ a ∉ M ∧ a ≠ PT ∧ h.IsList a items ∧ RdL h M items.toList l := by have e := rda_d.mp x; unfold Rd at e; exact e
theorem tup_of {h : Heap} {v : Value} {l : List D} (x : RdA h M v (.d (.tup l))) : ∃ a items, v = .ref a ∧ a ∉ M ∧ a ≠ PT ∧ h.IsTuple a items ∧ RdL h M items.toList l := by have e := rda_d.mp x; unfold Rd at e; exact e
theorem own_of {h : Heap} {v : Value} {a : Addr} {l : List AV} (x : RdA h M v (.own a l)) : v = .ref a ∧ a ∈ M ∧ ∃ items, h.PlainList a items ∧ RdAL h M items.toList l := by unfold RdA at x; exact x

theorem ev_item (T : Top0 K H) {e i : Expr} {pos : Pos} {l : List D} {k : Int} {x : D} (h1 : EvT prog w H A env M σ e (.d (.list l))) (h2 : EvT prog w H A env M σ i (.d (.int k))) (h0 : 0 ≤ k) (hx : l[k.toNat]? = some x)
    (hk : k < 2 ^ 63 := by decide) (hs : ∀ o v, subscripted i false o v = operate [o, v] (getItem o v) := by intro _ _; rfl) : EvT prog w H A env M σ (.Subscript e i pos) (.d x) := fun s Q E S h => by
  refine Subscript_ (h1 s _ _ S fun u s1 k1 r1 => h2 s1 _ _ (S.kp T k1) fun v s2 k2 r2 => ?_)
  obtain ⟨a, items, rfl, hm, hp, hl, r⟩ := list_of (r1.kp T (S.kp T k1) k2)
  obtain ⟨t, rfl⟩ := int_of r2
  obtain ⟨y, hy, ry⟩ := r.get hx
  exact tail_any hl.typeIs slot_list_getitem.lookup (wpAny_getItem_list hl h0 hk (by simpa using hy) (h _ _ (k1.trans k2) (rda_d.mpr ry))) (hs _ _)
theorem ev_item_own (T : Top0 K H) {e i : Expr} {pos : Pos} {b : Addr} {l : List AV} {k : Int} {x : AV} (h1 : EvT prog w H A env M σ e (.own b l)) (h2 : EvT prog w H A env M σ i (.d (.int k))) (h0 : 0 ≤ k) (hx : l[k.toNat]? = some x)
    (hk : k < 2 ^ 63 := by decide) (hs : ∀ o v, subscripted i false o v = operate [o, v] (getItem o v) := by intro _ _; rfl) : EvT prog w H A env M σ (.Subscript e i pos) x := fun s Q E S h => by
  refine Subscript_ (h1 s _ _ S fun u s1 k1 r1 => h2 s1 _ _ (S.kp T k1) fun v s2 k2 r2 => ?_)
  obtain ⟨rfl, hm, items, hl, r⟩ := own_of (r1.kp T (S.kp T k1) k2)
  obtain ⟨t, rfl⟩ := int_of r2
  obtain ⟨y, hy, ry⟩ := r.get hx
  exact tail_any hl.isList.typeIs slot_list_getitem.lookup (wpAny_getItem_list hl.isList h0 hk (by simpa using hy) (h _ _ (k1.trans k2) ry)) (hs _ _)
theorem ev_item_tup (T : Top0 K H) {e i : Expr} {pos : Pos} {l : List D} {k : Int} {x : D} (h1 : EvT prog w H A env M σ e (.d (.tup l))) (h2 : EvT prog w H A env M σ i (.d (.int k))) (h0 : 0 ≤ k) (hx : l[k.toNat]? = some x)
    (hk : k < 2 ^ 63 := by decide) (hs : ∀ o v, subscripted i false o v = operate [o, v] (getItem o v) := by intro _ _; rfl) : EvT prog w H A env M σ (.Subscript e i pos) (.d x) := fun s Q E S h => by
  refine Subscript_ (h1 s _ _ S fun u s1 k1 r1 => h2 s1 _ _ (S.kp T k1) fun v s2 k2 r2 => ?_)
  obtain ⟨a, items, rfl, hm, hp, hl, r⟩ := tup_of (r1.kp T (S.kp T k1) k2)
  obtain ⟨t, rfl⟩ := int_of r2
  obtain ⟨y, hy, ry⟩ := r.get hx
  have hlt : k.toNat < items.toList.length := (List.getElem?_eq_some_iff.mp hy).1
  refine item_tupleT (l := items.toList) (j := k.toNat) (by rw [Array.toArray_toList]; exact hl) (by omega) hk ?_ hy (h _ _ (k1.trans k2) (rda_d.mpr ry)) (hs _ _)
  unfold seqIndex?
  simp only [h0]
  first | (simp; omega) | (split <;> simp_all <;> omega)

theorem len_of_list {l : List D} (hl : l.length < 2 ^ 62) : CallT prog w H A M (.builtin "len") [.d (.list l)] (.d (.int l.length)) := fun s vs Q E _ _ _ r h => by
  unfold RdAL at r
  obtain ⟨v, r', rfl, a, b⟩ := r
  unfold RdAL at b
  subst b
  obtain ⟨a, items, rfl, hm, hp, hl', r⟩ := list_of a
  have e : items.size = l.length := by rw [← r.length]; simp
  exact len_list hl' (by rw [e]; omega) (h _ _ Kp.toks (by rw [e]; exact rd_int))
theorem len_of_own {b : Addr} {l : List AV} (hl : l.length < 2 ^ 62) : CallT prog w H A M (.builtin "len") [.own b l] (.d (.int l.length)) := fun s vs Q E _ _ _ r h => by
  unfold RdAL at r
  obtain ⟨v, r', rfl, a, b⟩ := r
  unfold RdAL at b
  subst b
  obtain ⟨rfl, hm, items, hl', r⟩ := own_of a
  have e : items.size = l.length := by rw [← r.length]; simp
  exact len_list hl'.isList (by rw [e]; omega) (h _ _ Kp.toks (by rw [e]; exact rd_int))
theorem len_of_str {x : Str} (hl : x.length < 2 ^ 62) : CallT prog w H A M (.builtin "len") [.d (.str x)] (.d (.int x.length)) := fun s vs Q E _ _ _ r h => by
  unfold RdAL at r
  obtain ⟨v, r', rfl, a, b⟩ := r
  unfold RdAL at b
  subst b
  obtain ⟨t, rfl⟩ := str_of a
  exact SBL.len (by omega) (h _ _ Kp.toks rd_int)
end
end Mine

namespace Mine
open PySem PySem.W PyProof.Rows PySem.Calls PySem.Spec

def Sep (env : Env) (σ : Vars) : Prop := ∀ x av, σ x = some av → av.addrs.Nodup ∧ (∀ a ∈ av.addrs, a ≠ env.locals ∧ ∀ y c, env.cells.lookup y = some c → a ≠ c) ∧ ∀ y av', σ y = some av' → x ≠ y → ∀ a ∈ av.addrs, a ∉ av'.addrs

/-- a state of a frame's own: B what stood when it began, Mc what the frames below hide, Mw what this frame writes -/
structure St (H : Heap) (B : Shared) (Mc : List Addr) (env : Env) (Mw : List Addr) (σ : Vars) (s : Shared) : Prop where
  e : StE H env (Mw ++ Mc) σ s
  base : Kp B s
  off : ∀ m ∈ Mw, B.heap.get? m = none
  locW : env.locals ∈ Mw
  cellW : ∀ x c, env.cells.lookup x = some c → env.func.isSome = true → c ∈ Mw
  cellN : ∀ x y c, env.cells.lookup x = some c → env.cells.lookup y = some c → x = y
  locC : ∀ x c, env.cells.lookup x = some c → c ≠ env.locals
  ns : ∃ m, s.heap.Ns env.locals m
  cells : ∀ x c, env.cells.lookup x = some c → ∃ v, s.heap.IsCell c v
  sep : Sep env σ
  ownW : ∀ x av, σ x = some av → ∀ a ∈ av.addrs, a ∈ Mw ∧ a ∉ Mc

theorem ns_unique {h : Heap} {a : Addr} {m m' : Str → Option Value} (x : h.Ns a m) (y : h.Ns a m') (n : Str) : m n = m' n := by
  obtain ⟨o, es, ep, ho, hd, _, hf⟩ := x
  obtain ⟨o', es', ep', ho', hd', _, hf'⟩ := y
  rw [ho] at ho'
  cases ho'
  rw [hd] at hd'
  cases hd'
  rw [← hf, ← hf']

section
variable {prog : Program} {w : World} {K : Frag} {H : Heap} {A : Around} {env : Env} {Mc Mw : List Addr} {σ : Vars} {B : Shared} {s s' : Shared}

theorem St.kp (T : Top0 K H) (S : St H B Mc env Mw σ s) (k : Kp s s') : St H B Mc env Mw σ s' where
  e := S.e.kp T k
  base := S.base.trans k
  off := S.off
  locW := S.locW
  cellW := S.cellW
  cellN := S.cellN
  locC := S.locC
  ns := let ⟨m, n⟩ := S.ns; ⟨m, nsKpx n k (S.e.ne_pt T S.e.locM) (by simp)⟩
  cells := fun x c e => let ⟨v, o, g, r⟩ := S.cells x c e; ⟨v, o, k.heap c o (S.e.ne_pt T (S.e.cellM x c e)) (by simp) g, r⟩
  sep := S.sep
  ownW := S.ownW

theorem kpx_same {a : Addr} {h' : Heap} {tk : Nat} (hs : Heap.SameBut a s.heap h') (hp : a ≠ PT) (h93 : a ≠ 93) : KpX [a] [] s { s with heap := h', toks := tk } :=
  ⟨fun b o _ hb e => hs.extBut b o (by simpa using hb) e, fun ps t i => ⟨#[], by simpa using t.sameBut hs (Ne.symm h93) (Ne.symm hp), by
    simp only [Array.append_empty]
    obtain ⟨o, vs, file, tf, flags, tg, inF, text, tt, op, h1, h2, h3, h4, h5, h6, h7, h8, r⟩ := i
    exact ⟨o, vs, file, tf, flags, tg, inF, text, tt, op, hs.extBut _ _ (Ne.symm h93) h1, h2, h3, h4, h5, h6, h7, hs.extBut _ _ (Ne.symm hp) h8, r⟩⟩, fun _ _ _ e => e, id, rfl⟩

theorem ne93 (T : Top0 K H) {m : Addr} (h : H.get? m = none) : m ≠ 93 := by
  rintro rfl
  obtain ⟨ps, ⟨o, vs, e, _⟩, _⟩ := T.tab
  rw [h] at e; cases e

/-- one address of the frame's own is written; what the names hold then -/
theorem St.write (T : Top0 K H) (S : St H B Mc env Mw σ s) {a : Addr} (ha : a ∈ Mw) (k : KpX [a] [] s s') {σ' : Vars} (alive : ∃ o, s'.heap.get? a = some o)
    (ns : ∃ m, s'.heap.Ns env.locals m) (cells : ∀ x c, env.cells.lookup x = some c → ∃ v, s'.heap.IsCell c v)
    (vars : ∀ x av, σ' x = some av → ∃ v, Loads s'.heap env x v ∧ RdA s'.heap (Mw ++ Mc) v av) (sep : Sep env σ') (ownW : ∀ x av, σ' x = some av → ∀ a ∈ av.addrs, a ∈ Mw ∧ a ∉ Mc) : St H B Mc env Mw σ' s' where
  e := {
    amb := S.e.amb.kpx k fun b hb => by rw [List.mem_singleton.mp hb]; exact S.e.fresh a (List.mem_append.mpr (.inl ha))
    alive := fun m hm => by
      by_cases e : m = a
      · rw [e]; exact alive
      · obtain ⟨o, g⟩ := S.e.alive m hm
        exact ⟨o, k.heap m o (S.e.ne_pt T hm) (by simpa using e) g⟩
    fresh := S.e.fresh
    locM := S.e.locM
    cellM := S.e.cellM
    kind := S.e.kind
    glob := S.e.glob
    blt := S.e.blt
    vars := vars }
  base := ⟨fun b o h1 h2 e => (by
      refine k.heap b o h1 ?_ (S.base.heap b o h1 h2 e)
      intro q
      rw [List.mem_singleton.mp q, S.off a ha] at e
      cases e), (S.base.to.trans k : KpX [a] [] B s').tab, fun i x h e => k.gens i x h (S.base.gens i x h e), fun b => k.bare (S.base.bare b), k.os.trans S.base.os⟩
  off := S.off
  locW := S.locW
  cellW := S.cellW
  cellN := S.cellN
  locC := S.locC
  ns := ns
  cells := cells
  sep := sep
  ownW := ownW

theorem sep_d {σ : Vars} (h : Sep env σ) (x : Str) (d : D) : Sep env (upd σ x (.d d)) := by
  intro y av e
  unfold upd at e
  by_cases hy : y = x
  · rw [if_pos hy] at e; cases e
    unfold AV.addrs
    exact ⟨.nil, fun _ h => (nomatch h), fun _ _ _ _ _ h => (nomatch h)⟩
  · rw [if_neg hy] at e
    obtain ⟨h1, h2, h3⟩ := h y av e
    refine ⟨h1, h2, fun z av' ez hz a ha => ?_⟩
    unfold upd at ez
    by_cases hzx : z = x
    · rw [if_pos hzx] at ez; cases ez; unfold AV.addrs; simp
    · rw [if_neg hzx] at ez; exact h3 z av' ez hz a ha
theorem own_d {σ : Vars} (h : ∀ x av, σ x = some av → ∀ a ∈ av.addrs, a ∈ Mw ∧ a ∉ Mc) (x : Str) (d : D) : ∀ y av, upd σ x (.d d) y = some av → ∀ a ∈ av.addrs, a ∈ Mw ∧ a ∉ Mc := by
  intro y av e a ha
  unfold upd at e
  by_cases hy : y = x
  · rw [if_pos hy] at e; cases e; unfold AV.addrs at ha; cases ha
  · rw [if_neg hy] at e; exact h y av e a ha

theorem cell_ne_ns {h : Heap} {a : Addr} {m : Str → Option Value} {v : Option Value} (n : h.Ns a m) (c : h.IsCell a v) : False := by
  obtain ⟨o, es, ep, ho, hd, _⟩ := n
  obtain ⟨o', ho', hd'⟩ := c
  rw [ho] at ho'; cases ho'
  rw [hd] at hd'; cases hd'

/-- a name is bound -/
theorem store (T : Top0 K H) (S : St H B Mc env Mw σ s) {x : Str} {v : Value} {av : AV} {Q : Unit → Shared → Prop} {E : Value → Shared → Prop} (hk : env.kindOf x = some .local ∨ (env.kindOf x = some .cell ∧ (env.cells.lookup x).isSome = true ∧ env.func.isSome = true))
    (r : RdA s.heap (Mw ++ Mc) v av) (sep : Sep env (upd σ x av)) (ow : ∀ y av', upd σ x av y = some av' → ∀ a ∈ av'.addrs, a ∈ Mw ∧ a ∉ Mc)
    (h : ∀ s', St H B Mc env Mw (upd σ x av) s' → KpX Mw [] s s' → Q () s') : wpAny (model prog w) A (storeName env x v) Q E s := by
  have hLf := S.e.fresh _ S.e.locM
  have hLp := S.e.ne_pt T S.e.locM
  obtain ⟨m, n⟩ := S.ns
  rcases hk with hk | ⟨hk, hc, hfn⟩
  · refine wpAny_storeName_local hk n (fun h' hn hs => ?_) (by rw [S.e.kind]; rfl)
    have k := kpx_same (tk := s.toks + 1) hs hLp (ne93 T hLf)
    refine h _ ?_ (k.weak (fun b hb => by rw [List.mem_singleton.mp hb]; exact S.locW) fun _ q => nomatch q)
    refine S.write T S.locW k (let ⟨o, _, _, e, _⟩ := hn; ⟨o, e⟩) ⟨_, hn⟩ (fun y c e => ?_) (fun y av' e => ?_) sep ow
    · obtain ⟨u, o, g, r⟩ := S.cells y c e
      exact ⟨u, o, hs.extBut _ _ (S.locC y c e) g, r⟩
    · have rd : ∀ {u : Value} {bv : AV}, upd σ x av y = some bv → RdA s.heap (Mw ++ Mc) u bv → RdA h' (Mw ++ Mc) u bv := fun ex rr =>
        rr.mono (fun b o h1 h2 e => ⟨h1, hs.extBut b o (fun q => h1 (q ▸ S.e.locM)) e⟩) fun b hb => ⟨rr.mem b hb, fun o e => hs.extBut b o ((sep y _ ex).2.1 b hb).1 e⟩
      unfold upd at e
      by_cases hy : y = x
      · subst hy
        rw [if_pos rfl] at e; cases e
        exact ⟨v, .inl ⟨hk, _, hn, by simp⟩, rd (by unfold upd; rw [if_pos rfl]) r⟩
      · rw [if_neg hy] at e
        obtain ⟨u, l, rr⟩ := S.e.vars y av' e
        refine ⟨u, ?_, rd (by unfold upd; rw [if_neg hy]; exact e) rr⟩
        rcases l with ⟨e1, m0, n0, y0⟩ | ⟨e1, c, lc, o, g, d⟩
        · exact .inl ⟨e1, _, hn, by simp only [if_neg hy]; rw [ns_unique n n0]; exact y0⟩
        · exact .inr ⟨e1, c, lc, o, hs.extBut _ _ (S.locC y c lc) g, d⟩
  · obtain ⟨c, lc⟩ := Option.isSome_iff_exists.mp hc
    obtain ⟨v₀, hcell⟩ := S.cells x c lc
    refine wpAny_storeName_cell S.e.kind hk lc hcell fun h' hc' hs => ?_
    have hcM := S.e.cellM x c lc
    have k := kpx_same (tk := s.toks) hs (S.e.ne_pt T hcM) (ne93 T (S.e.fresh c hcM))
    refine h _ ?_ (k.weak (fun b hb => by rw [List.mem_singleton.mp hb]; exact S.cellW x c lc hfn) fun _ q => nomatch q)
    have hLc : env.locals ≠ c := fun q => S.locC x c lc q.symm
    have n' : h'.Ns env.locals m := n.at' fun o e => hs.extBut _ o hLc e
    refine S.write T (S.cellW x c lc hfn) k (let ⟨o, e, _⟩ := hc'; ⟨o, e⟩) ⟨_, n'⟩ (fun y d e => ?_) (fun y av' e => ?_) sep ow
    · by_cases q : d = c
      · subst q; exact ⟨_, hc'⟩
      · obtain ⟨u, o, g, r⟩ := S.cells y d e
        exact ⟨u, o, hs.extBut _ _ q g, r⟩
    · have rd : ∀ {u : Value} {bv : AV}, upd σ x av y = some bv → RdA s.heap (Mw ++ Mc) u bv → RdA h' (Mw ++ Mc) u bv := fun ex rr =>
        rr.mono (fun b o h1 h2 e => ⟨h1, hs.extBut b o (fun q => h1 (q ▸ hcM)) e⟩) fun b hb => ⟨rr.mem b hb, fun o e => hs.extBut b o (((sep y _ ex).2.1 b hb).2 x c lc) e⟩
      unfold upd at e
      by_cases hy : y = x
      · subst hy
        rw [if_pos rfl] at e; cases e
        exact ⟨v, .inr ⟨hk, c, lc, hc'⟩, rd (by unfold upd; rw [if_pos rfl]) r⟩
      · rw [if_neg hy] at e
        obtain ⟨u, l, rr⟩ := S.e.vars y av' e
        refine ⟨u, ?_, rd (by unfold upd; rw [if_neg hy]; exact e) rr⟩
        rcases l with ⟨e1, m0, n0, y0⟩ | ⟨e1, d, ld, o, g, dd⟩
        · exact .inl ⟨e1, _, n0.at' fun o e => hs.extBut _ o hLc e, y0⟩
        · exact .inr ⟨e1, d, ld, o, hs.extBut _ _ (fun q => hy (S.cellN y x c (q ▸ ld) lc)) g, dd⟩

def BindOk (env : Env) (x : Str) : Prop := env.kindOf x = some .local ∨ (env.kindOf x = some .cell ∧ (env.cells.lookup x).isSome = true ∧ env.func.isSome = true)
theorem store_d (T : Top0 K H) (S : St H B Mc env Mw σ s) {x : Str} {v : Value} {d : D} {Q : Unit → Shared → Prop} {E : Value → Shared → Prop} (hk : BindOk env x)
    (r : RdA s.heap (Mw ++ Mc) v (.d d)) (h : ∀ s', St H B Mc env Mw (upd σ x (.d d)) s' → KpX Mw [] s s' → Q () s') : wpAny (model prog w) A (storeName env x v) Q E s :=
  store T S hk r (sep_d S.sep x d) (own_d S.ownW x d) h

variable {rest : List Stmt} {Kk : Flow → Shared → Prop} {E : Value → Shared → Prop}

theorem x_next {st : Stmt} (h : wpAny (model prog w) A (exec st env) (fun f s' => f = .next ∧ wpAny (model prog w) A (execs rest env) Kk E s') E s) : wpAny (model prog w) A (execs (st :: rest) env) Kk E s :=
  wpAny_execs_cons (wpAny_mono h (fun f s' q => by obtain ⟨rfl, q⟩ := q; exact q) fun _ _ e => e)

theorem St.other (T : Top0 K H) (S : St H B Mc env Mw σ s) {X : List Addr} {GX : List Nat} (k : KpX X GX s s') (hX : ∀ b ∈ X, b ∈ Mw ++ Mc) (hW : ∀ b ∈ X, b ∉ Mw) (hB : ∀ b ∈ X, B.heap.get? b = none) (hG : ∀ g ∈ GX, B.gens[g]? = none)
    (hal : ∀ b ∈ X, ∃ o, s'.heap.get? b = some o) (hc : ∀ x c, env.cells.lookup x = some c → c ∉ X) : St H B Mc env Mw σ s' := by
  have hL : env.locals ∉ X := fun q => hW _ q S.locW
  have hp : ∀ m ∈ Mw ++ Mc, m ≠ PT := fun m hm => S.e.ne_pt T hm
  refine {
    e := {
      amb := S.e.amb.kpx k fun b hb => S.e.fresh b (hX b hb)
      alive := fun m hm => by
        by_cases e : m ∈ X
        · exact hal m e
        · obtain ⟨o, g⟩ := S.e.alive m hm
          exact ⟨o, k.heap m o (hp m hm) e g⟩
      fresh := S.e.fresh, locM := S.e.locM, cellM := S.e.cellM, kind := S.e.kind, glob := S.e.glob, blt := S.e.blt
      vars := fun x av e => ?_ }
    base := ⟨fun b o h1 h2 e => k.heap b o h1 (fun q => by rw [hB b q] at e; cases e) (S.base.heap b o h1 h2 e), (S.base.to.trans k : KpX X GX B s').tab,
      fun i x h e => k.gens i x (fun q => by rw [hG i q] at e; cases e) (S.base.gens i x h e), fun b => k.bare (S.base.bare b), k.os.trans S.base.os⟩
    off := S.off, locW := S.locW, cellW := S.cellW, cellN := S.cellN, locC := S.locC
    ns := let ⟨m, n⟩ := S.ns; ⟨m, nsKpx n k (hp _ S.e.locM) hL⟩
    cells := fun x c e => let ⟨v, o, g, r⟩ := S.cells x c e; ⟨v, o, k.heap c o (hp _ (S.e.cellM x c e)) (hc x c e) g, r⟩
    sep := S.sep, ownW := S.ownW }
  obtain ⟨v, l, r⟩ := S.e.vars x av e
  refine ⟨v, ?_, r.mono (fun b o h1 h2 e => ⟨h1, k.heap b o h2 (fun q => h1 (hX b q)) e⟩) fun b hb => ⟨r.mem b hb, fun o e' => k.heap b o (hp b (r.mem b hb)) (fun q => hW b q (S.ownW x av e b hb).1) e'⟩⟩
  rcases l with ⟨e1, m0, n0, y0⟩ | ⟨e1, c, lc, o, g, d⟩
  · exact .inl ⟨e1, _, nsKpx n0 k (hp _ S.e.locM) hL, y0⟩
  · exact .inr ⟨e1, c, lc, o, k.heap c o (hp _ (S.e.cellM x c lc)) (hc x c lc) g, d⟩

/-- another base, under which what the names hold stands -/
theorem St.rebase {B' : Shared} (S : St H B Mc env Mw σ s) (k : Kp B' s) (off : ∀ m ∈ Mw, B'.heap.get? m = none) : St H B' Mc env Mw σ s := { S with base := k, off := off }
theorem St.sub (S : St H B Mc env Mw σ s) {σ' : Vars} (h : ∀ x av, σ' x = some av → σ x = some av) : St H B Mc env Mw σ' s :=
  { S with
    e := { S.e with vars := fun x av e => S.e.vars x av (h x av e) }
    sep := fun x av e => let ⟨a, b, c⟩ := S.sep x av (h x av e); ⟨a, b, fun y av' e' => c y av' (h y av' e')⟩
    ownW := fun x av e => S.ownW x av (h x av e) }
theorem RdA.ownM {h : Heap} {M M' : List Addr} {v : Value} {av : AV} (x : RdA h M v av) (k : ∀ b, b ∉ M → b ∉ M' ∨ h.get? b = none) (ow : ∀ b ∈ av.addrs, b ∈ M') : RdA h M' v av :=
  x.mono (fun b o h1 _ e => ⟨(k b h1).elim id (fun q => by rw [q] at e; cases e), e⟩) fun b hb => ⟨ow b hb, fun _ e => e⟩
theorem St.unhide (S : St H B Mc env Mw σ s) {Mc' : List Addr} (h : ∀ b ∈ Mc', b ∈ Mc) (hc : ∀ x c, env.cells.lookup x = some c → c ∈ Mw ++ Mc') : St H B Mc' env Mw σ s := by
  have sub : ∀ b ∈ Mw ++ Mc', b ∈ Mw ++ Mc := fun b hb => (List.mem_append.mp hb).elim (fun q => List.mem_append.mpr (.inl q)) fun q => List.mem_append.mpr (.inr (h b q))
  exact { S with
    e := { S.e with
      alive := fun m hm => S.e.alive m (sub m hm)
      fresh := fun m hm => S.e.fresh m (sub m hm)
      locM := List.mem_append.mpr (.inl S.locW)
      cellM := hc
      vars := fun x av e => let ⟨v, l, r⟩ := S.e.vars x av e; ⟨v, l, r.ownM (fun b hb => .inl fun q => hb (sub b q)) fun b hb => List.mem_append.mpr (.inl (S.ownW x av e b hb).1)⟩ }
    ownW := fun x av e a ha => ⟨(S.ownW x av e a ha).1, fun q => (S.ownW x av e a ha).2 (h a q)⟩ }
theorem Amb.none_of {h : Heap} (x : Amb H h) {a : Addr} (e : h.get? a = none) : H.get? a = none := by
  cases q : H.get? a with
  | none => rfl
  | some o =>
    by_cases hp : a = PT
    · obtain ⟨ps, t, _⟩ := x.tab
      rw [hp, t.2] at e; cases e
    · have := x.keep a o hp q
      rw [e] at this; cases this
/-- what is new is hidden -/
theorem St.hide (T : Top0 K H) (S : St H B Mc env Mw σ s) (k : Kp s s') {wr : List Addr} (hf : ∀ b ∈ wr, s.heap.get? b = none) (ha : ∀ b ∈ wr, ∃ o, s'.heap.get? b = some o) : St H B (wr ++ Mc) env Mw σ s' := by
  have S' := S.kp T k
  have sub : ∀ b ∈ Mw ++ Mc, b ∈ Mw ++ (wr ++ Mc) := fun b hb => (List.mem_append.mp hb).elim (fun q => List.mem_append.mpr (.inl q)) fun q => List.mem_append.mpr (.inr (List.mem_append.mpr (.inr q)))
  have part : ∀ b ∈ Mw ++ (wr ++ Mc), b ∈ wr ∨ b ∈ Mw ++ Mc := fun b hb => (List.mem_append.mp hb).elim (fun q => .inr (List.mem_append.mpr (.inl q))) fun q => (List.mem_append.mp q).elim .inl fun q => .inr (List.mem_append.mpr (.inr q))
  exact { S' with
    e := { S'.e with
      alive := fun m hm => (part m hm).elim (ha m) (S'.e.alive m)
      fresh := fun m hm => (part m hm).elim (fun q => S.e.amb.none_of (hf m q)) (S'.e.fresh m)
      locM := sub _ S'.e.locM
      cellM := fun x c e => sub c (S'.e.cellM x c e)
      vars := fun x av e => by
        obtain ⟨v, l, r⟩ := S.e.vars x av e
        refine ⟨v, l.kp T S.e k, ?_⟩
        refine r.mono (fun b o h1 h2 e => ⟨fun q => ?_, k.heap b o h2 (by simp) e⟩) fun b hb => ⟨List.mem_append.mpr (.inl (S.ownW x av e b hb).1), fun o e' => k.heap b o (S.e.ne_pt T (r.mem b hb)) (by simp) e'⟩
        rcases part b q with q | q
        · rw [hf b q] at e; cases e
        · exact h1 q }
    ownW := fun x av e a ha => by
      have z := S.ownW x av e a ha
      refine ⟨z.1, fun q => ?_⟩
      rcases List.mem_append.mp q with q | q
      · obtain ⟨o, g⟩ := S.e.alive a (List.mem_append.mpr (.inl z.1))
        rw [hf a q] at g; cases g
      · exact z.2 q }

/-- x = e -/
theorem x_assign (T : Top0 K H) (S : St H B Mc env Mw σ s) {x : Str} {p pos : Pos} {e : Expr} {d : D} (h1 : EvT prog w H A env (Mw ++ Mc) σ e (.d d)) (hk : BindOk env x)
    (k : ∀ s', St H B Mc env Mw (upd σ x (.d d)) s' → wpAny (model prog w) A (execs rest env) Kk E s') (hs : swapsWith e (some (Expr.Name x p)) pos.line env = pure false := by rfl) :
    wpAny (model prog w) A (execs (.Assign [.Name x p] e pos :: rest) env) Kk E s :=
  x_next (wpAny_Assign_Name (h1 s _ _ S.e fun v s1 k1 r1 => store_d T (S.kp T k1) hk r1 fun s2 S2 _ => ⟨rfl, k s2 S2⟩) hs)

/-- return e -/
theorem x_return (T : Top0 K H) (S : St H B Mc env Mw σ s) {pos : Pos} {e : Expr} {d : D} (h1 : EvT prog w H A env (Mw ++ Mc) σ e (.d d))
    (k : ∀ v s', St H B Mc env Mw σ s' → Rd s'.heap Mc v d → Kk (.ret v) s') : wpAny (model prog w) A (execs (.Return (some e) pos :: rest) env) Kk E s :=
  wpAny_execs_cons (wpAny_Return_some (h1 s _ _ S.e fun v s1 k1 r1 => k v s1 (S.kp T k1) ((rda_d.mp r1).hidden fun b hb => List.mem_append.mpr (.inr hb))))

theorem x_nil (h : Kk .next s) : wpAny (model prog w) A (execs [] env) Kk E s := wpAny_execs_nil h
theorem x_break {pos : Pos} (h : Kk .brk s) : wpAny (model prog w) A (execs (.Break pos :: rest) env) Kk E s := wpAny_execs_cons (wpAny_Break h)

/-- x op= e -/
theorem x_aug (T : Top0 K H) (S : St H B Mc env Mw σ s) {x : Str} {op : Operator} {p pos : Pos} {e : Expr} {a b c : D} (hx : σ x = some (.d a)) (h1 : EvT prog w H A env (Mw ++ Mc) σ e (.d b))
    (ho : ∀ (s : Shared) (u v : Value) (Q : Value → Shared → Prop) (E : Value → Shared → Prop), Amb H s.heap → RdA s.heap (Mw ++ Mc) u (.d a) → RdA s.heap (Mw ++ Mc) v (.d b) → (∀ r s', Kp s s' → RdA s'.heap (Mw ++ Mc) r (.d c) → Q r s') → wpAny (model prog w) A (inplaceOp op u v) Q E s) (hk : BindOk env x)
    (k : ∀ s', St H B Mc env Mw (upd σ x (.d c)) s' → wpAny (model prog w) A (execs rest env) Kk E s') :
    wpAny (model prog w) A (execs (.AugAssign (.Name x p) op e pos :: rest) env) Kk E s := by
  refine x_next (wpAny_AugAssign_Name ?_)
  obtain ⟨u, l, r⟩ := S.e.vars x _ hx
  have go : wpAny (model prog w) A (eval e env) (fun v s₂ => wpAny (model prog w) A (inplaceOp op u v) (fun r s₃ => wpAny (model prog w) A (storeName env x r) (fun x => (fun f s' => f = .next ∧ wpAny (model prog w) A (execs rest env) Kk E s') Flow.next) E s₃) E s₂) E s :=
    h1 s _ _ S.e fun v s1 k1 r1 => ho s1 u v _ _ (S.kp T k1).e.amb (r.kp T S.e k1) r1 fun z s2 k2 r2 => store_d T ((S.kp T k1).kp T k2) hk r2 fun s3 S3 _ => ⟨rfl, k s3 S3⟩
  rcases l with ⟨e, m, n, y⟩ | ⟨e, c, lc, hc⟩
  · exact wpAny_loadName_local S.e.kind e n y go
  · exact wpAny_loadName_cell S.e.kind e lc hc go

/-- if t: .. else: .. -/
theorem x_if (T : Top0 K H) (S : St H B Mc env Mw σ s) {t : Expr} {body orelse : List Stmt} {pos : Pos} {b : Bool} (h : TsT prog w H A env (Mw ++ Mc) σ t b)
    (h1 : b = true → ∀ s', St H B Mc env Mw σ s' → wpAny (model prog w) A (execs body env) (fun f s'' => match f with | .next => wpAny (model prog w) A (execs rest env) Kk E s'' | f => Kk f s'') E s')
    (h2 : b = false → ∀ s', St H B Mc env Mw σ s' → wpAny (model prog w) A (execs orelse env) (fun f s'' => match f with | .next => wpAny (model prog w) A (execs rest env) Kk E s'' | f => Kk f s'') E s') :
    wpAny (model prog w) A (execs (.If t body orelse pos :: rest) env) Kk E s := by
  refine wpAny_execs_cons (wpAny_If (h s _ _ S.e fun s1 k1 => ?_))
  cases b with
  | true => simp only [if_true]; exact h1 rfl s1 (S.kp T k1)
  | false => simp only [Bool.false_eq_true, if_false]; exact h2 rfl s1 (S.kp T k1)
end
end Mine

namespace Mine
open PySem PySem.W PyProof.Rows PySem.Calls PySem.Spec

/-- the environment of a def's frame -/
def fenv (qual : Str) (scope : Scope) (L fa : Addr) (cdv : Value) : Env :=
  { scope := scope, locals := L, globals := mainGlobals, cells := cellsFrom (L + 1) scope.names [], qual := qual ++ ".<locals>.", func := some fa, code := cdv, frame := some L, builtins := builtinsNs }
abbrev mwOf (scope : Scope) (L : Addr) : List Addr := L :: (cellsFrom (L + 1) scope.names []).map (·.2)
def vars0 (ps : List Str) (ds : List D) : Vars := fun y => ((ps.zip ds).lookup y).map .d

section
variable {prog : Program} {w : World} {K : Frag} {H : Heap} {A : Around}

variable (prog w H A) in
/-- the body hands back r -/
def BodyT (env : Env) (Mc Mw : List Addr) (σ : Vars) (body : List Stmt) (r : D) : Prop :=
  ∀ (B s : Shared) (Kk : Flow → Shared → Prop) (E : Value → Shared → Prop), St H B Mc env Mw σ s → (∀ v s', Kp B s' → Rd s'.heap Mc v r → Kk (.ret v) s') → wpAny (model prog w) A (execs body env) Kk E s

theorem bindL_off (kindOf : Str → Option NameKind) {y : Str} : ∀ (binds : List (Str × Value)) (m : Str → Option Value), y ∉ binds.map (·.1) → bindL kindOf binds m y = m y
  | [], m, _ => rfl
  | (n, v) :: r, m, h => by
    have h1 : y ≠ n := fun e => h (by simp [e])
    have h2 : y ∉ r.map (·.1) := fun e => h (by simp at e ⊢; exact .inr e)
    unfold bindL
    rw [bindL_off kindOf r _ h2]
    split
    · simp [h1]
    · rfl
theorem bindL_on (kindOf : Str → Option NameKind) {y : Str} {v : Value} (hk : kindOf y = some .local) : ∀ (binds : List (Str × Value)) (m : Str → Option Value), (binds.map (·.1)).Nodup → (y, v) ∈ binds → bindL kindOf binds m y = some v
  | (n, u) :: r, m, hn, hm => by
    rw [List.map_cons, List.nodup_cons] at hn
    unfold bindL
    rcases List.mem_cons.mp hm with e | hm
    · cases e
      rw [bindL_off kindOf r _ hn.1, if_pos hk]; simp
    · exact bindL_on kindOf hk r _ hn.2 hm
theorem bindC_off (kindOf : Str → Option NameKind) {y : Str} : ∀ (binds : List (Str × Value)) (m : Str → Option Value), y ∉ binds.map (·.1) → bindC kindOf binds m y = m y
  | [], m, _ => rfl
  | (n, v) :: r, m, h => by
    have h1 : y ≠ n := fun e => h (by simp [e])
    have h2 : y ∉ r.map (·.1) := fun e => h (by simp at e ⊢; exact .inr e)
    unfold bindC
    rw [bindC_off kindOf r _ h2]
    split
    · rfl
    · simp [h1]
theorem bindC_on (kindOf : Str → Option NameKind) {y : Str} {v : Value} (hk : kindOf y = some .cell) : ∀ (binds : List (Str × Value)) (m : Str → Option Value), (binds.map (·.1)).Nodup → (y, v) ∈ binds → bindC kindOf binds m y = some v
  | (n, u) :: r, m, hn, hm => by
    rw [List.map_cons, List.nodup_cons] at hn
    unfold bindC
    rcases List.mem_cons.mp hm with e | hm
    · cases e
      rw [bindC_off kindOf r _ hn.1, if_neg (by rw [hk]; simp)]; simp
    · exact bindC_on kindOf hk r _ hn.2 hm

theorem zip_look {h : Heap} {M : List Addr} : ∀ {ps : List Str} {ds : List D} {vs : List Value}, RdL h M vs ds → ∀ {y : Str} {d : D}, (ps.zip ds).lookup y = some d → ∃ v, (y, v) ∈ ps.zip vs ∧ Rd h M v d
  | [], _, _, _, y, d, e => by simp at e
  | p :: ps, [], _, _, y, d, e => by simp at e
  | p :: ps, d₀ :: ds, _, x, y, d, e => by
    unfold RdL at x
    obtain ⟨v, r, rfl, a, b⟩ := x
    rw [List.zip_cons_cons, List.lookup_cons] at e
    by_cases q : (y == p) = true
    · rw [q] at e; simp at e; subst e
      rw [beq_iff_eq.mp q]
      exact ⟨v, by simp, a⟩
    · have q' : (y == p) = false := by simpa using q
      rw [q'] at e
      obtain ⟨v', hm, rr⟩ := zip_look b e
      exact ⟨v', by rw [List.zip_cons_cons]; exact .tail _ hm, rr⟩

theorem pair_lookup {cs : List (Str × Addr)} (hp : cs.Pairwise fun x y => x.2 ≠ y.2) : ∀ {x y : Str} {c : Addr}, cs.lookup x = some c → cs.lookup y = some c → x = y := by
  induction cs with
  | nil => intro x y c e; simp at e
  | cons z r ih =>
    obtain ⟨n, a⟩ := z
    intro x y c ex ey
    rw [List.pairwise_cons] at hp
    rw [List.lookup_cons] at ex ey
    have inr : ∀ {u : Str}, r.lookup u = some c → c = a → False := fun {u} e q => by
      have : (u, c) ∈ r := by
        clear ex ey ih hp
        induction r with
        | nil => simp at e
        | cons z r ih =>
          obtain ⟨n', a'⟩ := z
          rw [List.lookup_cons] at e
          by_cases h : (u == n') = true
          · rw [h] at e; simp at e; rw [beq_iff_eq.mp h, e]; exact .head _
          · have : (u == n') = false := by simpa using h
            rw [this] at e; exact .tail _ (ih e)
      exact hp.1 _ this q.symm
    by_cases h1 : (x == n) = true <;> by_cases h2 : (y == n) = true
    · rw [beq_iff_eq.mp h1, beq_iff_eq.mp h2]
    · have h2' : (y == n) = false := by simpa using h2
      rw [h1] at ex; rw [h2'] at ey; simp at ex; exact (inr ey ex.symm).elim
    · have h1' : (x == n) = false := by simpa using h1
      rw [h2] at ey; rw [h1'] at ex; simp at ey; exact (inr ex ey.symm).elim
    · have h1' : (x == n) = false := by simpa using h1
      have h2' : (y == n) = false := by simpa using h2
      rw [h1'] at ex; rw [h2'] at ey; exact ih hp.2 ex ey
theorem lookup_mem {cs : List (Str × Addr)} {x : Str} {c : Addr} : cs.lookup x = some c → (x, c) ∈ cs := by
  induction cs with
  | nil => intro e; simp at e
  | cons z r ih =>
    obtain ⟨n', a'⟩ := z
    intro e
    rw [List.lookup_cons] at e
    by_cases h : (x == n') = true
    · rw [h] at e; simp at e; rw [beq_iff_eq.mp h, e]; exact .head _
    · have : (x == n') = false := by simpa using h
      rw [this] at e; exact .tail _ (ih e)

/-- a plain def of the top's -/
structure FnIs (K : Frag) (fa : Addr) (qual : Str) (ps : List Str) (body : List Stmt) (scope : Scope) (cdv : Value) : Prop where
  look : ∃ oc od osl name params dV kV doc pm an ct, K.lookup fa = some ⟨oc, od, .func (fnOf name qual params body scope dV kV doc pm an cdv ct), osl⟩ ∧
    ∀ vs : List Value, vs.length = ps.length → bindArgs (fnOf name qual params body scope dV kV doc pm an cdv ct) ⟨vs, []⟩ = pure (ps.zip vs)
  code : codeIn K cdv qual = true
  co : scope.isCoroutine = false
  kind : scope.kind = .function
  nodup : ps.Nodup
  kinds : (ps.all fun y => scope.names.lookup y == some .local || scope.names.lookup y == some .cell) = true
  cnodup : ((cellsFrom 0 scope.names []).map (·.1)).Nodup

/-- the frame of a call: its first state -/
theorem enter (T : Top0 K H) {fa : Addr} {qual : Str} {ps : List Str} {body : List Stmt} {scope : Scope} {cdv : Value} {s : Shared} {M : List Addr} {ds : List D} {vs : List Value}
    (F : FnIs K fa qual ps body scope cdv) (amb : Amb H s.heap) (alive : ∀ m ∈ M, ∃ o, s.heap.get? m = some o) (fresh : ∀ m ∈ M, H.get? m = none) (r : RdL s.heap M vs ds) (hl : ps.length = ds.length)
    {s' : Shared} (x : InCallC s s.heap.objs.size (bindL (fenv qual scope s.heap.objs.size fa cdv).kindOf (ps.zip vs) fun _ => none) (cellsFrom (s.heap.objs.size + 1) scope.names []) (bindC (fenv qual scope s.heap.objs.size fa cdv).kindOf (ps.zip vs) fun _ => none) s') :
    St H s M (fenv qual scope s.heap.objs.size fa cdv) (mwOf scope s.heap.objs.size) (vars0 ps ds) s' := by
  obtain ⟨h', tk, rfl, keep⟩ := x.done
  have k : Kp s { s with heap := h', toks := tk } := Kp.of keep
  have cn : ∀ n c, (n, c) ∈ cellsFrom (s.heap.objs.size + 1) scope.names [] → (cellsFrom (s.heap.objs.size + 1) scope.names []).lookup n = some c := fun n c hm =>
    lookup_of_mem_nodup (cellsFrom_names scope.names 0 (s.heap.objs.size + 1) [] [] rfl ▸ F.cnodup) hm
  have fr : ∀ a, s.heap.objs.size ≤ a → s.heap.get? a = none := fun a ha => by
    cases e : s.heap.get? a with
    | none => rfl
    | some o' => exact absurd (Heap.lt_size e) (Nat.not_lt.mpr ha)
  have frH : ∀ a, s.heap.objs.size ≤ a → H.get? a = none := fun a ha => by
    cases e : H.get? a with
    | none => rfl
    | some o' =>
      by_cases hp : a = PT
      · obtain ⟨ps', t, _⟩ := amb.tab
        exact absurd (Heap.lt_size t.2) (Nat.not_lt.mpr (hp ▸ ha))
      · exact absurd (Heap.lt_size (amb.keep a _ hp e)) (Nat.not_lt.mpr ha)
  have mw : ∀ m ∈ mwOf scope s.heap.objs.size, s.heap.objs.size ≤ m := fun m hm => by
    rcases List.mem_cons.mp hm with rfl | hm
    · exact Nat.le_refl _
    · obtain ⟨⟨n, c⟩, hp, rfl⟩ := List.mem_map.mp hm
      exact Nat.le_of_lt (x.above n c hp)
  obtain ⟨oL, es, ep, hL, hrest⟩ := id x.toInCall.ns
  refine {
    e := {
      amb := amb.kp k
      alive := fun m hm => ?_
      fresh := fun m hm => ?_
      locM := List.mem_append.mpr (.inl (.head _))
      cellM := fun y c e => List.mem_append.mpr (.inl (.tail _ (List.mem_map.mpr ⟨(y, c), lookup_mem e, rfl⟩)))
      kind := F.kind
      glob := rfl
      blt := rfl
      vars := fun y av e => ?_ }
    base := k
    off := fun m hm => fr m (mw m hm)
    locW := .head _
    cellW := fun y c e _ => .tail _ (List.mem_map.mpr ⟨(y, c), lookup_mem e, rfl⟩)
    cellN := fun y z c e1 e2 => pair_lookup x.apart e1 e2
    locC := fun y c e => Nat.ne_of_gt (x.above y c (lookup_mem e))
    ns := ⟨_, x.toInCall.ns⟩
    cells := fun y c e => ⟨_, x.cell y c e⟩
    sep := fun y av e => ?_
    ownW := fun y av e a ha => ?_ }
  · rcases List.mem_append.mp hm with hm | hm
    · rcases List.mem_cons.mp hm with rfl | hm
      · exact ⟨oL, hL⟩
      · obtain ⟨⟨n, c⟩, hp, rfl⟩ := List.mem_map.mp hm
        obtain ⟨o, g, _⟩ := x.cell n c (cn n c hp)
        exact ⟨o, g⟩
    · obtain ⟨o, g⟩ := alive m hm
      exact ⟨o, keep _ _ g⟩
  · rcases List.mem_append.mp hm with hm | hm
    · exact frH m (mw m hm)
    · exact fresh m hm
  · unfold vars0 at e
    obtain ⟨d, hd, rfl⟩ := Option.map_eq_some_iff.mp e
    obtain ⟨v, hm, rr⟩ := zip_look r hd
    have hlen : ps.length = vs.length := hl.trans r.length.symm
    have nd : ((ps.zip vs).map (·.1)).Nodup := by
      rw [List.map_fst_zip (Nat.le_of_eq hlen)]; exact F.nodup
    have hyp : y ∈ ps := (List.of_mem_zip hm).1
    refine ⟨v, ?_, rda_d.mpr (rr.mono fun b o h1 h2 e => ⟨fun q => ?_, keep b o e⟩)⟩
    · have := List.all_eq_true.mp F.kinds y hyp
      rcases Bool.or_eq_true_iff.mp this with q | q
      · have q' : (fenv qual scope s.heap.objs.size fa cdv).kindOf y = some .local := beq_iff_eq.mp q
        exact .inl ⟨q', _, x.toInCall.ns, bindL_on _ q' _ _ nd hm⟩
      · have q' : (fenv qual scope s.heap.objs.size fa cdv).kindOf y = some .cell := beq_iff_eq.mp q
        have hc := cellsFrom_some (x := y) scope.names (s.heap.objs.size + 1) [] (.inl (beq_iff_eq.mp q))
        obtain ⟨c, hc⟩ := Option.isSome_iff_exists.mp hc
        have hcell := x.cell y c hc
        rw [bindC_on _ q' _ _ nd hm] at hcell
        exact .inr ⟨q', c, hc, hcell⟩
    · rcases List.mem_append.mp q with q | q
      · rw [fr b (mw b q)] at e; cases e
      · exact h1 q
  · unfold vars0 at e
    obtain ⟨d, hd, rfl⟩ := Option.map_eq_some_iff.mp e
    unfold AV.addrs
    exact ⟨.nil, fun _ h => (nomatch h), fun _ _ _ _ _ h => (nomatch h)⟩
  · unfold vars0 at e
    obtain ⟨d, hd, rfl⟩ := Option.map_eq_some_iff.mp e
    unfold AV.addrs at ha
    cases ha

theorem AOk.deeper {n : Nat} {env : Env} (h : AOk A (n + 1)) : AOk (A.deeper env) n :=
  ⟨h.hh, by have := h.dep; show A.depth + 1 + n + 20 < recursionLimit; omega, by have := h.un; show A.units + 3 + 20 * n + 400 < cLine; omega⟩
theorem AOk.room {n : Nat} (h : AOk A n) : A.depth < recursionLimit := by have := h.dep; omega
theorem AOk.low {n m : Nat} (h : AOk A n) (hm : m ≤ n) : AOk A m := ⟨h.hh, by have := h.dep; omega, by have := h.un; omega⟩

theorem call_fun (T : Top0 K H) {n : Nat} (hA : AOk A (n + 1)) {fa : Addr} {qual : Str} {ps : List Str} {body : List Stmt} {scope : Scope} {cdv : Value} {M : List Addr} {ds : List D} {r : D}
    (F : FnIs K fa qual ps body scope cdv) (hg : scope.isGenerator = false) (hl : ps.length = ds.length)
    (hb : ∀ L (A' : Around), AOk A' n → BodyT prog w H A' (fenv qual scope L fa cdv) M (mwOf scope L) (vars0 ps ds) body r) : CallT prog w H A M (.ref fa) (ds.map .d) (.d r) := fun s vs Q E amb alive fresh rd h => by
  obtain ⟨oc, od, osl, name, params, dV, kV, doc, pm, an, ct, ho, hbind⟩ := F.look
  have rd' := rd.toD
  refine wpAny_call (codeAny_call_function hA.room (amb.inK T _ _ ho) rfl F.co hg rfl (codeRec_of (amb.inK T) F.code) ?_)
  rw [hbind vs (by rw [rd'.length, hl])]
  refine wpAny_pure ?_
  refine wpAny_newFunctionEnv_cells F.kind (fun x hx => ?_) fun env he s' x => ?_
  · have hyp : x.1 ∈ ps := (List.of_mem_zip (show (x.1, x.2) ∈ ps.zip vs from hx)).1
    have := List.all_eq_true.mp F.kinds x.1 hyp
    rcases Bool.or_eq_true_iff.mp this with q | q
    · exact .inl (beq_iff_eq.mp q)
    · exact .inr ⟨beq_iff_eq.mp q, cellsFrom_some scope.names (s.heap.objs.size + 1) [] (.inl (beq_iff_eq.mp q))⟩
  · subst he
    have S := enter T F amb alive fresh rd' hl x
    refine ⟨(S.e.amb.nolimit T), codeAny_func ?_⟩
    refine hb s.heap.objs.size _ hA.deeper s s' _ _ S fun v s2 k rr => ?_
    exact h v s2 k (rda_d.mpr rr)
end
end Mine

namespace Mine
open PySem PySem.W PyProof.Rows PySem.Calls PySem.Spec

/-- something that is iterated: it hands out ds, writes wr and the generators gx; I X i: i items are out, X are foreign -/
structure Iter (prog : Program) (w : World) (A : Around) (it : Addr) (wr : List Addr) (gx : List Nat) (ds : List D) (I : List Addr → Nat → Shared → Prop) : Prop where
  frame : ∀ X GX i s s', I X i s → KpX X GX s s' → (∀ g ∈ gx, g ∉ GX) → I X i s'
  ext : ∀ X X' i s, I X i s → (∀ b ∈ X', b ∈ X ∨ s.heap.get? b = none) → I X' i s
  off : ∀ X i s, I X i s → ∀ b ∈ wr, b ∉ X ∧ ∃ o, s.heap.get? b = some o
  item : ∀ X i s (Q : Option Value → Shared → Prop) (E : Value → Shared → Prop) d, ds[i]? = some d → I X i s → (∀ v s', I X (i + 1) s' → KpX wr gx s s' → Rd s'.heap (wr ++ X) v d → Q (some v) s') → wpAny (model prog w) A (pyNext (.ref it)) Q E s
  done : ∀ X s (Q : Option Value → Shared → Prop) (E : Value → Shared → Prop), I X ds.length s → (∀ s', KpX wr gx s s' → Q none s') → wpAny (model prog w) A (pyNext (.ref it)) Q E s
  self : ∀ X i s (Q : Value → Shared → Prop) (E : Value → Shared → Prop), I X i s → Q (.ref it) s → wpAny (model prog w) A (pyIter (.ref it)) Q E s
  lot : ∀ X i s target v (Q : Unit → Shared → Prop) (E : Value → Shared → Prop), I X i s → Q () s → wpAny (model prog w) A (letOwnedTupleGo target (.ref it) v) Q E s

section
variable {prog : Program} {w : World} {K : Frag} {H : Heap} {A : Around} {env : Env} {M : List Addr} {σ : Vars}

theorem kpx_but {it : Addr} {s : Shared} {h' : Heap} {tk : Nat} (hp : it ≠ PT) (h93 : it ≠ 93) (hk : ∀ b o, b ∉ [it] → s.heap.get? b = some o → h'.get? b = some o) : KpX [it] [] s { s with heap := h', toks := tk } :=
  ⟨fun b o _ hb e => hk b o hb e, fun ps t i => ⟨#[], by
        simp only [Array.append_empty]
        obtain ⟨⟨o, vs, a, r⟩, t⟩ := t
        exact ⟨⟨o, vs, hk _ _ (by simpa using h93.symm) a, r⟩, hk _ _ (by simpa using hp.symm) t⟩, by
        simp only [Array.append_empty]
        obtain ⟨o, vs, file, tf, flags, tg, inF, text, tt, op, h1, h2, h3, h4, h5, h6, h7, h8, r⟩ := i
        exact ⟨o, vs, file, tf, flags, tg, inF, text, tt, op, hk _ _ (by simpa using h93.symm) h1, h2, h3, h4, h5, h6, h7, hk _ _ (by simpa using hp.symm) h8, r⟩⟩, fun _ _ _ e => e, id, rfl⟩

theorem Iter.ofWalks {it : Addr} {fp : List Addr} {n : Nat} {P : Nat → Value → Prop} {Sx : Nat → Heap → Prop} {ds : List D} (W : Walks prog w A it fp [it] n P Sx) (hn : ds.length = n)
    (hal : ∀ i h, Sx i h → ∃ o, h.get? it = some o)
    (hlot : ∀ i s target v (Q : Unit → Shared → Prop) (E : Value → Shared → Prop), Sx i s.heap → Q () s → wpAny (model prog w) A (letOwnedTupleGo target (.ref it) v) Q E s) :
    Iter prog w A it [it] [] ds (fun X i s => Sx i s.heap ∧ (∀ b ∈ fp, b ∉ X ∧ b ≠ PT ∧ b ≠ 93 ∧ ∃ o, s.heap.get? b = some o) ∧ ∀ i v d, P i v → ds[i]? = some d → Rd s.heap (it :: X) v d) where
  frame := fun X GX i s s' ⟨st, f, r⟩ k _ => ⟨W.frame i s.heap s'.heap st fun b hb o e => k.heap b o (f b hb).2.1 (f b hb).1 e,
    fun b hb => let ⟨h1, h2, h3, o, e⟩ := f b hb; ⟨h1, h2, h3, o, k.heap b o h2 h1 e⟩,
    fun i v d hp hd => (r i v d hp hd).mono fun b o h1 h2 e => ⟨h1, k.heap b o h2 (fun q => h1 (.tail _ q)) e⟩⟩
  ext := fun X X' i s ⟨st, f, r⟩ ha => by
    refine ⟨st, fun b hb => ?_, fun i v d hp hd => ?_⟩
    · obtain ⟨h1, h2, h3, o, e⟩ := f b hb
      refine ⟨fun q => ?_, h2, h3, o, e⟩
      rcases ha b q with q | q
      · exact h1 q
      · rw [q] at e; cases e
    · refine (r i v d hp hd).mono fun b o h1 h2 e => ⟨fun q => ?_, e⟩
      rcases List.mem_cons.mp q with rfl | q
      · exact h1 (.head _)
      · rcases ha b q with q | q
        · exact h1 (.tail _ q)
        · rw [q] at e; cases e
  off := fun X i s ⟨st, f, r⟩ b hb => by
    have := f b (W.sub b hb)
    exact ⟨this.1, this.2.2.2⟩
  item := fun X i s Q E d hd ⟨st, f, r⟩ h => by
    have hlt : i < n := by rw [← hn]; exact (List.getElem?_eq_some_iff.mp hd).1
    have fi := f it (W.sub it (.head _))
    refine W.item i s Q E hlt st fun v h' tk hP st' hk => ?_
    have rd : ∀ i v d, P i v → ds[i]? = some d → Rd h' (it :: X) v d := fun i v d hp hd => (r i v d hp hd).mono fun b o h1 h2 e => ⟨h1, hk b o (fun q => h1 (by rw [List.mem_singleton.mp q]; exact .head _)) e⟩
    refine h v _ ⟨st', fun b hb => ?_, rd⟩ (kpx_but fi.2.1 fi.2.2.1 hk) (rd i v d hP hd)
    obtain ⟨h1, h2, h3, o, e⟩ := f b hb
    by_cases q : b = it
    · subst q
      exact ⟨h1, h2, h3, hal _ _ st'⟩
    · exact ⟨h1, h2, h3, o, hk b o (by simpa using q) e⟩
  done := fun X s Q E ⟨st, f, r⟩ h => by
    have fi := f it (W.sub it (.head _))
    exact W.done s Q E (hn ▸ st) fun h' tk hk => h _ (kpx_but fi.2.1 fi.2.2.1 hk)
  self := fun X i s Q E ⟨st, _, _⟩ h => W.self i s Q E st h
  lot := fun X i s t v Q E ⟨st, _, _⟩ h => hlot i s t v Q E st h

variable (prog w H A env M σ) in
/-- an iterable expression, made an iterator -/
def ItT (e : Expr) (ds : List D) : Prop :=
  ∀ (s : Shared) (Q : Value → Shared → Prop) (E : Value → Shared → Prop), StE H env M σ s →
    (∀ it wr gx I s', Kp s s' → Iter prog w A it wr gx ds I → I M 0 s' → (∀ b ∈ wr, s.heap.get? b = none) → (∀ g ∈ gx, s.gens[g]? = none) → Q (.ref it) s') →
    wpAny (model prog w) A (eval e env) (fun x s₁ => wpAny (model prog w) A (pyIter x) Q E s₁) E s

/-- data that holds no address -/
def D.flat : D → Bool
  | .none => true
  | .bool _ => true
  | .int _ => true
  | .str _ => true
  | _ => false
theorem Rd.flat {h h' : Heap} {M M' : List Addr} {v : Value} {d : D} (hf : d.flat = true) (x : Rd h M v d) : Rd h' M' v d := by
  cases d <;> first | (unfold Rd at x ⊢; exact x) | (cases hf)
variable (prog w H A env M σ) in
/-- the same, where fewer addresses are foreign and the items are flat -/
def ItG (e : Expr) (ds : List D) : Prop :=
  ∀ (s : Shared) (Q : Value → Shared → Prop) (E : Value → Shared → Prop), StE H env M σ s →
    (∀ it wr gx I s' M₀, Kp s s' → Iter prog w A it wr gx ds I → (M₀ = M ∨ ((∀ b ∈ M₀, b ∈ M) ∧ ∀ d ∈ ds, d.flat = true)) → I M₀ 0 s' → (∀ b ∈ wr, s.heap.get? b = none) → (∀ g ∈ gx, s.gens[g]? = none) → Q (.ref it) s') →
    wpAny (model prog w) A (eval e env) (fun x s₁ => wpAny (model prog w) A (pyIter x) Q E s₁) E s
theorem ItT.g {e : Expr} {ds : List D} (h : ItT prog w H A env M σ e ds) : ItG prog w H A env M σ e ds := fun s Q E S k => h s Q E S fun it wr gx I s' k1 W hI a b => k it wr gx I s' M k1 W (.inl rfl) hI a b

theorem size_none (s : Shared) : s.heap.get? s.heap.objs.size = none := by
  cases e : s.heap.get? s.heap.objs.size with
  | none => rfl
  | some o' => exact absurd (Heap.lt_size e) (Nat.lt_irrefl _)
theorem Kp.none {s s' : Shared} (amb : Amb H s.heap) (k : Kp s s') {a : Addr} (e : s'.heap.get? a = none) : s.heap.get? a = none := by
  cases q : s.heap.get? a with
  | none => rfl
  | some o =>
    by_cases hp : a = PT
    · obtain ⟨ps, t1, t2⟩ := amb.tab
      obtain ⟨m, t3, _⟩ := k.tab ps t1 t2
      rw [hp, t3.2] at e; cases e
    · rw [k.heap a o hp (by simp) q] at e; cases e

/-- an iterator that hands out no tuple of its own -/
theorem lot_of {it : Addr} {o : Obj} {C : String} {s : Shared} {target : Expr} {v : Value} {Q : Unit → Shared → Prop} {E : Value → Shared → Prop} (ho : s.heap.get? it = some o) (hc : o.cls = .type C)
    (hC : (["enumerate", "zip", "dict_itemiterator", "dict_reverseitemiterator", "odict_iterator", "itertools.zip_longest", "itertools.pairwise"] : List String).contains C = false) (h : Q () s) :
    wpAny (model prog w) A (letOwnedTupleGo target (.ref it) v) Q E s := by
  have go : ∀ a : Addr, wpAny (model prog w) A (do
      let o ← load it
      match o.cls, o.data with
      | .type n, .fields vs =>
        if (["enumerate", "zip", "dict_itemiterator", "dict_reverseitemiterator", "odict_iterator", "itertools.zip_longest", "itertools.pairwise"] : List String).contains n && vs[0]? == some (rawInt a) then
          rule "for.unpacks-the-owned-tuple"
          updateField it 0 .none
      | _, _ => pure () : Sem Unit) Q E s := fun a => by
    refine wpAny_bind (wpAny_load ho ?_)
    rw [hc]
    cases o.data <;> first | exact wpAny_pure h | (simp only [hC, Bool.false_and, Bool.false_eq_true, if_false]; exact wpAny_pure h)
  unfold letOwnedTupleGo
  cases target <;> first | exact wpAny_pure h | (cases v <;> first | exact wpAny_pure h | exact go _)
theorem list_iter (hh : A.handled = none) {s : Shared} {a : Addr} {items : Array Value} {ds : List D} (T : Top0 K H) (amb : Amb H s.heap) (hl : s.heap.IsList a items) (hM : a ∉ M) (hp : a ≠ PT) (h93 : a ≠ 93)
    (r : RdL s.heap M items.toList ds) (al : ∀ m ∈ M, ∃ o, s.heap.get? m = some o)
    {Q : Value → Shared → Prop} {E : Value → Shared → Prop} (h : ∀ it wr gx I s', Kp s s' → Iter prog w A it wr gx ds I → I M 0 s' → (∀ b ∈ wr, s.heap.get? b = none) → (∀ g ∈ gx, s.gens[g]? = none) → Q (.ref it) s') :
    wpAny (model prog w) A (pyIter (.ref a)) Q E s := by
  refine wpAny_pyIter_list hl ?_
  have hlt : a < s.heap.objs.size := let ⟨o, e, _⟩ := hl; Heap.lt_size e
  have up : ∀ b o, s.heap.get? b = some o → (s.heap.push { cls := .type "list_iterator", data := .fields #[.ref a, .int 0 0] }).get? b = some o := fun b o e => Heap.get?_push_of_some _ e
  refine h _ [s.heap.objs.size] [] _ _ Kp.push (Iter.ofWalks (Walks.list hh s.heap.objs.size a (Nat.ne_of_lt hlt) items) (by rw [← r.length]; simp) (fun i h st => let ⟨o, e, _⟩ := st.1; ⟨o, e⟩) (fun i s t v Q E st hq => let ⟨o, e, hc, _⟩ := st.1; lot_of e hc (by decide) hq)) ?_ (fun b hb => by rw [List.mem_singleton.mp hb]; exact size_none s) (fun _ h => nomatch h)
  refine ⟨⟨⟨_, Heap.get?_push_size _ rfl, rfl, rfl⟩, hl.push _⟩, fun b hb => ?_, fun i v d hv hd => ?_⟩
  · rcases List.mem_cons.mp hb with rfl | hb
    · refine ⟨fun q => ?_, amb.ne_pt, ne93 T amb.fresh, _, Heap.get?_push_size _ rfl⟩
      obtain ⟨o, e⟩ := al _ q
      exact Nat.lt_irrefl _ (Heap.lt_size e)
    · rw [List.mem_singleton.mp hb]
      obtain ⟨o, e, _⟩ := hl
      exact ⟨hM, hp, h93, o, up _ _ e⟩
  · obtain ⟨v', hv', rr⟩ := r.get hd
    have : v' = v := by
      have hv2 : items[i]? = some v := hv
      rw [← Array.getElem?_toList, hv'] at hv2
      exact Option.some.inj hv2
    subst this
    refine rr.mono fun b o h1 h2 e => ⟨fun q => ?_, up b o e⟩
    rcases List.mem_cons.mp q with rfl | q
    · exact Nat.lt_irrefl _ (Heap.lt_size e)
    · exact h1 q

theorem tuple_iter (hh : A.handled = none) {s : Shared} {a : Addr} {items : Array Value} {ds : List D} (T : Top0 K H) (amb : Amb H s.heap) (hl : s.heap.IsTuple a items) (hM : a ∉ M) (hp : a ≠ PT) (h93 : a ≠ 93)
    (r : RdL s.heap M items.toList ds) (al : ∀ m ∈ M, ∃ o, s.heap.get? m = some o)
    {Q : Value → Shared → Prop} {E : Value → Shared → Prop} (h : ∀ it wr gx I s', Kp s s' → Iter prog w A it wr gx ds I → I M 0 s' → (∀ b ∈ wr, s.heap.get? b = none) → (∀ g ∈ gx, s.gens[g]? = none) → Q (.ref it) s') :
    wpAny (model prog w) A (pyIter (.ref a)) Q E s := by
  refine wpAny_pyIter_tuple hl ?_
  have hlt : a < s.heap.objs.size := let ⟨o, e, _⟩ := hl; Heap.lt_size e
  have up : ∀ b o, s.heap.get? b = some o → (s.heap.push { cls := .type "tuple_iterator", data := .fields #[.ref a, .int 0 0] }).get? b = some o := fun b o e => Heap.get?_push_of_some _ e
  refine h _ [s.heap.objs.size] [] _ _ Kp.push (Iter.ofWalks (Walks.tuple hh s.heap.objs.size a (Nat.ne_of_lt hlt) items) (by rw [← r.length]; simp) (fun i h st => let ⟨o, e, _⟩ := st.1; ⟨o, e⟩) (fun i s t v Q E st hq => let ⟨o, e, hc, _⟩ := st.1; lot_of e hc (by decide) hq)) ?_ (fun b hb => by rw [List.mem_singleton.mp hb]; exact size_none s) (fun _ h => nomatch h)
  refine ⟨⟨⟨_, Heap.get?_push_size _ rfl, rfl, rfl⟩, let ⟨o, e, r⟩ := hl; ⟨o, up _ _ e, r⟩⟩, fun b hb => ?_, fun i v d hv hd => ?_⟩
  · rcases List.mem_cons.mp hb with rfl | hb
    · refine ⟨fun q => ?_, amb.ne_pt, ne93 T amb.fresh, _, Heap.get?_push_size _ rfl⟩
      obtain ⟨o, e⟩ := al _ q
      exact Nat.lt_irrefl _ (Heap.lt_size e)
    · rw [List.mem_singleton.mp hb]
      obtain ⟨o, e, _⟩ := hl
      exact ⟨hM, hp, h93, o, up _ _ e⟩
  · obtain ⟨v', hv', rr⟩ := r.get hd
    have : v' = v := by
      have hv2 : items[i]? = some v := hv
      rw [← Array.getElem?_toList, hv'] at hv2
      exact Option.some.inj hv2
    subst this
    refine rr.mono fun b o h1 h2 e => ⟨fun q => ?_, up b o e⟩
    rcases List.mem_cons.mp q with rfl | q
    · exact Nat.lt_irrefl _ (Heap.lt_size e)
    · exact h1 q
theorem ne93_list (T : Top0 K H) {h : Heap} (amb : Amb H h) {a : Addr} {C : String} (hC : C ≠ "code") {o : Obj} (e : h.get? a = some o) (hc : o.cls = .type C) : a ≠ 93 := by
  rintro rfl
  obtain ⟨ps, ⟨⟨o', vs, e', hc', _⟩, _⟩, _⟩ := amb.tab
  rw [e] at e'
  cases e'
  rw [hc] at hc'
  injection hc' with hc'
  exact hC hc'

theorem it_list (T : Top0 K H) (hh : A.handled = none) {e : Expr} {ds : List D} (h1 : EvT prog w H A env M σ e (.d (.list ds))) : ItT prog w H A env M σ e ds := fun s Q E S h => by
  refine h1 s _ _ S fun v s1 k1 r1 => ?_
  obtain ⟨a, items, rfl, hm, hp, hl, r⟩ := list_of r1
  have S1 := S.kp T k1
  refine list_iter hh T S1.amb hl hm hp (let ⟨o, e, hc, _⟩ := hl; ne93_list T S1.amb (by decide) e hc) r S1.alive fun it wr gx I s' k W hI hf hg => ?_
  exact h it wr gx I s' (k1.trans k) W hI (fun b hb => Kp.none S.amb k1 (hf b hb)) fun g hg' => by
    cases q : s.gens[g]? with
    | none => rfl
    | some x => have := k1.gens g x (by simp) q; rw [hg g hg'] at this; cases this
theorem it_tuple (T : Top0 K H) (hh : A.handled = none) {e : Expr} {ds : List D} (h1 : EvT prog w H A env M σ e (.d (.tup ds))) : ItT prog w H A env M σ e ds := fun s Q E S h => by
  refine h1 s _ _ S fun v s1 k1 r1 => ?_
  obtain ⟨a, items, rfl, hm, hp, hl, r⟩ := tup_of r1
  have S1 := S.kp T k1
  refine tuple_iter hh T S1.amb hl hm hp (let ⟨o, e, hc, _⟩ := hl; ne93_list T S1.amb (by decide) e hc) r S1.alive fun it wr gx I s' k W hI hf hg => ?_
  exact h it wr gx I s' (k1.trans k) W hI (fun b hb => Kp.none S.amb k1 (hf b hb)) fun g hg' => by
    cases q : s.gens[g]? with
    | none => rfl
    | some x => have := k1.gens g x (by simp) q; rw [hg g hg'] at this; cases this
end
end Mine

namespace Mine
open PySem PySem.W PyProof.Rows PySem.Calls PySem.Spec

section
variable {prog : Program} {w : World} {K : Frag} {H : Heap} {A : Around} {env : Env} {M : List Addr} {σ : Vars}

theorem range_iter (hh : A.handled = none) {s : Shared} {r : Addr} {a b c : Int} {t u v : Tok} {n : Nat} (T : Top0 K H) (amb : Amb H s.heap) (hr : IsRange s.heap r a b c t u v) (hs : Builtin.Range.small a b c = true) (hn : Builtin.Range.rangeSize a b c = n)
    (al : ∀ m ∈ M, ∃ o, s.heap.get? m = some o)
    {Q : Value → Shared → Prop} {E : Value → Shared → Prop} (h : ∀ it wr gx I s', Kp s s' → Iter prog w A it wr gx ((List.range n).map fun i => D.int (a + (i : Nat) * c)) I → I M 0 s' → (∀ b ∈ wr, s.heap.get? b = none) → (∀ g ∈ gx, s.gens[g]? = none) → Q (.ref it) s') :
    wpAny (model prog w) A (pyIter (.ref r)) Q E s := by
  refine wpAny_pyIter_range hr hs ?_
  refine h _ [s.heap.objs.size] [] _ _ Kp.push (Iter.ofWalks (Walks.range hh s.heap.objs.size a c n) (by simp) (fun i h st => ⟨_, st⟩) (fun i s t v Q E st hq => lot_of st rfl (by decide) hq)) ?_ (fun b hb => by rw [List.mem_singleton.mp hb]; exact size_none s) (fun _ h => nomatch h)
  refine ⟨?_, fun b hb => ?_, fun i v d hv hd => ?_⟩
  · show IsRangeIter _ _ _ _ _
    rw [hn]
    have : a + ((0 : Nat) : Int) * c = a := by simp
    rw [this]
    simpa using Heap.get?_push_size _ rfl
  · rw [List.mem_singleton.mp hb]
    refine ⟨fun q => ?_, amb.ne_pt, ne93 T amb.fresh, _, Heap.get?_push_size _ rfl⟩
    obtain ⟨o, e⟩ := al _ q
    exact Nat.lt_irrefl _ (Heap.lt_size e)
  · obtain ⟨t', rfl⟩ := hv
    rw [List.getElem?_map] at hd
    obtain ⟨j, hj, rfl⟩ := Option.map_eq_some_iff.mp hd
    have : j = i := by
      have := List.getElem?_eq_some_iff.mp hj
      obtain ⟨h1, h2⟩ := this
      rw [← h2]; simp
    subst this
    unfold Rd
    exact ⟨t', rfl⟩

theorem gens_none {s s1 : Shared} (k1 : Kp s s1) {g : Nat} (h : s1.gens[g]? = none) : s.gens[g]? = none := by
  cases q : s.gens[g]? with
  | none => rfl
  | some x => have := k1.gens g x (by simp) q; rw [h] at this; cases this

theorem it_range1 (T : Top0 K H) (hh : A.handled = none) {e : Expr} {np pos : Pos} {n : Int} (hf : FnT prog w H A env M σ "range" (.type "range")) (h1 : EvT prog w H A env M σ e (.d (.int n))) (h0 : -(2 ^ 60) ≤ n) (hn : n < 2 ^ 60)
    (he : starEach [e] env = (false, eval e env) :: starEach [] env := by rfl) : ItT prog w H A env M σ (.Call (.Name "range" np) [e] [] pos) ((List.range n.toNat).map fun i => D.int (i : Nat)) := fun s Q E S h => by
  refine wpAny_Call_ofName (hf s np _ _ S (call_with T trivial S (evs_cons T h1 evs_nil he) (by rw [he]; rfl) fun vs s1 k1 r1 => ?_))
  have S1 := S.kp T k1
  unfold RdAL at r1
  obtain ⟨v, r', rfl, x, y⟩ := r1
  unfold RdAL at y
  subst y
  obtain ⟨t, rfl⟩ := int_of x
  refine call_range_1 ?_
  have k2 : Kp s1 { s1 with heap := s1.heap.push { cls := .type "range", data := .fields #[.int 0 s1.toks, .int n t, .int 1 (s1.toks + 1)] }, toks := s1.toks + 1 + 1 } := Kp.push
  refine range_iter (n := n.toNat) hh T (S1.amb.kp k2) (IsRange.new _ _ _ _ _ _ _) (small_one (by decide) (by decide) (by omega) (by omega)) (by rw [rangeSize_nat]; simp) (S1.kp T k2).alive fun it wr gx I s' k W hI hfr hg => ?_
  have e : ((List.range n.toNat).map fun i => D.int (0 + (i : Nat) * 1)) = (List.range n.toNat).map fun i => D.int (i : Nat) := by simp
  rw [e] at W
  exact h it wr gx I s' ((k1.trans k2).trans k) W hI (fun b hb => Kp.none S.amb (k1.trans k2) (hfr b hb)) fun g hg' => gens_none (k1.trans k2) (hg g hg')

theorem it_range2 (T : Top0 K H) (hh : A.handled = none) {e1 e2 : Expr} {np pos : Pos} {a b : Int} (hf : FnT prog w H A env M σ "range" (.type "range")) (h1 : EvT prog w H A env M σ e1 (.d (.int a))) (h2 : EvT prog w H A env M σ e2 (.d (.int b))) (ha : -(2 ^ 60) ≤ a ∧ a < 2 ^ 60) (hb : -(2 ^ 60) ≤ b ∧ b < 2 ^ 60)
    (he1 : starEach [e1, e2] env = (false, eval e1 env) :: starEach [e2] env := by rfl) (he2 : starEach [e2] env = (false, eval e2 env) :: starEach [] env := by rfl) : ItT prog w H A env M σ (.Call (.Name "range" np) [e1, e2] [] pos) ((List.range (b - a).toNat).map fun i => D.int (a + (i : Nat))) := fun s Q E S h => by
  refine wpAny_Call_ofName (hf s np _ _ S (call_with T trivial S (evs_cons T h1 (evs_cons T h2 evs_nil he2) he1) (by rw [he1, he2]; rfl) fun vs s1 k1 r1 => ?_))
  have S1 := S.kp T k1
  unfold RdAL at r1
  obtain ⟨v, r', rfl, x, y⟩ := r1
  unfold RdAL at y
  obtain ⟨v', r'', rfl, x', y⟩ := y
  unfold RdAL at y
  subst y
  obtain ⟨t, rfl⟩ := int_of x
  obtain ⟨t', rfl⟩ := int_of x'
  refine call_range_2 ?_
  have k2 : Kp s1 { s1 with heap := s1.heap.push { cls := .type "range", data := .fields #[.int a t, .int b t', .int 1 s1.toks] }, toks := s1.toks + 1 } := Kp.push
  refine range_iter (n := (b - a).toNat) hh T (S1.amb.kp k2) (IsRange.new _ _ _ _ _ _ _) (small_one (by omega) (by omega) (by omega) (by omega)) (rangeSize_nat a b) (S1.kp T k2).alive fun it wr gx I s' k W hI hfr hg => ?_
  have e : ((List.range (b - a).toNat).map fun i => D.int (a + (i : Nat) * 1)) = (List.range (b - a).toNat).map fun i => D.int (a + (i : Nat)) := by simp
  rw [e] at W
  exact h it wr gx I s' ((k1.trans k2).trans k) W hI (fun b hb => Kp.none S.amb (k1.trans k2) (hfr b hb)) fun g hg' => gens_none (k1.trans k2) (hg g hg')

theorem it_range3 (T : Top0 K H) (hh : A.handled = none) {e1 e2 e3 : Expr} {np pos : Pos} {a b c : Int} {n : Nat} (hf : FnT prog w H A env M σ "range" (.type "range")) (h1 : EvT prog w H A env M σ e1 (.d (.int a))) (h2 : EvT prog w H A env M σ e2 (.d (.int b))) (h3 : EvT prog w H A env M σ e3 (.d (.int c)))
    (hc : c ≠ 0) (hp : Builtin.divisionGoesByPylong (b - a) c = false) (hs : Builtin.Range.small a b c = true) (hn : Builtin.Range.rangeSize a b c = n)
    (he1 : starEach [e1, e2, e3] env = (false, eval e1 env) :: starEach [e2, e3] env := by rfl) (he2 : starEach [e2, e3] env = (false, eval e2 env) :: starEach [e3] env := by rfl) (he3 : starEach [e3] env = (false, eval e3 env) :: starEach [] env := by rfl) :
    ItT prog w H A env M σ (.Call (.Name "range" np) [e1, e2, e3] [] pos) ((List.range n).map fun i => D.int (a + (i : Nat) * c)) := fun s Q E S h => by
  refine wpAny_Call_ofName (hf s np _ _ S (call_with T trivial S (evs_cons T h1 (evs_cons T h2 (evs_cons T h3 evs_nil he3) he2) he1) (by rw [he1, he2, he3]; rfl) fun vs s1 k1 r1 => ?_))
  have S1 := S.kp T k1
  unfold RdAL at r1
  obtain ⟨v, r', rfl, x, y⟩ := r1
  unfold RdAL at y
  obtain ⟨v', r'', rfl, x', y⟩ := y
  unfold RdAL at y
  obtain ⟨v'', r''', rfl, x'', y⟩ := y
  unfold RdAL at y
  subst y
  obtain ⟨t, rfl⟩ := int_of x
  obtain ⟨t', rfl⟩ := int_of x'
  obtain ⟨t'', rfl⟩ := int_of x''
  refine call_range_3 hc ?_ (.inl hp)
  have k2 : Kp s1 { s1 with heap := s1.heap.push { cls := .type "range", data := .fields #[.int a t, .int b t', .int c t''] } } := Kp.push
  refine range_iter (n := n) hh T (S1.amb.kp k2) (IsRange.new _ _ _ _ _ _ _) hs hn (S1.kp T k2).alive fun it wr gx I s' k W hI hfr hg => ?_
  exact h it wr gx I s' ((k1.trans k2).trans k) W hI (fun b hb => Kp.none S.amb (k1.trans k2) (hfr b hb)) fun g hg' => gens_none (k1.trans k2) (hg g hg')

theorem str_iter (hh : A.handled = none) {s : Shared} {x : Str} {t : Tok} (T : Top0 K H) (amb : Amb H s.heap) (al : ∀ m ∈ M, ∃ o, s.heap.get? m = some o)
    {Q : Value → Shared → Prop} {E : Value → Shared → Prop} (h : ∀ it wr gx I s', Kp s s' → Iter prog w A it wr gx (x.cps.toList.map fun c => D.str ⟨#[c]⟩) I → I M 0 s' → (∀ b ∈ wr, s.heap.get? b = none) → (∀ g ∈ gx, s.gens[g]? = none) → Q (.ref it) s') :
    wpAny (model prog w) A (pyIter (.str x t)) Q E s := by
  have rd : ∀ (X : List Addr) (hp : Heap) (i : Nat) (v : Value) (d : D), SignAt x i v → (x.cps.toList.map fun c => D.str ⟨#[c]⟩)[i]? = some d → Rd hp X v d := fun X hp i v d hv hd => by
    obtain ⟨c, u, hc, rfl⟩ := hv
    rw [List.getElem?_map, Array.getElem?_toList, hc] at hd
    cases hd
    unfold Rd
    exact ⟨u, rfl⟩
  have fpo : ∀ (o : Obj), o.isFreed = false → ∀ b ∈ [s.heap.objs.size], b ∉ M ∧ b ≠ PT ∧ b ≠ 93 ∧ ∃ o', (s.heap.push o).get? b = some o' := fun o ho b hb => by
    rw [List.mem_singleton.mp hb]
    refine ⟨fun q => ?_, amb.ne_pt, ne93 T amb.fresh, _, Heap.get?_push_size _ ho⟩
    obtain ⟨o, e⟩ := al _ q
    exact Nat.lt_irrefl _ (Heap.lt_size e)
  cases ha : x.cps.all (· < 128)
  · refine wpAny_pyIter_wide ha ?_
    refine h _ [s.heap.objs.size] [] _ _ Kp.push (Iter.ofWalks (Walks.strWide hh s.heap.objs.size x t) (by simp) (fun i h st => let ⟨o, e, _⟩ := st; ⟨o, e⟩) (fun i s t v Q E st hq => let ⟨o, e, hc, _⟩ := st; lot_of e hc (by decide) hq)) ?_ (fun b hb => by rw [List.mem_singleton.mp hb]; exact size_none s) (fun _ h => nomatch h)
    exact ⟨⟨_, Heap.get?_push_size _ rfl, rfl, rfl⟩, fpo _ rfl, fun i v d hv hd => rd _ _ i v d hv hd⟩
  · refine wpAny_pyIter_ascii ha ?_
    refine h _ [s.heap.objs.size] [] _ _ Kp.push (Iter.ofWalks (Walks.strAscii hh s.heap.objs.size x t) (by simp) (fun i h st => let ⟨o, e, _⟩ := st; ⟨o, e⟩) (fun i s t v Q E st hq => let ⟨o, e, hc, _⟩ := st; lot_of e hc (by decide) hq)) ?_ (fun b hb => by rw [List.mem_singleton.mp hb]; exact size_none s) (fun _ h => nomatch h)
    exact ⟨⟨_, Heap.get?_push_size _ rfl, rfl, rfl⟩, fpo _ rfl, fun i v d hv hd => rd _ _ i v d hv hd⟩
theorem it_str (T : Top0 K H) (hh : A.handled = none) {e : Expr} {x : Str} (h1 : EvT prog w H A env M σ e (.d (.str x))) : ItT prog w H A env M σ e (x.cps.toList.map fun c => D.str ⟨#[c]⟩) := fun s Q E S h => by
  refine h1 s _ _ S fun v s1 k1 r1 => ?_
  obtain ⟨t, rfl⟩ := str_of r1
  have S1 := S.kp T k1
  refine str_iter hh T S1.amb S1.alive fun it wr gx I s' k W hI hf hg => ?_
  exact h it wr gx I s' (k1.trans k) W hI (fun b hb => Kp.none S.amb k1 (hf b hb)) fun g hg' => gens_none k1 (hg g hg')
theorem it_own (T : Top0 K H) (hh : A.handled = none) {e : Expr} {a : Addr} {ds : List D} (h1 : EvT prog w H A env M σ e (.own a (ds.map .d))) (hm : True) :
    ∀ (s : Shared) (Q : Value → Shared → Prop) (E : Value → Shared → Prop), StE H env M σ s →
    (∀ it wr gx I s', Kp s s' → Iter prog w A it wr gx ds I → (∀ X, (∀ b ∈ X, b ∈ M ∧ b ≠ a) → I X 0 s') → (∀ b ∈ wr, s.heap.get? b = none) → (∀ g ∈ gx, s.gens[g]? = none) → Q (.ref it) s') →
    wpAny (model prog w) A (eval e env) (fun x s₁ => wpAny (model prog w) A (pyIter x) Q E s₁) E s := fun s Q E S h => by
  refine h1 s _ _ S fun v s1 k1 r1 => ?_
  obtain ⟨rfl, hmem, items, hpl, r⟩ := own_of r1
  have S1 := S.kp T k1
  have hl := hpl.isList
  refine wpAny_pyIter_list hl ?_
  have hlt : a < s1.heap.objs.size := let ⟨o, e, _⟩ := hl; Heap.lt_size e
  have hap := S1.ne_pt T hmem
  have ha93 := ne93 T (S1.fresh a hmem)
  have up : ∀ b o, s1.heap.get? b = some o → (s1.heap.push { cls := .type "list_iterator", data := .fields #[.ref a, .int 0 0] }).get? b = some o := fun b o e => Heap.get?_push_of_some _ e
  have rD := r.toD
  refine h _ [s1.heap.objs.size] [] _ _ (k1.trans Kp.push) (Iter.ofWalks (Walks.list hh s1.heap.objs.size a (Nat.ne_of_lt hlt) items) (by rw [← rD.length]; simp) (fun i h st => let ⟨o, e, _⟩ := st.1; ⟨o, e⟩) (fun i s t v Q E st hq => let ⟨o, e, hc, _⟩ := st.1; lot_of e hc (by decide) hq)) (fun X hX => ?_) (fun b hb => by rw [List.mem_singleton.mp hb]; exact Kp.none S.amb k1 (size_none s1)) (fun _ h => nomatch h)
  refine ⟨⟨⟨_, Heap.get?_push_size _ rfl, rfl, rfl⟩, hl.push _⟩, fun b hb => ?_, fun i v d hv hd => ?_⟩
  · rcases List.mem_cons.mp hb with rfl | hb
    · refine ⟨fun q => ?_, S1.amb.ne_pt, ne93 T S1.amb.fresh, _, Heap.get?_push_size _ rfl⟩
      exact S1.size_notin (hX _ q).1
    · rw [List.mem_singleton.mp hb]
      obtain ⟨o, e, _⟩ := hl
      exact ⟨fun q => (hX _ q).2 rfl, hap, ha93, o, up _ _ e⟩
  · obtain ⟨v', hv', rr⟩ := rD.get hd
    have : v' = v := by
      have hv2 : items[i]? = some v := hv
      rw [← Array.getElem?_toList, hv'] at hv2
      exact Option.some.inj hv2
    subst this
    refine rr.mono fun b o h1 h2 e => ⟨fun q => ?_, up b o e⟩
    rcases List.mem_cons.mp q with rfl | q
    · exact Nat.lt_irrefl _ (Heap.lt_size e)
    · exact h1 (hX _ q).1
end
end Mine

namespace Mine
open PySem PySem.W PyProof.Rows PySem.Calls PySem.Spec

section
variable {prog : Program} {w : World} {K : Frag} {H : Heap} {A : Around} {env : Env} {Mc Mw : List Addr} {σ : Vars} {B : Shared} {s s' : Shared}

/-- what was hidden and is written for the last time -/
theorem St.drop (T : Top0 K H) {wr : List Addr} {gx : List Nat} (S : St H B (wr ++ Mc) env Mw σ s) (k : KpX wr gx s s') (hB : ∀ b ∈ wr, B.heap.get? b = none) (hG : ∀ g ∈ gx, B.gens[g]? = none) (hW : ∀ b ∈ wr, b ∉ Mw ++ Mc)
    (hc : ∀ x c, env.cells.lookup x = some c → c ∈ Mw ++ Mc) : St H B Mc env Mw σ s' := by
  have hp : ∀ m ∈ Mw ++ (wr ++ Mc), m ≠ PT := fun m hm => S.e.ne_pt T hm
  have sub : ∀ b ∈ Mw ++ Mc, b ∈ Mw ++ (wr ++ Mc) := fun b hb => (List.mem_append.mp hb).elim (fun q => List.mem_append.mpr (.inl q)) fun q => List.mem_append.mpr (.inr (List.mem_append.mpr (.inr q)))
  have nw : ∀ b ∈ Mw ++ Mc, b ∉ wr := fun b hb q => hW b q hb
  have wsub : ∀ b ∈ wr, b ∈ Mw ++ (wr ++ Mc) := fun b hb => List.mem_append.mpr (.inr (List.mem_append.mpr (.inl hb)))
  have lW : env.locals ∈ Mw ++ Mc := List.mem_append.mpr (.inl S.locW)
  exact {
    e := {
      amb := S.e.amb.kpx k fun b hb => S.e.fresh b (wsub b hb)
      alive := fun m hm => let ⟨o, e⟩ := S.e.alive m (sub m hm); ⟨o, k.heap m o (hp m (sub m hm)) (nw m hm) e⟩
      fresh := fun m hm => S.e.fresh m (sub m hm)
      locM := lW, cellM := hc, kind := S.e.kind, glob := S.e.glob, blt := S.e.blt
      vars := fun x av e => by
        obtain ⟨v, l, r⟩ := S.e.vars x av e
        refine ⟨v, ?_, r.mono (fun b o h1 h2 e => ⟨fun q => h1 (sub b q), k.heap b o h2 (fun q => h1 (wsub b q)) e⟩) fun b hb => ?_⟩
        · rcases l with ⟨e1, m0, n0, y0⟩ | ⟨e1, c, lc, o, g, d⟩
          · exact .inl ⟨e1, _, nsKpx n0 k (hp _ (sub _ lW)) (nw _ lW), y0⟩
          · exact .inr ⟨e1, c, lc, o, k.heap c o (hp _ (sub _ (hc x c lc))) (nw _ (hc x c lc)) g, d⟩
        · have hm : b ∈ Mw ++ Mc := List.mem_append.mpr (.inl (S.ownW x av e b hb).1)
          exact ⟨hm, fun o e' => k.heap b o (hp b (sub b hm)) (nw b hm) e'⟩ }
    base := ⟨fun b o h1 h2 e => k.heap b o h1 (fun q => by rw [hB b q] at e; cases e) (S.base.heap b o h1 h2 e), (S.base.to.trans k : KpX wr gx B s').tab,
      fun i x h e => k.gens i x (fun q => by rw [hG i q] at e; cases e) (S.base.gens i x h e), fun b => k.bare (S.base.bare b), k.os.trans S.base.os⟩
    off := S.off, locW := S.locW, cellW := S.cellW, cellN := S.cellN, locC := S.locC
    ns := let ⟨m, n⟩ := S.ns; ⟨m, nsKpx n k (hp _ (sub _ lW)) (nw _ lW)⟩
    cells := fun x c e => let ⟨v, o, g, r⟩ := S.cells x c e; ⟨v, o, k.heap c o (hp _ (sub _ (hc x c e))) (nw _ (hc x c e)) g, r⟩
    sep := S.sep
    ownW := fun x av e a ha => ⟨(S.ownW x av e a ha).1, fun q => (S.ownW x av e a ha).2 (List.mem_append.mpr (.inr q))⟩ }

variable (prog w H A) in
def AsgT (B : Shared) (env : Env) (Mc Mw : List Addr) (target : Expr) (d : D) (σ σ' : Vars) : Prop :=
  ∀ (s : Shared) (v : Value) (Q : Unit → Shared → Prop) (E : Value → Shared → Prop), St H B Mc env Mw σ s → Rd s.heap (Mw ++ Mc) v d → (∀ s', St H B Mc env Mw σ' s' → KpX Mw [] s s' → Q () s') → wpAny (model prog w) A (assign target env v) Q E s
theorem asg_name (T : Top0 K H) {x : Str} {p : Pos} {d : D} (hk : BindOk env x) : AsgT prog w H A B env Mc Mw (.Name x p) d σ (upd σ x (.d d)) := fun s v Q E S r h =>
  wpAny_assign_Name (store_d T S hk (rda_d.mpr r) h)

def nameOf (e : Expr) : Option Str := match e with | .Name x _ => some x | _ => none
theorem nameOf_eq {e : Expr} {x : Str} (h : nameOf e = some x) : ∃ p, e = .Name x p := by
  unfold nameOf at h
  split at h
  · cases h; exact ⟨_, rfl⟩
  · cases h
theorem assign_order (T : Top0 K H) (xds : List (Str × D)) : ∀ (es : List Expr) (vs : List Value) (σ : Vars) (s : Shared) (Q : Unit → Shared → Prop) (E : Value → Shared → Prop), es.map nameOf = xds.map (fun p => some p.1) → (∀ p ∈ xds, BindOk env p.1) → St H B Mc env Mw σ s → RdL s.heap (Mw ++ Mc) vs (xds.map (·.2)) →
    (∀ s', St H B Mc env Mw (xds.foldl (fun σ p => upd σ p.1 (.d p.2)) σ) s' → KpX Mw [] s s' → Q () s') → wpAny (model prog w) A (assignInOrder ((assignEach es env).map (·.2)) vs) Q E s := by
  induction xds with
  | nil =>
    intro es vs σ s Q E hn hb S r h
    cases es with
    | nil => exact assignInOrder_nil (h s S (KpX.refl _))
    | cons e es => simp at hn
  | cons p l ih =>
    intro es vs σ s Q E hn hb S r h
    obtain ⟨y, d⟩ := p
    cases es with
    | nil => simp at hn
    | cons e es =>
      rw [List.map_cons, List.map_cons] at hn
      injection hn with h1 h2
      obtain ⟨p, rfl⟩ := nameOf_eq h1
      rw [List.map_cons] at r
      unfold RdL at r
      obtain ⟨v, vr, rfl, a, b⟩ := r
      have e1 : assignEach (.Name y p :: es) env = (false, assign (.Name y p) env) :: assignEach es env := by rw [assignEach]; intros; contradiction
      rw [e1, List.map_cons]
      refine assignInOrder_cons (wpAny_assign_Name (store_d T S (hb _ (.head _)) (rda_d.mpr a) fun s1 S1 k1 => ?_))
      refine ih es vr _ s1 Q E h2 (fun p hp => hb p (.tail _ hp)) S1 ?_ fun s2 S2 k2 => h s2 S2 (k1.trans k2)
      exact b.mono fun c o h1 h2 e => ⟨h1, k1.heap c o h2 (fun q => h1 (List.mem_append.mpr (.inl q))) e⟩

theorem asg_tup (T : Top0 K H) (hh : A.handled = none) {es : List Expr} {k : Nat} {p : Pos} {xds : List (Str × D)} (hn : es.map nameOf = xds.map (fun p => some p.1)) (hb : ∀ p ∈ xds, BindOk env p.1) (hf : (assignEach es env).findIdx? (·.1) = none) (hl : (assignEach es env).length = xds.length) :
    AsgT prog w H A B env Mc Mw (.Tuple es k p) (.tup (xds.map (·.2))) σ (xds.foldl (fun σ p => upd σ p.1 (.d p.2)) σ) := fun s v Q E S r h => by
  unfold Rd at r
  obtain ⟨a, items, rfl, hm, hp, ht, rl⟩ := r
  refine wpAny_assign_Tuple hh ht (by rw [hl]; have := rl.length; simp at this; omega) hf fun h' hx => ?_
  have kp : Kp s { s with heap := h' } := Kp.of (tk := s.toks) fun b o e => hx b o (Nat.ne_of_lt (Heap.lt_size e)) e
  exact assign_order T xds es _ σ _ Q E hn hb (S.kp T kp) (rl.kp kp) fun s2 S2 k2 => h s2 S2 (kp.to.trans k2)

/-- the base of one turn: all that stands but what the frame writes -/
abbrev turnB (Mw : List Addr) (s : Shared) : Shared := { s with heap := hideAll s.heap Mw }
theorem turn_kp (Mw : List Addr) (s : Shared) : Kp (turnB Mw s) s := by
  have g : ∀ b o, (hideAll s.heap Mw).get? b = some o → s.heap.get? b = some o := fun b o e => of_hideAll _ e
  exact ⟨fun b o _ _ e => g b o e, fun ps t i => ⟨#[], by simpa using t.keeps g, by simpa using i.keeps g⟩, fun _ _ _ e => e, id, rfl⟩
theorem kp_base_none {B s : Shared} (amb : Amb H s.heap) (k : Kp B s) {a : Addr} (e : s.heap.get? a = none) : B.heap.get? a = none := by
  cases q : B.heap.get? a with
  | none => rfl
  | some o =>
    by_cases hp : a = PT
    · obtain ⟨ps, t, _⟩ := amb.tab
      rw [hp, t.2] at e; cases e
    · have := k.heap a o hp (by simp) q
      rw [e] at this; cases this
theorem turn_back (T : Top0 K H) {σ' : Vars} {Mc' Mw' : List Addr} (S : St H B Mc env Mw σ s) (S' : St H (turnB Mw s) Mc' env Mw' σ' s') : KpX Mw [] s s' ∧ St H B Mc' env Mw' σ' s' ∧ ∀ b ∈ Mw', b ∈ Mw ∨ s.heap.get? b = none := by
  have up : ∀ b o, b ∉ Mw → s.heap.get? b = some o → (turnB Mw s).heap.get? b = some o := fun b o hb e => hideAll_get _ e hb
  have hpt : PT ∉ Mw := fun q => S.e.ne_pt T (List.mem_append.mpr (.inl q)) rfl
  have h93 : (93 : Addr) ∉ Mw := fun q => ne93 T (S.e.fresh _ (List.mem_append.mpr (.inl q))) rfl
  have k : KpX Mw [] s s' := ⟨fun b o h1 h2 e => S'.base.heap b o h1 (by simp) (up b o h2 e), fun ps t i => by
      refine S'.base.tab ps ?_ ?_
      · obtain ⟨⟨o, vs, a, r⟩, t⟩ := t
        exact ⟨⟨o, vs, up _ _ h93 a, r⟩, up _ _ hpt t⟩
      · obtain ⟨o, vs, file, tf, flags, tg, inF, text, tt, op, h1, h2, h3, h4, h5, h6, h7, h8, r⟩ := i
        exact ⟨o, vs, file, tf, flags, tg, inF, text, tt, op, up _ _ h93 h1, h2, h3, h4, h5, h6, h7, up _ _ hpt h8, r⟩, fun i x h e => S'.base.gens i x h e, S'.base.bare, S'.base.os⟩
  have nw : ∀ b ∈ Mw', b ∈ Mw ∨ s.heap.get? b = none := fun b hb => by
    by_cases q : b ∈ Mw
    · exact .inl q
    · right
      cases e : s.heap.get? b with
      | none => rfl
      | some o => have := up b o q e; rw [S'.off b hb] at this; cases this
  refine ⟨k, S'.rebase ⟨fun b o h1 h2 e => k.heap b o h1 (fun q => by rw [S.off b q] at e; cases e) (S.base.heap b o h1 h2 e), (S.base.to.trans k : KpX Mw [] B s').tab,
      fun i x h e => k.gens i x h (S.base.gens i x h e), fun b => k.bare (S.base.bare b), k.os.trans S.base.os⟩ (fun b hb => ?_), nw⟩
  rcases nw b hb with q | q
  · exact S.off b q
  · exact kp_base_none S.e.amb S.base q

/-- something that is iterated; what it writes may grow -/
structure IterG (prog : Program) (w : World) (A : Around) (it : Addr) (gx : List Nat) (ds : List D) (I : List Addr → List Addr → Nat → Shared → Prop) : Prop where
  move : ∀ X X' W GX i s s', I X W i s → KpX X GX s s' → (∀ g ∈ gx, g ∉ GX) → (∀ b ∈ X', b ∈ X ∨ s.heap.get? b = none) → (∀ b ∈ X', ∃ o, s'.heap.get? b = some o) → I X' W i s'
  off : ∀ X W i s, I X W i s → ∀ b ∈ W, b ∉ X ∧ ∃ o, s.heap.get? b = some o
  item : ∀ X W i s (Q : Option Value → Shared → Prop) (E : Value → Shared → Prop) d, ds[i]? = some d → I X W i s → (∀ v s' W', I X W' (i + 1) s' → KpX W gx s s' → (∀ b ∈ W', b ∈ W ∨ s.heap.get? b = none) → Rd s'.heap (W' ++ X) v d → Q (some v) s') → wpAny (model prog w) A (pyNext (.ref it)) Q E s
  done : ∀ X W s (Q : Option Value → Shared → Prop) (E : Value → Shared → Prop), I X W ds.length s → (∀ s', KpX W gx s s' → Q none s') → wpAny (model prog w) A (pyNext (.ref it)) Q E s
  self : ∀ X W i s (Q : Value → Shared → Prop) (E : Value → Shared → Prop), I X W i s → Q (.ref it) s → wpAny (model prog w) A (pyIter (.ref it)) Q E s
  lot : ∀ X W i s target v (Q : Unit → Shared → Prop) (E : Value → Shared → Prop), I X W i s → Q () s → wpAny (model prog w) A (letOwnedTupleGo target (.ref it) v) Q E s
theorem Iter.toG {it : Addr} {wr : List Addr} {gx : List Nat} {ds : List D} {I : List Addr → Nat → Shared → Prop} (W : Iter prog w A it wr gx ds I) : IterG prog w A it gx ds (fun X V i s => V = wr ∧ I X i s) where
  move := fun X X' V GX i s s' ⟨e, h⟩ k g hn al => ⟨e, by
    have h1 := W.ext X (X' ++ X) i s h fun b hb => (List.mem_append.mp hb).elim (hn b) .inl
    have h2 := W.frame (X' ++ X) GX i s s' h1 (k.weak (fun b hb => List.mem_append.mpr (.inr hb)) fun _ q => q) g
    exact W.ext _ X' i s' h2 fun b hb => .inl (List.mem_append.mpr (.inl hb))⟩
  off := fun X V i s ⟨e, h⟩ b hb => W.off X i s h b (e ▸ hb)
  item := fun X V i s Q E d hd ⟨e, h⟩ k => by
    subst e
    exact W.item X i s Q E d hd h fun v s' h' k' r => k v s' _ ⟨rfl, h'⟩ k' (fun b hb => .inl hb) r
  done := fun X V s Q E ⟨e, h⟩ k => by subst e; exact W.done X s Q E h k
  self := fun X V i s Q E ⟨_, h⟩ q => W.self X i s Q E h q
  lot := fun X V i s t v Q E ⟨_, h⟩ q => W.lot X i s t v Q E h q
variable (prog w H A) in
/-- an iterable expression, made an iterator; what it writes may grow -/
def ItW (env : Env) (M : List Addr) (σ : Vars) (e : Expr) (ds : List D) : Prop :=
  ∀ (s : Shared) (Q : Value → Shared → Prop) (E : Value → Shared → Prop), StE H env M σ s →
    (∀ it W gx I s', Kp s s' → IterG prog w A it gx ds I → I M W 0 s' → (∀ b ∈ W, s.heap.get? b = none) → (∀ g ∈ gx, s.gens[g]? = none) → Q (.ref it) s') →
    wpAny (model prog w) A (eval e env) (fun x s₁ => wpAny (model prog w) A (pyIter x) Q E s₁) E s
theorem ItT.toW {M : List Addr} {e : Expr} {ds : List D} (h : ItT prog w H A env M σ e ds) : ItW prog w H A env M σ e ds := fun s Q E S k => h s Q E S fun it wr gx I s' k1 W hI a b => k it wr gx _ s' k1 W.toG ⟨rfl, hI⟩ a b

/-- what was hidden is written, and more is hidden -/
theorem St.grow (T : Top0 K H) {Mc' : List Addr} (S : St H B Mc env Mw σ s) {X : List Addr} {GX : List Nat} (k : KpX X GX s s') (hX : ∀ b ∈ X, b ∈ Mc) (hW : ∀ b ∈ X, b ∉ Mw) (hB : ∀ b ∈ X, B.heap.get? b = none) (hG : ∀ g ∈ GX, B.gens[g]? = none)
    (hc : ∀ x c, env.cells.lookup x = some c → c ∉ X) (hcM : ∀ x c, env.cells.lookup x = some c → c ∈ Mw ++ Mc') (h2 : ∀ b ∈ Mc', b ∈ Mc ∨ s.heap.get? b = none) (hal : ∀ b ∈ Mc', ∃ o, s'.heap.get? b = some o) : St H B Mc' env Mw σ s' := by
  have hL : env.locals ∉ X := fun q => hW _ q S.locW
  have hp : ∀ m ∈ Mw ++ Mc, m ≠ PT := fun m hm => S.e.ne_pt T hm
  have dn : ∀ b ∈ Mw ++ Mc', b ∈ Mw ++ Mc ∨ s.heap.get? b = none := fun b hb => (List.mem_append.mp hb).elim (fun q => .inl (List.mem_append.mpr (.inl q))) fun q => (h2 b q).elim (fun q => .inl (List.mem_append.mpr (.inr q))) .inr
  have hXM : ∀ b ∈ X, b ∈ Mw ++ Mc := fun b hb => List.mem_append.mpr (.inr (hX b hb))
  refine {
    e := {
      amb := S.e.amb.kpx k fun b hb => S.e.fresh b (hXM b hb)
      alive := fun m hm => by
        rcases List.mem_append.mp hm with q | q
        · obtain ⟨o, g⟩ := S.e.alive m (List.mem_append.mpr (.inl q))
          exact ⟨o, k.heap m o (hp m (List.mem_append.mpr (.inl q))) (fun z => hW m z q) g⟩
        · exact hal m q
      fresh := fun m hm => (dn m hm).elim (S.e.fresh m) fun q => S.e.amb.none_of q
      locM := List.mem_append.mpr (.inl S.locW), cellM := hcM, kind := S.e.kind, glob := S.e.glob, blt := S.e.blt
      vars := fun x av e => ?_ }
    base := ⟨fun b o h1 h2 e => k.heap b o h1 (fun q => by rw [hB b q] at e; cases e) (S.base.heap b o h1 h2 e), (S.base.to.trans k : KpX X GX B s').tab,
      fun i x h e => k.gens i x (fun q => by rw [hG i q] at e; cases e) (S.base.gens i x h e), fun b => k.bare (S.base.bare b), k.os.trans S.base.os⟩
    off := S.off, locW := S.locW, cellW := S.cellW, cellN := S.cellN, locC := S.locC
    ns := let ⟨m, n⟩ := S.ns; ⟨m, nsKpx n k (hp _ S.e.locM) hL⟩
    cells := fun x c e => let ⟨v, o, g, r⟩ := S.cells x c e; ⟨v, o, k.heap c o (hp _ (S.e.cellM x c e)) (hc x c e) g, r⟩
    sep := S.sep
    ownW := fun x av e a ha => by
      have z := S.ownW x av e a ha
      refine ⟨z.1, fun q => ?_⟩
      rcases h2 a q with q | q
      · exact z.2 q
      · obtain ⟨o, g⟩ := S.e.alive a (List.mem_append.mpr (.inl z.1)); rw [q] at g; cases g }
  obtain ⟨v, l, r⟩ := S.e.vars x av e
  refine ⟨v, ?_, r.mono (fun b o h1 h2 e => ⟨fun q => ?_, k.heap b o h2 (fun q => h1 (hXM b q)) e⟩) fun b hb => ⟨List.mem_append.mpr (.inl (S.ownW x av e b hb).1), fun o e' => k.heap b o (hp b (r.mem b hb)) (fun q => hW b q (S.ownW x av e b hb).1) e'⟩⟩
  · rcases l with ⟨e1, m0, n0, y0⟩ | ⟨e1, c, lc, o, g, d⟩
    · exact .inl ⟨e1, _, nsKpx n0 k (hp _ S.e.locM) hL, y0⟩
    · exact .inr ⟨e1, c, lc, o, k.heap c o (hp _ (S.e.cellM x c lc)) (hc x c lc) g, d⟩
  · rcases dn b q with q | q
    · exact h1 q
    · rw [q] at e; cases e

variable {rest : List Stmt} {Kk : Flow → Shared → Prop} {E : Value → Shared → Prop}

theorem x_for (T : Top0 K H) (S : St H B Mc env Mw σ s) {target iter : Expr} {body : List Stmt} {pos : Pos} {ds : List D} (J : Nat → Vars → Prop) (Brk : Vars → Prop) (Ret : D → Prop) (bnd : D → Vars → Vars)
    (hfn : env.func.isSome = true)
    (hi : ItW prog w H A env (Mw ++ Mc) σ iter ds) (j0 : J 0 σ)
    (asg : ∀ i d σ B' Mc' Mw, J i σ → ds[i]? = some d → AsgT prog w H A B' env Mc' Mw target d σ (bnd d σ))
    (turn : ∀ i d σ B' Mc' Mw s' Kk' E', J i σ → ds[i]? = some d → St H B' Mc' env Mw (bnd d σ) s' → (∀ b ∈ Mc, b ∈ Mc') → (∀ Mw σ' s'', J (i + 1) σ' → St H B' Mc' env Mw σ' s'' → Kk' .next s'') → (∀ Mw σ' s'', Brk σ' → St H B' Mc' env Mw σ' s'' → Kk' .brk s'') →
      (∀ v r s'', Ret r → Kp B' s'' → Rd s''.heap Mc' v r → Kk' (.ret v) s'') → wpAny (model prog w) A (execs body env) Kk' E' s')
    (after : ∀ Mw σ' s', (J ds.length σ' ∨ Brk σ') → St H B Mc env Mw σ' s' → wpAny (model prog w) A (execs rest env) Kk E s')
    (ret : ∀ v r s', Ret r → Kp B s' → Rd s'.heap Mc v r → Kk (.ret v) s')
    (hs : ∀ x, foldedSetIterable iter env x = pure x := by intro _; rfl) :
    wpAny (model prog w) A (execs (.For target iter body [] pos :: rest) env) Kk E s := by
  refine wpAny_execs_cons (wpAny_For (hi s _ _ S.e fun it wr gx I s1 k1 W hI hwr hgx => ?_) hs)
  have al1 := (W.off _ _ _ _ hI)
  have S1 := S.hide T k1 hwr (fun b hb => (al1 b hb).2)
  have hBw : ∀ b ∈ wr, B.heap.get? b = none := fun b hb => kp_base_none S.e.amb S.base (hwr b hb)
  have hBg : ∀ g ∈ gx, B.gens[g]? = none := fun g hg => gens_none S.base (hgx g hg)
  have hwM : ∀ b ∈ wr, b ∉ Mw ++ Mc := fun b hb q => by
    obtain ⟨o, e⟩ := S.e.alive b q
    rw [hwr b hb] at e; cases e
  refine codeAny_forLoop_any (fun n s' => ∃ i σ' Mw' wr, n = ds.length + 1 - i ∧ i ≤ ds.length ∧ J i σ' ∧ St H B (wr ++ Mc) env Mw' σ' s' ∧ I (Mw' ++ Mc) wr i s' ∧ (∀ b ∈ wr, b ∉ Mw' ++ Mc) ∧ ∀ b ∈ wr, B.heap.get? b = none) ?_ (ds.length + 1) ⟨0, σ, Mw, wr, rfl, Nat.zero_le _, j0, S1, hI, hwM, hBw⟩
  clear hwM hBw S1 hI al1 hwr k1 wr
  rintro n s2 ⟨i, σ', Mw', wr₀, rfl, hle, hj, S2, hI2, hwM₀, hBw₀⟩
  have cM : ∀ x c, env.cells.lookup x = some c → c ∈ Mw' := fun x c e => S2.cellW x c e hfn
  by_cases hlt : i < ds.length
  · obtain ⟨d, hd⟩ : ∃ d, ds[i]? = some d := ⟨_, List.getElem?_eq_getElem hlt⟩
    refine W.item _ _ i s2 _ _ d hd hI2 fun v s3 wr hI3 k3 hg1 rv => ?_
    have al3 := (W.off _ _ _ _ hI3)
    have S3 : St H B (wr ++ Mc) env Mw' σ' s3 := S2.grow T k3 (fun b hb => List.mem_append.mpr (.inl hb)) (fun b hb q => hwM₀ b hb (List.mem_append.mpr (.inl q))) hBw₀ hBg
      (fun x c e q => hwM₀ c q (List.mem_append.mpr (.inl (cM x c e)))) (fun x c e => List.mem_append.mpr (.inl (cM x c e)))
      (fun b hb => (List.mem_append.mp hb).elim (fun q => (hg1 b q).elim (fun q => .inl (List.mem_append.mpr (.inl q))) .inr) fun q => .inl (List.mem_append.mpr (.inr q)))
      (fun b hb => (List.mem_append.mp hb).elim (fun q => (al3 b q).2) fun q => by
        obtain ⟨o, g⟩ := S2.e.alive b (List.mem_append.mpr (.inr (List.mem_append.mpr (.inr q))))
        exact ⟨o, k3.heap b o (S2.e.ne_pt T (List.mem_append.mpr (.inr (List.mem_append.mpr (.inr q))))) (fun z => hwM₀ b z (List.mem_append.mpr (.inr q))) g⟩)
    have hwM : ∀ b ∈ wr, b ∉ Mw' ++ Mc := fun b hb => (al3 b hb).1
    have hBw : ∀ b ∈ wr, B.heap.get? b = none := fun b hb => (hg1 b hb).elim (hBw₀ b) fun q => kp_base_none S2.e.amb S2.base q
    have S3' : St H (turnB Mw' s3) (wr ++ Mc) env Mw' σ' s3 := S3.rebase (turn_kp Mw' s3) fun m hm => hideAll_none _ hm
    refine W.lot _ _ _ _ target v _ _ hI3 ?_
    have rv' : Rd s3.heap (Mw' ++ (wr ++ Mc)) v d := rv.hidden fun b hb => by
      rcases List.mem_append.mp hb with q | q
      · exact List.mem_append.mpr (.inr (List.mem_append.mpr (.inl q)))
      · rcases List.mem_append.mp q with q | q
        · exact List.mem_append.mpr (.inl q)
        · exact List.mem_append.mpr (.inr (List.mem_append.mpr (.inr q)))
    refine asg i d σ' _ _ _ hj hd s3 v _ _ S3' rv' fun s4 S4 k4 => ?_
    have fin : ∀ {Mw2 : List Addr} {σ'' : Vars} {s5 : Shared}, St H (turnB Mw' s3) (wr ++ Mc) env Mw2 σ'' s5 → St H B (wr ++ Mc) env Mw2 σ'' s5 ∧ I (Mw2 ++ Mc) wr (i + 1) s5 ∧ ∀ b ∈ wr, b ∉ Mw2 ++ Mc := fun {Mw2 σ'' s5} S5 => by
      obtain ⟨k5, S5', nw⟩ := turn_back T S3 S5
      have old : ∀ b ∈ Mw2 ++ Mc, b ∈ Mw' ++ Mc ∨ s3.heap.get? b = none := fun b hb => by
        rcases List.mem_append.mp hb with q | q
        · rcases nw b q with q | q
          · exact .inl (List.mem_append.mpr (.inl q))
          · exact .inr q
        · exact .inl (List.mem_append.mpr (.inr q))
      have hI5 : I (Mw2 ++ Mc) wr (i + 1) s5 := W.move _ _ _ [] _ s3 s5 hI3 (k5.weak (fun b hb => List.mem_append.mpr (.inl hb)) fun _ q => nomatch q) (fun _ _ q => nomatch q) old fun b hb => (List.mem_append.mp hb).elim (fun q => S5.e.alive b (List.mem_append.mpr (.inl q))) fun q => S5.e.alive b (List.mem_append.mpr (.inr (List.mem_append.mpr (.inr q))))
      refine ⟨S5', hI5, fun b hb q => ?_⟩
      rcases old b q with q | q
      · exact hwM b hb q
      · obtain ⟨o, e⟩ := (al3 b hb).2; rw [q] at e; cases e
    refine turn i d σ' _ _ _ s4 _ _ hj hd S4 (fun b hb => List.mem_append.mpr (.inr hb)) (fun Mw2 σ'' s5 hj' S5 => ?_) (fun Mw2 σ'' s5 hb S5 => ?_) (fun v r s5 hr kb rr => ?_)
    · obtain ⟨S6, hI6, hw6⟩ := fin S5
      exact ⟨_, by omega, i + 1, σ'', Mw2, wr, rfl, hlt, hj', S6, hI6, hw6, hBw⟩
    · obtain ⟨S6, hI6, hw6⟩ := fin S5
      exact after Mw2 σ'' s5 (.inr hb) (S6.unhide (fun b q => List.mem_append.mpr (.inr q)) fun x c e => List.mem_append.mpr (.inl (S6.cellW x c e hfn)))
    · refine ret v r s5 hr ?_ (rr.hidden fun b q => List.mem_append.mpr (.inr q))
      have up : ∀ b o, b ∉ Mw' → s3.heap.get? b = some o → (turnB Mw' s3).heap.get? b = some o := fun b o hb e => hideAll_get _ e hb
      have hpt : PT ∉ Mw' := fun q => S3.e.ne_pt T (List.mem_append.mpr (.inl q)) rfl
      have h93 : (93 : Addr) ∉ Mw' := fun q => ne93 T (S3.e.fresh _ (List.mem_append.mpr (.inl q))) rfl
      exact ⟨fun b o h1 h2 e => kb.heap b o h1 (by simp) (up b o (fun q => by rw [S3.off b q] at e; cases e) (S3.base.heap b o h1 h2 e)), fun ps t i => by
          obtain ⟨m1, t1, i1⟩ := S3.base.tab ps t i
          obtain ⟨m2, t2, i2⟩ := kb.tab (ps ++ m1) (by
            obtain ⟨⟨o, vs, a, r⟩, t⟩ := t1
            exact ⟨⟨o, vs, up _ _ h93 a, r⟩, up _ _ hpt t⟩) (by
            obtain ⟨o, vs, file, tf, flags, tg, inF, text, tt, op, h1, h2, h3, h4, h5, h6, h7, h8, r⟩ := i1
            exact ⟨o, vs, file, tf, flags, tg, inF, text, tt, op, up _ _ h93 h1, h2, h3, h4, h5, h6, h7, up _ _ hpt h8, r⟩)
          exact ⟨m1 ++ m2, by rw [← Array.append_assoc]; exact t2, by rw [← Array.append_assoc]; exact i2⟩,
        fun i x h e => kb.gens i x h (S3.base.gens i x h e), fun b => kb.bare (S3.base.bare b), kb.os.trans S3.base.os⟩
  · obtain rfl : i = ds.length := Nat.le_antisymm hle (Nat.not_lt.mp hlt)
    refine W.done _ _ s2 _ _ hI2 fun s3 k3 => ?_
    show wpAny _ _ (execs [] env) _ _ _
    refine wpAny_execs_nil ?_
    exact after Mw' σ' s3 (.inl hj) (S2.drop T k3 hBw₀ hBg hwM₀ fun x c e => List.mem_append.mpr (.inl (cM x c e)))
end
end Mine

namespace Mine
open PySem PySem.W PyProof.Rows PySem.Calls PySem.Spec

section
variable {prog : Program} {w : World} {K : Frag} {H : Heap} {A : Around} {env : Env} {M : List Addr} {σ : Vars}

variable (prog w H A M σ) in
/-- a comprehension's tests -/
def TestsT (env : Env) (ifs : List Expr) (b : Bool) : Prop :=
  ∀ (s : Shared) (Q : Bool → Shared → Prop) (E : Value → Shared → Prop), StE H env M σ s → (∀ s', Kp s s' → Q b s') →
    wpAny (model prog w) A (forIn ifs true fun c r => if r = true then do let ok ← isTrue c env (eval c env); pure (ForInStep.yield ok) else pure (ForInStep.yield r)) Q E s
theorem tests_nil : TestsT prog w H A M σ env [] true := fun s Q E S h => wpAny_tests_nil (h s (KpX.refl _))
theorem tests_one {c : Expr} {b : Bool} (h1 : TsT prog w H A env M σ c b) : TestsT prog w H A M σ env [c] b := fun s Q E S h => wpAny_tests_one (h1 s _ _ S h)

theorem compLoop_any {elt target iter : Expr} {ifs : List Expr} {scope : Scope} {pos : Pos} {it acc : Value} {s : Shared} {R : Result → Shared → Prop} (I : Nat → Shared → Prop)
    (turn : ∀ n s, I n s → wpAny (model prog w) A (pyNext it) (fun r s₁ => match r with
      | none => R (.ok .next) s₁
      | some v => wpAny (model prog w) A (letOwnedTupleGo target it v) (fun _ s₁' => wpAny (model prog w) A (assign target env v) (fun _ s₂ =>
          wpAny (model prog w) A (forIn ifs true fun c r => if r = true then do let ok ← isTrue c env (eval c env); pure (ForInStep.yield ok) else pure (ForInStep.yield r)) (fun ok s₃ =>
            if ok = true then wpAny (model prog w) A (eval elt env) (fun x s₄ =>
              wpAny (model prog w) A (call (.builtin "list.append") [acc, x]) (fun _ s₅ => ∃ m, m < n ∧ I m s₅) (notedBy (model prog w) A env fun e s' => R (.error e) s') s₄) (notedBy (model prog w) A env fun e s' => R (.error e) s') s₃
            else ∃ m, m < n ∧ I m s₃) (notedBy (model prog w) A env fun e s' => R (.error e) s') s₂) (notedBy (model prog w) A env fun e s' => R (.error e) s') s₁') (notedBy (model prog w) A env fun e s' => R (.error e) s') s₁) (notedBy (model prog w) A env fun e s' => R (.error e) s') s)
    (n : Nat) (h : I n s) :
    codeAny (model prog w) A (.compLoop (.ListComp elt [⟨target, iter, ifs, 0⟩] scope pos) 0 it acc env) R s := by
  refine codeAny_loop rfl I (fun n s hI => ?_) n h
  show wpAny _ A ((compTurn (.ListComp elt [⟨target, iter, ifs, 0⟩] scope pos) 0 it acc env).onRaise (fun x => do noteFrame x env; theTreesLotGoes x)) _ _ s
  refine wpAny_noted ?_
  rw [compTurn_list]
  refine wpAny_bind (wpAny_standAt (wpAny_bind (wpAny_mono (turn n s hI) (fun r s₁ h₁ => ?_) fun _ _ h' => h')))
  cases r with
  | none => exact wpAny_pure h₁
  | some v =>
    refine wpAny_bind (wpAny_mono h₁ (fun _ s₁' h₁' => wpAny_bind (wpAny_mono h₁' (fun _ s₂ h₂ => wpAny_bind (wpAny_mono h₂ (fun ok s₃ h₃ => ?_) fun _ _ h' => h')) fun _ _ h' => h')) fun _ _ h' => h')
    cases ok with
    | false => exact wpAny_pure ⟨rfl, h₃⟩
    | true => exact wpAny_bind (wpAny_bind (wpAny_mono h₃ (fun x s₄ h₄ => wpAny_bind (wpAny_mono h₄ (fun _ s₅ h₅ => wpAny_pure (wpAny_pure ⟨rfl, h₅⟩)) fun _ _ h' => h')) fun _ _ h' => h'))

/-- what a comprehension's block may read of the names around it -/
def capt (names : List Str) (σ : Vars) : Vars := fun y => if y ∈ names then σ y else none
structure Capt (env : Env) (scope : Scope) (cl : List (Str × Addr)) (names : List Str) (σ : Vars) : Prop where
  ok : ∀ x ∈ names, (relabel scope env).names.lookup x = some .cell ∧ env.kindOf x = some .cell ∧ cl.lookup x = env.cells.lookup x
  data : ∀ x ∈ names, ∃ d, σ x = some (.d d)
  all : ∀ x c, cl.lookup x = some c → x ∈ names
  inj : ∀ x y c, cl.lookup x = some c → cl.lookup y = some c → x = y

theorem comp_block (T : Top0 K H) {elt target iter : Expr} {ifs : List Expr} {scope : Scope} {cl : List (Str × Addr)} {pos : Pos} {s₀ s₂ : Shared} {it : Addr} {wr : List Addr} {gx : List Nat} {I : List Addr → Nat → Shared → Prop} {ds : List D}
    (names : List Str) (bnd : D → Vars → Vars) (p : D → Bool) (f : D → D) (S₀ : StE H env M σ s₀) (k₂ : Kp s₀ s₂) (W : Iter prog w A it wr gx ds I) {M₀ : List Addr} (hM₀ : M₀ = M ∨ ((∀ b ∈ M₀, b ∈ M) ∧ ∀ d ∈ ds, d.flat = true)) (hI : I M₀ 0 s₂) (hwr : ∀ b ∈ wr, s₀.heap.get? b = none) (hgx : ∀ g ∈ gx, s₀.gens[g]? = none) (hlen : ds.length ≤ sizeLine)
    (hcell : ∀ y ∈ scope.names, y.2 ≠ .cell) (hkind : scope.kind = .function) (C : Capt env scope cl names σ)
    (asg : ∀ d ∈ ds, ∀ B' Mc' Ca, AsgT prog w H A B' (compEnvC scope cl Ca env) Mc' [Ca] target d (capt names σ) (bnd d (capt names σ)))
    (hb : ∀ d, ∀ x av, capt names σ x = some av → bnd d (capt names σ) x = some av)
    (turn : ∀ d ∈ ds, ∀ Ca M', TestsT prog w H A M' (bnd d (capt names σ)) (compEnvC scope cl Ca env) ifs (p d) ∧ (p d = true → EvT prog w H A (compEnvC scope cl Ca env) M' (bnd d (capt names σ)) elt (.d (f d))))
    {RR : Value → Addr → Result → Shared → Prop} {E : Value → Shared → Prop}
    (hRR : ∀ Da Ca s', Kp s₀ s' → s₀.heap.get? Da = none → s₀.heap.get? Ca = none → Da ≠ Ca → (∃ o, s'.heap.get? Ca = some o) → (∃ m, s'.heap.Ns Ca m) → Rd s'.heap (Ca :: M) (.ref Da) (.list ((ds.filter p).map f)) → RR (.ref Da) Ca (.ok .next) s') :
    wpAny (model prog w) A (newList []) (fun acc s₃ => wpAny (model prog w) A (newFunctionEnv scope env.globals cl [] env.qual none .none (some env)) (fun cenv s₄ =>
      codeAny (model prog w) A (.compStart (.ListComp elt [⟨target, iter, ifs, 0⟩] scope pos) 0 (.ref it) acc { cenv with scope := relabel scope env }) (RR acc cenv.locals) s₄) E s₃) E s₂ := by
  refine wpAny_newObj_type (wpAny_newFunctionEnv hcell (by intro y hy; simp at hy) (fun h₁ hns₁ hsb₁ => ?_) hkind)
  dsimp only at hns₁ hsb₁ ⊢
  generalize hDa : s₂.heap.objs.size = Da at *
  generalize hH2 : s₂.heap.push { cls := .type "list", dict := none, data := .seq ([] : List Value).toArray } = H2 at hns₁ hsb₁ ⊢
  generalize hCa : H2.objs.size = Ca at *
  have hC : Ca = Da + 1 := by rw [← hCa, ← hH2, Heap.size_push, hDa]
  have S₂ := S₀.kp T k₂
  have old : ∀ b o, s₂.heap.get? b = some o → h₁.get? b = some o := fun b o e => by
    have lt := Heap.lt_size e
    exact hsb₁.extBut b o (by rw [hC, ← hDa]; exact Nat.ne_of_lt (Nat.lt_succ_of_lt lt)) (Heap.get?_push_of_some _ (hH2 ▸ Heap.get?_push_of_some _ e))
  generalize hs3 : ({ s₂ with heap := h₁, toks := s₂.toks + ([] : List (Str × Value)).length } : Shared) = s₃
  have e3 : s₃.heap = h₁ := by rw [← hs3]
  have k3 : Kp s₂ s₃ := by rw [← hs3]; exact Kp.of old
  have k03 := k₂.trans k3
  have hD2 : s₂.heap.get? Da = none := hDa ▸ size_none s₂
  have hC2 : s₂.heap.get? Ca = none := by
    cases e : s₂.heap.get? Ca with
    | none => rfl
    | some o' => exact absurd (Heap.lt_size e) (by rw [hC, hDa]; exact Nat.not_lt.mpr (Nat.le_succ _))
  have hD0 : s₀.heap.get? Da = none := Kp.none S₀.amb k₂ hD2
  have hC0 : s₀.heap.get? Ca = none := Kp.none S₀.amb k₂ hC2
  have hDC : Da ≠ Ca := by rw [hC]; exact Nat.ne_of_lt (Nat.lt_succ_self _)
  have hacc : h₁.PlainList Da #[] := ⟨0, hsb₁.extBut _ _ hDC (Heap.get?_push_of_some _ (by rw [← hH2, ← hDa]; exact Heap.get?_push_size _ rfl))⟩
  have hI3 : I (Ca :: Da :: M₀) 0 s₃ := W.frame _ [] _ _ _ (W.ext _ (Ca :: Da :: M₀) _ _ hI fun b hb => by
      rcases List.mem_cons.mp hb with rfl | hb
      · exact .inr hC2
      · rcases List.mem_cons.mp hb with rfl | hb
        · exact .inr hD2
        · exact .inl hb) k3.to (fun _ _ q => nomatch q)
  have al3 := W.off _ _ _ hI3
  have oD : ∃ o, s₃.heap.get? Da = some o := by rw [e3]; obtain ⟨n, e⟩ := hacc; exact ⟨_, e⟩
  have oC : ∃ o, s₃.heap.get? Ca = some o := by rw [e3]; obtain ⟨o, _, _, e, _⟩ := hns₁; exact ⟨o, e⟩
  have fr : ∀ {b}, s₀.heap.get? b = none → b ∉ M := fun {b} e q => by obtain ⟨o, g⟩ := S₀.alive b q; rw [e] at g; cases g
  have hwM : ∀ b ∈ wr, b ∉ M := fun b hb => fr (hwr b hb)
  have hDM := fr hD0
  have hCM := fr hC0
  have hwC : ∀ b ∈ wr, b ≠ Ca ∧ b ≠ Da := fun b hb => ⟨fun q => (al3 b hb).1 (by rw [q]; exact .head _), fun q => (al3 b hb).1 (by rw [q]; exact .tail _ (.head _))⟩
  have St₃ : St H s₀ (Da :: (wr ++ M)) (compEnvC scope cl Ca env) [Ca] (capt names σ) s₃ := by
    have S3 := S₀.kp T k03
    have cM : ∀ x c, cl.lookup x = some c → c ∈ M := fun x c e => S₀.cellM x c ((C.ok x (C.all x c e)).2.2 ▸ e)
    refine {
      e := {
        amb := S3.amb
        alive := fun m hm => ?_
        fresh := fun m hm => ?_
        locM := .head _
        cellM := fun x c e => List.mem_append.mpr (.inr (.tail _ (List.mem_append.mpr (.inr (cM x c e)))))
        kind := hkind, glob := S₀.glob, blt := S₀.blt
        vars := fun x av e => ?_ }
      base := k03
      off := fun m hm => by rw [List.mem_singleton.mp hm]; exact hC0
      locW := .head _
      cellW := fun x c e q => by cases q
      cellN := C.inj
      locC := fun x c e q => hCM (by have := cM x c e; rw [q] at this; exact this)
      ns := ⟨_, by rw [e3]; exact hns₁⟩
      cells := fun x c e => ?_
      sep := fun x av e => ?_
      ownW := fun x av e a ha => ?_ }
    · rcases List.mem_append.mp hm with q | q
      · rw [List.mem_singleton.mp q]; exact oC
      · rcases List.mem_cons.mp q with rfl | q
        · exact oD
        · rcases List.mem_append.mp q with q | q
          · exact (al3 m q).2
          · exact S3.alive m q
    · rcases List.mem_append.mp hm with q | q
      · rw [List.mem_singleton.mp q]; exact S₀.amb.none_of hC0
      · rcases List.mem_cons.mp q with rfl | q
        · exact S₀.amb.none_of hD0
        · rcases List.mem_append.mp q with q | q
          · exact S₀.amb.none_of (hwr m q)
          · exact S3.fresh m q
    · unfold capt at e
      by_cases hx : x ∈ names
      · rw [if_pos hx] at e
        obtain ⟨c1, c2, c3⟩ := C.ok x hx
        obtain ⟨d, hd⟩ := C.data x hx
        rw [hd] at e; cases e
        obtain ⟨v, l, r⟩ := S₀.vars x _ hd
        rcases l with ⟨e1, _⟩ | ⟨e1, c, lc, o, g, dd⟩
        · rw [c2] at e1; cases e1
        · refine ⟨v, .inr ⟨c1, c, c3.trans lc, o, k03.heap c o (S₀.ne_pt T (S₀.cellM x c lc)) (by simp) g, dd⟩, ?_⟩
          refine rda_d.mpr ((rda_d.mp r).mono fun b o h1 h2 e => ⟨fun q => ?_, k03.heap b o h2 (by simp) e⟩)
          rcases List.mem_append.mp q with q | q
          · rw [List.mem_singleton.mp q, hC0] at e; cases e
          · rcases List.mem_cons.mp q with rfl | q
            · rw [hD0] at e; cases e
            · rcases List.mem_append.mp q with q | q
              · rw [hwr b q] at e; cases e
              · exact h1 q
      · rw [if_neg hx] at e; cases e
    · have hx := C.all x c e
      obtain ⟨c1, c2, c3⟩ := C.ok x hx
      obtain ⟨d, hd⟩ := C.data x hx
      obtain ⟨v, l, r⟩ := S₀.vars x _ hd
      rcases l with ⟨e1, _⟩ | ⟨e1, c', lc, o, g, dd⟩
      · rw [c2] at e1; cases e1
      · have : c' = c := by
          have e' : cl.lookup x = some c := e
          rw [c3, lc] at e'; exact Option.some.inj e'
        subst this
        exact ⟨_, o, k03.heap c' o (S₀.ne_pt T (S₀.cellM x c' lc)) (by simp) g, dd⟩
    · unfold capt at e
      by_cases hx : x ∈ names
      · rw [if_pos hx] at e
        obtain ⟨d, hd⟩ := C.data x hx
        rw [hd] at e; cases e
        unfold AV.addrs
        exact ⟨.nil, fun _ h => (nomatch h), fun _ _ _ _ _ h => (nomatch h)⟩
      · rw [if_neg hx] at e; cases e
    · unfold capt at e
      by_cases hx : x ∈ names
      · rw [if_pos hx] at e
        obtain ⟨d, hd⟩ := C.data x hx
        rw [hd] at e; cases e
        unfold AV.addrs at ha; cases ha
      · rw [if_neg hx] at e; cases e
  have loop : codeAny (model prog w) A (.compLoop (.ListComp elt [⟨target, iter, ifs, 0⟩] scope pos) 0 (.ref it) (.ref Da) (compEnvC scope cl Ca env)) (RR (.ref Da) Ca) s₃ := by
    refine compLoop_any (fun n s' => ∃ i ys, n = ds.length + 1 - i ∧ i ≤ ds.length ∧ s'.heap.PlainList Da ys ∧ RdL s'.heap (Ca :: (Da :: (wr ++ M))) ys.toList (((ds.take i).filter p).map f) ∧
      St H s₀ (Da :: (wr ++ M)) (compEnvC scope cl Ca env) [Ca] (capt names σ) s' ∧ I (Ca :: Da :: M₀) i s') ?_ (ds.length + 1) ⟨0, #[], rfl, Nat.zero_le _, by rw [e3]; exact hacc, by simpa using rdl_nil, St₃, hI3⟩
    rintro n s4 ⟨i, ys, rfl, hle, hpl, hrd, S4, hI4⟩
    have hid : ∀ b ∈ wr, b ∈ [Ca] ++ (Da :: (wr ++ M)) := fun b hb => .tail _ (.tail _ (List.mem_append.mpr (.inl hb)))
    have cellX : ∀ x c, (compEnvC scope cl Ca env).cells.lookup x = some c → c ∈ M := fun x c e => S₀.cellM x c ((C.ok x (C.all x c e)).2.2 ▸ e)
    by_cases hlt : i < ds.length
    · obtain ⟨d, hd⟩ : ∃ d, ds[i]? = some d := ⟨_, List.getElem?_eq_getElem hlt⟩
      have hdm : d ∈ ds := List.mem_of_getElem? hd
      have htake : ds.take (i + 1) = ds.take i ++ [d] := by rw [List.take_add_one, hd]; rfl
      refine W.item _ i s4 _ _ d hd hI4 fun v s5 hI5 k5 rv => ?_
      have al5 := W.off _ _ _ hI5
      have S5 := S4.other T k5 hid (fun b hb q => (hwC b hb).1 (List.mem_singleton.mp q)) hwr hgx (fun b hb => (al5 b hb).2) (fun x c e q => hwM c q (cellX x c e))
      have hpl5 : s5.heap.PlainList Da ys := hpl.at fun o e => k5.heap Da o (fun q => by
          obtain ⟨ps, t, _⟩ := S₀.amb.tab
          rw [q, t.2] at hD0; cases hD0) (fun q => (hwC _ q).2 rfl) e
      have hrd5 : RdL s5.heap (Ca :: (Da :: (wr ++ M))) ys.toList (((ds.take i).filter p).map f) := hrd.mono fun b o h1 h2 e => ⟨h1, k5.heap b o h2 (fun q => h1 (hid b q)) e⟩
      refine W.lot _ _ _ target v _ _ hI5 ?_
      have rv' : Rd s5.heap ([Ca] ++ (Da :: (wr ++ M))) v d := by
        rcases hM₀ with e | ⟨_, hfl⟩
        · subst e
          refine rv.hidden fun b hb => ?_
          rcases List.mem_cons.mp hb with rfl | hb
          · exact List.mem_append.mpr (.inr (.head _))
          · rcases List.mem_cons.mp hb with rfl | hb
            · exact List.mem_append.mpr (.inr (.tail _ (.head _)))
            · rcases List.mem_append.mp hb with q | q
              · exact List.mem_append.mpr (.inl q)
              · exact List.mem_append.mpr (.inr (.tail _ (.tail _ q)))
        · exact rv.flat (hfl d hdm)
      refine asg d hdm _ _ Ca s5 v _ _ S5 rv' fun s6 S6 k6 => ?_
      have frame6 : ∀ {s7 : Shared}, KpX [Ca] [] s5 s7 → I (Ca :: Da :: M₀) (i + 1) s7 := fun {s7} k => W.frame _ [] _ _ _ hI5 (k.weak (fun b hb => by rw [List.mem_singleton.mp hb]; exact .head _) fun _ q => nomatch q) fun _ _ q => nomatch q
      obtain ⟨ht, he⟩ := turn d hdm Ca ([Ca] ++ (Da :: (wr ++ M)))
      refine ht s6 _ _ S6.e fun s7 k7 => ?_
      have S7 := S6.kp T k7
      have k57 : KpX [Ca] [] s5 s7 := k6.trans k7.to
      have hDp : Da ≠ PT := S4.e.ne_pt T (List.mem_append.mpr (.inr (.head _)))
      have hpl7 : s7.heap.PlainList Da ys := hpl5.at fun o e => k57.heap Da o hDp (by simpa using hDC) e
      have hrd7 : RdL s7.heap (Ca :: (Da :: (wr ++ M))) ys.toList (((ds.take i).filter p).map f) := hrd5.mono fun b o h1 h2 e => ⟨h1, k57.heap b o h2 (fun q => h1 (by rw [List.mem_singleton.mp q]; exact .head _)) e⟩
      cases hp : p d with
      | false =>
        simp only [Bool.false_eq_true, if_false]
        refine ⟨_, by omega, i + 1, ys, rfl, hlt, hpl7, ?_, S7.sub (hb d), frame6 k57⟩
        rw [htake, List.filter_append, List.filter_cons, hp]; simpa using hrd7
      | true =>
        simp only [if_true]
        refine he hp s7 _ _ S7.e fun y s8 k8 ry => ?_
        have hpl8 : s8.heap.PlainList Da ys := hpl7.at fun o e => k8.heap Da o hDp (by simp) e
        have hrd8 := hrd7.kp k8
        have S8 := S7.kp T k8
        have hys : ys.size ≤ sizeLine := by
          have := hrd8.length
          simp only [List.length_map, Array.length_toList] at this
          have h2 : ((ds.take i).filter p).length ≤ (ds.take i).length := List.length_filter_le _ _
          rw [List.length_take] at h2
          omega
        refine wpAny_list_append_plain (hsz := hys) hpl8 fun h' hpl' hs' => ?_
        have k9 : KpX [Da] [] s8 { s8 with heap := h' } := kpx_same (tk := s8.toks) hs' hDp (ne93 T (S4.e.fresh _ (List.mem_append.mpr (.inr (.head _)))))
        have S9 : St H s₀ (Da :: (wr ++ M)) (compEnvC scope cl Ca env) [Ca] _ { s8 with heap := h' } := S8.other T k9 (fun b hb => by rw [List.mem_singleton.mp hb]; exact List.mem_append.mpr (.inr (.head _))) (fun b hb q => hDC (by rw [← List.mem_singleton.mp hb]; exact List.mem_singleton.mp q))
          (fun b hb => by rw [List.mem_singleton.mp hb]; exact hD0) (fun _ q => nomatch q) (fun b hb => by rw [List.mem_singleton.mp hb]; obtain ⟨n, e⟩ := hpl'; exact ⟨_, e⟩) (fun x c e q => hDM (by rw [← List.mem_singleton.mp q]; exact cellX x c e))
        refine ⟨_, by omega, i + 1, ys.push y, rfl, hlt, hpl', ?_, S9.sub (hb d), ?_⟩
        · rw [htake, List.filter_append, List.map_append, Array.toList_push, List.filter_cons, hp]
          refine RdL.append ?_ (rdl_cons ?_ rdl_nil)
          · exact hrd8.mono fun b o h1 h2 e => ⟨h1, k9.heap b o h2 (fun q => h1 (by rw [List.mem_singleton.mp q]; exact .tail _ (.head _))) e⟩
          · exact (rda_d.mp ry).mono fun b o h1 h2 e => ⟨h1, k9.heap b o h2 (fun q => h1 (by rw [List.mem_singleton.mp q]; exact .tail _ (.head _))) e⟩
        · refine W.frame _ [] _ _ _ hI5 (((k57.trans k8.to).weak (X' := Ca :: Da :: M₀) (fun b hb => by rw [List.mem_singleton.mp hb]; exact .head _) fun _ q => nomatch q).trans (k9.weak (fun b hb => by rw [List.mem_singleton.mp hb]; exact .tail _ (.head _)) fun _ q => nomatch q)) fun _ _ q => nomatch q
    · obtain rfl : i = ds.length := Nat.le_antisymm hle (Nat.not_lt.mp hlt)
      refine W.done _ s4 _ _ hI4 fun s5 k5 => ?_
      have hDp : Da ≠ PT := S4.e.ne_pt T (List.mem_append.mpr (.inr (.head _)))
      have hCp : Ca ≠ PT := S4.e.ne_pt T (.head _)
      have hpl5 : s5.heap.PlainList Da ys := hpl.at fun o e => k5.heap Da o hDp (fun q => (hwC _ q).2 rfl) e
      have kf : Kp s₀ s5 := ⟨fun b o h1 h2 e => k5.heap b o h1 (fun q => by rw [hwr b q] at e; cases e) (S4.base.heap b o h1 h2 e), (S4.base.to.trans k5 : KpX wr gx s₀ s5).tab,
        fun i x h e => k5.gens i x (fun q => by rw [hgx i q] at e; cases e) (S4.base.gens i x h e), fun b => k5.bare (S4.base.bare b), k5.os.trans S4.base.os⟩
      obtain ⟨m, hns⟩ := S4.ns
      have hCw : Ca ∉ wr := fun q => (hwC _ q).1 rfl
      have hns5 : s5.heap.Ns Ca m := nsKpx hns k5 hCp hCw
      refine hRR Da Ca s5 kf hD0 hC0 hDC (let ⟨o, _, _, e, _⟩ := hns5; ⟨o, e⟩) ⟨m, hns5⟩ ?_
      unfold Rd
      refine ⟨Da, ys, rfl, fun q => ?_, hDp, hpl5.isList, ?_⟩
      · rcases List.mem_cons.mp q with q | q
        · exact hDC q
        · exact hDM q
      · rw [List.take_length] at hrd
        refine hrd.mono fun b o h1 h2 e => ⟨fun q => h1 ?_, k5.heap b o h2 (fun q => h1 (hid b q)) e⟩
        rcases List.mem_cons.mp q with rfl | q
        · exact .head _
        · exact .tail _ (.tail _ (List.mem_append.mpr (.inr q)))
  subst hs3
  exact codeAny_compStart_list loop (W.self _ 0 _ _ _ hI3 loop)
end
end Mine

namespace Mine
open PySem PySem.W PyProof.Rows PySem.Calls PySem.Spec

section
variable {prog : Program} {w : World} {K : Frag} {H : Heap} {A : Around} {env : Env} {M Mc Mw : List Addr} {σ : Vars} {B : Shared} {s : Shared}

theorem kpx_same' {a : Addr} {s : Shared} {h' : Heap} (hs : Heap.SameBut a s.heap h') (hp : a ≠ PT) (h93 : a ≠ 93) : KpX [a] [] s { s with heap := h' } := kpx_same (tk := s.toks) hs hp h93

theorem kp_fresh {s₀ s₁ s₂ : Shared} {a : Addr} (h : s₀.heap.get? a = none) (k : Kp s₀ s₁) (k' : KpX [a] [] s₁ s₂) : Kp s₀ s₂ :=
  ⟨fun b o h1 h2 e => k'.heap b o h1 (fun q => by rw [List.mem_singleton.mp q, h] at e; cases e) (k.heap b o h1 h2 e), (k.to.trans k' : KpX [a] [] s₀ s₂).tab,
    fun i x hh e => k'.gens i x (by simp) (k.gens i x hh e), fun b => k'.bare (k.bare b), k'.os.trans k.os⟩

/-- [elt for target in iter if ..] -/
theorem ev_comp (T : Top0 K H) {elt target iter : Expr} {ifs : List Expr} {scope : Scope} {pos : Pos} {cl : List (Str × Addr)} {ds : List D} (names : List Str) (bnd : D → Vars → Vars) (p : D → Bool) (f : D → D)
    (hclos : closureFor scope env = pure cl) (hcell : ∀ y ∈ scope.names, y.2 ≠ .cell) (hkind : scope.kind = .function) (hnames : ∀ x ∈ scope.names, x.2 = .local → scope.names.lookup x.1 = some .local)
    (hi : ItG prog w H A env M σ iter ds) (hlen : ds.length ≤ sizeLine) (C : Capt env scope cl names σ)
    (asg : ∀ d ∈ ds, ∀ B' Mc' Ca, AsgT prog w H A B' (compEnvC scope cl Ca env) Mc' [Ca] target d (capt names σ) (bnd d (capt names σ)))
    (hb : ∀ d, ∀ x av, capt names σ x = some av → bnd d (capt names σ) x = some av)
    (turn : ∀ d ∈ ds, ∀ Ca M', TestsT prog w H A M' (bnd d (capt names σ)) (compEnvC scope cl Ca env) ifs (p d) ∧ (p d = true → EvT prog w H A (compEnvC scope cl Ca env) M' (bnd d (capt names σ)) elt (.d (f d))))
    (hs : ∀ x, foldedSetIterable iter env x = pure x := by intro _; rfl) :
    EvT prog w H A env M σ (.ListComp elt [⟨target, iter, ifs, 0⟩] scope pos) (.d (.list ((ds.filter p).map f))) := fun s Q E S h => by
  rw [eval_ListComp]
  refine wpAny_comprehension_free (use := none) rfl hs hclos hkind hnames ?_
  refine hi s _ _ S fun it wr gx I s2 M₀ k2 W hM₀ hI hwr hgx => ?_
  refine comp_block T names bnd p f S k2 W hM₀ hI hwr hgx hlen hcell hkind C asg hb turn ?_
  intro Da Ca s' k hD hC hDC alC nsC rd
  obtain ⟨m, n⟩ := nsC
  refine ⟨m, n, fun h' hs' => ?_⟩
  have hCH := S.amb.none_of hC
  have hCp : Ca ≠ PT := by
    rintro rfl
    obtain ⟨ps, t, _⟩ := S.amb.tab
    rw [t.2] at hC; cases hC
  have kC := kpx_same' hs' hCp (ne93 T hCH)
  refine h _ _ (kp_fresh hC k kC) (rda_d.mpr (rd.mono fun b o h1 h2 e => ⟨fun q => h1 (.tail _ q), kC.heap b o h2 (fun q => h1 (by rw [List.mem_singleton.mp q]; exact .head _)) e⟩))

variable {rest : List Stmt} {Kk : Flow → Shared → Prop} {E : Value → Shared → Prop}

/-- y = [elt for target in iter if ..], the names exchanged -/
theorem x_comp (T : Top0 K H) (S : St H B Mc env Mw σ s) (hfn : env.func.isSome = true) {elt target iter : Expr} {ifs : List Expr} {scope : Scope} {pos spos py : Pos} {y : Str} {cl : List (Str × Addr)} {ds : List D} (names : List Str) (bnd : D → Vars → Vars) (p : D → Bool) (f : D → D)
    (hsw : swapsWith (.ListComp elt [⟨target, iter, ifs, 0⟩] scope pos) (some (.Name y py)) spos.line env = pure true)
    (hclos : closureFor scope env = pure cl) (hcell : ∀ y ∈ scope.names, y.2 ≠ .cell) (hkind : scope.kind = .function) (hnames : ∀ x ∈ scope.names, x.2 = .local → scope.names.lookup x.1 = some .local)
    (hi : ItG prog w H A env (Mw ++ Mc) σ iter ds) (hlen : ds.length ≤ sizeLine) (C : Capt env scope cl names σ) (hk : BindOk env y)
    (asg : ∀ d ∈ ds, ∀ B' Mc' Ca, AsgT prog w H A B' (compEnvC scope cl Ca env) Mc' [Ca] target d (capt names σ) (bnd d (capt names σ)))
    (hb : ∀ d, ∀ x av, capt names σ x = some av → bnd d (capt names σ) x = some av)
    (turn : ∀ d ∈ ds, ∀ Ca M', TestsT prog w H A M' (bnd d (capt names σ)) (compEnvC scope cl Ca env) ifs (p d) ∧ (p d = true → EvT prog w H A (compEnvC scope cl Ca env) M' (bnd d (capt names σ)) elt (.d (f d))))
    (k : ∀ s', St H B Mc env Mw (upd σ y (.d (.list ((ds.filter p).map f)))) s' → wpAny (model prog w) A (execs rest env) Kk E s')
    (hs : ∀ x, foldedSetIterable iter env x = pure x := by intro _; rfl) :
    wpAny (model prog w) A (execs (.Assign [.Name y py] (.ListComp elt [⟨target, iter, ifs, 0⟩] scope pos) spos :: rest) env) Kk E s := by
  refine x_next ?_
  rw [exec_Assign_Name_used _ _ _ _ hsw]
  refine wpAny_bind (wpAny_standAt (wpAny_bind ?_))
  show wpAny _ A (do let _ ← comprehension (.ListComp elt [⟨target, iter, ifs, 0⟩] scope pos) scope env _ (newList []) false (eval iter env) (some (assign (.Name y py) env))) _ _ s
  refine wpAny_bind (wpAny_mono (wpAny_comprehension_free (use := some (assign (.Name y py) env)) (Q := fun _ s' => wpAny (model prog w) A (execs rest env) Kk E s') rfl hs hclos hkind hnames ?_) (fun _ s' hq => wpAny_pure (wpAny_pure ⟨rfl, hq⟩)) fun _ _ e => e)
  refine hi s _ _ S.e fun it wr gx I s2 M₀ k2 W hM₀ hI hwr hgx => ?_
  refine comp_block T names bnd p f S.e k2 W hM₀ hI hwr hgx hlen hcell hkind C asg hb turn ?_
  intro Da Ca s' kk hD hC hDC alC nsC rd
  obtain ⟨m, n⟩ := nsC
  have hCH := S.e.amb.none_of hC
  have hCp : Ca ≠ PT := by
    rintro rfl
    obtain ⟨ps, t, _⟩ := S.e.amb.tab
    rw [t.2] at hC; cases hC
  have cM : ∀ x c, env.cells.lookup x = some c → c ∈ Mw := fun x c e => S.cellW x c e hfn
  have S' := S.hide T kk (wr := [Ca]) (fun b hb => by rw [List.mem_singleton.mp hb]; exact hC) (fun b hb => by rw [List.mem_singleton.mp hb]; exact alC)
  have hCM : Ca ∉ Mw ++ Mc := fun q => by obtain ⟨o, g⟩ := S.e.alive Ca q; rw [hC] at g; cases g
  have hCB : B.heap.get? Ca = none := by
    cases q : B.heap.get? Ca with
    | none => rfl
    | some o => have := S.base.heap Ca o hCp (by simp) q; rw [hC] at this; cases this
  show wpAny _ A (assign (.Name y py) env (.ref Da)) _ _ _
  refine wpAny_assign_Name (store_d T S' hk (rda_d.mpr (rd.hidden fun b hb => ?_)) fun s3 S3 k3 => ?_)
  · rcases List.mem_append.mp hb with q | q
    · exact .tail _ (List.mem_append.mpr (.inl q))
    · rcases List.mem_append.mp q with q | q
      · rw [List.mem_singleton.mp q]; exact .head _
      · exact .tail _ (List.mem_append.mpr (.inr q))
  · refine ⟨m, nsKpx n k3 hCp (fun q => hCM (List.mem_append.mpr (.inl q))), fun h' hs' => ?_⟩
    have kC := kpx_same' hs' hCp (ne93 T hCH)
    exact k _ (S3.drop T kC (fun b hb => by rw [List.mem_singleton.mp hb]; exact hCB) (fun _ q => nomatch q) (fun b hb => by rw [List.mem_singleton.mp hb]; exact hCM) fun x c e => List.mem_append.mpr (.inl (cM x c e)))
end
end Mine

namespace Mine
open PySem PySem.W PyProof.Rows PySem.Calls PySem.Spec

section
variable {prog : Program} {w : World} {K : Frag} {H : Heap} {A : Around} {env : Env} {M Mc Mw : List Addr} {σ : Vars} {B : Shared} {s : Shared}

/-- o.name(args) by a method of the value's type -/
theorem ev_meth (T : Top0 K H) {o : Expr} {name : Str} {apos pos : Pos} {args : List Expr} {pl : Sem Bool} {avo av : AV} {avs : List AV} {f : Value} (hf : KeepsF K f) (h1 : EvT prog w H A env M σ o avo)
    (hg : ∀ (s : Shared) (v : Value) (Q : Value × List Value → Shared → Prop) (E : Value → Shared → Prop), Amb H s.heap → RdA s.heap M v avo → Q (f, [v]) s → wpAny (model prog w) A (getMethod v name pl) Q E s)
    (h2 : EvLs prog w H A env M σ pos args avs) (hc : CallT prog w H A M f (avo :: avs) av) (hs : (backTo pos (starEach args env)).any (·.1) = false := by rfl)
    (he : eval (.Call (.Attribute o name apos) args [] pos) env = (do
      let ov ← eval o env
      standAt apos.atName
      let (f, first) ← holding [ov] (getMethod ov name pl)
      callWith pos f first (backTo pos (starEach args env)) []) := by rfl) : EvT prog w H A env M σ (.Call (.Attribute o name apos) args [] pos) av := fun s Q E S h => by
  refine MethodCall_ (h1 s _ _ S fun v s1 k1 r1 => hg s1 v _ _ (S.kp T k1).amb r1 ?_) he
  have S1 := S.kp T k1
  refine call_with T hf S1 h2 hs fun vs s2 k2 r2 => ?_
  have S2 := S1.kp T k2
  exact hc s2 _ _ _ S2.amb S2.alive S2.fresh (rdal_cons (r1.kp T S1 k2) r2) fun u s3 k3 r3 => h u s3 ((k1.trans k2).trans k3) r3

theorem strs_of {h : Heap} : ∀ {xs : List Str} {vs : List Value}, RdL h M vs (xs.map .str) → ∃ l : List (Str × Tok), vs = strValues l ∧ l.map (·.1) = xs
  | [], _, r => by unfold RdL at r; subst r; exact ⟨[], rfl, rfl⟩
  | x :: xs, _, r => by
    rw [List.map_cons] at r
    unfold RdL at r
    obtain ⟨v, vr, rfl, a, b⟩ := r
    unfold Rd at a
    obtain ⟨t, rfl⟩ := a
    obtain ⟨l, rfl, rfl⟩ := strs_of b
    exact ⟨(x, t) :: l, rfl, rfl⟩
theorem one_of {h : Heap} {vs : List Value} {a : AV} (r : RdAL h M vs [a]) : ∃ v, vs = [v] ∧ RdA h M v a := by
  unfold RdAL at r
  obtain ⟨v, r', rfl, x, y⟩ := r
  unfold RdAL at y
  subst y
  exact ⟨v, rfl, x⟩
theorem two_of {h : Heap} {vs : List Value} {a b : AV} (r : RdAL h M vs [a, b]) : ∃ v u, vs = [v, u] ∧ RdA h M v a ∧ RdA h M u b := by
  unfold RdAL at r
  obtain ⟨v, r', rfl, x, y⟩ := r
  obtain ⟨u, rfl, z⟩ := one_of y
  exact ⟨v, u, rfl, x, z⟩

theorem join_ok {sep : Str} {xs : List Str} (ok : JoinOk sep xs = true) : CallT prog w H A M (.builtin "str.join") [.d (.str sep), .d (.list (xs.map .str))] (.d (.str (Txt.join sep xs))) := fun s vs Q E _ _ _ r h => by
  obtain ⟨v, u, rfl, a, b⟩ := two_of r
  obtain ⟨t, rfl⟩ := str_of a
  obtain ⟨D, items, rfl, _, _, hl, rl⟩ := list_of b
  obtain ⟨l, hv, hx⟩ := strs_of rl
  exact SC.join (l := l) (by rw [← hv, Array.toArray_toList]; exact hl) hx ok fun t' k => h _ _ Kp.toks rd_str

theorem tuple_ok {ds : List D} (T : Top0 K H) (hl : ds.length ≤ sizeLine) : CallT prog w H A M (.type "tuple") [.d (.list ds)] (.d (.tup ds)) := fun s vs Q E amb al _ r h => by
  obtain ⟨v, rfl, a⟩ := one_of r
  obtain ⟨D, items, rfl, hm, hp, hli, rl⟩ := list_of a
  have e : items.size = ds.length := by rw [← rl.length]; simp
  refine call_tuple_list hli (fun h' keep => ?_) (by rw [e]; exact hl)
  have k : Kp s { s with heap := h' } := Kp.of (tk := s.toks) keep
  have k2 : Kp s { s with heap := h'.push { cls := .type "tuple", data := .seq items } } := Kp.of (tk := s.toks) fun b o e => Heap.get?_push_of_some _ (keep b o e)
  refine h _ _ k2 (rda_d.mpr ?_)
  unfold Rd
  refine ⟨_, items, rfl, fun q => ?_, (amb.kp k).ne_pt, ⟨_, Heap.get?_push_size _ rfl, rfl, _, rfl⟩, rl.kp k2⟩
  obtain ⟨o, e⟩ := al _ q
  exact Nat.lt_irrefl _ (Heap.lt_size (keep _ _ e))
theorem tuple_own {a : Addr} {ds : List D} (T : Top0 K H) (hl : ds.length ≤ sizeLine) : CallT prog w H A M (.type "tuple") [.own a (ds.map .d)] (.d (.tup ds)) := fun s vs Q E amb al _ r h => by
  obtain ⟨v, rfl, x⟩ := one_of r
  obtain ⟨rfl, hm, items, hpl, rl⟩ := own_of x
  have rl := rl.toD
  have e : items.size = ds.length := by rw [← rl.length]; simp
  refine call_tuple_list hpl.isList (fun h' keep => ?_) (by rw [e]; exact hl)
  have k : Kp s { s with heap := h' } := Kp.of (tk := s.toks) keep
  have k2 : Kp s { s with heap := h'.push { cls := .type "tuple", data := .seq items } } := Kp.of (tk := s.toks) fun b o e => Heap.get?_push_of_some _ (keep b o e)
  refine h _ _ k2 (rda_d.mpr ?_)
  unfold Rd
  refine ⟨_, items, rfl, fun q => ?_, (amb.kp k).ne_pt, ⟨_, Heap.get?_push_size _ rfl, rfl, _, rfl⟩, rl.kp k2⟩
  obtain ⟨o, e⟩ := al _ q
  exact Nat.lt_irrefl _ (Heap.lt_size (keep _ _ e))

theorem sum_pre (ns : List Int) : ∀ k, k ≤ ns.length → preSum (fun i => ns.getD i 0) k = (ns.take k).sum
  | 0, _ => rfl
  | k + 1, h => by
    have hk : k < ns.length := h
    show preSum _ k + _ = _
    rw [sum_pre ns k (Nat.le_of_lt hk), List.take_add_one, List.getElem?_eq_getElem hk, List.sum_append]
    simp [hk]
theorem sum_ok (T : Top0 K H) (hh : A.handled = none) {ns : List Int} (hf : ∀ k, k < ns.length → InLong (ns.getD k 0) ∧ InLong (ns.take (k + 1)).sum) : CallT prog w H A M (.builtin "sum") [.d (.list (ns.map D.int))] (.d (.int ns.sum)) := fun s vs Q E amb al _ r h => by
  obtain ⟨v, rfl, a⟩ := one_of r
  obtain ⟨Da, items, rfl, hm, hp, hl, rl⟩ := list_of a
  refine call_sum_walk (wpAny_pyIter_list hl ?_)
  have hlt : Da < s.heap.objs.size := let ⟨o, e, _⟩ := hl; Heap.lt_size e
  have hsz : items.size = ns.length := by have := rl.length; simp at this; exact this
  have hP : ∀ (i : Nat) (v : Value), items[i]? = some v → ∃ t, v = Value.int (ns.getD i 0) t := fun i v hv => by
    have hi : i < ns.length := by rw [← hsz]; exact (Array.getElem?_eq_some_iff.mp hv).1
    have hg : (ns.map D.int)[i]? = some (D.int (ns.getD i 0)) := by rw [List.getElem?_map, List.getElem?_eq_getElem hi]; simp [hi]
    obtain ⟨v', h1, h2⟩ := rl.get hg
    rw [Array.getElem?_toList, hv] at h1
    cases h1
    unfold Rd at h2
    exact h2
  refine ⟨_, _, _, _, _, _, fun i => ns.getD i 0, rfl, Walks.list (A := A.in1) hh s.heap.objs.size Da (Nat.ne_of_lt hlt) items, ⟨⟨_, Heap.get?_push_size _ rfl, rfl, rfl⟩, hl.push _⟩, fun b hb => ?_, hP, fun j hj => ?_, fun h' tk t' keep => ?_⟩
  · show b < (s.heap.push _).objs.size
    rw [Heap.size_push]
    rcases List.mem_cons.mp hb with rfl | hb
    · exact Nat.lt_succ_self _
    · rw [List.mem_singleton.mp hb]; exact Nat.lt_succ_of_lt hlt
  · have hj' : j < ns.length := by rw [← hsz]; exact hj
    rw [sum_pre ns (j + 1) hj']
    exact hf j hj'
  · rw [hsz, sum_pre ns _ (Nat.le_refl _), List.take_length]
    refine h _ _ (Kp.of fun b o e => keep b o ?_ (Heap.get?_push_of_some _ e)) rd_int
    intro q
    rw [List.mem_singleton.mp q] at e
    exact Nat.lt_irrefl _ (Heap.lt_size e)

theorem two_walk (hh : A.handled = none) {s : Shared} {a b : Int} {t u : Tok} : ∀ i v, (#[Value.int a t, Value.int b u] : Array Value)[i]? = some v → (i = 0 ∧ v = .int a t) ∨ (i = 1 ∧ v = .int b u) := fun i v h => by
  rcases i with _ | _ | i
  · left; simpa using h.symm
  · right; simpa using h.symm
  · simp at h
theorem max_ok (hh : A.handled = none) {a b : Int} : CallT prog w H A M (.builtin "max") [.d (.int a), .d (.int b)] (.d (.int (if b > a then b else a))) := fun s vs Q E amb al _ r h => by
  obtain ⟨v, v', rfl, x, y⟩ := two_of r
  obtain ⟨t, rfl⟩ := int_of x
  obtain ⟨u, rfl⟩ := int_of y
  have ht : (s.heap.push { cls := .type "tuple", data := .seq #[.int a t, .int b u] }).IsTuple s.heap.objs.size #[.int a t, .int b u] := ⟨_, Heap.get?_push_size _ rfl, rfl, _, rfl⟩
  refine call_max_two (wpAny_pyIter_tuple ht ?_)
  let nm : Nat → Int := fun i => if i = 0 then a else b
  refine ⟨_, _, _, _, _, _, fun i j => decide (nm i > nm j), rfl, Walks.tuple (A := A.in1) hh _ s.heap.objs.size (by show s.heap.objs.size ≠ (s.heap.push _).objs.size; rw [Heap.size_push]; exact Nat.ne_of_lt (Nat.lt_succ_self _)) #[.int a t, .int b u], ⟨⟨_, Heap.get?_push_size _ rfl, rfl, rfl⟩, ?_⟩, fun c hc => ?_, by simp, ?_, fun v h' tk hP keep => ?_⟩
  · obtain ⟨o, e, r⟩ := ht; exact ⟨o, Heap.get?_push_of_some _ e, r⟩
  · show c < ((s.heap.push _).push _).objs.size
    rw [Heap.size_push, Heap.size_push]
    rcases List.mem_cons.mp hc with rfl | hc
    · show (s.heap.push _).objs.size < _; rw [Heap.size_push]; exact Nat.lt_succ_self _
    · rw [List.mem_singleton.mp hc]; exact Nat.lt_succ_of_lt (Nat.lt_succ_self _)
  · intro i j vi vj s' Q' E' hi hj hq
    show wpAny _ _ (compareOp .Gt vi vj) _ _ _
    rcases two_walk (A := A) (s := s) hh i vi hi with ⟨rfl, rfl⟩ | ⟨rfl, rfl⟩ <;> rcases two_walk (A := A) (s := s) hh j vj hj with ⟨rfl, rfl⟩ | ⟨rfl, rfl⟩ <;> exact gt_int hq
  · have kk : Kp s { s with heap := h', toks := tk } := Kp.of fun c o e => keep c o (fun q => by
      rw [List.mem_singleton.mp q] at e
      have := Heap.lt_size e
      rw [Heap.size_push] at this
      exact absurd this (Nat.not_lt.mpr (Nat.le_succ _))) (Heap.get?_push_of_some _ (Heap.get?_push_of_some _ e))
    refine h _ _ kk ?_
    have hb : argBest (fun i j => decide (nm i > nm j)) (2 - 1) = if b > a then 1 else 0 := by
      show (if decide (nm 1 > nm 0) = true then 1 else 0) = _
      simp [nm]
    have hP' : (#[Value.int a t, Value.int b u] : Array Value)[if b > a then 1 else 0]? = some v := by rw [← hb]; exact hP
    by_cases q : b > a
    · rw [if_pos q] at hP' ⊢; simp at hP'; rw [← hP']; exact rd_int
    · rw [if_neg q] at hP' ⊢; simp at hP'; rw [← hP']; exact rd_int
theorem min_ok (hh : A.handled = none) {a b : Int} : CallT prog w H A M (.builtin "min") [.d (.int a), .d (.int b)] (.d (.int (if b < a then b else a))) := fun s vs Q E amb al _ r h => by
  obtain ⟨v, v', rfl, x, y⟩ := two_of r
  obtain ⟨t, rfl⟩ := int_of x
  obtain ⟨u, rfl⟩ := int_of y
  have ht : (s.heap.push { cls := .type "tuple", data := .seq #[.int a t, .int b u] }).IsTuple s.heap.objs.size #[.int a t, .int b u] := ⟨_, Heap.get?_push_size _ rfl, rfl, _, rfl⟩
  refine call_min_two (wpAny_pyIter_tuple ht ?_)
  let nm : Nat → Int := fun i => if i = 0 then a else b
  refine ⟨_, _, _, _, _, _, fun i j => decide (nm i < nm j), rfl, Walks.tuple (A := A.in1) hh _ s.heap.objs.size (by show s.heap.objs.size ≠ (s.heap.push _).objs.size; rw [Heap.size_push]; exact Nat.ne_of_lt (Nat.lt_succ_self _)) #[.int a t, .int b u], ⟨⟨_, Heap.get?_push_size _ rfl, rfl, rfl⟩, ?_⟩, fun c hc => ?_, by simp, ?_, fun v h' tk hP keep => ?_⟩
  · obtain ⟨o, e, r⟩ := ht; exact ⟨o, Heap.get?_push_of_some _ e, r⟩
  · show c < ((s.heap.push _).push _).objs.size
    rw [Heap.size_push, Heap.size_push]
    rcases List.mem_cons.mp hc with rfl | hc
    · show (s.heap.push _).objs.size < _; rw [Heap.size_push]; exact Nat.lt_succ_self _
    · rw [List.mem_singleton.mp hc]; exact Nat.lt_succ_of_lt (Nat.lt_succ_self _)
  · intro i j vi vj s' Q' E' hi hj hq
    show wpAny _ _ (compareOp .Lt vi vj) _ _ _
    rcases two_walk (A := A) (s := s) hh i vi hi with ⟨rfl, rfl⟩ | ⟨rfl, rfl⟩ <;> rcases two_walk (A := A) (s := s) hh j vj hj with ⟨rfl, rfl⟩ | ⟨rfl, rfl⟩ <;> exact lt_int hq
  · have kk : Kp s { s with heap := h', toks := tk } := Kp.of fun c o e => keep c o (fun q => by
      rw [List.mem_singleton.mp q] at e
      have := Heap.lt_size e
      rw [Heap.size_push] at this
      exact absurd this (Nat.not_lt.mpr (Nat.le_succ _))) (Heap.get?_push_of_some _ (Heap.get?_push_of_some _ e))
    refine h _ _ kk ?_
    have hb : argBest (fun i j => decide (nm i < nm j)) (2 - 1) = if b < a then 1 else 0 := by
      show (if decide (nm 1 < nm 0) = true then 1 else 0) = _
      simp [nm]
    have hP' : (#[Value.int a t, Value.int b u] : Array Value)[if b < a then 1 else 0]? = some v := by rw [← hb]; exact hP
    by_cases q : b < a
    · rw [if_pos q] at hP' ⊢; simp at hP'; rw [← hP']; exact rd_int
    · rw [if_neg q] at hP' ⊢; simp at hP'; rw [← hP']; exact rd_int
theorem str_ok {a : Int} (ha : a.natAbs.log2 < 1920) : CallT prog w H A M (.type "str") [.d (.int a)] (.d (.str (toString a))) := fun s vs Q E amb al _ r h => by
  obtain ⟨v, rfl, x⟩ := one_of r
  obtain ⟨t, rfl⟩ := int_of x
  exact P.str_of_int ha (h _ _ Kp.toks rd_str)

theorem cmp_is_none {d : D} : CmpT prog w H A M .Is (.d d) (.d .none) (match d with | .none => true | _ => false) := fun s u v Q E _ x y h => by
  obtain rfl := none_of y
  cases d with
  | none => obtain rfl := none_of x; exact is_none_none (h s (KpX.refl _))
  | bool b => obtain rfl := bool_of x; exact is_none_ne (by intro e; cases e) (h s (KpX.refl _))
  | int i => obtain ⟨t, rfl⟩ := int_of x; exact is_none_ne (by intro e; cases e) (h s (KpX.refl _))
  | str i => obtain ⟨t, rfl⟩ := str_of x; exact is_none_ne (by intro e; cases e) (h s (KpX.refl _))
  | tup l => obtain ⟨a, _, rfl, _⟩ := tup_of x; exact is_none_ne (by intro e; cases e) (h s (KpX.refl _))
  | list l => obtain ⟨a, _, rfl, _⟩ := list_of x; exact is_none_ne (by intro e; cases e) (h s (KpX.refl _))
  | inst l => have e := rda_d.mp x; unfold Rd at e; obtain ⟨a, _, _, _, _, rfl, _⟩ := e; exact is_none_ne (by intro e; cases e) (h s (KpX.refl _))
  | opq a => have e := rda_d.mp x; unfold Rd at e; obtain ⟨rfl, _⟩ := e; exact is_none_ne (by intro e; cases e) (h s (KpX.refl _))
end
end Mine

namespace Mine
open PySem PySem.W PyProof.Rows PySem.Calls PySem.Spec

mutual
/-- the list at a now holds l' -/
def AV.put (a : Addr) (l' : List D) : AV → AV
  | .d x => .d x
  | .own b l => if b = a then .own a (l'.map .d) else .own b (AV.putL a l' l)
  | .obj x dx l => .obj x dx l
def AV.putL (a : Addr) (l' : List D) : List AV → List AV
  | [] => []
  | z :: l => AV.put a l' z :: AV.putL a l' l
end
def putV (a : Addr) (l' : List D) (σ : Vars) : Vars := fun y => (σ y).map (AV.put a l')

theorem Rd.off {h : Heap} {M : List Addr} {c : Addr} {d : D} (x : Rd h M (.ref c) d) : c ∉ M := by
  cases d with
  | none => unfold Rd at x; cases x
  | bool _ => unfold Rd at x; cases x
  | int _ => unfold Rd at x; obtain ⟨_, x⟩ := x; cases x
  | str _ => unfold Rd at x; obtain ⟨_, x⟩ := x; cases x
  | tup _ => unfold Rd at x; obtain ⟨_, _, e, h1, _⟩ := x; cases e; exact h1
  | list _ => unfold Rd at x; obtain ⟨_, _, e, h1, _⟩ := x; cases e; exact h1
  | inst _ => unfold Rd at x; obtain ⟨_, _, _, _, _, e, h1, _⟩ := x; cases e; exact h1
  | opq _ => unfold Rd at x; obtain ⟨e, h1, _⟩ := x; cases e; exact h1
/-- what a list of data holds is data, however it is told -/
theorem RdAL.leaf {h : Heap} {M : List Addr} : ∀ {l : List AV} {ds : List D} {vs : List Value}, RdAL h M vs l → RdL h M vs ds → AV.addrsL l = []
  | [], _, _, _, _ => by unfold AV.addrsL; rfl
  | z :: l, [], _, x, y => by
    unfold RdL at y; subst y
    unfold RdAL at x; obtain ⟨v, r, e, _⟩ := x; cases e
  | z :: l, d :: ds, _, x, y => by
    unfold RdAL at x; unfold RdL at y
    obtain ⟨v, r, rfl, xa, xb⟩ := x
    obtain ⟨v', r', e, ya, yb⟩ := y
    cases e
    have ih := RdAL.leaf xb yb
    unfold AV.addrsL
    rw [ih]
    cases z with
    | d x => unfold AV.addrs; rfl
    | own b m => unfold RdA at xa; obtain ⟨rfl, hm, _⟩ := xa; exact absurd hm ya.off
    | obj b c m => unfold RdA at xa; obtain ⟨rfl, hm, _⟩ := xa; exact absurd hm ya.off

theorem plain_unique {h : Heap} {a : Addr} {i j : Array Value} (x : h.PlainList a i) (y : h.PlainList a j) : i = j := by
  obtain ⟨n, x⟩ := x; obtain ⟨m, y⟩ := y
  rw [x] at y; cases y; rfl

mutual
theorem put_addrs {h : Heap} {M : List Addr} {a : Addr} {items : Array Value} {l₀ l' : List D} (hp : h.PlainList a items) (h0 : RdL h M items.toList l₀) : ∀ {av : AV} {v : Value}, RdA h M v av → (av.put a l').addrs = av.addrs
  | .d _, _, _ => by unfold AV.put; rfl
  | .obj _ _ _, _, _ => by unfold AV.put; rfl
  | .own b l, _, x => by
    unfold RdA at x
    obtain ⟨e, hm, items', hp', y⟩ := x
    unfold AV.put
    by_cases q : b = a
    · subst q
      cases plain_unique hp hp'
      rw [if_pos rfl]
      unfold AV.addrs
      rw [addrsL_d, y.leaf h0]
    · rw [if_neg q]
      unfold AV.addrs
      rw [putL_addrs hp h0 y]
theorem putL_addrs {h : Heap} {M : List Addr} {a : Addr} {items : Array Value} {l₀ l' : List D} (hp : h.PlainList a items) (h0 : RdL h M items.toList l₀) : ∀ {l : List AV} {vs : List Value}, RdAL h M vs l → AV.addrsL (AV.putL a l' l) = AV.addrsL l
  | [], _, _ => by unfold AV.putL; rfl
  | z :: l, _, x => by
    unfold RdAL at x
    obtain ⟨v, r, e, xa, xb⟩ := x
    unfold AV.putL AV.addrsL
    rw [put_addrs hp h0 xa, putL_addrs hp h0 xb]
end
theorem plain_not_dict {h : Heap} {a : Addr} {its : Array Value} {es : List DictEntry} {n : Nat} (p : h.PlainList a its) (g : h.get? a = some (dictOf es n)) : False := by
  obtain ⟨m, e⟩ := p
  rw [e] at g
  have := congrArg (fun o : Option Obj => o.map (fun o => match o.data with | .seq _ _ => true | _ => false)) g
  simp [dictOf] at this
theorem plain_not_obj {h : Heap} {a d : Addr} {its : Array Value} {sl : Array (Option Value)} (p : h.PlainList a its) (g : h.get? a = some ⟨.ref 83, some d, .plain, sl⟩) : False := by
  obtain ⟨m, e⟩ := p
  rw [e] at g
  cases g

mutual
theorem RdA.put {h h' : Heap} {M : List Addr} {a : Addr} {its items' : Array Value} {l' : List D} (ha : a ∈ M) (h0 : h.PlainList a its) (hs : Heap.ExtBut a h h') (hp : h'.PlainList a items') (hr : RdL h' M items'.toList l') : ∀ {av : AV} {v : Value}, RdA h M v av → RdA h' M v (av.put a l')
  | .d _, _, x => by
    unfold AV.put
    exact rda_d.mpr ((rda_d.mp x).mono fun b o h1 _ e => ⟨h1, hs b o (fun q => h1 (q ▸ ha)) e⟩)
  | .obj x dx l, _, r => by
    unfold AV.put
    unfold RdA at r ⊢
    obtain ⟨e, h1, h2, sl, es, n, g1, g2, ks, y⟩ := r
    have ne1 : x ≠ a := fun z => by subst z; exact plain_not_obj h0 g1
    have ne2 : dx ≠ a := fun z => by subst z; exact plain_not_dict h0 g2
    exact ⟨e, h1, h2, sl, es, n, hs _ _ ne1 g1, hs _ _ ne2 g2, ks, y.mono fun b o h1 _ e => ⟨h1, hs b o (fun q => h1 (q ▸ ha)) e⟩⟩
  | .own b l, _, x => by
    unfold RdA at x
    obtain ⟨e, hm, items, hp0, y⟩ := x
    unfold AV.put
    by_cases q : b = a
    · subst q
      rw [if_pos rfl]
      unfold RdA
      exact ⟨e, ha, items', hp, hr.toA⟩
    · rw [if_neg q]
      unfold RdA
      exact ⟨e, hm, items, hp0.extBut hs q, RdAL.put ha h0 hs hp hr y⟩
theorem RdAL.put {h h' : Heap} {M : List Addr} {a : Addr} {its items' : Array Value} {l' : List D} (ha : a ∈ M) (h0 : h.PlainList a its) (hs : Heap.ExtBut a h h') (hp : h'.PlainList a items') (hr : RdL h' M items'.toList l') : ∀ {l : List AV} {vs : List Value}, RdAL h M vs l → RdAL h' M vs (AV.putL a l' l)
  | [], _, x => by unfold AV.putL; unfold RdAL at x ⊢; exact x
  | z :: l, _, x => by
    unfold RdAL at x
    obtain ⟨v, r, rfl, xa, xb⟩ := x
    unfold AV.putL
    exact rdal_cons (RdA.put ha h0 hs hp hr xa) (RdAL.put ha h0 hs hp hr xb)
end

section
variable {prog : Program} {w : World} {K : Frag} {H : Heap} {A : Around} {env : Env} {Mc Mw : List Addr} {σ : Vars} {B : Shared} {s s' : Shared}
variable {rest : List Stmt} {Kk : Flow → Shared → Prop} {E : Value → Shared → Prop}

/-- a list of the frame's own is written -/
theorem St.put (T : Top0 K H) (S : St H B Mc env Mw σ s) {a : Addr} {its items' : Array Value} {l₀ l' : List D} {h' : Heap} {tk : Nat} (ha : a ∈ Mw) (h0 : s.heap.PlainList a its) (r0 : RdL s.heap (Mw ++ Mc) its.toList l₀) (hs : Heap.SameBut a s.heap h') (hp : h'.PlainList a items')
    (hr : RdL s.heap (Mw ++ Mc) items'.toList l') : St H B Mc env Mw (putV a l' σ) { s with heap := h', toks := tk } := by
  have hpt := S.e.ne_pt T (List.mem_append.mpr (.inl ha))
  have k := kpx_same (tk := tk) hs hpt (ne93 T (S.e.fresh a (List.mem_append.mpr (.inl ha))))
  have aM : a ∈ Mw ++ Mc := List.mem_append.mpr (.inl ha)
  have hL : env.locals ≠ a := fun q => by
    obtain ⟨m, o, es, ep, g, hd, _⟩ := S.ns
    obtain ⟨n, e⟩ := h0
    rw [q, e] at g; cases g; cases hd
  have hC : ∀ x c, env.cells.lookup x = some c → c ≠ a := fun x c e q => by
    obtain ⟨v, o, g, hd⟩ := S.cells x c e
    obtain ⟨n, e⟩ := h0
    rw [q, e] at g; cases g; cases hd
  have hr' : RdL h' (Mw ++ Mc) items'.toList l' := hr.mono fun b o h1 _ e => ⟨h1, hs.extBut b o (fun q => h1 (q ▸ aM)) e⟩
  have adr : ∀ {x av}, σ x = some av → (av.put a l').addrs = av.addrs := fun {x av} e => by
    obtain ⟨v, _, r⟩ := S.e.vars x av e
    exact put_addrs h0 r0 r
  have get : ∀ {x av'}, putV a l' σ x = some av' → ∃ av, σ x = some av ∧ av.put a l' = av' := fun {x av'} e => Option.map_eq_some_iff.mp e
  refine S.write T ha k (let ⟨n, e⟩ := hp; ⟨_, e⟩) (let ⟨m, n⟩ := S.ns; ⟨m, n.at' fun o e => hs.extBut _ o hL e⟩) (fun x c e => let ⟨v, o, g, d⟩ := S.cells x c e; ⟨v, o, hs.extBut _ _ (hC x c e) g, d⟩) (fun x av' e => ?_) (fun x av' e => ?_) (fun x av' e b hb => ?_)
  · obtain ⟨av, e1, rfl⟩ := get e
    obtain ⟨v, l, r⟩ := S.e.vars x av e1
    refine ⟨v, ?_, r.put aM h0 hs.extBut hp hr'⟩
    rcases l with ⟨e1, m0, n0, y0⟩ | ⟨e1, c, lc, o, g, d⟩
    · exact .inl ⟨e1, _, n0.at' fun o e => hs.extBut _ o hL e, y0⟩
    · exact .inr ⟨e1, c, lc, o, hs.extBut _ _ (hC x c lc) g, d⟩
  · obtain ⟨av, e1, rfl⟩ := get e
    rw [adr e1]
    obtain ⟨h1, h2, h3⟩ := S.sep x av e1
    refine ⟨h1, h2, fun y av'' e' => ?_⟩
    obtain ⟨av2, e2, rfl⟩ := get e'
    rw [adr e2]
    exact h3 y av2 e2
  · obtain ⟨av, e1, rfl⟩ := get e
    rw [adr e1] at hb
    exact S.ownW x av e1 b hb
end
end Mine

namespace Mine
open PySem PySem.W PyProof.Rows PySem.Calls PySem.Spec

section
variable {prog : Program} {w : World} {K : Frag} {H : Heap} {A : Around} {env : Env} {M Mc Mw : List Addr} {σ : Vars} {B : Shared} {s s' : Shared}
variable {rest : List Stmt} {Kk : Flow → Shared → Prop} {E : Value → Shared → Prop}

theorem RdA.same {h : Heap} {M M' : List Addr} (e : ∀ b, b ∈ M ↔ b ∈ M') {v : Value} {av : AV} (x : RdA h M v av) : RdA h M' v av :=
  x.mono (fun b o h1 _ g => ⟨fun q => h1 ((e b).mpr q), g⟩) fun b hb => ⟨(e b).mp (x.mem b hb), fun _ g => g⟩
/-- what was hidden becomes the frame's own -/
theorem St.take {a : Addr} (S : St H B (a :: Mc) env Mw σ s) (hB : B.heap.get? a = none) (ha : a ∉ Mc) : St H B Mc env (a :: Mw) σ s := by
  have iff : ∀ b, b ∈ Mw ++ a :: Mc ↔ b ∈ (a :: Mw) ++ Mc := fun b => by simp [or_left_comm]
  exact {
    e := { S.e with
      alive := fun m hm => S.e.alive m ((iff m).mpr hm)
      fresh := fun m hm => S.e.fresh m ((iff m).mpr hm)
      locM := (iff _).mp S.e.locM
      cellM := fun x c e => (iff _).mp (S.e.cellM x c e)
      vars := fun x av e => let ⟨v, l, r⟩ := S.e.vars x av e; ⟨v, l, r.same iff⟩ }
    base := S.base
    off := fun m hm => by
      rcases List.mem_cons.mp hm with rfl | hm
      · exact hB
      · exact S.off m hm
    locW := .tail _ S.locW
    cellW := fun x c e q => .tail _ (S.cellW x c e q)
    cellN := S.cellN, locC := S.locC, ns := S.ns, cells := S.cells, sep := S.sep
    ownW := fun x av e b hb => ⟨.tail _ (S.ownW x av e b hb).1, fun q => (S.ownW x av e b hb).2 (.tail _ q)⟩ }

variable (prog w H A env M σ) in
/-- an expression that makes a list -/
def EvN (e : Expr) (l : List D) : Prop :=
  ∀ (s : Shared) (Q : Value → Shared → Prop) (E : Value → Shared → Prop), StE H env M σ s → (∀ a its s', Kp s s' → s.heap.get? a = none → s'.heap.PlainList a its → RdL s'.heap (a :: M) its.toList l → Q (.ref a) s') → wpAny (model prog w) A (eval e env) Q E s
theorem RdL.push {h h' : Heap} {M : List Addr} {a : Addr} {vs : List Value} {l : List D} (r : RdL h M vs l) (ha : h.get? a = none) (k : ∀ b o, h.get? b = some o → h'.get? b = some o) : RdL h' (a :: M) vs l :=
  r.mono fun b o h1 _ e => ⟨fun q => by
    rcases List.mem_cons.mp q with rfl | q
    · rw [ha] at e; cases e
    · exact h1 q, k b o e⟩
theorem evn_list (T : Top0 K H) {es : List Expr} {l : List D} {pos : Pos} (h1 : EvLs prog w H A env M σ pos es (l.map .d)) (hl : l.length ≤ sizeLine) : EvN prog w H A env M σ (.List es pos) l := fun s Q E S h => by
  refine wpAny_List_spliced (h1 s _ _ S fun vs s1 k1 r1 => ?_)
  have S1 := S.kp T k1
  have r := r1.toD
  refine ⟨by rw [r.length]; exact hl, h _ vs.toArray _ (k1.trans Kp.push) (Kp.none S.amb k1 (size_none s1)) ⟨0, Heap.get?_push_size _ rfl⟩ ?_⟩
  exact r.push (size_none s1) fun b o e => Heap.get?_push_of_some _ e
theorem EvN.ev (T : Top0 K H) {e : Expr} {l : List D} (h : EvN prog w H A env M σ e l) : EvT prog w H A env M σ e (.d (.list l)) := fun s Q E S k => by
  refine h s Q E S fun a its s' k1 hn hp r => k _ s' k1 (rda_d.mpr ?_)
  unfold Rd
  refine ⟨a, its, rfl, fun q => ?_, ?_, hp.isList, r.mono fun b o h1 _ e => ⟨fun q => h1 (.tail _ q), e⟩⟩
  · obtain ⟨o, g⟩ := S.alive a q; rw [hn] at g; cases g
  · rintro rfl
    obtain ⟨ps, t, _⟩ := S.amb.tab
    rw [t.2] at hn; cases hn

/-- a value that is a list of data -/
def AsList (av : AV) (l : List D) : Prop := av = .d (.list l) ∨ ∃ a, av = .own a (l.map .d)
theorem aslist_of {h : Heap} {v : Value} {av : AV} {l : List D} (q : AsList av l) (x : RdA h M v av) : ∃ a items, v = .ref a ∧ h.IsList a items ∧ RdL h M items.toList l := by
  rcases q with rfl | ⟨a, rfl⟩
  · obtain ⟨a, items, e, _, _, hl, r⟩ := list_of x; exact ⟨a, items, e, hl, r⟩
  · obtain ⟨e, hm, items, hp, r⟩ := own_of x; exact ⟨a, items, e, hp.isList, r.toD⟩

theorem evn_add (T : Top0 K H) {l r : Expr} {pos : Pos} {a b : AV} {la lb : List D} (ha : AsList a la) (hb : AsList b lb) (h1 : EvT prog w H A env M σ l a) (h2 : EvT prog w H A env M σ r b) (hl : la.length + lb.length ≤ sizeLine) :
    EvN prog w H A env M σ (.BinOp l .Add r pos) (la ++ lb) := fun s Q E S h => by
  refine wpAny_BinOp (h1 s _ _ S fun u s1 k1 r1 => h2 s1 _ _ (S.kp T k1) fun v s2 k2 r2 => ?_)
  have S2 := (S.kp T k1).kp T k2
  obtain ⟨x, ix, rfl, hx, rx⟩ := aslist_of ha (r1.kp T (S.kp T k1) k2)
  obtain ⟨y, iy, rfl, hy, ry⟩ := aslist_of hb r2
  have ex := rx.length
  have ey := ry.length
  rw [Array.length_toList] at ex ey
  obtain ⟨⟨cls, dd, data, sl⟩, ho, hc, n, hd⟩ := id hx
  obtain ⟨⟨cls2, dd2, data2, sl2⟩, ho2, hc2, n2, hd2⟩ := id hy
  simp only at hc hd hc2 hd2
  subst hc hd hc2 hd2
  refine concat_meets ⟨_, ho, rfl⟩ ⟨_, ho2, rfl⟩ noFill_list_add seq_list_add PySem.F.slot_list_add PySem.F.entry_list_add (PySem.F.args_list_add_2 _ _) (list_addW x y ix iy n n2 dd dd2 sl sl2 (by omega)) ⟨ho, ho2, ?_⟩
  refine h _ (ix ++ iy) _ ((k1.trans k2).trans Kp.push) (Kp.none S.amb (k1.trans k2) (size_none s2)) ⟨0, Heap.get?_push_size _ rfl⟩ ?_
  rw [Array.toList_append]
  exact (rx.append ry).push (size_none s2) fun b o e => Heap.get?_push_of_some _ e

theorem RdL.flat {h : Heap} {vs : List Value} {l : List D} (r : RdL h M vs l) : ∀ k : Nat, RdL h M (List.replicate k vs).flatten (List.replicate k l).flatten
  | 0 => by simpa using rdl_nil
  | k + 1 => by
    rw [List.replicate_succ, List.replicate_succ, List.flatten_cons, List.flatten_cons]
    exact r.append (RdL.flat r k)
theorem evn_mul (T : Top0 K H) {l r : Expr} {pos : Pos} {a : AV} {la : List D} {x : Int} (ha : AsList a la) (h1 : EvT prog w H A env M σ l a) (h2 : EvT prog w H A env M σ r (.d (.int x))) (hlo : -(2 ^ 63 : Int) ≤ x) (hhi : x < 2 ^ 63) (hsz : la.length * x.toNat ≤ 2 ^ 24) :
    EvN prog w H A env M σ (.BinOp l .Mult r pos) (List.replicate x.toNat la).flatten := fun s Q E S h => by
  refine wpAny_BinOp (h1 s _ _ S fun u s1 k1 r1 => h2 s1 _ _ (S.kp T k1) fun v s2 k2 r2 => ?_)
  have S2 := (S.kp T k1).kp T k2
  obtain ⟨y, iy, rfl, hy, ry⟩ := aslist_of ha (r1.kp T (S.kp T k1) k2)
  obtain ⟨t, rfl⟩ := int_of r2
  have ey := ry.length
  rw [Array.length_toList] at ey
  obtain ⟨⟨cls, dd, data, sl⟩, ho, hc, n, hd⟩ := id hy
  simp only at hc hd
  subst hc hd
  rw [← ey] at hsz
  refine wpAny_binaryOp_repeat_ref (T := "list") (U := "int") (by decide) ⟨_, ho, rfl⟩ (fun s' => typeIs_int s' x t) noFill_list_mul F.fills_int_mul F.slot_int_rmul repeat_list F.slot_int_index.lookup
    (call_meets F.slot_int_rmul (typeIs_int s2 x t) F.entry_int_rmul (F.args_int_rmul_2 _ _) (lm_int_rmul_list_any x t y iy n dd sl)
      ⟨ho, rfl, ⟨_, ho, rfl⟩, call_meets F.slot_list_mul ⟨_, ho, rfl⟩ F.entry_list_mul (F.args_list_mul_2 _ _)
        (lm_list_mul_any y iy n dd sl x t (by simp [Builtin.List.listFitsIndex]; omega) (by omega) (by simp [Builtin.List.listTooLong, sizeLine]; omega))
        ⟨ho, ?_⟩⟩)
  rw [listMul_foldl_if]
  refine h _ (List.replicate x.toNat iy.toList).flatten.toArray _ ((k1.trans k2).trans Kp.push) (Kp.none S.amb (k1.trans k2) (size_none s2)) ⟨0, Heap.get?_push_size _ rfl⟩ ?_
  exact (ry.flat x.toNat).push (size_none s2) fun b o e => Heap.get?_push_of_some _ e

theorem own_new {σ : Vars} (S : St H B Mc env Mw σ s) {x : Str} {a : Addr} {l : List D} (ha : a ∉ Mw ++ Mc) : Sep env (upd σ x (.own a (l.map .d))) ∧ ∀ y av', upd σ x (.own a (l.map .d)) y = some av' → ∀ b ∈ av'.addrs, b ∈ a :: Mw ∧ b ∉ Mc := by
  have adr : (AV.own a (l.map .d)).addrs = [a] := by unfold AV.addrs; rw [addrsL_d]
  have nin : ∀ {y av'}, σ y = some av' → a ∉ av'.addrs := fun {y av'} e q => ha (List.mem_append.mpr (.inl (S.ownW y av' e a q).1))
  constructor
  · intro y av e
    unfold upd at e
    by_cases hy : y = x
    · rw [if_pos hy] at e; cases e
      rw [adr]
      refine ⟨by simp, fun b hb => ?_, fun z av' ez hz b hb => ?_⟩
      · rw [List.mem_singleton.mp hb]
        exact ⟨fun q => ha (q ▸ S.e.locM), fun y c lc q => ha (q ▸ S.e.cellM y c lc)⟩
      · unfold upd at ez
        rw [if_neg (fun q => hz (hy.trans q.symm))] at ez
        rw [List.mem_singleton.mp hb]
        exact nin ez
    · rw [if_neg hy] at e
      obtain ⟨h1, h2, h3⟩ := S.sep y av e
      refine ⟨h1, h2, fun z av' ez hz b hb => ?_⟩
      unfold upd at ez
      by_cases hzx : z = x
      · rw [if_pos hzx] at ez; cases ez
        rw [adr]
        intro q
        rw [List.mem_singleton.mp q] at hb
        exact nin e hb
      · rw [if_neg hzx] at ez; exact h3 z av' ez hz b hb
  · intro y av' e b hb
    unfold upd at e
    by_cases hy : y = x
    · rw [if_pos hy] at e; cases e
      rw [adr, List.mem_singleton] at hb
      subst hb
      exact ⟨.head _, fun q => ha (List.mem_append.mpr (.inr q))⟩
    · rw [if_neg hy] at e
      exact ⟨.tail _ (S.ownW y av' e b hb).1, (S.ownW y av' e b hb).2⟩

/-- x = a new list -/
theorem x_new (T : Top0 K H) (S : St H B Mc env Mw σ s) {x : Str} {p pos : Pos} {e : Expr} {l : List D} (h1 : EvN prog w H A env (Mw ++ Mc) σ e l) (hk : BindOk env x)
    (k : ∀ a s', St H B Mc env (a :: Mw) (upd σ x (.own a (l.map .d))) s' → wpAny (model prog w) A (execs rest env) Kk E s') (hs : swapsWith e (some (Expr.Name x p)) pos.line env = pure false := by rfl) :
    wpAny (model prog w) A (execs (.Assign [.Name x p] e pos :: rest) env) Kk E s :=
  x_next (wpAny_Assign_Name (h1 s _ _ S.e fun a its s1 k1 hn hp r1 => by
    have hnM : a ∉ Mw ++ Mc := fun q => by obtain ⟨o, g⟩ := S.e.alive a q; rw [hn] at g; cases g
    have hB := kp_base_none S.e.amb S.base hn
    have S1 := S.hide T k1 (wr := [a]) (fun b hb => by rw [List.mem_singleton.mp hb]; exact hn) (fun b hb => by rw [List.mem_singleton.mp hb]; obtain ⟨n, e⟩ := hp; exact ⟨_, e⟩)
    have S2 : St H B Mc env (a :: Mw) σ s1 := St.take S1 hB fun q => hnM (List.mem_append.mpr (.inr q))
    obtain ⟨sep, ow⟩ := own_new (x := x) (l := l) S hnM
    refine store T S2 hk ?_ sep ow fun s2 S3 _ => ⟨rfl, k a s2 S3⟩
    unfold RdA
    exact ⟨rfl, .head _, its, hp, r1.toA⟩) hs)

/-- o.append(e) -/
theorem x_append (T : Top0 K H) (S : St H B Mc env Mw σ s) {o e : Expr} {apos pos pos' : Pos} {a : Addr} {l : List D} {d : D} {pl : Sem Bool} (ha : a ∈ Mw) (h1 : EvT prog w H A env (Mw ++ Mc) σ o (.own a (l.map .d))) (h2 : EvT prog w H A env (Mw ++ Mc) σ e (.d d)) (hl : l.length ≤ sizeLine)
    (k : ∀ s', St H B Mc env Mw (putV a (l ++ [d]) σ) s' → wpAny (model prog w) A (execs rest env) Kk E s')
    (hse : starEach [e] env = (false, eval e env) :: starEach [] env := by rfl)
    (he : eval (.Call (.Attribute o "append" apos) [e] [] pos) env = (do
      let ov ← eval o env
      standAt apos.atName
      let (f, first) ← holding [ov] (getMethod ov "append" pl)
      callWith pos f first (backTo pos (starEach [e] env)) []) := by rfl)
    (hi : interactive env = false := by rfl) (hsw : swapsWith (.Call (.Attribute o "append" apos) [e] [] pos) none pos'.line env = pure false := by rfl) :
    wpAny (model prog w) A (execs (.Expr (.Call (.Attribute o "append" apos) [e] [] pos) pos' :: rest) env) Kk E s := by
  refine x_next (wpAny_Expr_any (MethodCall_ (h1 s _ _ S.e fun v s1 k1 r1 => ?_) he) hi hsw)
  have S1 := S.kp T k1
  obtain ⟨rfl, hm, items, hp, r⟩ := own_of r1
  obtain ⟨n, g⟩ := id hp
  refine getMethod_list_append g rfl rfl ?_
  refine call_with T trivial S1.e (evs_cons T h2 evs_nil hse) (by rw [hse]; rfl) fun vs s2 k2 r2 => ?_
  have S2 := S1.kp T k2
  obtain ⟨x, rfl, rx⟩ := one_of r2
  obtain ⟨_, _, items2, hp2, rr⟩ := own_of (r1.kp T S1.e k2)
  have e2 : items2.size = l.length := by have := rr.toD.length; rw [Array.length_toList] at this; exact this
  refine wpAny_list_append_plain (hsz := by rw [e2]; exact hl) hp2 fun h' hp' hs' => ⟨rfl, k _ ?_⟩
  refine St.put (tk := s2.toks) T S2 ha hp2 rr.toD hs' hp' ?_
  rw [Array.toList_push]
  exact rr.toD.append (rdl_cons (rda_d.mp rx) rdl_nil)

theorem setitem_plain {a : Addr} {items : Array Value} {k : Int} {t : Tok} {v : Value} {Q : Unit → Shared → Prop} (hl : s.heap.PlainList a items) (h0 : 0 ≤ k) (hfit : k < 2 ^ 63) (hn : k < items.size)
    (hQ : ∀ h', h'.PlainList a (items.setIfInBounds k.toNat v) → Heap.SameBut a s.heap h' → Q () { s with heap := h' }) :
    wpAny (model prog w) A (setItem (.ref a) (.int k t) v) Q E s := by
  obtain ⟨ne, ho⟩ := id hl
  have hT := hl.isList.typeIs
  unfold setItem
  try with_reducible refine wpAny_holding ?_
  first | refine wpAny_bind (wpAny_pure ?_) | skip
  refine wpAny_bind (wpAny_sequenceKey hT (by decide) ?_)
  refine wpAny_bind (wpAny_callSpecial?_slot (name := Str.ofString "__setitem__") hT slot_list_setitem
    (wpAny_call_entry slot_list_setitem hT entry_list_setitem ?_ (args_list_setitem _ _ _)))
  show wpAny _ _ (Builtin.List.listSubscript? (.int k t) >>= _) _ _ s
  refine wpAny_bind (wpAny_listSubscript_int (fitsIndex_of h0 hfit) ?_)
  clear hfit
  obtain ⟨j, rfl⟩ := Int.eq_ofNat_of_zero_le h0
  have hj : j < items.size := by omega
  have hx' : items[j]? = some items[j] := Array.getElem?_eq_getElem hj
  show wpAny _ _ ((seqItemAt a j >>= fun r => pure (r.map (j, ·))) >>= _) _ _ s
  refine wpAny_bind (wpAny_bind (wpAny_seqItemAt ho rfl (wpAny_pure ?_)))
  rw [hx']
  show wpAny _ _ (setSeqItemAt a j v >>= _) _ _ s
  have hm : ∃ n', Obj.mapSeq (·.setIfInBounds j v) { cls := .type "list", data := .seq items ne } = { cls := .type "list", data := .seq (items.setIfInBounds j v) n' } := ⟨_, rfl⟩
  obtain ⟨n', hm⟩ := hm
  have hfin : (s.heap.update a (Obj.mapSeq (·.setIfInBounds j v))).PlainList a (items.setIfInBounds j v) :=
    ⟨n', by rw [Heap.get?_update_self _ ho (by rw [hm]; rfl), hm]⟩
  refine wpAny_bind (wpAny_setSeqItemAt ho rfl ?_)
  first
    | exact wpAny_bind (wpAny_pure (wpAny_pure ⟨.none, rfl, wpAny_pure (hQ _ hfin (Heap.SameBut.update ..))⟩))
    | exact wpAny_pure ⟨.none, rfl, wpAny_pure (hQ _ hfin (Heap.SameBut.update ..))⟩

theorem RdL.set {h : Heap} {M : List Addr} : ∀ {l : List D} {vs : List Value} {v : Value} {d : D} (n : Nat), RdL h M vs l → Rd h M v d → RdL h M (vs.set n v) (l.set n d)
  | [], _, _, _, _, x, _ => by unfold RdL at x; subst x; simpa using rdl_nil
  | d₀ :: l, _, v, d, 0, x, y => by
    unfold RdL at x
    obtain ⟨u, r, rfl, a, b⟩ := x
    exact rdl_cons y b
  | d₀ :: l, _, v, d, n + 1, x, y => by
    unfold RdL at x
    obtain ⟨u, r, rfl, a, b⟩ := x
    exact rdl_cons a (RdL.set n b y)

/-- o[i] = e -/
theorem x_setitem (T : Top0 K H) (S : St H B Mc env Mw σ s) {o i e : Expr} {pos pos' : Pos} {a : Addr} {l : List D} {d : D} {n : Int} (ha : a ∈ Mw) (h2 : EvT prog w H A env (Mw ++ Mc) σ e (.d d)) (h1 : EvT prog w H A env (Mw ++ Mc) σ o (.own a (l.map .d))) (h3 : EvT prog w H A env (Mw ++ Mc) σ i (.d (.int n)))
    (h0 : 0 ≤ n) (hn : n < l.length) (hfit : n < 2 ^ 63)
    (k : ∀ s', St H B Mc env Mw (putV a (l.set n.toNat d) σ) s' → wpAny (model prog w) A (execs rest env) Kk E s')
    (hs : swapsWith e (some (.Subscript o i pos')) pos.line env = pure false := by rfl) :
    wpAny (model prog w) A (execs (.Assign [.Subscript o i pos'] e pos :: rest) env) Kk E s := by
  refine x_next (wpAny_Assign_Subscript (h2 s _ _ S.e fun v s1 k1 r1 => ?_) hs)
  have S1 := S.kp T k1
  refine h1 s1 _ _ S1.e fun u s2 k2 r2 => ?_
  have S2 := S1.kp T k2
  refine h3 s2 _ _ S2.e fun z s3 k3 r3 => ?_
  have S3 := S2.kp T k3
  obtain ⟨rfl, hm, items, hp, r⟩ := own_of (r2.kp T S2.e k3)
  obtain ⟨t, rfl⟩ := int_of r3
  have rv := (r1.kp T S1.e k2).kp T S2.e k3
  have e2 : items.size = l.length := by have := r.toD.length; rw [Array.length_toList] at this; exact this
  refine setitem_plain hp h0 hfit (by rw [e2]; exact hn) fun h' hp' hs' => ⟨rfl, k _ ?_⟩
  refine St.put (tk := s3.toks) T S3 ha hp r.toD hs' hp' ?_
  rw [Array.toList_setIfInBounds]
  exact r.toD.set _ (rda_d.mp rv)

/-- a name's own lists are written no more -/
theorem St.freeze (T : Top0 K H) (S : St H B Mc env Mw σ s) {x : Str} {av : AV} (hx : σ x = some av) : ∃ Mw', St H B Mc env Mw' (upd σ x (.d av.frz)) s := by
  have cut : ∀ b, b ∈ Mw.filter (fun b => decide (b ∉ av.addrs)) ↔ b ∈ Mw ∧ b ∉ av.addrs := fun b => by simp [List.mem_filter]
  obtain ⟨_, own, _⟩ := S.sep x av hx
  have sub : ∀ b ∈ Mw.filter (fun b => decide (b ∉ av.addrs)) ++ Mc, b ∈ Mw ++ Mc := fun b hb => (List.mem_append.mp hb).elim (fun q => List.mem_append.mpr (.inl ((cut b).mp q).1)) fun q => List.mem_append.mpr (.inr q)
  have loc : env.locals ∈ Mw.filter (fun b => decide (b ∉ av.addrs)) := (cut _).mpr ⟨S.locW, fun q => (own _ q).1 rfl⟩
  refine ⟨Mw.filter fun b => decide (b ∉ av.addrs), {
    e := { S.e with
      alive := fun m hm => S.e.alive m (sub m hm)
      fresh := fun m hm => S.e.fresh m (sub m hm)
      locM := List.mem_append.mpr (.inl loc)
      cellM := fun y c e => (List.mem_append.mp (S.e.cellM y c e)).elim (fun q => List.mem_append.mpr (.inl ((cut _).mpr ⟨q, fun z => (own _ z).2 y c e rfl⟩))) fun q => List.mem_append.mpr (.inr q)
      vars := fun y av' e => ?_ }
    base := S.base
    off := fun m hm => S.off m ((cut m).mp hm).1
    locW := loc
    cellW := fun y c e q => (cut _).mpr ⟨S.cellW y c e q, fun z => (own _ z).2 y c e rfl⟩
    cellN := S.cellN, locC := S.locC, ns := S.ns, cells := S.cells
    sep := sep_d S.sep x _
    ownW := fun y av' e b hb => ?_ }⟩
  · unfold upd at e
    by_cases hy : y = x
    · rw [if_pos hy] at e; cases e
      subst hy
      obtain ⟨v, l, r⟩ := S.e.vars y av hx
      refine ⟨v, l, rda_d.mpr (r.frz sub (let ⟨ps, t, _⟩ := S.e.amb.tab; .inr ⟨_, t.2⟩) fun b hb q => ?_)⟩
      rcases List.mem_append.mp q with q | q
      · exact ((cut b).mp q).2 hb
      · exact (S.ownW y av hx b hb).2 q
    · rw [if_neg hy] at e
      obtain ⟨v, l, r⟩ := S.e.vars y av' e
      refine ⟨v, l, r.mono (fun b o h1 _ e => ⟨fun q => h1 (sub b q), e⟩) fun b hb => ⟨List.mem_append.mpr (.inl ((cut b).mpr ⟨(S.ownW y av' e b hb).1, fun q => ?_⟩)), fun _ e => e⟩⟩
      exact (S.sep x av hx).2.2 y av' e (fun z => hy z.symm) b q hb
  · unfold upd at e
    by_cases hy : y = x
    · rw [if_pos hy] at e; cases e; unfold AV.addrs at hb; cases hb
    · rw [if_neg hy] at e
      refine ⟨(cut b).mpr ⟨(S.ownW y av' e b hb).1, fun q => ?_⟩, (S.ownW y av' e b hb).2⟩
      exact (S.sep x av hx).2.2 y av' e (fun z => hy z.symm) b q hb
end
end Mine

namespace Mine
open PySem PySem.W PyProof.Rows PySem.Calls PySem.Spec

mutual
def D.py : D → PyData
  | .none => .none
  | .bool b => .bool b
  | .int i => .int i
  | .str s => .str s
  | .tup l => .tuple (D.pyL l)
  | .list l => .list (D.pyL l)
  | .inst _ => .dict []
  | .opq _ => .dict []
def D.pyL : List D → List PyData
  | [] => []
  | d :: l => D.py d :: D.pyL l
end
theorem pyL_eq (l : List D) : D.pyL l = l.map D.py := by
  induction l with
  | nil => unfold D.pyL; rfl
  | cons d l ih => unfold D.pyL; rw [ih]; rfl

mutual
theorem Rd.reads {h : Heap} {M : List Addr} : ∀ {d : D} {v : Value}, d.py.canLay0 = true → Rd h M v d → ∃ as, Reads h v d.py as
  | .none, _, _, x => by unfold Rd at x; subst x; unfold D.py; exact ⟨_, .none⟩
  | .bool b, _, _, x => by unfold Rd at x; subst x; unfold D.py; exact ⟨_, .bool b⟩
  | .int i, _, _, x => by unfold Rd at x; obtain ⟨t, rfl⟩ := x; unfold D.py; exact ⟨_, .int i t⟩
  | .str i, _, _, x => by unfold Rd at x; obtain ⟨t, rfl⟩ := x; unfold D.py; exact ⟨_, .str i t⟩
  | .tup l, _, c, x => by
    unfold Rd at x
    obtain ⟨a, items, rfl, _, _, ⟨o, ho, hc, n, hd⟩, r⟩ := x
    unfold D.py at c ⊢
    obtain ⟨as, z⟩ := RdL.reads (by simpa [PyData.canLay0] using c) r
    exact ⟨as, .tuple ho hc hd z⟩
  | .list l, _, c, x => by
    unfold Rd at x
    obtain ⟨a, items, rfl, _, _, ⟨o, ho, hc, n, hd⟩, r⟩ := x
    unfold D.py at c ⊢
    obtain ⟨as, z⟩ := RdL.reads (by simpa [PyData.canLay0] using c) r
    exact ⟨a :: as, .list ho hc hd z⟩
  | .inst _, _, c, _ => by unfold D.py at c; simp [PyData.canLay0] at c
  | .opq _, _, c, _ => by unfold D.py at c; simp [PyData.canLay0] at c
theorem RdL.reads {h : Heap} {M : List Addr} : ∀ {l : List D} {vs : List Value}, PyData.canLayAll0 (D.pyL l) = true → RdL h M vs l → ∃ as, ReadsAll h vs (D.pyL l) as
  | [], _, _, x => by unfold RdL at x; subst x; unfold D.pyL; exact ⟨_, .nil⟩
  | d :: l, _, c, x => by
    unfold RdL at x
    obtain ⟨v, r, rfl, a, b⟩ := x
    unfold D.pyL at c ⊢
    have c' : d.py.canLay0 = true ∧ PyData.canLayAll0 (D.pyL l) = true := by simpa [PyData.canLayAll0] using c
    obtain ⟨as, z⟩ := Rd.reads c'.1 a
    obtain ⟨bs, z2⟩ := RdL.reads c'.2 b
    exact ⟨_, .cons z z2⟩
end

section
variable {prog : Program} {w : World} {K : Frag} {H : Heap} {A : Around} {env : Env} {M : List Addr} {σ : Vars} {n : Nat}

theorem cmp_eq_data (hA : AOk A n) {a b : D} (ha : SeqAt.shaped a.py = true) (hb : SeqAt.shaped b.py = true) : CmpT prog w H A M .Eq (.d a) (.d b) (PyData.eqv a.py b.py) := fun s u v Q E _ x y h => by
  obtain ⟨as, ra⟩ := (rda_d.mp x).reads (SeqAt.canLay_of_shaped ha)
  obtain ⟨bs, rb⟩ := (rda_d.mp y).reads (SeqAt.canLay_of_shaped hb)
  exact SeqAt.compareEq_shaped ra rb ha hb (by have := hA.un; omega) (h s (KpX.refl _))
theorem cmp_ne_data (hA : AOk A n) {a b : D} (ha : SeqAt.shaped a.py = true) (hb : SeqAt.shaped b.py = true) : CmpT prog w H A M .NotEq (.d a) (.d b) (!PyData.eqv a.py b.py) := fun s u v Q E _ x y h => by
  obtain ⟨as, ra⟩ := (rda_d.mp x).reads (SeqAt.canLay_of_shaped ha)
  obtain ⟨bs, rb⟩ := (rda_d.mp y).reads (SeqAt.canLay_of_shaped hb)
  exact SeqAt.compareNe_shaped ra rb ha hb (by have := hA.un; omega) (h s (KpX.refl _))

theorem cmp_isnot_none {d : D} : CmpT prog w H A M .IsNot (.d d) (.d .none) (match d with | .none => false | _ => true) := fun s u v Q E _ x y h => by
  obtain rfl := none_of y
  cases d with
  | none => obtain rfl := none_of x; exact isnot_none_none (h s (KpX.refl _))
  | bool b => obtain rfl := bool_of x; exact isnot_none_ne (by intro e; cases e) (h s (KpX.refl _))
  | int i => obtain ⟨t, rfl⟩ := int_of x; exact isnot_none_ne (by intro e; cases e) (h s (KpX.refl _))
  | str i => obtain ⟨t, rfl⟩ := str_of x; exact isnot_none_ne (by intro e; cases e) (h s (KpX.refl _))
  | tup l => obtain ⟨a, _, rfl, _⟩ := tup_of x; exact isnot_none_ne (by intro e; cases e) (h s (KpX.refl _))
  | list l => obtain ⟨a, _, rfl, _⟩ := list_of x; exact isnot_none_ne (by intro e; cases e) (h s (KpX.refl _))
  | inst l => have e := rda_d.mp x; unfold Rd at e; obtain ⟨a, _, _, _, _, rfl, _⟩ := e; exact isnot_none_ne (by intro e; cases e) (h s (KpX.refl _))
  | opq a => have e := rda_d.mp x; unfold Rd at e; obtain ⟨rfl, _⟩ := e; exact isnot_none_ne (by intro e; cases e) (h s (KpX.refl _))

theorem ints_of {h : Heap} : ∀ {ns : List Int} {vs : List Value}, RdL h M vs (ns.map .int) → IntsAre vs ns
  | [], _, r => by unfold RdL at r; subst r; exact .nil
  | x :: xs, _, r => by
    rw [List.map_cons] at r
    unfold RdL at r
    obtain ⟨v, vr, rfl, a, b⟩ := r
    unfold Rd at a
    obtain ⟨t, rfl⟩ := a
    exact .cons x t (ints_of b)
theorem cmp_in_ints {k : Int} {ns : List Int} : CmpT prog w H A M .In (.d (.int k)) (.d (.list (ns.map .int))) (ns.any (· == k)) := fun s u v Q E _ x y h => by
  obtain ⟨t, rfl⟩ := int_of x
  obtain ⟨a, items, rfl, _, _, hl, r⟩ := list_of y
  exact in_list_ints (vs := items.toList) (by rw [Array.toArray_toList]; exact hl) (ints_of r) (h s (KpX.refl _))
theorem cmp_notin_bools {k : Bool} {bs : List Bool} : CmpT prog w H A M .NotIn (.d (.bool k)) (.d (.list (bs.map .bool))) (!bs.any (· == k)) := fun s u v Q E _ x y h => by
  obtain rfl := bool_of x
  obtain ⟨a, items, rfl, _, _, hl, r⟩ := list_of y
  have vals : ∀ {bs : List Bool} {vs : List Value}, RdL s.heap M vs (bs.map .bool) → vs = bs.map .bool := fun {bs} => by
    induction bs with
    | nil => intro vs r; unfold RdL at r; exact r
    | cons b bs ih =>
      intro vs r
      rw [List.map_cons] at r
      unfold RdL at r
      obtain ⟨v, vr, rfl, a, b'⟩ := r
      unfold Rd at a
      rw [a, ih b']; rfl
  have e := vals r
  refine SeqAt.notIn_listAt (fun y => y == .bool k) hl (fun y hy => ?_) ?_
  · have hy' : y ∈ items.toList := Array.mem_toList_iff.mpr hy
    rw [e] at hy'
    obtain ⟨b, _, rfl⟩ := List.mem_map.mp hy'
    have := SeqAt.EqAt.bool_bool (A := A.in1) (s := s) b k
    have e2 : (Value.bool b == Value.bool k) = (b == k) := by cases b <;> cases k <;> rfl
    rw [e2]; exact this
  · have e3 : (items.any fun y => y == .bool k) = bs.any (· == k) := by
      rw [← Array.any_toList, e, List.any_map]
      congr 1
      funext b
      cases b <;> cases k <;> rfl
    rw [e3]; exact h s (KpX.refl _)
theorem cmp_notin_str {x y : Str} : CmpT prog w H A M .NotIn (.d (.str y)) (.d (.str x)) (!Txt.contains x y) := fun s u v Q E _ a b h => by
  obtain ⟨t, rfl⟩ := str_of a
  obtain ⟨t', rfl⟩ := str_of b
  exact P.notIn_str (h s (KpX.refl _))

variable (prog w H A env M σ) in
def PartT (e : Option Expr) (i : Option Int) : Prop :=
  ∀ (s : Shared) (Q : Value → Shared → Prop) (E : Value → Shared → Prop), StE H env M σ s → (∀ p s', Kp s s' → p.map (·.1) = i → Q (partValue p) s') → wpAny (model prog w) A (evalPart e env) Q E s
theorem part_none : PartT prog w H A env M σ none none := fun s Q E S h => wpAny_pure (h none s (KpX.refl _) rfl)
theorem part_some {e : Expr} {i : Int} (h1 : EvT prog w H A env M σ e (.d (.int i))) : PartT prog w H A env M σ (some e) (some i) := fun s Q E S h => by
  refine h1 s _ _ S fun v s1 k1 r1 => ?_
  obtain ⟨t, rfl⟩ := int_of r1
  exact h (some (i, t)) s1 k1 rfl
theorem isPart_of (p : Option (Int × Tok)) : IsPart (partValue p) (p.map (·.1)) := by cases p with | none => exact .none | some p => exact .int _ _

def sl (l : List D) (lo hi : Option Int) : List D := (l.drop (lo.elim 0 (clipAt l.length))).take (hi.elim l.length (clipAt l.length) - lo.elim 0 (clipAt l.length))
theorem ev_slice_list (T : Top0 K H) {e : Expr} {lo hi : Option Expr} {p pos : Pos} {av : AV} {l : List D} {i j : Option Int} (hav : AsList av l) (hl : l.length ≤ sizeLine) (h1 : EvT prog w H A env M σ e av) (h2 : PartT prog w H A env M σ lo i) (h3 : PartT prog w H A env M σ hi j)
    (ht : ∀ o r, letTemporaryGo e o r = pure () := by intro _ _; rfl) : EvT prog w H A env M σ (.Subscript e (.Slice lo hi none p) pos) (.d (.list (sl l i j))) := fun s Q E S h => by
  refine wpAny_Subscript_list_slice (h1 s _ _ S fun v s1 k1 r1 => h2 s1 _ _ (S.kp T k1) fun p2 s2 k2 e2 => h3 s2 _ _ ((S.kp T k1).kp T k2) fun p3 s3 k3 e3 => ?_) ht
  have S1 := S.kp T k1
  have S2 := S1.kp T k2
  have S3 := S2.kp T k3
  obtain ⟨a, items, rfl, hls, r⟩ := aslist_of hav ((r1.kp T S1 k2).kp T S2 k3)
  have en : items.size = l.length := by have := r.length; rw [Array.length_toList] at this; exact this
  refine ⟨a, items, i, j, rfl, hls, by rw [en]; exact hl, e2 ▸ isPart_of p2, e3 ▸ isPart_of p3, ?_⟩
  rw [slicePick_plain]
  have k4 : Kp s3 { s3 with heap := s3.heap.push { cls := .type "slice", data := .fields #[partValue p2, partValue p3, .none] } } := Kp.push (tk := s3.toks)
  have k5 : Kp { s3 with heap := s3.heap.push { cls := .type "slice", data := .fields #[partValue p2, partValue p3, .none] } } { s3 with heap := (s3.heap.push { cls := .type "slice", data := .fields #[partValue p2, partValue p3, .none] }).push { cls := .type "list", data := .seq ((items.toList.drop (i.elim 0 (clipAt items.size))).take (j.elim items.size (clipAt items.size) - i.elim 0 (clipAt items.size))).toArray } } := Kp.push (tk := s3.toks)
  have S4 := S3.kp T k4
  refine h _ _ ((((k1.trans k2).trans k3).trans k4).trans k5) (rda_d.mpr ?_)
  have sz : (s3.heap.push { cls := .type "slice", data := .fields #[partValue p2, partValue p3, .none] }).objs.size = s3.heap.objs.size + 1 := Heap.size_push ..
  unfold Rd
  refine ⟨_, _, rfl, ?_, ?_, ⟨_, by rw [← sz]; exact Heap.get?_push_size _ rfl, rfl, _, rfl⟩, ?_⟩
  · rw [← sz]; exact S4.size_notin
  · rw [← sz]; exact S4.amb.ne_pt
  · show RdL _ M ((items.toList.drop _).take _) _
    unfold sl
    rw [← en]
    exact ((r.kp k4).kp k5).drop _ |>.take _
theorem ev_slice_str (T : Top0 K H) {e : Expr} {lo hi : Option Expr} {p pos : Pos} {x : Str} {i j : Option Int} (hl : x.length ≤ sizeLine) (h1 : EvT prog w H A env M σ e (.d (.str x))) (h2 : PartT prog w H A env M σ lo i) (h3 : PartT prog w H A env M σ hi j)
    (ht : ∀ o r, letTemporaryGo e o r = pure () := by intro _ _; rfl) : EvT prog w H A env M σ (.Subscript e (.Slice lo hi none p) pos) (.d (.str (Txt.slice x i j))) := fun s Q E S h => by
  refine wpAny_Subscript_str_slice (h1 s _ _ S fun v s1 k1 r1 => h2 s1 _ _ (S.kp T k1) fun p2 s2 k2 e2 => h3 s2 _ _ ((S.kp T k1).kp T k2) fun p3 s3 k3 e3 => ?_) ht
  obtain ⟨t, rfl⟩ := str_of r1
  refine ⟨x, t, p2, p3, rfl, rfl, rfl, ?_⟩
  subst e2 e3
  have k4 : ∀ tk, Kp s3 { s3 with heap := s3.heap.push { cls := .type "slice", data := .fields #[partValue p2, partValue p3, .none] }, toks := tk } := fun tk => Kp.push
  have fin : ∀ t' tk, Q (.str (Txt.slice x (p2.map (·.1)) (p3.map (·.1))) t') { s3 with heap := s3.heap.push { cls := .type "slice", data := .fields #[partValue p2, partValue p3, .none] }, toks := tk } := fun t' tk => h _ _ (((k1.trans k2).trans k3).trans (k4 tk)) rd_str
  cases p2 <;> cases p3 <;> exact post_val_or_str ⟨Nat.le_trans (Txt.slice_le x _ _) hl, fin⟩

theorem nums_strs {h : Heap} : ∀ (xs : List Str) (t : Tok), RdL h M (strsFrom t xs) (xs.map .str)
  | [], t => by unfold strsFrom; exact rdl_nil
  | x :: xs, t => by
    unfold strsFrom
    rw [List.map_cons]
    exact rdl_cons (by unfold Rd; exact ⟨_, rfl⟩) (nums_strs xs (t + 1))
/-- x.split(y) -/
theorem split_ok {x y : Str} (h1 : (decide (x.length < y.length) || decide (Builtin.Str.strKind x < Builtin.Str.strKind y)) = false) (hy : (y.length == 0) = false)
    (hf : (Builtin.Str.occurrences x y 0 x.length (x.length + 1)).isEmpty = false) (hx : x.length ≤ sizeLine) (hn : (Builtin.Str.partsBetween x (Builtin.Str.occurrences x y 0 x.length (x.length + 1)) y.length).length ≤ sizeLine) :
    CallT prog w H A M (.builtin "str.split") [.d (.str x), .d (.str y)] (.d (.list ((Builtin.Str.partsBetween x (Builtin.Str.occurrences x y 0 x.length (x.length + 1)) y.length).map .str))) := fun s vs Q E amb al _ r h => by
  obtain ⟨v, u, rfl, a, b⟩ := two_of r
  obtain ⟨t, rfl⟩ := str_of a
  obtain ⟨t', rfl⟩ := str_of b
  refine call_meets F.slot_str_split (typeIs_str _ _ _) F.entry_str_split (F.args_str_split_2 _ _) (meets_str_split_sep x y t t' h1 hy hf hx hn) ?_
  refine h _ _ Kp.push (rda_d.mpr ?_)
  unfold Rd
  refine ⟨_, _, rfl, fun q => ?_, amb.ne_pt, ⟨_, Heap.get?_push_size _ rfl, rfl, _, rfl⟩, nums_strs _ _⟩
  obtain ⟨o, e⟩ := al _ q
  exact Nat.lt_irrefl _ (Heap.lt_size e)
end
end Mine

namespace Mine
open PySem PySem.W PyProof.Rows PySem.Calls PySem.Spec

section
variable {prog : Program} {w : World} {K : Frag} {H : Heap} {A : Around} {env : Env} {M Mc Mw : List Addr} {σ : Vars} {B : Shared} {s s' : Shared}
variable {rest : List Stmt} {Kk : Flow → Shared → Prop} {E : Value → Shared → Prop}

/-- x, y = e -/
theorem x_tup (T : Top0 K H) (S : St H B Mc env Mw σ s) (hh : A.handled = none) {es : List Expr} {k : Nat} {p pos : Pos} {e : Expr} (xds : List (Str × D)) (h1 : EvT prog w H A env (Mw ++ Mc) σ e (.d (.tup (xds.map (·.2)))))
    (kk : ∀ s', St H B Mc env Mw (xds.foldl (fun σ p => upd σ p.1 (.d p.2)) σ) s' → wpAny (model prog w) A (execs rest env) Kk E s')
    (hn : es.map nameOf = xds.map (fun p => some p.1) := by rfl) (hb : ∀ p ∈ xds, BindOk env p.1)
    (hf : (assignEach es env).findIdx? (·.1) = none := by rfl) (hl : (assignEach es env).length = xds.length := by rfl)
    (hs : swapsWithSole [.Tuple es k p] e pos.line env = pure false := by rfl) (hw : swappedStores [.Tuple es k p] e env = pure none := by rfl) :
    wpAny (model prog w) A (execs (.Assign [.Tuple es k p] e pos :: rest) env) Kk E s :=
  x_next (Assign_Tuple (h1 s _ _ S.e fun v s1 k1 r1 => asg_tup T hh hn hb hf hl s1 v _ _ (S.kp T k1) (rda_d.mp r1) fun s2 S2 _ => ⟨rfl, kk s2 S2⟩) hs hw)

theorem names_order (T : Top0 K H) (xds : List (Str × D)) : ∀ (vs : List Value) (σ : Vars) (s : Shared) (Q : Unit → Shared → Prop) (E : Value → Shared → Prop), (∀ p ∈ xds, BindOk env p.1) → St H B Mc env Mw σ s → RdL s.heap (Mw ++ Mc) vs (xds.map (·.2)) →
    (∀ s', St H B Mc env Mw (xds.foldl (fun σ p => upd σ p.1 (.d p.2)) σ) s' → KpX Mw [] s s' → Q () s') → wpAny (model prog w) A (assignInOrder ((xds.map (·.1)).map fun n => bindName env n) vs) Q E s := by
  induction xds with
  | nil => intro vs σ s Q E hb S r h; exact assignInOrder_nil (h s S (KpX.refl _))
  | cons p l ih =>
    intro vs σ s Q E hb S r h
    obtain ⟨y, d⟩ := p
    rw [List.map_cons] at r
    unfold RdL at r
    obtain ⟨v, vr, rfl, a, b⟩ := r
    rw [List.map_cons, List.map_cons]
    refine assignInOrder_cons (bindName_ (store_d T S (hb _ (.head _)) (rda_d.mpr a) fun s1 S1 k1 => ?_))
    refine ih vr _ s1 Q E (fun p hp => hb p (.tail _ hp)) S1 ?_ fun s2 S2 k2 => h s2 S2 (k1.trans k2)
    exact b.mono fun c o h1 h2 e => ⟨h1, k1.heap c o h2 (fun q => h1 (List.mem_append.mpr (.inl q))) e⟩
theorem RdL.rev {h : Heap} {M : List Addr} : ∀ {l : List D} {vs : List Value}, RdL h M vs l → RdL h M vs.reverse l.reverse
  | [], _, x => by unfold RdL at x; subst x; exact rdl_nil
  | d :: l, _, x => by
    unfold RdL at x
    obtain ⟨v, r, rfl, a, b⟩ := x
    rw [List.reverse_cons, List.reverse_cons]
    exact b.rev.append (rdl_cons a rdl_nil)
/-- x, y = e, f: stored from the right -/
theorem x_tup_sw (T : Top0 K H) (S : St H B Mc env Mw σ s) (hh : A.handled = none) {es : List Expr} {k : Nat} {p pos : Pos} {e : Expr} (xds : List (Str × D)) (h1 : EvT prog w H A env (Mw ++ Mc) σ e (.d (.tup (xds.map (·.2)))))
    (kk : ∀ s', St H B Mc env Mw (xds.reverse.foldl (fun σ p => upd σ p.1 (.d p.2)) σ) s' → wpAny (model prog w) A (execs rest env) Kk E s')
    (hb : ∀ p ∈ xds, BindOk env p.1)
    (hs : swapsWithSole [.Tuple es k p] e pos.line env = pure false := by rfl) (hw : swappedStores [.Tuple es k p] e env = pure (some (xds.map (·.1))) := by rfl) :
    wpAny (model prog w) A (execs (.Assign [.Tuple es k p] e pos :: rest) env) Kk E s := by
  refine x_next (Assign_Tuple_swapped (h1 s _ _ S.e fun v s1 k1 r1 => ?_) hs hw)
  obtain ⟨t, items, rfl, hm, hp, ht, r⟩ := tup_of r1
  have hsz : (xds.map (·.1)).length = items.size := by have := r.length; simp at this ⊢; omega
  rw [hsz]
  refine unpackItems_tuple hh ht fun h' he => ?_
  have k2 : Kp s1 { s1 with heap := h' } := Kp.of (tk := s1.toks) fun b o e => he b o (Nat.ne_of_lt (Heap.lt_size e)) e
  have S2 := (S.kp T k1).kp T k2
  rw [← List.map_reverse]
  refine names_order T xds.reverse _ σ _ _ _ (fun p hp => hb p (List.mem_reverse.mp hp)) S2 ?_ fun s3 S3 _ => ⟨rfl, kk s3 S3⟩
  rw [List.map_reverse]
  exact (r.kp k2).rev

/-- x = y = z = e -/
theorem x_three (T : Top0 K H) (S : St H B Mc env Mw σ s) {x y z : Str} {px py pz pos : Pos} {e : Expr} {d : D} (h1 : EvT prog w H A env (Mw ++ Mc) σ e (.d d)) (hx : BindOk env x) (hy : BindOk env y) (hz : BindOk env z)
    (kk : ∀ s', St H B Mc env Mw (upd (upd (upd σ x (.d d)) y (.d d)) z (.d d)) s' → wpAny (model prog w) A (execs rest env) Kk E s')
    (he : (assignEach [.Name x px, .Name y py, .Name z pz] env).map (·.2) = [assign (.Name x px) env, assign (.Name y py) env, assign (.Name z pz) env] := by rfl)
    (hw : swappedStores [.Name x px, .Name y py, .Name z pz] e env = pure none := by rfl) :
    wpAny (model prog w) A (execs (.Assign [.Name x px, .Name y py, .Name z pz] e pos :: rest) env) Kk E s := by
  refine x_next (wpAny_Assign_three (h1 s _ _ S.e fun v s1 k1 r1 => ?_) he hw)
  have S1 := S.kp T k1
  have up : ∀ {s s' : Shared}, KpX Mw [] s s' → RdA s.heap (Mw ++ Mc) v (.d d) → RdA s'.heap (Mw ++ Mc) v (.d d) := fun {s s'} k r => rda_d.mpr ((rda_d.mp r).mono fun c o h1 h2 e => ⟨h1, k.heap c o h2 (fun q => h1 (List.mem_append.mpr (.inl q))) e⟩)
  refine wpAny_assign_Name (store_d T S1 hx r1 fun s2 S2 k2 => ?_)
  refine wpAny_assign_Name (store_d T S2 hy (up k2 r1) fun s3 S3 k3 => ?_)
  exact wpAny_assign_Name (store_d T S3 hz (up k3 (up k2 r1)) fun s4 S4 k4 => ⟨rfl, kk s4 S4⟩)
end
end Mine

namespace Mine
open PySem PySem.W PyProof.Rows PySem.Calls PySem.Spec

section
variable {prog : Program} {w : World} {A : Around} {R : GenEnd} {Y : Protocol} {n : Nat} {s₀ s : Shared} {c : Code} {fs : List Frame} {env : Env} {K : Flow → Sem Fin} {Hh : Value → Sem Fin} {gd : Bool → Bool} {lv : List Value → List Value}

/-- a statement that hands nothing out -/
theorem seg_plain {st : Stmt} {rest : List Stmt} (h : ∀ E, wpAny (model prog w) (A.over c fs) (exec st env) (fun f s' => f = .next ∧ Seg (model prog w) A R Y n s₀ c ((execs rest env).wrap K Hh gd lv) fs s') E s) :
    Seg (model prog w) A R Y n s₀ c ((execs (st :: rest) env).wrap K Hh gd lv) fs s := by
  refine seg_execs_cons (seg_wrap (wpAny_mono (h _) (fun f s' q => ?_) fun _ _ e => e))
  obtain ⟨rfl, q⟩ := q
  exact q
theorem seg_if {t : Expr} {body orelse : List Stmt} {pos : Pos} {b : Bool} (h : ∀ E, wpAny (model prog w) (A.over c fs) (isTrue t env (eval t env)) (fun b' s' => b' = b ∧ Seg (model prog w) A R Y n s₀ c ((if b then execs body env else execs orelse env).wrap K Hh gd lv) fs s') E s) :
    Seg (model prog w) A R Y n s₀ c ((exec (.If t body orelse pos) env).wrap K Hh gd lv) fs s := by
  rw [exec_If]
  refine seg_bind_wrap (wpAny_standAt (seg_bind_wrap (wpAny_mono (h _) (fun b' s' q => ?_) fun _ _ e => e)))
  obtain ⟨rfl, q⟩ := q
  cases b' <;> exact q
/-- the frame in which a loop runs -/
abbrev loopFr (K : Flow → Sem Fin) (Hh : Value → Sem Fin) (gd : Bool → Bool) (lv : List Value → List Value) (c : Code) (env : Env) (p : Pos) : Frame :=
  .ret (fun r => ((match r with | .ok f => (.pure f : Sem Flow) | .error e => .raise e).onRaise fun (x : Value) => do
        if (← field x 1) == Value.none then unsupported "frame.own-activation:exception-without-traceback"
        setFlight x env.frame).wrap K Hh gd lv) none (gd false) (lv []) c p []
theorem seg_for {target iter : Expr} {body orelse : List Stmt} {pos : Pos} (h : ∀ E, wpAny (model prog w) (A.over c fs) (eval iter env) (fun x s₁ => wpAny (model prog w) (A.over c fs) (pyIter x) (fun it s₂ => ∀ p,
      Seg (model prog w) A R Y n s₀ (.forLoop target it body orelse env) ((model prog w).den (.forLoop target it body orelse env)) (loopFr K Hh gd lv c env p :: fs) s₂) E s₁) E s)
    (hs : ∀ x, foldedSetIterable iter env x = pure x := by intro _; rfl) :
    Seg (model prog w) A R Y n s₀ c ((exec (.For target iter body orelse pos) env).wrap K Hh gd lv) fs s := by
  rw [exec_For]
  refine seg_bind_wrap (wpAny_standAt (seg_bind_wrap (wpAny_mono (h _) (fun x s₁ h₁ => ?_) fun _ _ e => e)))
  refine seg_bind_wrap (wpAny_of_eq (hs x) (seg_bind_wrap (wpAny_standAt (seg_bind_wrap (wpAny_holding (wpAny_mono h₁ (fun it s₂ h₂ => ?_) fun _ _ e => e))))))
  exact seg_call h₂

abbrev noteH (env : Env) : Value → Sem Fin := fun e => (do noteFrame e env; theTreesLotGoes e : Sem Unit).bind fun _ => .raise e
/-- what a turn's body is followed by -/
abbrev turnK (target : Expr) (it : Value) (body orelse : List Stmt) (env : Env) : Flow → Sem Fin := fun f => (match f with
    | .next | .cont => again (.forLoop target it body orelse env)
    | .brk => pure (.done .next)
    | .ret v => pure (.done (.ret v)) : Sem Fin).wrap .pure (noteH env) id id
theorem seg_turn {target : Expr} {it : Value} {body : List Stmt} (h : ∀ E, wpAny (model prog w) (A.over (.forLoop target it body [] env) fs) (pyNext it) (fun r s₁ => match r with
      | none => Seg (model prog w) A R Y n s₀ (.block [] env) (leafOf (.ok .next)) fs s₁
      | some v => wpAny (model prog w) (A.over (.forLoop target it body [] env) fs) (letOwnedTupleGo target it v) (fun _ s₂ => wpAny (model prog w) (A.over (.forLoop target it body [] env) fs) (assign target env v) (fun _ s₃ =>
          Seg (model prog w) A R Y n s₀ (.forLoop target it body [] env) ((execs body env).wrap (turnK target it body [] env) (noteH env) id id) fs s₃) E s₂) E s₁) E s) :
    Seg (model prog w) A R Y n s₀ (.forLoop target it body [] env) ((model prog w).den (.forLoop target it body [] env)) fs s := by
  show Seg _ A R Y n s₀ _ ((forTurn target it body [] env).onRaise (fun x => do noteFrame x env; theTreesLotGoes x)) fs s
  rw [Sem.onRaise_eq_wrap]
  unfold forTurn
  refine seg_bind_wrap (wpAny_standAt (seg_bind_wrap (wpAny_onRaise (wpAny_mono (h _) (fun r s₁ h₁ => ?_) fun _ _ h' => wpAny_standAt h'))))
  cases r with
  | none => exact seg_again rfl h₁
  | some v => exact seg_bind_wrap (wpAny_mono h₁ (fun _ s₂ h₂ => seg_bind_wrap (wpAny_mono h₂ (fun _ s₃ h₃ => by rw [Sem.bind_eq_wrap', Sem.wrap_wrap]; exact h₃) fun _ _ e => e)) fun _ _ e => e)
end
end Mine

namespace Mine
open PySem PySem.W PyProof.Rows PySem.Calls PySem.Spec

theorem next_gen {prog : Program} {w : World} {A : Around} {E : Value → Shared → Prop} {s : Shared} {a : Addr} {g n : Nat} {gs : GenState} {P : Nat → Shared → Shared → Prop} {Y : Protocol} {Q : Option Value → Shared → Prop} (hh : A.handled = none)
    (hl : s.heap.NoLimit) (hroom : A.depth < recursionLimit) (hg : s.heap.IsGen a g) (hgs : s.gens[g]? = some gs)
    (hgo : gs.Goes (model prog w) A.in1 (fun n s₀ r s₁ => (r = .ok (.ret .none) ∨ r = .ok .next) ∧ P n s₀ s₁) Y n (.send .none) (s.setGen g .running))
    (hY : ∀ v s₁ gs', gs'.bare = true → Y (n - 1) (s.setGen g .running) v s₁ (fun r' s'' => match n with
        | 0 => False
        | m + 1 => gs'.Goes (model prog w) A.in1 (fun n s₀ r s₁ => (r = .ok (.ret .none) ∨ r = .ok .next) ∧ P n s₀ s₁) Y m r' s'') → Q (some v) (s₁.setGen g gs'))
    (hP : ∀ s₁, P n (s.setGen g .running) s₁ → ∀ h', (∀ b o, s₁.heap.get? b = some o → h'.get? b = some o) → Q none { s₁.setGen g .finished with heap := h' }) :
    wpAny (model prog w) A (pyNext (.ref a)) Q E s := by
  unfold pyNext
  refine wpAny_bind (wpAny_attempt (wpAny_callSpecial?_slot (name := Str.ofString "__next__") hg.typeIs slot_gen_next
    (wpAny_call_entry slot_gen_next hg.typeIs entry_gen_next ?_ (args_gen_next _))))
  show wpAny _ A.in1 (Builtin.Generator.genWake (.ref a) (.send .none)) _ _ s
  unfold Builtin.Generator.genWake
  refine wpAny_bind (wpAny_holding (wpAny_genNumber hg (wpAny_bind (wpAny_genState hgs ?_))))
  cases gs with
  | running => exact hgo.elim
  | finished => exact hgo.elim
  | _ =>
    refine wpAny_bind (wpAny_roomToWake hl hroom ?_)
    show wpAny _ A.in1 (.resume g (.send .none) [] _) _ _ s
    refine wpAny_resumeQ hgs hgo (fun x s₁ hx => ?_) (fun v s₁ gs' hb hv => ?_)
    · obtain ⟨rfl | rfl, hp⟩ := hx
      all_goals
      show wpAny _ A.in1 (newExc (.type "StopIteration") [] >>= _) _ _ _
      refine wpAny_bind ?_
      simp only [newExc, newTuple]
      refine wpAny_bind (wpAny_newObj_type ?_ (by size_fits))
      refine wpAny_bind (m := firstArgMember _ _) (wpAny_of_eq (a := Value.none) (by first | rfl | (simp only [firstArgMember]; rfl)) ?_)
      refine wpAny_newObj_type ?_ (by size_fits)
      simp only [raiseNew]
      refine wpAny_bind (wpAny_bind (wpAny_handled ?_))
      first | rw [show A.in1.handled = none from hh] | rw [hh]
      refine wpAny_throw ?_
      refine wpAny_bind (wpAny_isInstance (T := "StopIteration") (b := true) ⟨_, Heap.get?_push_size _ rfl, rfl⟩ isSubtype_stop ?_)
      exact wpAny_pure (hP s₁ hp _ fun b o hb => Heap.get?_push_of_some _ (Heap.get?_push_of_some _ hb))
    · exact wpAny_pure ⟨v, rfl, wpAny_pure (hY v s₁ gs' hb hv)⟩

/-- what a generator's frame knows, whatever others write -/
def Stable (H : Heap) (W : List Addr) (F : Shared → Prop) : Prop := ∀ X GX s s', F s → KpX X GX s s' → (∀ b ∈ X, H.get? b = none ∧ b ∉ W) → F s'
/-- what is handed out at the i-th time -/
def GY (H : Heap) (ds : List D) (Wf : Nat → List Addr) : Protocol := fun m s₀ v s₁ kap => ∃ i d, i + m + 1 = ds.length ∧ ds[i]? = some d ∧ KpX (Wf i) [] s₀ s₁ ∧
  (∀ b ∈ Wf (i + 1), b ∈ Wf i ∨ s₀.heap.get? b = none) ∧ (∀ b ∈ Wf (i + 1), ∃ o, s₁.heap.get? b = some o) ∧
  (∀ X, (∀ b ∈ X, (∃ o, s₀.heap.get? b = some o) ∧ H.get? b = none ∧ b ∉ Wf i) → Rd s₁.heap (Wf (i + 1) ++ X) v d) ∧ ∃ F : Shared → Prop, F s₁ ∧ Stable H (Wf (i + 1)) F ∧ ∀ s'', F s'' → kap (.send .none) s''
abbrev GR (ds : List D) (Wf : Nat → List Addr) : GenEnd := fun n s₀ r s₁ => (r = .ok (.ret .none) ∨ r = .ok .next) ∧ (n = 0 ∧ KpX (Wf ds.length) [] s₀ s₁)

section
variable {prog : Program} {w : World} {K : Frag} {H : Heap} {A : Around} {s s' : Shared}

theorem kpx_gens {g : Nat} {x : GenState} (hb : x.bare = true) : KpX [] [g] s (s.setGen g x) :=
  ⟨fun _ _ _ _ e => e, fun ps t i => ⟨#[], by rw [Array.append_empty]; exact t, by rw [Array.append_empty]; exact i⟩, fun i y h e => by
    show (s.gens.setIfInBounds g x)[i]? = some y
    rw [Array.getElem?_setIfInBounds_ne (fun q => h (by rw [q]; exact .head _))]; exact e,
   fun b y hy => by
    have hy' : y ∈ s.gens.setIfInBounds g x := hy
    rcases Array.mem_or_eq_of_mem_setIfInBounds hy' with q | q
    · exact b y q
    · rw [q]; exact hb, rfl⟩

/-- the states between what a generator hands out -/
def GI (prog : Program) (w : World) (H : Heap) (A : Around) (a : Addr) (g : Nat) (c : Code) (L : List Addr) (F₀ : Shared → Prop) (ds : List D) (X W : List Addr) (i : Nat) (s : Shared) : Prop :=
  s.heap.IsGen a g ∧ a ∉ X ∧ a ∉ W ∧ a ≠ PT ∧ Amb H s.heap ∧ (∀ b ∈ X, H.get? b = none ∧ ∃ o, s.heap.get? b = some o) ∧ (∀ b ∈ W, b ∉ X ∧ b ≠ PT ∧ H.get? b = none ∧ ∃ o, s.heap.get? b = some o) ∧
  ((i = 0 ∧ W = L ∧ s.gens[g]? = some (.fresh c) ∧ F₀ s ∧ Stable H L F₀) ∨
   (∃ gs Wf F, 0 < i ∧ W = Wf i ∧ s.gens[g]? = some gs ∧ F s ∧ Stable H W F ∧ ∀ s', F s' → gs.Goes (model prog w) A.in1 (GR ds Wf) (GY H ds Wf) (ds.length - i) (.send .none) s'))


theorem isGen_kpx {X : List Addr} {GX : List Nat} {a : Addr} {g : Nat} (h : s.heap.IsGen a g) (k : KpX X GX s s') (hX : a ∉ X) (hp : a ≠ PT) : s'.heap.IsGen a g :=
  let ⟨o, nm, qn, ho, r⟩ := h; ⟨o, nm, qn, k.heap a o hp hX ho, r⟩

theorem GI.go (T : Top0 K H) {a : Addr} {g : Nat} {c : Code} {L : List Addr} {F₀ : Shared → Prop} {ds : List D} {X W : List Addr} {i : Nat} {E : Value → Shared → Prop} {Q : Option Value → Shared → Prop}
    (hh : A.handled = none) (hroom : A.depth < recursionLimit)
    (start : ∀ s, F₀ s → ∃ Wf, Wf 0 = L ∧ Seg (model prog w) A.in1 (GR ds Wf) (GY H ds Wf) ds.length s c ((model prog w).den c) [] s)
    (hI : GI prog w H A a g c L F₀ ds X W i s) (hi : i ≤ ds.length)
    (hQ : ∀ d v s' W', ds[i]? = some d → GI prog w H A a g c L F₀ ds X W' (i + 1) s' → KpX W [g] s s' → (∀ b ∈ W', b ∈ W ∨ s.heap.get? b = none) → Rd s'.heap (W' ++ X) v d → Q (some v) s')
    (hN : ∀ s', i = ds.length → KpX W [g] s s' → Q none s') : wpAny (model prog w) A (pyNext (.ref a)) Q E s := by
  obtain ⟨hg, haX, haW, hap, amb, hX, hW, hst⟩ := hI
  have core : ∀ (gs : GenState) (Wf : Nat → List Addr), W = Wf i → s.gens[g]? = some gs → gs.Goes (model prog w) A.in1 (GR ds Wf) (GY H ds Wf) (ds.length - i) (.send .none) (s.setGen g .running) → wpAny (model prog w) A (pyNext (.ref a)) Q E s := by
    intro gs Wf hWf hgs hgo
    have k0 : KpX [] [g] s (s.setGen g .running) := kpx_gens rfl
    have hrun : (s.setGen g .running).gens[g]? = some .running := by
      show (s.gens.setIfInBounds g _)[g]? = _
      have : g < s.gens.size := (Array.getElem?_eq_some_iff.mp hgs).1
      rw [Array.getElem?_setIfInBounds_self_of_lt this]
    refine next_gen hh (amb.nolimit T) hroom hg hgs hgo (fun v s₁ gs' hb hy => ?_) (fun s₁ hp h' hk => ?_)
    · obtain ⟨i', d, e1, hd, k1, w1, w3, w4, F, hF, stF, kap⟩ := hy
      have hlt : i' < ds.length := (List.getElem?_eq_some_iff.mp hd).1
      have hne : ds.length - i ≠ 0 := fun e => by
        have := kap s₁ hF
        rw [e] at this; exact this
      have ei : i' = i := by omega
      subst ei
      rw [← hWf] at k1 w1 w4
      have k2 : KpX [] [g] s₁ (s₁.setGen g gs') := kpx_gens hb
      have k01 : KpX W [g] s s₁ := (k0.weak (fun _ q => nomatch q) fun _ q => q).trans (k1.weak (fun _ q => q) fun _ q => nomatch q)
      have k : KpX W [g] s (s₁.setGen g gs') := k01.trans (k2.weak (fun _ q => nomatch q) fun _ q => q)
      have hX' : ∀ b ∈ X, b ∉ W := fun b hb q => (hW b q).1 hb
      have aliveX : ∀ b ∈ X, ∃ o, (s₁.setGen g gs').heap.get? b = some o := fun b hb => by
        obtain ⟨o, e⟩ := (hX b hb).2
        refine ⟨o, k.heap b o ?_ (hX' b hb) e⟩
        rintro rfl
        obtain ⟨ps, t⟩ := T.tab
        have z := (hX _ hb).1
        rw [t.2] at z; cases z
      have notX : ∀ b ∈ Wf (i' + 1), b ∉ X := fun b hb q => by
        rcases w1 b hb with z | z
        · exact (hW b z).1 q
        · obtain ⟨o, e⟩ := (hX b q).2
          rw [show (s.setGen g GenState.running).heap = s.heap from rfl] at z
          rw [z] at e; cases e
      refine hQ d v _ (Wf (i' + 1)) hd ⟨isGen_kpx hg k haW hap, haX, fun q => ?_, hap, amb.kpx k fun b hb => (hW b hb).2.2.1, fun b hb => ⟨(hX b hb).1, aliveX b hb⟩, fun b hb => ⟨notX b hb, ?_, ?_, w3 b hb⟩, .inr ⟨gs', Wf, F, Nat.succ_pos _, rfl, ?_, stF _ _ _ _ hF k2 (fun _ q => nomatch q), stF, fun s'' hs'' => ?_⟩⟩ k w1 (w4 X fun b hb => ⟨(hX b hb).2, (hX b hb).1, hX' b hb⟩)
      · rcases w1 a q with z | z
        · exact haW z
        · obtain ⟨o, nm, qn, e, _⟩ := hg
          rw [show (s.setGen g GenState.running).heap = s.heap from rfl] at z
          rw [z] at e; cases e
      · rcases w1 b hb with z | z
        · exact (hW b z).2.1
        · rintro rfl
          obtain ⟨ps, t, _⟩ := amb.tab
          rw [show (s.setGen g GenState.running).heap = s.heap from rfl, t.2] at z; cases z
      · rcases w1 b hb with z | z
        · exact (hW b z).2.2.1
        · exact amb.none_of z
      · show (s₁.gens.setIfInBounds g _)[g]? = _
        have : g < s₁.gens.size := (Array.getElem?_eq_some_iff.mp (k1.gens g _ (by simp) hrun)).1
        rw [Array.getElem?_setIfInBounds_self_of_lt this]
      · have := kap s'' hs''
        obtain ⟨m, hm⟩ : ∃ m, ds.length - i' = m + 1 := ⟨ds.length - i' - 1, by omega⟩
        rw [hm] at this
        have em : m = ds.length - (i' + 1) := by omega
        subst em
        exact this
    · obtain ⟨h0, k1⟩ := hp
      have ei : i = ds.length := by omega
      subst ei
      rw [← hWf] at k1
      refine hN _ rfl ?_
      have k01 : KpX W [g] s s₁ := (k0.weak (fun _ q => nomatch q) fun _ q => q).trans (k1.weak (fun _ q => q) fun _ q => nomatch q)
      have k2 : KpX W [g] s₁ (s₁.setGen g .finished) := (kpx_gens rfl).weak (fun _ q => nomatch q) fun _ q => q
      have k3 : KpX W [g] (s₁.setGen g .finished) { s₁.setGen g .finished with heap := h' } := Kp.to (Kp.of (tk := (s₁.setGen g .finished).toks) hk)
      exact (k01.trans k2).trans k3
  rcases hst with ⟨rfl, rfl, hgs, hF, hS⟩ | ⟨gs, Wf, F, h0, hWf, hgs, hF, hS, hgo⟩
  · obtain ⟨Wf, w0, seg⟩ := start (s.setGen g .running) (hS _ _ _ _ hF (kpx_gens rfl) fun _ q => nomatch q)
    exact core _ Wf w0.symm hgs ⟨rfl, seg⟩
  · exact core gs Wf hWf hgs (hgo _ (hS _ _ _ _ hF (kpx_gens rfl) fun _ q => nomatch q))

theorem gen_iter (T : Top0 K H) {a : Addr} {g : Nat} {c : Code} {L : List Addr} {F₀ : Shared → Prop} {ds : List D} (hh : A.handled = none) (hroom : A.depth < recursionLimit)
    (start : ∀ s, F₀ s → ∃ Wf, Wf 0 = L ∧ Seg (model prog w) A.in1 (GR ds Wf) (GY H ds Wf) ds.length s c ((model prog w).den c) [] s) : IterG prog w A a [g] ds (GI prog w H A a g c L F₀ ds) where
  move := fun X X' W GX i s s' ⟨hg, haX, haW, hap, amb, hX, hW, hst⟩ k hgx hn al => by
    have hXW : ∀ b ∈ X, H.get? b = none ∧ b ∉ W := fun b hb => ⟨(hX b hb).1, fun q => (hW b q).1 hb⟩
    refine ⟨isGen_kpx hg k haX hap, fun q => ?_, haW, hap, amb.kpx k fun b hb => (hX b hb).1, fun b hb => ⟨(hn b hb).elim (fun q => (hX b q).1) amb.none_of, al b hb⟩, fun b hb => ?_, ?_⟩
    · rcases hn a q with q | q
      · exact haX q
      · obtain ⟨o, nm, qn, e, _⟩ := hg; rw [q] at e; cases e
    · obtain ⟨h1, h2, h3, o, e⟩ := hW b hb
      refine ⟨fun q => ?_, h2, h3, o, k.heap b o h2 h1 e⟩
      rcases hn b q with q | q
      · exact h1 q
      · rw [q] at e; cases e
    · rcases hst with ⟨e1, e2, hgs, hF, hS⟩ | ⟨gs, Wf, F, h0, hWf, hgs, hF, hS, hgo⟩
      · exact .inl ⟨e1, e2, k.gens g _ (hgx g (.head _)) hgs, hS _ _ _ _ hF k (e2 ▸ hXW), hS⟩
      · exact .inr ⟨gs, Wf, F, h0, hWf, k.gens g _ (hgx g (.head _)) hgs, hS _ _ _ _ hF k hXW, hS, hgo⟩
  off := fun X W i s ⟨_, _, _, _, _, _, hW, _⟩ b hb => ⟨(hW b hb).1, (hW b hb).2.2.2⟩
  item := fun X W i s Q E d hd hI hQ => hI.go T hh hroom start (Nat.le_of_lt (List.getElem?_eq_some_iff.mp hd).1) (fun d' v s' W' hd' h1 h2 h3 h5 => by
    rw [hd] at hd'; cases hd'
    exact hQ v s' W' h1 h2 h3 h5) fun s' e _ => by
      have := (List.getElem?_eq_some_iff.mp hd).1
      omega
  done := fun X W s Q E hI hQ => hI.go T hh hroom start (Nat.le_refl _) (fun d' v s' W' hd' h1 h2 h3 h5 => by
    have := (List.getElem?_eq_some_iff.mp hd').1
    omega) fun s' _ k => hQ s' k
  self := fun X W i s Q E ⟨hg, _⟩ hQ => wpAny_pyIter_gen hg hQ
  lot := fun X W i s t v Q E ⟨hg, _⟩ hQ => let ⟨o, nm, qn, ho, hc, _⟩ := hg; lot_of ho hc (by decide) hQ
end
end Mine

namespace Mine
open PySem PySem.W PyProof.Rows PySem.Calls PySem.Spec

def FlatV (σ : Vars) : Prop := ∀ x av, σ x = some av → ∃ d, av = .d d ∧ d.flat = true

theorem lookup_mem_any {α : Type} {cs : List (Str × α)} {x : Str} {c : α} : cs.lookup x = some c → (x, c) ∈ cs := by
  induction cs with
  | nil => intro e; simp at e
  | cons z r ih =>
    obtain ⟨n', a'⟩ := z
    intro e
    rw [List.lookup_cons] at e
    by_cases h : (x == n') = true
    · rw [h] at e; simp at e; rw [beq_iff_eq.mp h, e]; exact .head _
    · have : (x == n') = false := by simpa using h
      rw [this] at e; exact .tail _ (ih e)

section
variable {prog : Program} {w : World} {K : Frag} {H : Heap} {A : Around} {env : Env} {Mc : List Addr} {L : Addr} {σ : Vars} {B s s' : Shared}

/-- a frame that holds flat data alone, seen from a state in which others wrote -/
theorem St.foreign (T : Top0 K H) (S : St H B Mc env [L] σ s) (fl : FlatV σ) (hcell : env.cells = []) {X : List Addr} {GX : List Nat} (k : KpX X GX s s') (hX : ∀ b ∈ X, H.get? b = none ∧ b ∉ L :: Mc) : St H (turnB [L] s') Mc env [L] σ s' := by
  have hL : env.locals = L := List.mem_singleton.mp S.locW
  have nX : ∀ b ∈ [L] ++ Mc, b ∉ X := fun b hb q => (hX b q).2 (by simpa using hb)
  have nc : ∀ x c, env.cells.lookup x = some c → False := fun x c e => by rw [hcell] at e; simp at e
  exact {
    e := {
      amb := S.e.amb.kpx k fun b hb => (hX b hb).1
      alive := fun m hm => let ⟨o, g⟩ := S.e.alive m hm; ⟨o, k.heap m o (S.e.ne_pt T hm) (nX m hm) g⟩
      fresh := S.e.fresh, locM := S.e.locM, cellM := S.e.cellM, kind := S.e.kind, glob := S.e.glob, blt := S.e.blt
      vars := fun x av e => by
        obtain ⟨v, l, r⟩ := S.e.vars x av e
        obtain ⟨d, rfl, hd⟩ := fl x av e
        refine ⟨v, ?_, rda_d.mpr ((rda_d.mp r).flat hd)⟩
        rcases l with ⟨e1, m0, n0, y0⟩ | ⟨e1, c, lc, _⟩
        · exact .inl ⟨e1, _, nsKpx n0 k (S.e.ne_pt T S.e.locM) (nX _ (by rw [hL]; exact .head _)), y0⟩
        · exact (nc x c lc).elim }
    base := turn_kp [L] s'
    off := fun m hm => hideAll_none _ hm
    locW := S.locW, cellW := S.cellW, cellN := S.cellN, locC := S.locC
    ns := let ⟨m, n⟩ := S.ns; ⟨m, nsKpx n k (S.e.ne_pt T S.e.locM) (nX _ (by rw [hL]; exact .head _))⟩
    cells := fun x c e => (nc x c e).elim
    sep := S.sep, ownW := S.ownW }

theorem aok_in1 {n : Nat} (h : AOk A (n + 1)) : AOk A.in1 n := ⟨h.hh, by have := h.dep; show A.depth + n + 20 < recursionLimit; omega, by have := h.un; show A.units + 1 + 20 * n + 400 < cLine; omega⟩
theorem aok_func {n : Nat} {body : List Stmt} (h : AOk A (n + 1)) : AOk (A.over (.func body env) []) n := ⟨h.hh, by have := h.dep; show A.depth + 0 + 1 + n + 20 < recursionLimit; omega, by have := h.un; show A.units + 0 + 3 + 20 * n + 400 < cLine; omega⟩
theorem aok_loop {n : Nat} {body lbody : List Stmt} {target : Expr} {it : Value} {Kf : Flow → Sem Fin} {Hf : Value → Sem Fin} {gd : Bool → Bool} {lv : List Value → List Value} {p : Pos} (h : AOk A (n + 1)) :
    AOk (A.over (.forLoop target it lbody [] env) [loopFr Kf Hf gd lv (.func body env) env p]) n :=
  ⟨h.hh, by have := h.dep; show A.depth + (1 + 0) + 0 + n + 20 < recursionLimit; omega, by have := h.un; show A.units + (3 + 0) + 0 + 20 * n + 400 < cLine; omega⟩

/-- a value is handed out -/
theorem seg_yield_d (T : Top0 K H) {ds : List D} {Wf : Nat → List Addr} {s₀ : Shared} {c : Code} {fs : List Frame} {Kf : Flow → Sem Fin} {Hh : Value → Sem Fin} {gd : Bool → Bool} {lv : List Value → List Value} {n i : Nat} {e : Expr} {ypos pos : Pos} {rest : List Stmt} {d : D}
    (hev : ∀ M, EvT prog w H (A.over c fs) env M σ e (.d d)) (hn : i + n + 1 = ds.length) (hd : ds[i]? = some d) (S : St H B Mc env [L] σ s) (fl : FlatV σ) (hcell : env.cells = [])
    (k0 : KpX (Wf i) [] s₀ s) (w1 : Wf (i + 1) = L :: Mc) (w2 : ∀ b ∈ L :: Mc, b ∈ Wf i ∨ s₀.heap.get? b = none) (P : Shared → Prop) (hP : P s) (sP : Stable H (L :: Mc) P)
    (next : ∀ s'', St H (turnB [L] s'') Mc env [L] σ s'' → P s'' → Seg (model prog w) A (GR ds Wf) (GY H ds Wf) n s'' c ((execs rest env).wrap Kf Hh gd lv) fs s'')
    (hfs : splitAtGen fs = none := by rfl) (hgd : gd false = false := by rfl) (hfg : fs.any Frame.guarded = false := by rfl) (hco : env.scope.isCoroutine = false := by rfl) (hi : interactive env = false := by rfl) :
    Seg (model prog w) A (GR ds Wf) (GY H ds Wf) (n + 1) s₀ c ((execs (.Expr (.Yield (some e) ypos) pos :: rest) env).wrap Kf Hh gd lv) fs s := by
  refine seg_execs_cons (seg_Expr_Yield hfs hgd hfg ?_ hco hi)
  let X : List Addr := (List.range s₀.heap.objs.size).filter fun b => (s₀.heap.get? b).isSome && (H.get? b).isNone && decide (b ∉ Wf i)
  have hXm : ∀ b, b ∈ X ↔ (∃ o, s₀.heap.get? b = some o) ∧ H.get? b = none ∧ b ∉ Wf i := fun b => by
    simp only [X, List.mem_filter, List.mem_range, Bool.and_eq_true, Option.isSome_iff_exists, Option.isNone_iff_eq_none, decide_eq_true_iff]
    exact ⟨fun h => ⟨h.2.1.1, h.2.1.2, h.2.2⟩, fun ⟨⟨o, e⟩, h2, h3⟩ => ⟨Heap.lt_size e, ⟨⟨o, e⟩, h2⟩, h3⟩⟩
  have ptH : ∀ b, H.get? b = none → b ≠ PT := fun b h => by
    rintro rfl
    obtain ⟨ps, t⟩ := T.tab
    rw [t.2] at h; cases h
  have SX : StE H env (([L] ++ Mc) ++ X) σ s := { S.e with
    alive := fun m hm => (List.mem_append.mp hm).elim (S.e.alive m) fun q => by
      obtain ⟨⟨o, e⟩, h2, h3⟩ := (hXm m).mp q
      exact ⟨o, k0.heap m o (ptH m h2) h3 e⟩
    fresh := fun m hm => (List.mem_append.mp hm).elim (S.e.fresh m) fun q => ((hXm m).mp q).2.1
    locM := List.mem_append.mpr (.inl S.e.locM)
    cellM := fun x c e => List.mem_append.mpr (.inl (S.e.cellM x c e))
    vars := fun x av e => by
      obtain ⟨v, l, r⟩ := S.e.vars x av e
      obtain ⟨d, rfl, hd⟩ := fl x av e
      exact ⟨v, l, rda_d.mpr ((rda_d.mp r).flat hd)⟩ }
  refine hev _ s _ _ SX fun v s1 k1 r1 kap hk => ?_
  have k01 : KpX (Wf i) [] s₀ s1 := k0.trans k1.to
  have S1 := S.kp T k1
  refine ⟨i, d, hn, hd, k01, fun b hb => w2 b (w1 ▸ hb), fun b hb => S1.e.alive b (by rw [w1] at hb; simpa using hb), fun X' hX' => (rda_d.mp r1).hidden fun b hb => ?_, fun s'' => St H (turnB [L] s'') Mc env [L] σ s'' ∧ P s'', ⟨?_, ?_⟩, ?_, fun s'' hs'' => ?_⟩
  · rcases List.mem_append.mp hb with q | q
    · rw [w1] at q; exact List.mem_append.mpr (.inl (by simpa using q))
    · exact List.mem_append.mpr (.inr ((hXm b).mpr (hX' b q)))
  · exact S1.rebase (turn_kp [L] s1) fun m hm => hideAll_none _ hm
  · exact sP _ _ _ _ hP k1 fun _ q => nomatch q
  · rw [w1]
    exact fun X GX s s' ⟨h1, h2⟩ k hX => ⟨h1.foreign T fl hcell k hX, sP X GX s s' h2 k hX⟩
  · exact hk .none s'' (next s'' hs''.1 hs''.2)

/-- a def that makes a generator -/
theorem it_gen (T : Top0 K H) {n : Nat} (hA : AOk A (n + 1)) {M : List Addr} {x : Str} {np pos : Pos} {args : List Expr} {fa : Addr} {qual : Str} {ps : List Str} {body : List Stmt} {scope : Scope} {cdv : Value} {as : List D} {ds : List D}
    (hfn : FnT prog w H A env M σ x (.ref fa)) (hf : KeepsF K (.ref fa)) (h1 : EvLs prog w H A env M σ pos args (as.map .d)) (F : FnIs K fa qual ps body scope cdv) (hg : scope.isGenerator = true) (hl : ps.length = as.length) (hnc : ∀ L, cellsFrom (L + 1) scope.names [] = []) (fl : ∀ d ∈ as, d.flat = true)
    (start : ∀ L s, St H (turnB [L] s) [] (fenv qual scope L fa cdv) [L] (vars0 ps as) s → ∃ Wf, Wf 0 = [L] ∧ Seg (model prog w) A.in1 (GR ds Wf) (GY H ds Wf) ds.length s (.func body (fenv qual scope L fa cdv)) ((model prog w).den (.func body (fenv qual scope L fa cdv))) [] s)
    (hs : (backTo pos (starEach args env)).any (·.1) = false := by rfl) : ItW prog w H A env M σ (.Call (.Name x np) args [] pos) ds := fun s Q E S h => by
  refine wpAny_Call_ofName (hfn s np _ _ S (call_with T hf S h1 hs fun vs s1 k1 r1 => ?_))
  have S1 := S.kp T k1
  have rd' := r1.toD
  obtain ⟨oc, od, osl, name, params, dV, kV, doc, pm, an, ct, ho, hbind⟩ := F.look
  refine wpAny_call (codeAny_call_generator hA.room (S1.amb.inK T _ _ ho) rfl F.co hg rfl (codeRec_of (S1.amb.inK T) F.code) ?_)
  rw [show ([] : List Value) ++ vs = vs from rfl, hbind vs (by rw [rd'.length, hl])]
  refine wpAny_pure ?_
  refine wpAny_newFunctionEnv_cells F.kind (fun x hx => ?_) fun env' he s2 y => ?_
  · have hyp : x.1 ∈ ps := (List.of_mem_zip (show (x.1, x.2) ∈ ps.zip vs from hx)).1
    have := List.all_eq_true.mp F.kinds x.1 hyp
    rcases Bool.or_eq_true_iff.mp this with q | q
    · exact .inl (beq_iff_eq.mp q)
    · exact .inr ⟨beq_iff_eq.mp q, cellsFrom_some scope.names (s1.heap.objs.size + 1) [] (.inl (beq_iff_eq.mp q))⟩
  · subst he
    have S2 := enter T F S1.amb S1.alive S1.fresh rd' hl y
    refine ⟨S2.e.amb.nolimit T, ?_⟩
    obtain ⟨h2, tk2, e2, keep2⟩ := y.done
    have gens2 : s2.gens = s1.gens := by rw [e2]
    have mw : mwOf scope s1.heap.objs.size = [s1.heap.objs.size] := by
      show _ :: (cellsFrom (s1.heap.objs.size + 1) scope.names []).map (·.2) = _
      rw [hnc]; rfl
    rw [mw] at S2
    generalize hL : s1.heap.objs.size = L at *
    generalize hs3 : ({ s2 with gens := s2.gens.push (.fresh (.func body (fenv qual scope L fa cdv))), toks := s2.toks + 1 + 1, heap := s2.heap.push { cls := .type "generator", data := .fields #[.int s2.gens.size 0, .str name s2.toks, .str qual (s2.toks + 1)] } } : Shared) = s3
    have k3 : Kp s2 s3 := by
      rw [← hs3]
      exact ⟨fun b o _ _ e => Heap.get?_push_of_some _ e, fun ps a b => ⟨#[], by rw [Array.append_empty]; exact a.keeps fun b o e => Heap.get?_push_of_some _ e, by rw [Array.append_empty]; exact b.keeps fun b o e => Heap.get?_push_of_some _ e⟩,
        fun i z _ e => by
          show (s2.gens.push _)[i]? = some z
          have hi := (Array.getElem?_eq_some_iff.mp e).1
          rw [Array.getElem?_push_lt hi]
          rw [Array.getElem?_eq_getElem hi] at e; exact e, fun b => AllBare.push b rfl, rfl⟩
    have isg : s3.heap.IsGen s2.heap.objs.size s2.gens.size := by
      rw [← hs3]; exact ⟨_, _, _, Heap.get?_push_size _ rfl, rfl, rfl, rfl⟩
    have hL1 : s1.heap.get? L = none := hL ▸ size_none s1
    have hL0 : s.heap.get? L = none := Kp.none S.amb k1 hL1
    have k13 : Kp s1 s3 := S2.base.trans k3
    have S3 := S2.kp T k3
    have noCell : ∀ x c, (fenv qual scope L fa cdv).cells.lookup x = some c → False := fun x c e => by
      have e' : (cellsFrom (L + 1) scope.names []).lookup x = some c := e
      rw [hnc] at e'; simp at e'
    have S3' : St H (turnB [L] s3) [] (fenv qual scope L fa cdv) [L] (vars0 ps as) s3 := (S3.unhide (Mc' := []) (fun _ q => nomatch q) fun x c e => (noCell x c e).elim).rebase (turn_kp [L] s3) fun m hm => hideAll_none _ hm
    have hLM : L ∉ M := fun q => by obtain ⟨o, e⟩ := S.alive L q; rw [hL0] at e; cases e
    have aM : s2.heap.objs.size ∉ M := fun q => by
      obtain ⟨o, e⟩ := S2.e.alive _ (List.mem_append.mpr (.inr q))
      exact Nat.lt_irrefl _ (Heap.lt_size e)
    have aL : s2.heap.objs.size ≠ L := fun q => by
      obtain ⟨o, e⟩ := S2.e.alive L (.head _)
      exact absurd (Heap.lt_size e) (by rw [q]; exact Nat.lt_irrefl _)
    have flv : FlatV (vars0 ps as) := fun x av e => by
      unfold vars0 at e
      obtain ⟨d, hd, rfl⟩ := Option.map_eq_some_iff.mp e
      refine ⟨d, rfl, fl d ?_⟩
      have := lookup_mem_any hd
      exact (List.of_mem_zip this).2
    have gI : GI prog w H A s2.heap.objs.size s2.gens.size (.func body (fenv qual scope L fa cdv)) [L] (fun s => St H (turnB [L] s) [] (fenv qual scope L fa cdv) [L] (vars0 ps as) s) ds M [L] 0 s3 := by
      refine ⟨isg, aM, by simpa using aL, S2.e.amb.ne_pt, S3.e.amb, fun b hb => ⟨S.fresh b hb, (S1.kp T k13).alive b hb⟩, fun b hb => ?_, .inl ⟨rfl, rfl, ?_, S3', ?_⟩⟩
      · rw [List.mem_singleton.mp hb]
        exact ⟨hLM, S3.e.ne_pt T (.head _), S3.e.fresh L (.head _), S3.e.alive L (.head _)⟩
      · rw [← hs3]
        show (s2.gens.push _)[s2.gens.size]? = _
        rw [Array.getElem?_push_size]
      · exact fun X GX s s' h k hX => h.foreign T flv (by show cellsFrom (L + 1) scope.names [] = []; exact hnc L) k hX
    have W := gen_iter (ds := ds) T (a := s2.heap.objs.size) (g := s2.gens.size) hA.hh hA.room (fun s hs => start L s hs)
    suffices hgoal : wpAny (model prog w) A (pyIter (.ref s2.heap.objs.size)) Q E s3 by
      rw [← hs3] at hgoal; exact hgoal
    refine wpAny_pyIter_gen isg ?_
    refine h _ [L] [s2.gens.size] _ s3 (k1.trans k13) W gI (fun b hb => by rw [List.mem_singleton.mp hb]; exact hL0) fun g hg' => ?_
    rw [List.mem_singleton.mp hg', gens2]
    exact gens_none k1 (Array.getElem?_eq_none (Nat.le_refl _))
end
end Mine

namespace Mine
open PySem PySem.W PyProof.Rows PySem.Calls PySem.Spec

section
variable {prog : Program} {w : World} {K : Frag} {H : Heap} {A : Around} {env : Env} {Mc Mw : List Addr} {L : Addr} {σ : Vars} {B s s' : Shared}

theorem kpx_buts {X : List Addr} {s : Shared} {h' : Heap} {tk : Nat} (hp : PT ∉ X) (h93 : (93 : Addr) ∉ X) (hk : ∀ b o, b ∉ X → s.heap.get? b = some o → h'.get? b = some o) : KpX X [] s { s with heap := h', toks := tk } :=
  ⟨fun b o _ hb e => hk b o hb e, fun ps t i => ⟨#[], by
        simp only [Array.append_empty]
        obtain ⟨⟨o, vs, a, r⟩, t⟩ := t
        exact ⟨⟨o, vs, hk _ _ h93 a, r⟩, hk _ _ hp t⟩, by
        simp only [Array.append_empty]
        obtain ⟨o, vs, file, tf, flags, tg, inF, text, tt, op, h1, h2, h3, h4, h5, h6, h7, h8, r⟩ := i
        exact ⟨o, vs, file, tf, flags, tg, inF, text, tt, op, hk _ _ h93 h1, h2, h3, h4, h5, h6, h7, hk _ _ hp h8, r⟩⟩, fun _ _ _ e => e, id, rfl⟩
theorem turn_kpx {Z : List Addr} (hp : PT ∉ Z) (h93 : (93 : Addr) ∉ Z) (k : Kp (turnB Z s) s') : KpX Z [] s s' := by
  have up : ∀ b o, b ∉ Z → s.heap.get? b = some o → (turnB Z s).heap.get? b = some o := fun b o hb e => hideAll_get _ e hb
  exact ⟨fun b o h1 h2 e => k.heap b o h1 (by simp) (up b o h2 e), fun ps t i => by
      refine k.tab ps ?_ ?_
      · obtain ⟨⟨o, vs, a, r⟩, t⟩ := t
        exact ⟨⟨o, vs, up _ _ h93 a, r⟩, up _ _ hp t⟩
      · obtain ⟨o, vs, file, tf, flags, tg, inF, text, tt, op, h1, h2, h3, h4, h5, h6, h7, h8, r⟩ := i
        exact ⟨o, vs, file, tf, flags, tg, inF, text, tt, op, up _ _ h93 h1, h2, h3, h4, h5, h6, h7, up _ _ hp h8, r⟩, fun i x h e => k.gens i x h e, k.bare, k.os⟩
theorem St.ne93s (T : Top0 K H) (S : St H B Mc env Mw σ s) : PT ∉ Mw ++ Mc ∧ (93 : Addr) ∉ Mw ++ Mc := ⟨fun q => S.e.ne_pt T q rfl, fun q => ne93 T (S.e.fresh _ q) rfl⟩

/-- a name of the frame's gets flat data; how large the heap is -/
theorem store_sz (T : Top0 K H) (S : St H B Mc env Mw σ s) {x : Str} {v : Value} {d : D} {Q : Unit → Shared → Prop} {E : Value → Shared → Prop} (hk : env.kindOf x = some .local)
    (r : Rd s.heap (Mw ++ Mc) v d) (h : ∀ s', St H B Mc env Mw (upd σ x (.d d)) s' → s'.heap.objs.size = s.heap.objs.size → Q () s') : wpAny (model prog w) A (storeName env x v) Q E s := by
  have hLf := S.e.fresh _ S.e.locM
  have hLp := S.e.ne_pt T S.e.locM
  obtain ⟨m, n⟩ := S.ns
  refine wpAny_storeName_local hk n (fun h' hn hs => ?_) (by rw [S.e.kind]; rfl)
  have k := kpx_same (tk := s.toks + 1) hs hLp (ne93 T hLf)
  refine h _ ?_ hs.1
  refine S.write T S.locW k (let ⟨o, _, _, e, _⟩ := hn; ⟨o, e⟩) ⟨_, hn⟩ (fun y c e => ?_) (fun y av' e => ?_) (sep_d S.sep x d) (own_d S.ownW x d)
  · obtain ⟨u, o, g, r⟩ := S.cells y c e
    exact ⟨u, o, hs.extBut _ _ (S.locC y c e) g, r⟩
  · have rd : ∀ {u : Value} {bv : AV}, upd σ x (.d d) y = some bv → RdA s.heap (Mw ++ Mc) u bv → RdA h' (Mw ++ Mc) u bv := fun ex rr =>
      rr.mono (fun b o h1 h2 e => ⟨h1, hs.extBut b o (fun q => h1 (q ▸ S.e.locM)) e⟩) fun b hb => ⟨rr.mem b hb, fun o e => hs.extBut b o ((sep_d S.sep x d y _ ex).2.1 b hb).1 e⟩
    unfold upd at e
    by_cases hy : y = x
    · subst hy
      rw [if_pos rfl] at e; cases e
      exact ⟨v, .inl ⟨hk, _, hn, by simp⟩, rd (by unfold upd; rw [if_pos rfl]) (rda_d.mpr r)⟩
    · rw [if_neg hy] at e
      obtain ⟨u, l, rr⟩ := S.e.vars y av' e
      refine ⟨u, ?_, rd (by unfold upd; rw [if_neg hy]; exact e) rr⟩
      rcases l with ⟨e1, m0, n0, y0⟩ | ⟨e1, c, lc, o, g, d⟩
      · exact .inl ⟨e1, _, hn, by simp only [if_neg hy]; rw [ns_unique n n0]; exact y0⟩
      · exact .inr ⟨e1, c, lc, o, hs.extBut _ _ (S.locC y c lc) g, d⟩

/-- x = a constant; how large the heap is -/
theorem assign_int_sz (T : Top0 K H) (S : St H B Mc env Mw σ s) {x : Str} {p pos cp : Pos} {i : Int} {k : Nat} {Q : Flow → Shared → Prop} {E : Value → Shared → Prop} (hk : env.kindOf x = some .local)
    (h : ∀ s', St H B Mc env Mw (upd σ x (.d (.int i))) s' → s'.heap.objs.size = s.heap.objs.size → Q .next s') (hs : swapsWith (.Constant (.int i) k cp) (some (Expr.Name x p)) pos.line env = pure false := by rfl) :
    wpAny (model prog w) A (exec (.Assign [.Name x p] (.Constant (.int i) k cp) pos) env) Q E s := by
  refine wpAny_Assign_Name (wpAny_bind (m := fresh) (f := fun t => pure (Value.int i t)) (wpAny_fresh (wpAny_pure ?_))) hs
  exact store_sz T (S.kp T Kp.toks) hk (by unfold Rd; exact ⟨_, rfl⟩) fun s' S' e => h s' S' e
theorem assign_bool_sz (T : Top0 K H) (S : St H B Mc env Mw σ s) {x : Str} {p pos cp : Pos} {i : Bool} {k : Nat} {Q : Flow → Shared → Prop} {E : Value → Shared → Prop} (hk : env.kindOf x = some .local)
    (h : ∀ s', St H B Mc env Mw (upd σ x (.d (.bool i))) s' → s'.heap.objs.size = s.heap.objs.size → Q .next s') (hs : swapsWith (.Constant (.bool i) k cp) (some (Expr.Name x p)) pos.line env = pure false := by rfl) :
    wpAny (model prog w) A (exec (.Assign [.Name x p] (.Constant (.bool i) k cp) pos) env) Q E s := by
  refine wpAny_Assign_Name (wpAny_pure ?_) hs
  exact store_sz T S hk (by unfold Rd; rfl) fun s' S' e => h s' S' e

/-- an enumerate over a text, at sign j -/
def SE (it e : Addr) (x : Str) (t : Tok) (j : Nat) (h : Heap) : Prop := (∃ old, IsEnum h e it j old) ∧ h.IsStrIter it (strIterType x) x t j
theorem SE.stable {W : List Addr} {it e : Addr} {x : Str} {t : Tok} {j : Nat} (T : Top0 K H) (hi : it ∈ W) (he : e ∈ W) (pi : it ≠ PT) (pe : e ≠ PT) : Stable H W fun s => SE it e x t j s.heap := fun X GX s s' ⟨⟨old, h1⟩, o, h2, r⟩ k hX =>
  ⟨⟨old, k.heap _ _ pe (fun q => (hX e q).2 he) h1⟩, o, k.heap _ _ pi (fun q => (hX it q).2 hi) h2, r⟩

theorem draws (hh : A.handled = none) (it : Addr) (x : Str) (t : Tok) : Draws prog w A it [it] x.cps.size (SignAt x) (fun i h => h.IsStrIter it (strIterType x) x t i) := by
  cases ha : x.cps.all (· < 128)
  · have e : strIterType x = "str_iterator" := by unfold strIterType; rw [ha]; rfl
    rw [e]; exact Draws.strWide hh it x t
  · have e : strIterType x = "str_ascii_iterator" := by unfold strIterType; rw [ha]; rfl
    rw [e]; exact Draws.strAscii hh it x t

/-- enumerate(name): made, and made an iterator -/
theorem enum_make (T : Top0 K H) (S : St H B Mc env Mw σ s) {np ap pos : Pos} {y : Str} {x : Str} (hf : FnT prog w H A env (Mw ++ Mc) σ "enumerate" (.type "enumerate")) (hy : σ y = some (.d (.str x))) (hyd : (y == ("__debug__" : Str)) = false)
    {Q : Value → Shared → Prop} {E : Value → Shared → Prop} (h : ∀ t s', Kp s s' → SE s.heap.objs.size (s.heap.objs.size + 1) x t 0 s'.heap → Q (.ref (s.heap.objs.size + 1)) s')
    (hse : starEach [.Name y ap] env = (false, eval (.Name y ap) env) :: starEach [] env := by rfl) :
    wpAny (model prog w) A (eval (.Call (.Name "enumerate" np) [.Name y ap] [] pos) env) (fun x s₁ => wpAny (model prog w) A (pyIter x) Q E s₁) E s := by
  refine wpAny_Call_ofName (hf s np _ _ S.e (callWith_of (P := fun h => K.In h) (by rw [hse]; rfl) (keeps_f trivial) ?_))
  rw [hse]
  refine evalArgs_plain ?_
  obtain ⟨v, l, r⟩ := S.e.vars y _ hy
  obtain ⟨t, rfl⟩ := str_of r
  show wpAny _ _ (do let v ← eval (.Name y ap) env; let here ← (pure [v] : Sem (List Value)); return here ++ (← holding here (spliced (backTo pos (starEach [] env))))) _ _ _
  have go : wpAny (model prog w) A (eval (.Name y ap) env) (fun v s' => v = .str x t ∧ s' = s) E s := by
    refine wpAny_Name ?_ hyd
    rcases l with ⟨e, m, n, z⟩ | ⟨e, c, lc, hc⟩
    · exact wpAny_loadName_local S.e.kind e n z ⟨rfl, rfl⟩
    · exact wpAny_loadName_cell S.e.kind e lc hc ⟨rfl, rfl⟩
  refine wpAny_bind (wpAny_mono go (fun v s' q => ?_) fun _ _ e => e)
  obtain ⟨rfl, rfl⟩ := q
  refine wpAny_bind (wpAny_pure (wpAny_bind (wpAny_holding (?_ : wpAny _ _ (pure []) _ _ _))))
  refine wpAny_pure (wpAny_pure ⟨S.e.amb.inK T, ?_⟩)
  show wpAny _ A (call (.type "enumerate") [.str x t]) _ _ s'
  refine call_enumerate_str fun h' he hi hsz keep => ?_
  refine wpAny_pyIter_enum he (h t _ (Kp.of (tk := s'.toks) keep) ⟨⟨_, he⟩, hi⟩)

/-- one turn over an enumerate -/
theorem enum_item (T : Top0 K H) (hh : A.handled = none) {it e : Addr} {x : Str} {t : Tok} {j c : Nat} (S : St H B [it, e] env [L] σ s) (hSE : SE it e x t j s.heap) (hc : x.cps[j]? = some c)
    {es : List Expr} {k : Nat} {p : Pos} {x1 x2 : Str} (hne : e ≠ it) (hn : es.map nameOf = [some x1, some x2]) (hb : BindOk env x1 ∧ BindOk env x2)
    (hf : (assignEach es env).findIdx? (·.1) = none) (hl : (assignEach es env).length = 2) {Q : Shared → Prop} {Z : Shared → Prop} {E : Value → Shared → Prop}
    (h : ∀ s', St H (turnB [L] s') [it, e] env [L] (upd (upd σ x1 (.d (.int j))) x2 (.d (.str ⟨#[c]⟩))) s' → SE it e x t (j + 1) s'.heap → KpX [L, it, e] [] s s' → Q s') :
    wpAny (model prog w) A (pyNext (.ref e)) (fun r s₁ => match r with
      | none => Z s₁
      | some v => wpAny (model prog w) A (letOwnedTupleGo (.Tuple es k p) (.ref e) v) (fun _ s₂ => wpAny (model prog w) A (assign (.Tuple es k p) env v) (fun _ s₃ => Q s₃) E s₂) E s₁) E s := by
  have W := WalksT.enumerateD (prog := prog) (w := w) (draws (A := A.in1) hh it x t) e hne (by simpa using hne) (.head _)
  have hj : j < x.cps.size := (Array.getElem?_eq_some_iff.mp hc).1
  obtain ⟨n1, n2⟩ := S.ne93s T
  have hLe : env.locals = L := List.mem_singleton.mp S.locW
  have aliveE : ∀ b ∈ [e, it], b ∈ [L] ++ [it, e] := fun b hb => by
    rcases List.mem_cons.mp hb with rfl | hb
    · exact .tail _ (.tail _ (.head _))
    · rw [List.mem_singleton.mp hb]; exact .tail _ (.head _)
  have hLne : L ≠ e ∧ L ≠ it := by
    obtain ⟨m, o, es', ep, g, hd, _⟩ := S.ns
    rw [hLe] at g
    obtain ⟨⟨old, h1⟩, o2, h2, _, h3⟩ := hSE
    constructor
    · rintro rfl
      have h1' : s.heap.get? L = _ := h1
      rw [h1'] at g; cases g; cases hd
    · rintro rfl
      rw [h2] at g; cases g; rw [h3] at hd; cases hd
  refine W.item j s _ _ hj hSE fun Tt vals h' tk hP hT htup hmid hk => ?_
  obtain ⟨t', v', ⟨c', u', hc', rfl⟩, rfl⟩ := hP
  rw [hc] at hc'; cases hc'
  have p2 : PT ∉ [e, it] := fun q => n1 (aliveE _ q)
  have p3 : (93 : Addr) ∉ [e, it] := fun q => n2 (aliveE _ q)
  have k1 : KpX [e, it] [] s { s with heap := h', toks := tk } := kpx_buts p2 p3 hk
  have hap := W.apart j Tt h' hmid
  refine W.go es k p j Tt _ _ _ hmid fun h'' hst hk2 => ?_
  have k2 : KpX [e, it] [] { s with heap := h', toks := tk } { s with heap := h'', toks := tk } := kpx_buts (tk := tk) p2 p3 hk2
  have k12 := k1.trans k2
  have B3 : St H (turnB [L, it, e] s) [it, e] env [L] σ s := S.rebase (turn_kp _ s) fun m hm => by
    rw [List.mem_singleton.mp hm]; exact hideAll_none _ (.head _)
  have al2 : ∀ b ∈ [e, it], ∃ o, h''.get? b = some o := fun b hb => by
    rcases List.mem_cons.mp hb with rfl | hb
    · obtain ⟨⟨_, q⟩, _⟩ := hst; exact ⟨_, q⟩
    · rw [List.mem_singleton.mp hb]; obtain ⟨_, o, q, _⟩ := hst; exact ⟨o, q⟩
  have S2 : St H (turnB [L, it, e] s) [it, e] env [L] σ { s with heap := h'', toks := tk } := B3.other T k12 aliveE (fun b hb q => by
      rw [List.mem_singleton] at q; subst q
      rcases List.mem_cons.mp hb with q | q
      · exact hLne.1 q
      · exact hLne.2 (List.mem_singleton.mp q)) (fun b hb => hideAll_none _ (by simp at hb ⊢; rcases hb with h | h <;> simp [h])) (fun _ q => nomatch q) al2 (fun y c e q => by
      have hc2 := S.cells y c e
      obtain ⟨v, o, g, hd⟩ := hc2
      obtain ⟨⟨old, h1⟩, o2, h2, _, h3⟩ := hSE
      rcases List.mem_cons.mp q with rfl | q
      · have h1' : s.heap.get? c = _ := h1
        rw [h1'] at g; cases g; cases hd
      · rw [List.mem_singleton.mp q, h2] at g; cases g; rw [h3] at hd; cases hd)
  have htup2 : h''.IsTuple Tt #[.int j t', .str ⟨#[c]⟩ u'] := let ⟨o, g, r⟩ := htup; ⟨o, hk2 _ _ hap g, r⟩
  have hTm : Tt ∉ [L] ++ [it, e] := fun q => by
    obtain ⟨o, g⟩ := S.e.alive Tt q
    exact absurd (Heap.lt_size g) (Nat.not_lt.mpr hT)
  have hTp : Tt ≠ PT := by
    rintro rfl
    obtain ⟨ps, tt, _⟩ := S.e.amb.tab
    exact absurd (Heap.lt_size tt.2) (Nat.not_lt.mpr hT)
  refine asg_tup T hh (xds := [(x1, .int j), (x2, .str ⟨#[c]⟩)]) hn (fun p hp => ?_) hf hl _ _ _ _ S2 ?_ fun s3 S3 k3 => ?_
  · rcases List.mem_cons.mp hp with rfl | hp
    · exact hb.1
    · rw [List.mem_singleton.mp hp]; exact hb.2
  · unfold Rd
    refine ⟨Tt, _, rfl, hTm, hTp, htup2, ?_⟩
    exact rdl_cons (by unfold Rd; exact ⟨_, rfl⟩) (rdl_cons (by unfold Rd; exact ⟨_, rfl⟩) rdl_nil)
  · have p4 : PT ∉ [L, it, e] ∧ (93 : Addr) ∉ [L, it, e] := ⟨fun q => n1 (by simpa using q), fun q => n2 (by simpa using q)⟩
    have hit : it ≠ PT := fun q => n1 (by rw [← q]; simp)
    have he : e ≠ PT := fun q => n1 (by rw [← q]; simp)
    refine h s3 (S3.rebase (turn_kp [L] s3) fun m hm => hideAll_none _ hm) ?_ (turn_kpx p4.1 p4.2 S3.base)
    exact SE.stable (W := [it, e]) (H := H) T (by simp) (by simp) hit he [L] [] { s with heap := h'', toks := tk } s3 hst k3 fun b hb => by
      rw [List.mem_singleton.mp hb]
      exact ⟨S.e.fresh L (.head _), by simp [hLne.1, hLne.2]⟩

theorem enum_done (T : Top0 K H) (hh : A.handled = none) {it e : Addr} {x : Str} {t : Tok} {j : Nat} (S : St H B [it, e] env [L] σ s) (hSE : SE it e x t j s.heap) (hj : j = x.cps.size) (hne : e ≠ it) (fl : FlatV σ) (hcell : env.cells = [])
    {Q : Value → Shared → Prop} {Z : Shared → Prop} {E : Value → Shared → Prop} (h : ∀ s', St H (turnB [L] s') [] env [L] σ s' → KpX [e, it] [] s s' → Z s') :
    wpAny (model prog w) A (pyNext (.ref e)) (fun r s₁ => match r with | none => Z s₁ | some v => Q v s₁) E s := by
  have W := WalksT.enumerateD (prog := prog) (w := w) (draws (A := A.in1) hh it x t) e hne (by simpa using hne) (.head _)
  obtain ⟨n1, n2⟩ := S.ne93s T
  have aliveE : ∀ b ∈ [e, it], b ∈ [L] ++ [it, e] := fun b hb => by
    rcases List.mem_cons.mp hb with rfl | hb
    · exact .tail _ (.tail _ (.head _))
    · rw [List.mem_singleton.mp hb]; exact .tail _ (.head _)
  have hLe : env.locals = L := List.mem_singleton.mp S.locW
  have hLne : L ≠ e ∧ L ≠ it := by
    obtain ⟨m, o, es', ep, g, hd, _⟩ := S.ns
    rw [hLe] at g
    obtain ⟨⟨old, h1⟩, o2, h2, _, h3⟩ := hSE
    constructor
    · rintro rfl
      have h1' : s.heap.get? L = _ := h1
      rw [h1'] at g; cases g; cases hd
    · rintro rfl
      rw [h2] at g; cases g; rw [h3] at hd; cases hd
  subst hj
  refine W.done s _ _ hSE fun h' tk hk => ?_
  have k1 : KpX [e, it] [] s { s with heap := h', toks := tk } := kpx_buts (fun q => n1 (aliveE _ q)) (fun q => n2 (aliveE _ q)) hk
  have S' := (S.rebase (turn_kp [L] s) fun m hm => hideAll_none _ hm).unhide (Mc' := []) (fun _ q => nomatch q) fun x c e => by rw [hcell] at e; simp at e
  have S2 := S'.foreign T fl hcell k1 fun b hb => ⟨S.e.fresh b (aliveE b hb), by
    rcases List.mem_cons.mp hb with rfl | hb
    · simpa using hLne.1.symm
    · rw [List.mem_singleton.mp hb]; simpa using hLne.2.symm⟩
  exact h _ S2 k1
end
end Mine

namespace Mine
open PySem PySem.W PyProof.Rows PySem.Calls PySem.Spec
abbrev PG : Program := PySem.Challenge.rw_rw0115_01.row.prog
noncomputable abbrev KK (w : World) : Frag := KF w.params
def V (l : List (Str × AV)) : Vars := fun y => l.lookup y
theorem upd_V (l : List (Str × AV)) (x : Str) (v : AV) : upd (V l) x v = V ((x, v) :: l) := by
  funext y
  unfold upd V
  rw [List.lookup_cons]
  by_cases h : y = x
  · rw [if_pos h, h]; simp
  · rw [if_neg h]
    have : (y == x) = false := by simpa using h
    rw [this]
theorem vars0_V (ps : List Str) (ds : List D) : vars0 ps ds = V ((ps.zip ds).map fun p => (p.1, .d p.2)) := by
  funext y
  unfold vars0 V
  generalize ps.zip ds = l
  induction l with
  | nil => rfl
  | cons p l ih =>
    obtain ⟨x, d⟩ := p
    rw [List.map_cons, List.lookup_cons, List.lookup_cons]
    cases y == x <;> simp [ih]
theorem putV_V (a : Addr) (l' : List D) (l : List (Str × AV)) : putV a l' (V l) = V (l.map fun p => (p.1, p.2.put a l')) := by
  funext y
  unfold putV V
  induction l with
  | nil => rfl
  | cons p l ih =>
    obtain ⟨x, d⟩ := p
    rw [List.map_cons, List.lookup_cons, List.lookup_cons]
    cases y == x <;> simp [ih]
/-- what a comprehension's block may read -/
theorem capt_V (names : List Str) (l : List (Str × AV)) : capt names (V l) = V (l.filter fun p => decide (p.1 ∈ names)) := by
  funext y
  unfold capt V
  induction l with
  | nil => simp
  | cons p l ih =>
    obtain ⟨x, d⟩ := p
    rw [List.lookup_cons, List.filter_cons]
    cases h : y == x with
    | true =>
      have e := beq_iff_eq.mp h
      subst e
      by_cases q : y ∈ names
      · simp [q]
      · rw [if_neg q]; simp only [q, decide_false, Bool.false_eq_true, if_false]; rw [← ih, if_neg q]
    | false =>
      by_cases q : x ∈ names
      · simp only [q, decide_true, if_true, List.lookup_cons, h]; exact ih
      · simp only [q, decide_false, Bool.false_eq_true, if_false]; exact ih
theorem St.V {H : Heap} {B s : Shared} {Mc Mw : List Addr} {env : Env} {l : List (Str × AV)} (S : St H B Mc env Mw (Mine.V l) s) (l' : List (Str × AV)) (h : ∀ p ∈ l', l.lookup p.1 = some p.2) : St H B Mc env Mw (Mine.V l') s :=
  S.sub fun x av e => by
    have := lookup_mem' e
    exact h (x, av) this
where
  lookup_mem' {cs : List (Str × AV)} {x : Str} {c : AV} : cs.lookup x = some c → (x, c) ∈ cs := by
    induction cs with
    | nil => intro e; simp at e
    | cons z r ih =>
      obtain ⟨n', a'⟩ := z
      intro e
      rw [List.lookup_cons] at e
      by_cases h : (x == n') = true
      · rw [h] at e; simp at e; rw [beq_iff_eq.mp h, e]; exact .head _
      · have : (x == n') = false := by simpa using h
        rw [this] at e; exact .tail _ (ih e)

theorem Capt.nil {env : Env} {scope : Scope} {σ : Vars} : Capt env scope [] [] σ := ⟨fun _ h => (nomatch h), fun _ h => (nomatch h), fun _ _ h => by simp at h, fun _ _ _ h => by simp at h⟩
theorem Capt.of {env : Env} {scope : Scope} {cl : List (Str × Addr)} {σ : Vars} (h : ∀ p ∈ cl, (relabel scope env).names.lookup p.1 = some .cell ∧ env.kindOf p.1 = some .cell ∧ env.cells.lookup p.1 = some p.2)
    (hd : ∀ p ∈ cl, ∃ d, σ p.1 = some (.d d)) (nd : (cl.map (·.1)).Nodup) (na : (cl.map (·.2)).Nodup) : Capt env scope cl (cl.map (·.1)) σ := by
  have lk : ∀ {x c}, cl.lookup x = some c → (x, c) ∈ cl := fun e => lookup_mem e
  refine ⟨fun x hx => ?_, fun x hx => ?_, fun x c e => List.mem_map.mpr ⟨_, lk e, rfl⟩, fun x y c e1 e2 => ?_⟩
  · obtain ⟨p, hp, rfl⟩ := List.mem_map.mp hx
    obtain ⟨h1, h2, h3⟩ := h p hp
    exact ⟨h1, h2, (lookup_of_mem_nodup nd (c := p.2) hp).trans h3.symm⟩
  · obtain ⟨p, hp, rfl⟩ := List.mem_map.mp hx
    exact hd p hp
  · have h1 := lk e1
    have h2 := lk e2
    clear lk e1 e2 hd h nd
    induction cl with
    | nil => cases h1
    | cons z r ih =>
      rw [List.map_cons, List.nodup_cons] at na
      rcases List.mem_cons.mp h1 with q1 | q1 <;> rcases List.mem_cons.mp h2 with q2 | q2
      · exact (congrArg (·.1) q1).trans (congrArg (·.1) q2).symm
      · exact absurd (List.mem_map.mpr ⟨_, q2, rfl⟩) (by rw [← q1] at na; exact na.1)
      · exact absurd (List.mem_map.mpr ⟨_, q1, rfl⟩) (by rw [← q2] at na; exact na.1)
      · exact ih na.2 q1 q2

section
variable {prog : Program} {w : World} {K : Frag} {H : Heap} {A : Around} {env : Env} {M Mc Mw : List Addr} {l l' : List (Str × AV)} {B : Shared} {s : Shared} {rest : List Stmt} {Kk : Flow → Shared → Prop} {E : Value → Shared → Prop}
theorem ev_comp1 (T : Top0 K H) {elt iter : Expr} {ifs : List Expr} {scope : Scope} {x : Str} {px pos : Pos} {ds : List D} (cl : List (Str × Addr)) (p : D → Bool) (f : D → D)
    (hi : ItG prog w H A env M (V l) iter ds) (hlen : ds.length ≤ sizeLine) (C : Capt env scope cl (cl.map (·.1)) (V l)) (hl : (l.filter fun p => decide (p.1 ∈ cl.map (·.1))) = l')
    (turn : ∀ d ∈ ds, ∀ Ca M', TestsT prog w H A M' (V ((x, .d d) :: l')) (compEnvC scope cl Ca env) ifs (p d) ∧ (p d = true → EvT prog w H A (compEnvC scope cl Ca env) M' (V ((x, .d d) :: l')) elt (.d (f d))))
    (hx : x ∉ cl.map (·.1) := by (simp only [List.map_cons, List.map_nil]; decide)) (hk : ∀ Ca, BindOk (compEnvC scope cl Ca env) x := by exact fun _ => .inl rfl)
    (hclos : closureFor scope env = pure cl := by rfl) (hcell : ∀ y ∈ scope.names, y.2 ≠ .cell := by decide) (hkind : scope.kind = .function := by rfl) (hnames : ∀ x ∈ scope.names, x.2 = .local → scope.names.lookup x.1 = some .local := by decide)
    (hs : ∀ x, foldedSetIterable iter env x = pure x := by intro _; rfl) :
    EvT prog w H A env M (V l) (.ListComp elt [⟨.Name x px, iter, ifs, 0⟩] scope pos) (.d (.list ((ds.filter p).map f))) := by
  have hc : capt (cl.map (·.1)) (V l) = V l' := by rw [capt_V, hl]
  refine ev_comp T (cl.map (·.1)) (fun d σ => upd σ x (.d d)) p f hclos hcell hkind hnames hi hlen C (fun d hd B' Mc' Ca => asg_name T (hk Ca)) (fun d y av e => ?_) (fun d hd Ca M' => ?_) hs
  · unfold upd
    rw [if_neg]
    · exact e
    · rintro rfl
      unfold capt at e
      rw [if_neg hx] at e; cases e
  · rw [hc, upd_V]; exact turn d hd Ca M'
/-- the same, over typed items -/
theorem ev_compT (T : Top0 K H) {α : Type} {g : α → D} (gi : D → α) (hg : ∀ x, gi (g x) = x) {xs : List α} {elt iter : Expr} {ifs : List Expr} {scope : Scope} {x : Str} {px pos : Pos} (cl : List (Str × Addr)) (p : α → Bool) (f : α → D)
    (hi : ItG prog w H A env M (V l) iter (xs.map g)) (hlen : xs.length ≤ sizeLine) (C : Capt env scope cl (cl.map (·.1)) (V l)) (hl : (l.filter fun p => decide (p.1 ∈ cl.map (·.1))) = l')
    (turn : ∀ y ∈ xs, ∀ Ca M', TestsT prog w H A M' (V ((x, .d (g y)) :: l')) (compEnvC scope cl Ca env) ifs (p y) ∧ (p y = true → EvT prog w H A (compEnvC scope cl Ca env) M' (V ((x, .d (g y)) :: l')) elt (.d (f y))))
    (hx : x ∉ cl.map (·.1) := by (simp only [List.map_cons, List.map_nil]; decide)) (hk : ∀ Ca, BindOk (compEnvC scope cl Ca env) x := by exact fun _ => .inl rfl)
    (hclos : closureFor scope env = pure cl := by rfl) (hcell : ∀ y ∈ scope.names, y.2 ≠ .cell := by decide) (hkind : scope.kind = .function := by rfl) (hnames : ∀ x ∈ scope.names, x.2 = .local → scope.names.lookup x.1 = some .local := by decide)
    (hs : ∀ x, foldedSetIterable iter env x = pure x := by intro _; rfl) :
    EvT prog w H A env M (V l) (.ListComp elt [⟨.Name x px, iter, ifs, 0⟩] scope pos) (.d (.list ((xs.filter p).map f))) := by
  have e : ∀ xs : List α, ((xs.map g).filter fun d => p (gi d)).map (fun d => f (gi d)) = (xs.filter p).map f := fun xs => by
    induction xs with
    | nil => rfl
    | cons y ys ih =>
      rw [List.map_cons, List.filter_cons, List.filter_cons, hg]
      cases p y
      · exact ih
      · simp only [if_true, List.map_cons, hg]; rw [ih]
  rw [← e xs]
  refine ev_comp1 T cl _ _ hi (by rw [List.length_map]; exact hlen) C hl (fun d hd Ca M' => ?_) hx hk hclos hcell hkind hnames hs
  obtain ⟨y, hy, rfl⟩ := List.mem_map.mp hd
  rw [hg]
  exact turn y hy Ca M'
theorem ev_fn {σ : Vars} {x : Str} {f : Value} {pos : Pos} {av : AV} (hn : FnT prog w H A env M σ x f) (r : ∀ h, RdA h M f av) : EvT prog w H A env M σ (.Name x pos) av := fun s Q E S h => hn s pos Q E S (h _ _ (KpX.refl _) (r _))
theorem ev_glob_int (T : Top0 K H) {σ : Vars} {x : Str} {i : Int} {t : Tok} {pos : Pos} (e : nsIn K mainGlobals x = some (some (.int i t))) (hx : env.kindOf x = some .globalImplicit) (hd : (x == ("__debug__" : Str)) = false := by decide) : EvT prog w H A env M σ (.Name x pos) (.d (.int i)) :=
  ev_fn (fn_glob T e hx hd) fun _ => rd_int
/-- an item of a typed list -/
theorem ev_item_g (T : Top0 K H) {α : Type} {g : α → D} {xs : List α} (d0 : α) {σ : Vars} {e i : Expr} {pos : Pos} {k : Int} (h1 : EvT prog w H A env M σ e (.d (.list (xs.map g)))) (h2 : EvT prog w H A env M σ i (.d (.int k))) (h0 : 0 ≤ k) (hk : k.toNat < xs.length) (hl : xs.length ≤ 1000)
    (hs : ∀ o v, subscripted i false o v = operate [o, v] (getItem o v) := by intro _ _; rfl) : EvT prog w H A env M σ (.Subscript e i pos) (.d (g (xs.getD k.toNat d0))) :=
  ev_item T h1 h2 h0 (by rw [List.getElem?_map, List.getElem?_eq_getElem hk]; simp [hk]) (by omega) hs
theorem ev_item_t (T : Top0 K H) {α : Type} {g : α → D} {xs : List α} (d0 : α) {σ : Vars} {e i : Expr} {pos : Pos} {k : Int} (h1 : EvT prog w H A env M σ e (.d (.tup (xs.map g)))) (h2 : EvT prog w H A env M σ i (.d (.int k))) (h0 : 0 ≤ k) (hk : k.toNat < xs.length) (hl : xs.length ≤ 1000)
    (hs : ∀ o v, subscripted i false o v = operate [o, v] (getItem o v) := by intro _ _; rfl) : EvT prog w H A env M σ (.Subscript e i pos) (.d (g (xs.getD k.toNat d0))) :=
  ev_item_tup T h1 h2 h0 (by rw [List.getElem?_map, List.getElem?_eq_getElem hk]; simp [hk]) (by omega) hs
end
theorem EvT.cast {prog : Program} {w : World} {H : Heap} {A : Around} {env : Env} {M : List Addr} {σ : Vars} {e : Expr} {a b : AV} (h : EvT prog w H A env M σ e a) (q : a = b) : EvT prog w H A env M σ e b := q ▸ h
theorem len_of_tup {prog : Program} {w : World} {H : Heap} {A : Around} {M : List Addr} {l : List D} (hl : l.length < 2 ^ 62) : CallT prog w H A M (.builtin "len") [.d (.tup l)] (.d (.int l.length)) := fun s vs Q E _ _ _ r h => by
  obtain ⟨v, rfl, a⟩ := one_of r
  obtain ⟨a, items, rfl, hm, hp, hl', r⟩ := tup_of a
  have e : items.size = l.length := by rw [← r.length]; simp
  exact len_tuple hl' (by rw [e]; omega) (h _ _ Kp.toks (by rw [e]; exact rd_int))
theorem ints_py (l : List Int) : D.pyL (l.map .int) = l.map PyData.int := by rw [pyL_eq, List.map_map]; rfl
theorem canLay_ints (l : List Int) : PyData.canLayAll0 (l.map PyData.int) = true := by
  induction l with
  | nil => simp [PyData.canLayAll0]
  | cons x l ih => rw [List.map_cons]; simp [PyData.canLayAll0, PyData.canLay0, ih]
theorem depth_ints (l : List Int) : PyData.depthAll (l.map PyData.int) = 0 := by
  induction l with
  | nil => simp [PyData.depthAll]
  | cons x l ih => rw [List.map_cons]; simp [PyData.depthAll, PyData.depth, ih]
theorem shaped_norm (st : List Int × Int × Int × Int) : SeqAt.shaped (D.py (.tup [.tup (st.1.map .int), .int st.2.1])) = true := by
  unfold SeqAt.shaped
  simp only [D.py, D.pyL, ints_py]
  simp [PyData.canLay0, PyData.canLayAll0, canLay_ints, PyData.depth, PyData.depthAll, depth_ints]
theorem EvItT.cast {prog : Program} {w : World} {H : Heap} {A : Around} {env : Env} {M : List Addr} {σ : Vars} {e : Expr} {a b : List D} (h : ItT prog w H A env M σ e a) (q : a = b) : ItT prog w H A env M σ e b := q ▸ h
theorem shaped_ints (l : List Int) : SeqAt.shaped (D.py (.list (l.map .int))) = true := by
  unfold SeqAt.shaped
  simp only [D.py, ints_py]
  simp [PyData.canLay0, canLay_ints, PyData.depth, depth_ints]
theorem eqv_ints : ∀ (a b : List Int), PyData.eqvAll (a.map PyData.int) (b.map PyData.int) = (a == b)
  | [], [] => by simp [PyData.eqvAll]
  | [], _ :: _ => by simp [PyData.eqvAll]
  | _ :: _, [] => by simp [PyData.eqvAll]
  | x :: a, y :: b => by
    rw [List.map_cons, List.map_cons]
    simp only [PyData.eqvAll, PyData.eqv, eqv_ints a b]
    rfl
theorem flatV_V {l : List (Str × AV)} (h : ∀ p ∈ l, ∃ d, p.2 = .d d ∧ d.flat = true) : FlatV (V l) := fun x av e => h (x, av) (lookup_mem_any e)
def D.toInt : D → Int | .int i => i | _ => 0
def D.toStr : D → Str | .str i => i | _ => ""
def D.toBool : D → Bool | .bool i => i | _ => false
abbrev LI (l : List Int) : D := .list (l.map .int)
abbrev LS (l : List Str) : D := .list (l.map .str)
abbrev LB (l : List Bool) : D := .list (l.map .bool)

section
variable {prog : Program} {w : World} {K : Frag} {H : Heap} {A : Around} {env : Env} {Mc Mw : List Addr} {l : List (Str × AV)} {B s : Shared} {rest : List Stmt} {Kk : Flow → Shared → Prop} {E : Value → Shared → Prop}
/-- for x in ..: the names as a list -/
theorem x_forN (T : Top0 K H) (S : St H B Mc env Mw (V l) s) {α : Type} {g : α → D} {xs : List α} {x : Str} {px : Pos} {iter : Expr} {body : List Stmt} {pos : Pos} (J : Nat → List (Str × AV) → Prop) (Brk : List (Str × AV) → Prop) (Ret : D → Prop)
    (hfn : env.func.isSome = true) (hi : ItW prog w H A env (Mw ++ Mc) (V l) iter (xs.map g)) (hk : BindOk env x) (j0 : J 0 l)
    (turn : ∀ i y l B' Mc' Mw s' Kk' E', J i l → xs[i]? = some y → St H B' Mc' env Mw (V ((x, .d (g y)) :: l)) s' → (∀ Mw l' s'', J (i + 1) l' → St H B' Mc' env Mw (V l') s'' → Kk' .next s'') → (∀ Mw l' s'', Brk l' → St H B' Mc' env Mw (V l') s'' → Kk' .brk s'') →
      (∀ v r s'', Ret r → Kp B' s'' → Rd s''.heap Mc' v r → Kk' (.ret v) s'') → wpAny (model prog w) A (execs body env) Kk' E' s')
    (after : ∀ Mw l' s', (J xs.length l' ∨ Brk l') → St H B Mc env Mw (V l') s' → wpAny (model prog w) A (execs rest env) Kk E s')
    (ret : ∀ v r s', Ret r → Kp B s' → Rd s'.heap Mc v r → Kk (.ret v) s')
    (hs : ∀ x, foldedSetIterable iter env x = pure x := by intro _; rfl) :
    wpAny (model prog w) A (execs (.For (.Name x px) iter body [] pos :: rest) env) Kk E s := by
  refine x_for T S (fun i σ => ∃ l, σ = V l ∧ J i l) (fun σ => ∃ l, σ = V l ∧ Brk l) Ret (fun d σ => upd σ x (.d d)) hfn hi ⟨l, rfl, j0⟩ (fun i d σ B' Mc' Mw _ _ => asg_name T hk) (fun i d σ B' Mc' Mw s' Kk' E' hj hd S' _ h1 h2 h3 => ?_) (fun Mw σ' s' h S' => ?_) ret hs
  · obtain ⟨l, rfl, hj⟩ := hj
    rw [List.getElem?_map] at hd
    obtain ⟨y, hy, rfl⟩ := Option.map_eq_some_iff.mp hd
    rw [upd_V] at S'
    exact turn i y l B' Mc' Mw s' Kk' E' hj hy S' (fun Mw l' s'' hj' S'' => h1 Mw (V l') s'' ⟨l', rfl, hj'⟩ S'') (fun Mw l' s'' hj' S'' => h2 Mw (V l') s'' ⟨l', rfl, hj'⟩ S'') h3
  · rw [List.length_map] at h
    rcases h with ⟨l', rfl, h⟩ | ⟨l', rfl, h⟩
    · exact after Mw l' s' (.inl h) S'
    · exact after Mw l' s' (.inr h) S'
/-- for x, y in .. -/
theorem x_forP (T : Top0 K H) (S : St H B Mc env Mw (V l) s) (hh : A.handled = none) {α : Type} {g1 g2 : α → D} {xs : List α} {x1 x2 : Str} {es : List Expr} {kx : Nat} {px : Pos} {iter : Expr} {body : List Stmt} {pos : Pos} (J : Nat → List (Str × AV) → Prop) (Brk : List (Str × AV) → Prop) (Ret : D → Prop)
    (hfn : env.func.isSome = true) (hi : ItW prog w H A env (Mw ++ Mc) (V l) iter (xs.map fun y => .tup [g1 y, g2 y])) (hk : BindOk env x1 ∧ BindOk env x2) (j0 : J 0 l)
    (turn : ∀ i y l B' Mc' Mw s' Kk' E', J i l → xs[i]? = some y → St H B' Mc' env Mw (V ((x2, .d (g2 y)) :: (x1, .d (g1 y)) :: l)) s' → (∀ Mw l' s'', J (i + 1) l' → St H B' Mc' env Mw (V l') s'' → Kk' .next s'') → (∀ Mw l' s'', Brk l' → St H B' Mc' env Mw (V l') s'' → Kk' .brk s'') →
      (∀ v r s'', Ret r → Kp B' s'' → Rd s''.heap Mc' v r → Kk' (.ret v) s'') → wpAny (model prog w) A (execs body env) Kk' E' s')
    (after : ∀ Mw l' s', (J xs.length l' ∨ Brk l') → St H B Mc env Mw (V l') s' → wpAny (model prog w) A (execs rest env) Kk E s')
    (ret : ∀ v r s', Ret r → Kp B s' → Rd s'.heap Mc v r → Kk (.ret v) s')
    (hn : es.map nameOf = [some x1, some x2] := by rfl) (hf : (assignEach es env).findIdx? (·.1) = none := by rfl) (hl : (assignEach es env).length = 2 := by rfl)
    (hs : ∀ x, foldedSetIterable iter env x = pure x := by intro _; rfl) :
    wpAny (model prog w) A (execs (.For (.Tuple es kx px) iter body [] pos :: rest) env) Kk E s := by
  refine x_for T S (fun i σ => ∃ l, σ = V l ∧ J i l) (fun σ => ∃ l, σ = V l ∧ Brk l) Ret (fun d σ => match d with | .tup [a, b] => upd (upd σ x1 (.d a)) x2 (.d b) | _ => σ) hfn hi ⟨l, rfl, j0⟩ (fun i d σ B' Mc' Mw _ hd => ?_) (fun i d σ B' Mc' Mw s' Kk' E' hj hd S' _ h1 h2 h3 => ?_) (fun Mw σ' s' h S' => ?_) ret hs
  · rw [List.getElem?_map] at hd
    obtain ⟨y, hy, rfl⟩ := Option.map_eq_some_iff.mp hd
    exact asg_tup (xds := [(x1, g1 y), (x2, g2 y)]) T hh hn (fun p hp => by
      rcases List.mem_cons.mp hp with rfl | hp
      · exact hk.1
      · rw [List.mem_singleton.mp hp]; exact hk.2) hf hl
  · obtain ⟨l, rfl, hj⟩ := hj
    rw [List.getElem?_map] at hd
    obtain ⟨y, hy, rfl⟩ := Option.map_eq_some_iff.mp hd
    simp only [upd_V] at S'
    exact turn i y l B' Mc' Mw s' Kk' E' hj hy S' (fun Mw l' s'' hj' S'' => h1 Mw (V l') s'' ⟨l', rfl, hj'⟩ S'') (fun Mw l' s'' hj' S'' => h2 Mw (V l') s'' ⟨l', rfl, hj'⟩ S'') h3
  · rw [List.length_map] at h
    rcases h with ⟨l', rfl, h⟩ | ⟨l', rfl, h⟩
    · exact after Mw l' s' (.inl h) S'
    · exact after Mw l' s' (.inr h) S'
end

section
variable {prog : Program} {w : World} {K : Frag} {H : Heap} {A : Around} {env : Env} {Mc Mw : List Addr} {l l' : List (Str × AV)} {B s : Shared} {rest : List Stmt} {Kk : Flow → Shared → Prop} {E : Value → Shared → Prop}
/-- y = [elt for x in iter if ..] on one line, over typed items -/
theorem x_compT (T : Top0 K H) (S : St H B Mc env Mw (V l) s) (hfn : env.func.isSome = true) {α : Type} {g : α → D} (gi : D → α) (hg : ∀ x, gi (g x) = x) {xs : List α} {elt iter : Expr} {ifs : List Expr} {scope : Scope} {x y : Str} {px py pos spos : Pos} (cl : List (Str × Addr)) (p : α → Bool) (f : α → D)
    (hi : ItG prog w H A env (Mw ++ Mc) (V l) iter (xs.map g)) (hlen : xs.length ≤ sizeLine) (C : Capt env scope cl (cl.map (·.1)) (V l)) (hl : (l.filter fun p => decide (p.1 ∈ cl.map (·.1))) = l')
    (turn : ∀ y ∈ xs, ∀ Ca M', TestsT prog w H A M' (V ((x, .d (g y)) :: l')) (compEnvC scope cl Ca env) ifs (p y) ∧ (p y = true → EvT prog w H A (compEnvC scope cl Ca env) M' (V ((x, .d (g y)) :: l')) elt (.d (f y))))
    (hky : BindOk env y) (k : ∀ s', St H B Mc env Mw (V ((y, .d (.list ((xs.filter p).map f))) :: l)) s' → wpAny (model prog w) A (execs rest env) Kk E s')
    (hx : x ∉ cl.map (·.1) := by (simp only [List.map_cons, List.map_nil]; decide)) (hk : ∀ Ca, BindOk (compEnvC scope cl Ca env) x := by exact fun _ => .inl rfl)
    (hsw : swapsWith (.ListComp elt [⟨.Name x px, iter, ifs, 0⟩] scope pos) (some (.Name y py)) spos.line env = pure true := by rfl)
    (hclos : closureFor scope env = pure cl := by rfl) (hcell : ∀ y ∈ scope.names, y.2 ≠ .cell := by decide) (hkind : scope.kind = .function := by rfl) (hnames : ∀ x ∈ scope.names, x.2 = .local → scope.names.lookup x.1 = some .local := by decide)
    (hs : ∀ x, foldedSetIterable iter env x = pure x := by intro _; rfl) :
    wpAny (model prog w) A (execs (.Assign [.Name y py] (.ListComp elt [⟨.Name x px, iter, ifs, 0⟩] scope pos) spos :: rest) env) Kk E s := by
  have e : ∀ xs : List α, ((xs.map g).filter fun d => p (gi d)).map (fun d => f (gi d)) = (xs.filter p).map f := fun xs => by
    induction xs with
    | nil => rfl
    | cons y ys ih =>
      rw [List.map_cons, List.filter_cons, List.filter_cons, hg]
      cases p y
      · exact ih
      · simp only [if_true, List.map_cons, hg]; rw [ih]
  have hc : capt (cl.map (·.1)) (V l) = V l' := by rw [capt_V, hl]
  refine x_comp T S hfn (cl.map (·.1)) (fun d σ => upd σ x (.d d)) (fun d => p (gi d)) (fun d => f (gi d)) hsw hclos hcell hkind hnames hi (by rw [List.length_map]; exact hlen) C hky (fun d hd B' Mc' Ca => asg_name T (hk Ca)) (fun d z av ez => ?_) (fun d hd Ca M' => ?_) (fun s' S' => ?_) hs
  · unfold upd
    rw [if_neg]
    · exact ez
    · rintro rfl
      unfold capt at ez
      rw [if_neg hx] at ez; cases ez
  · obtain ⟨z, hz, rfl⟩ := List.mem_map.mp hd
    rw [hc, upd_V, hg]; exact turn z hz Ca M'
  · rw [e xs, upd_V] at S'
    exact k s' S'
end
theorem bbAll : ([bootBuiltins "enumerate", bootBuiltins "len", bootBuiltins "max", bootBuiltins "min", bootBuiltins "range", bootBuiltins "sum", bootBuiltins "tuple"] : List (Option Value)) = [some (.type "enumerate"), some (.builtin "len"), some (.builtin "max"), some (.builtin "min"), some (.type "range"), some (.builtin "sum"), some (.type "tuple")] := by kernel_rfl
theorem bb_enumerate : bootBuiltins "enumerate" = some (.type "enumerate") := Option.some.inj (congrArg (fun l => l[0]?) bbAll)
theorem bb_len : bootBuiltins "len" = some (.builtin "len") := Option.some.inj (congrArg (fun l => l[1]?) bbAll)
theorem bb_max : bootBuiltins "max" = some (.builtin "max") := Option.some.inj (congrArg (fun l => l[2]?) bbAll)
theorem bb_min : bootBuiltins "min" = some (.builtin "min") := Option.some.inj (congrArg (fun l => l[3]?) bbAll)
theorem bb_range : bootBuiltins "range" = some (.type "range") := Option.some.inj (congrArg (fun l => l[4]?) bbAll)
theorem bb_sum : bootBuiltins "sum" = some (.builtin "sum") := Option.some.inj (congrArg (fun l => l[5]?) bbAll)
theorem bb_tuple : bootBuiltins "tuple" = some (.type "tuple") := Option.some.inj (congrArg (fun l => l[6]?) bbAll)
theorem gAll {w : World} : ([nsIn (KK w) mainGlobals "enumerate", nsIn (KK w) mainGlobals "len", nsIn (KK w) mainGlobals "max", nsIn (KK w) mainGlobals "min", nsIn (KK w) mainGlobals "range", nsIn (KK w) mainGlobals "sum", nsIn (KK w) mainGlobals "tuple", nsIn (KK w) mainGlobals "Whitespace", nsIn (KK w) mainGlobals "format_witnesses", nsIn (KK w) mainGlobals "_strip_quoted_realnames", nsIn (KK w) mainGlobals "_check_parenthesis", nsIn (KK w) mainGlobals "ISTERMINAL", nsIn (KK w) mainGlobals "ISNONTERMINAL", nsIn (KK w) mainGlobals "ISEOF", nsIn (KK w) mainGlobals "_law_brackets", nsIn (KK w) mainGlobals "_law_free", nsIn (KK w) mainGlobals "_law_whole", nsIn (KK w) mainGlobals "_law_lead", nsIn (KK w) mainGlobals "_law_columns", nsIn (KK w) mainGlobals "_law_apart", nsIn (KK w) mainGlobals "_law_road", nsIn (KK w) mainGlobals "_law_inserted"] : List (Option (Option Value))) = [some none, some none, some none, some none, some none, some none, some none, some (some (.ref 83)), some (some (.ref 94)), some (some (.ref 108)), some (some (.ref 115)), some (some (.ref 125)), some (some (.ref 132)), some (some (.ref 139)), some (some (.ref 144)), some (some (.ref 149)), some (some (.ref 154)), some (some (.ref 159)), some (some (.ref 164)), some (some (.ref 169)), some (some (.ref 174)), some (some (.ref 179))] := by kernel_rfl
theorem gn_enumerate {w : World} : nsIn (KK w) mainGlobals "enumerate" = some none := Option.some.inj (congrArg (fun l => l[0]?) (gAll (w := w)))
theorem gn_len {w : World} : nsIn (KK w) mainGlobals "len" = some none := Option.some.inj (congrArg (fun l => l[1]?) (gAll (w := w)))
theorem gn_max {w : World} : nsIn (KK w) mainGlobals "max" = some none := Option.some.inj (congrArg (fun l => l[2]?) (gAll (w := w)))
theorem gn_min {w : World} : nsIn (KK w) mainGlobals "min" = some none := Option.some.inj (congrArg (fun l => l[3]?) (gAll (w := w)))
theorem gn_range {w : World} : nsIn (KK w) mainGlobals "range" = some none := Option.some.inj (congrArg (fun l => l[4]?) (gAll (w := w)))
theorem gn_sum {w : World} : nsIn (KK w) mainGlobals "sum" = some none := Option.some.inj (congrArg (fun l => l[5]?) (gAll (w := w)))
theorem gn_tuple {w : World} : nsIn (KK w) mainGlobals "tuple" = some none := Option.some.inj (congrArg (fun l => l[6]?) (gAll (w := w)))
theorem ga_83 {w : World} : nsIn (KK w) mainGlobals "Whitespace" = some (some (.ref 83)) := Option.some.inj (congrArg (fun l => l[7]?) (gAll (w := w)))
theorem ga_94 {w : World} : nsIn (KK w) mainGlobals "format_witnesses" = some (some (.ref 94)) := Option.some.inj (congrArg (fun l => l[8]?) (gAll (w := w)))
theorem ga_108 {w : World} : nsIn (KK w) mainGlobals "_strip_quoted_realnames" = some (some (.ref 108)) := Option.some.inj (congrArg (fun l => l[9]?) (gAll (w := w)))
theorem ga_115 {w : World} : nsIn (KK w) mainGlobals "_check_parenthesis" = some (some (.ref 115)) := Option.some.inj (congrArg (fun l => l[10]?) (gAll (w := w)))
theorem ga_125 {w : World} : nsIn (KK w) mainGlobals "ISTERMINAL" = some (some (.ref 125)) := Option.some.inj (congrArg (fun l => l[11]?) (gAll (w := w)))
theorem ga_132 {w : World} : nsIn (KK w) mainGlobals "ISNONTERMINAL" = some (some (.ref 132)) := Option.some.inj (congrArg (fun l => l[12]?) (gAll (w := w)))
theorem ga_139 {w : World} : nsIn (KK w) mainGlobals "ISEOF" = some (some (.ref 139)) := Option.some.inj (congrArg (fun l => l[13]?) (gAll (w := w)))
theorem ga_144 {w : World} : nsIn (KK w) mainGlobals "_law_brackets" = some (some (.ref 144)) := Option.some.inj (congrArg (fun l => l[14]?) (gAll (w := w)))
theorem ga_149 {w : World} : nsIn (KK w) mainGlobals "_law_free" = some (some (.ref 149)) := Option.some.inj (congrArg (fun l => l[15]?) (gAll (w := w)))
theorem ga_154 {w : World} : nsIn (KK w) mainGlobals "_law_whole" = some (some (.ref 154)) := Option.some.inj (congrArg (fun l => l[16]?) (gAll (w := w)))
theorem ga_159 {w : World} : nsIn (KK w) mainGlobals "_law_lead" = some (some (.ref 159)) := Option.some.inj (congrArg (fun l => l[17]?) (gAll (w := w)))
theorem ga_164 {w : World} : nsIn (KK w) mainGlobals "_law_columns" = some (some (.ref 164)) := Option.some.inj (congrArg (fun l => l[18]?) (gAll (w := w)))
theorem ga_169 {w : World} : nsIn (KK w) mainGlobals "_law_apart" = some (some (.ref 169)) := Option.some.inj (congrArg (fun l => l[19]?) (gAll (w := w)))
theorem ga_174 {w : World} : nsIn (KK w) mainGlobals "_law_road" = some (some (.ref 174)) := Option.some.inj (congrArg (fun l => l[20]?) (gAll (w := w)))
theorem ga_179 {w : World} : nsIn (KK w) mainGlobals "_law_inserted" = some (some (.ref 179)) := Option.some.inj (congrArg (fun l => l[21]?) (gAll (w := w)))
theorem kAll {w : World} : ([keepIn (KK w) (.ref 83), keepIn (KK w) (.ref 94), keepIn (KK w) (.ref 108), keepIn (KK w) (.ref 115), keepIn (KK w) (.ref 125), keepIn (KK w) (.ref 132), keepIn (KK w) (.ref 139), keepIn (KK w) (.ref 144), keepIn (KK w) (.ref 149), keepIn (KK w) (.ref 154), keepIn (KK w) (.ref 159), keepIn (KK w) (.ref 164), keepIn (KK w) (.ref 169), keepIn (KK w) (.ref 174), keepIn (KK w) (.ref 179)] : List Bool) = [true, true, true, true, true, true, true, true, true, true, true, true, true, true, true] := by kernel_rfl
theorem kf_83 {w : World} : KeepsF (KK w) (.ref 83) := Option.some.inj (congrArg (fun l => l[0]?) (kAll (w := w)))
theorem kf_94 {w : World} : KeepsF (KK w) (.ref 94) := Option.some.inj (congrArg (fun l => l[1]?) (kAll (w := w)))
theorem kf_108 {w : World} : KeepsF (KK w) (.ref 108) := Option.some.inj (congrArg (fun l => l[2]?) (kAll (w := w)))
theorem kf_115 {w : World} : KeepsF (KK w) (.ref 115) := Option.some.inj (congrArg (fun l => l[3]?) (kAll (w := w)))
theorem kf_125 {w : World} : KeepsF (KK w) (.ref 125) := Option.some.inj (congrArg (fun l => l[4]?) (kAll (w := w)))
theorem kf_132 {w : World} : KeepsF (KK w) (.ref 132) := Option.some.inj (congrArg (fun l => l[5]?) (kAll (w := w)))
theorem kf_139 {w : World} : KeepsF (KK w) (.ref 139) := Option.some.inj (congrArg (fun l => l[6]?) (kAll (w := w)))
theorem kf_144 {w : World} : KeepsF (KK w) (.ref 144) := Option.some.inj (congrArg (fun l => l[7]?) (kAll (w := w)))
theorem kf_149 {w : World} : KeepsF (KK w) (.ref 149) := Option.some.inj (congrArg (fun l => l[8]?) (kAll (w := w)))
theorem kf_154 {w : World} : KeepsF (KK w) (.ref 154) := Option.some.inj (congrArg (fun l => l[9]?) (kAll (w := w)))
theorem kf_159 {w : World} : KeepsF (KK w) (.ref 159) := Option.some.inj (congrArg (fun l => l[10]?) (kAll (w := w)))
theorem kf_164 {w : World} : KeepsF (KK w) (.ref 164) := Option.some.inj (congrArg (fun l => l[11]?) (kAll (w := w)))
theorem kf_169 {w : World} : KeepsF (KK w) (.ref 169) := Option.some.inj (congrArg (fun l => l[12]?) (kAll (w := w)))
theorem kf_174 {w : World} : KeepsF (KK w) (.ref 174) := Option.some.inj (congrArg (fun l => l[13]?) (kAll (w := w)))
theorem kf_179 {w : World} : KeepsF (KK w) (.ref 179) := Option.some.inj (congrArg (fun l => l[14]?) (kAll (w := w)))
end Mine

namespace Mine
open PySem PySem.W PyProof.Rows PySem.Calls PySem.Spec
local macro_rules | `(tactic| walk_at "fnis1") => `(tactic| exact ⟨⟨_, _, _, _, _, _, _, _, _, _, _, by exact rfl, fun vs h => by
    match vs, h with
    | [_], _ => rfl⟩, by exact rfl, rfl, rfl, by decide, by decide, by decide⟩)
local macro_rules | `(tactic| walk_at "fnis2") => `(tactic| exact ⟨⟨_, _, _, _, _, _, _, _, _, _, _, by exact rfl, fun vs h => by
    match vs, h with
    | [_, _], _ => rfl⟩, by exact rfl, rfl, rfl, by decide, by decide, by decide⟩)
local macro_rules | `(tactic| walk_at "fnis3") => `(tactic| exact ⟨⟨_, _, _, _, _, _, _, _, _, _, _, by exact rfl, fun vs h => by
    match vs, h with
    | [_, _, _], _ => rfl⟩, by exact rfl, rfl, rfl, by decide, by decide, by decide⟩)
local macro_rules | `(tactic| walk_at "fnis4") => `(tactic| exact ⟨⟨_, _, _, _, _, _, _, _, _, _, _, by exact rfl, fun vs h => by
    match vs, h with
    | [_, _, _, _], _ => rfl⟩, by exact rfl, rfl, rfl, by decide, by decide, by decide⟩)
local macro_rules | `(tactic| walk_at "mcapt") => `(tactic| exact Capt.of (by simp only [List.forall_mem_cons]; repeat' (first | exact fun _ h => nomatch h | refine ⟨⟨rfl, rfl, rfl⟩, ?_⟩)) (by simp only [List.forall_mem_cons]; repeat' (first | exact fun _ h => nomatch h | refine ⟨⟨_, rfl⟩, ?_⟩)) (by simp only [List.map_cons, List.map_nil]; decide) (by simp))
local macro_rules | `(tactic| walk_at "mbinds") => `(tactic| (simp only [List.forall_mem_cons]; repeat' (first | exact fun _ h => nomatch h | refine ⟨.inl rfl, ?_⟩ | refine ⟨.inr ⟨rfl, rfl, rfl⟩, ?_⟩)))
local macro_rules | `(tactic| walk_at "msz") => `(tactic| (simp [sizeLine]))
local macro_rules | `(tactic| walk_at "mvsub") => `(tactic| (simp only [List.forall_mem_cons]; repeat' (first | exact fun _ h => nomatch h | refine ⟨rfl, ?_⟩)))
local macro_rules | `(tactic| walk_at "mflat") => `(tactic| (apply flatV_V; simp only [List.forall_mem_cons]; repeat' (first | exact fun _ h => nomatch h | refine ⟨⟨_, rfl, rfl⟩, ?_⟩)))

def columns (ns : List Int) : List Int := [5 + ns.sum + ((ns.filter fun i => i == 2).length : Nat), 10 + 2 * ((ns.filter fun i => i == 2).length : Nat), 15 + 3 * ((ns.filter fun i => i == 2).length : Nat), 20, 25]
/-- five letters 0, 1, 2 -/
structure Row (ns : List Int) : Prop where
  len : ns.length = 5
  dig : ∀ i ∈ ns, i = 0 ∨ i = 1 ∨ i = 2
theorem Row.sum_le {ns : List Int} (h : ∀ i ∈ ns, i = 0 ∨ i = 1 ∨ i = 2) : 0 ≤ ns.sum ∧ ns.sum ≤ 2 * ns.length := by
  induction ns with
  | nil => simp
  | cons x r ih =>
    have h1 := h x (.head _)
    have h2 := ih fun i hi => h i (.tail _ hi)
    rw [List.sum_cons, List.length_cons]
    omega
theorem Row.long {ns : List Int} (h : Row ns) : ∀ k, k < ns.length → InLong (ns.getD k 0) ∧ InLong (ns.take (k + 1)).sum := fun k hk => by
  have h1 := Row.sum_le (ns := ns.take (k + 1)) fun i hi => h.dig i (List.mem_of_mem_take hi)
  have h2 : ns.getD k 0 ∈ ns := by rw [List.getD_eq_getElem?_getD, List.getElem?_eq_getElem hk]; exact List.getElem_mem hk
  have h3 := h.dig _ h2
  have h4 : (ns.take (k + 1)).length ≤ 5 := by rw [List.length_take, h.len]; omega
  unfold InLong
  omega

section
variable {w : World} {H : Heap} {A : Around} {M : List Addr} {n : Nat}

theorem c_terminal (T : Top0 (KK w) H) (hA : AOk A (n + 1)) (x : Int) : CallT PG w H A M (.ref 125) [.d (.int x)] (.d (.bool (decide (x < 256)))) := by
  refine call_fun (ps := ["x"]) (ds := [.int x]) T hA (qual := ?q) (body := ?b) (scope := ?s) (cdv := ?c) ?F ?g ?l ?hb
  case F => walk_at "fnis1"
  case g => rfl
  case l => rfl
  case hb =>
    intro L A' hA'
    rw [vars0_V]
    intro B s Kk E S k
    refine x_return T S (ev_cmp T (ev_name rfl) (ev_glob_int T rfl rfl) cmp_lt_int) fun v s' S' r => k v s' S'.base r
theorem c_columns (T : Top0 (KK w) H) (hA : AOk A (n + 1)) {ns : List Int} (hr : Row ns) : CallT PG w H A M (.ref 164) [.d (LI ns)] (.d (LI (columns ns))) := by
  refine call_fun (ps := ["row"]) (ds := [LI ns]) T hA (qual := ?q) (body := ?b) (scope := ?s) (cdv := ?c) ?F ?g ?l ?hb
  case F => walk_at "fnis1"
  case g => rfl
  case l => rfl
  case hb =>
    intro L A' hA'
    rw [vars0_V]
    intro B s Kk E S k
    have hl := hr.len
    have ht : (ns.filter fun i => i == 2).length ≤ 5 := by rw [← hl]; exact List.length_filter_le _ _
    refine x_assign T S (ev_call T (fn_blt T gn_len bb_len rfl) trivial (evs_cons T (ev_compT T D.toInt (fun _ => rfl) [] (fun i => i == 2) .int (it_list T hA'.hh (ev_name rfl)).g (by rw [hl]; decide) Capt.nil rfl ?t) evs_nil) (len_of_list (by rw [List.length_map]; omega))) (.inl rfl) fun s1 S1 => ?_
    case t =>
      intro i hi Ca M'
      exact ⟨tests_one (ts_cmp T (ev_name rfl) ev_int cmp_eq_int), fun _ => ev_name rfl⟩
    rw [upd_V, List.length_map] at S1
    generalize hk : ((ns.filter fun i => i == 2).length : Nat) = tall at *
    refine x_return T S1 (ev_list (ds := [.int _, .int _, .int _, .int _, .int _]) T (evs_cons T (ev_bin T (ev_bin T ev_int (ev_call T (fn_blt T gn_sum bb_sum rfl) trivial (evs_cons T (ev_name rfl) evs_nil) (sum_ok T hA'.hh hr.long)) op_add) (ev_name rfl) op_add)
      (evs_cons T (ev_bin T ev_int (ev_bin T ev_int (ev_name rfl) (op_mul (.of_left (by decide)))) op_add)
      (evs_cons T (ev_bin T ev_int (ev_bin T ev_int (ev_name rfl) (op_mul (.of_left (by decide)))) op_add)
      (evs_cons T ev_int (evs_cons T ev_int evs_nil))))) (by simp [sizeLine])) fun v s' S' r => k v s' S'.base ?_
    unfold LI columns; rw [hk]; exact r
end

theorem hg_join {prog : Program} {w : World} {H : Heap} {A : Around} {M : List Addr} {x : Str} {pl : Sem Bool} : ∀ (s : Shared) (v : Value) (Q : Value × List Value → Shared → Prop) (E : Value → Shared → Prop), Amb H s.heap → RdA s.heap M v (.d (.str x)) → Q (.builtin "str.join", [v]) s → wpAny (model prog w) A (getMethod v "join" pl) Q E s := fun s v Q E _ r h => by
  obtain ⟨t, rfl⟩ := str_of r
  with_reducible exact GM.of (.str x t) (typeIs_str _ _ _) F.slot_str_join F.type_str_join GM.noRef h
theorem hg_split {prog : Program} {w : World} {H : Heap} {A : Around} {M : List Addr} {x : Str} {pl : Sem Bool} : ∀ (s : Shared) (v : Value) (Q : Value × List Value → Shared → Prop) (E : Value → Shared → Prop), Amb H s.heap → RdA s.heap M v (.d (.str x)) → Q (.builtin "str.split", [v]) s → wpAny (model prog w) A (getMethod v "split" pl) Q E s := fun s v Q E _ r h => by
  obtain ⟨t, rfl⟩ := str_of r
  with_reducible exact GM.of (.str x t) (typeIs_str _ _ _) F.slot_str_split F.type_str_split GM.noRef h

/-- x.join(e) -/
theorem ev_join {prog : Program} {w : World} {K : Frag} {H : Heap} {A : Around} {env : Env} {M : List Addr} {σ : Vars} (T : Top0 K H) {o e : Expr} {apos pos : Pos} {x : Str} {xs : List Str} {pl : Sem Bool} (h1 : EvT prog w H A env M σ o (.d (.str x))) (h2 : EvT prog w H A env M σ e (.d (LS xs))) (ok : JoinOk x xs = true)
    (hse : starEach [e] env = (false, eval e env) :: starEach [] env := by rfl)
    (he : eval (.Call (.Attribute o "join" apos) [e] [] pos) env = (do
      let ov ← eval o env
      standAt apos.atName
      let (f, first) ← holding [ov] (getMethod ov "join" pl)
      callWith pos f first (backTo pos (starEach [e] env)) []) := by rfl) : EvT prog w H A env M σ (.Call (.Attribute o "join" apos) [e] [] pos) (.d (.str (Txt.join x xs))) :=
  ev_meth (f := .builtin "str.join") T trivial h1 (by with_reducible exact hg_join) (evs_cons T h2 evs_nil hse) (join_ok ok) (by rw [hse]; rfl) he

def leadOf (i : Int) : Str := Txt.mul " " (if i = 0 then 0 else if i = 1 then 1 else 3) ++ "\t"
def lead (ns : List Int) : Str := Txt.join "" (ns.map leadOf)
def apart (row other : List Int) (behind : Int) : List (Int × Int × Int) :=
  ((List.range 5).filter fun k => (columns row).getD k 0 != (columns other).getD k 0 + behind).map fun (k : Nat) => ((k : Int) + 1, (columns row).getD k 0, (columns other).getD k 0 + behind)
def tri (t : Int × Int × Int) : D := .tup [.int t.1, .int t.2.1, .int t.2.2]
abbrev LT3 (l : List (Int × Int × Int)) : D := .list (l.map tri)

section
variable {w : World} {H : Heap} {A : Around} {M : List Addr} {n : Nat}

theorem c_lead (T : Top0 (KK w) H) (hA : AOk A (n + 1)) {ns : List Int} (hr : ∀ i ∈ ns, i = 0 ∨ i = 1 ∨ i = 2) (hl : ns.length ≤ 50) (hj : JoinOk "" (ns.map leadOf) = true) : CallT PG w H A M (.ref 159) [.d (LI ns)] (.d (.str (lead ns))) := by
  refine call_fun (ps := ["row"]) (ds := [LI ns]) T hA (qual := ?q) (body := ?b) (scope := ?s) (cdv := ?c) ?F ?g ?l ?hb
  case F => walk_at "fnis1"
  case g => rfl
  case l => rfl
  case hb =>
    intro L A' hA'
    rw [vars0_V]
    intro B s Kk E S k
    refine @x_return _ _ _ _ _ _ _ _ _ _ _ _ _ _ T S _ _ _ (@ev_join _ _ _ _ _ _ _ _ T _ _ _ _ _ (ns.map leadOf) _ ev_str (EvT.cast (ev_compT T D.toInt (fun _ => rfl) [] (fun _ => true) (fun i => .str (leadOf i)) (it_list T hA'.hh (ev_name rfl)).g (by simp only [sizeLine]; omega) Capt.nil rfl ?t) ?j) hj (by intros; rfl) (by intros; rfl)) (fun v s' S' r => k v s' S'.base r)
    case t =>
      intro i hi Ca M'
      refine ⟨tests_nil, fun _ => ?_⟩
      have h3 := hr i hi
      exact ev_bin T (ev_bin T ev_str (ev_item (k := i) (x := .int (if i = 0 then 0 else if i = 1 then 1 else 3)) T (ev_list (ds := [.int 0, .int 1, .int 3]) T (evs_cons T ev_int (evs_cons T ev_int (evs_cons T ev_int evs_nil))) (by decide)) (ev_name rfl) (by omega) (by rcases h3 with rfl | rfl | rfl <;> rfl) (by omega)) (op_muls (by rcases h3 with rfl | rfl | rfl <;> exact ⟨by decide, by decide, by decide⟩))) ev_str (op_adds (by rcases h3 with rfl | rfl | rfl <;> decide))
    case j =>
      rw [List.filter_eq_self.mpr (fun _ _ => rfl), LS, List.map_map]; rfl
theorem c_apart (T : Top0 (KK w) H) (hA : AOk A (n + 2)) {row other : List Int} (hr : Row row) (ho : Row other) (behind : Int) : CallT PG w H A M (.ref 169) [.d (LI row), .d (LI other), .d (.int behind)] (.d (LT3 (apart row other behind))) := by
  refine call_fun (ps := ["row", "other", "behind"]) (ds := [LI row, LI other, .int behind]) T hA (qual := ?q) (body := ?b) (scope := ?s) (cdv := ?c) ?F ?g ?l ?hb
  case F => walk_at "fnis3"
  case g => rfl
  case l => rfl
  case hb =>
    intro L A' hA'
    rw [vars0_V]
    intro B s Kk E S k
    refine x_tup T S hA'.hh [("here", LI (columns row)), ("there", LI (columns other))] (ev_tuple (ds := [LI (columns row), LI (columns other)]) T (evs_cons T (ev_call T (fn_glob T ga_164 rfl) kf_164 (evs_cons T (ev_name rfl) evs_nil) (c_columns T hA' hr))
      (evs_cons T (ev_call T (fn_glob T ga_164 rfl) kf_164 (evs_cons T (ev_name rfl) evs_nil) (c_columns T hA' ho)) evs_nil)) (by walk_at "msz")) (fun s1 S1 => ?_) (hb := by walk_at "mbinds")
    simp only [List.foldl_cons, List.foldl_nil, upd_V] at S1
    refine x_return T S1 (ev_compT (g := fun i : Nat => .int i) T (fun d => d.toInt.toNat) (fun _ => rfl) [("there", L + 3), ("here", L + 2), ("behind", L + 1)] (fun k => (columns row).getD k 0 != (columns other).getD k 0 + behind) (fun k => tri ((k : Int) + 1, (columns row).getD k 0, (columns other).getD k 0 + behind)) (it_range1 T hA'.hh (fn_blt T gn_range bb_range rfl) ev_int (by decide) (by decide)).g (by walk_at "msz") ?C rfl ?t) fun v s' S' r => k v s' S'.base ?_
    case C => walk_at "mcapt"
    case t =>
      intro i hi Ca M'
      have hi5 : i < 5 := List.mem_range.mp hi
      have ev1 : ∀ {ns : List Int}, (columns ns).length = 5 := fun {ns} => rfl
      have hn : ((i : Nat) : Int).toNat = i := Int.toNat_natCast i
      refine ⟨tests_one (ts_cmp T (EvT.cast (ev_item_g (g := .int) T 0 (ev_name rfl) (ev_name rfl) (by omega) (by rw [ev1, hn]; exact hi5) (by rw [ev1]; decide)) (by rw [hn])) (ev_bin T (EvT.cast (ev_item_g (g := .int) T 0 (ev_name rfl) (ev_name rfl) (by omega) (by rw [ev1, hn]; exact hi5) (by rw [ev1]; decide)) (by rw [hn])) (ev_name rfl) op_add) cmp_ne_int), fun _ => ?_⟩
      exact ev_tuple (ds := [.int _, .int _, .int _]) T (evs_cons T (ev_bin T (ev_name rfl) ev_int op_add) (evs_cons T (EvT.cast (ev_item_g (g := .int) T 0 (ev_name rfl) (ev_name rfl) (by omega) (by rw [ev1, hn]; exact hi5) (by rw [ev1]; decide)) (by rw [hn])) (evs_cons T (ev_bin T (EvT.cast (ev_item_g (g := .int) T 0 (ev_name rfl) (ev_name rfl) (by omega) (by rw [ev1, hn]; exact hi5) (by rw [ev1]; decide)) (by rw [hn])) (ev_name rfl) op_add) evs_nil))) (by walk_at "msz")
    have e : LT3 (apart row other behind) = .list (((List.range 5).filter fun k => (columns row).getD k 0 != (columns other).getD k 0 + behind).map fun (k : Nat) => tri ((k : Int) + 1, (columns row).getD k 0, (columns other).getD k 0 + behind)) := by
      unfold LT3 apart; rw [List.map_map]; rfl
    rw [e]; exact r
end

/-- what _iter_escaped_chars hands out -/
def esc : List Nat → Nat → Bool → List (Nat × Str)
  | [], p, true => [(p - 1, "\\")]
  | [], _, false => []
  | c :: cs, p, true => (p, "\\" ++ ⟨#[c]⟩) :: esc cs (p + 1) false
  | c :: cs, p, false => if (⟨#[c]⟩ : Str) == "\\" then esc cs (p + 1) true else (p, ⟨#[c]⟩) :: esc cs (p + 1) false
/-- an escape is left open -/
def tr : List Nat → Bool → Bool
  | [], b => b
  | _ :: cs, true => tr cs false
  | c :: cs, false => tr cs ((⟨#[c]⟩ : Str) == "\\")
theorem esc_ne {cs : List Nat} : ∀ {p : Nat} {b : Bool}, tr cs b = true → esc cs p b ≠ [] := by
  induction cs with
  | nil => intro p b h; unfold tr at h; subst h; unfold esc; simp
  | cons c cs ih =>
    intro p b h
    cases b with
    | true => unfold esc; simp
    | false =>
      unfold tr at h
      unfold esc
      cases q : ((⟨#[c]⟩ : Str) == "\\") with
      | true => rw [q] at h; rw [if_pos rfl]; exact ih h
      | false => rw [if_neg (by simp)]; simp
def pr (t : Nat × Str) : D := .tup [.int t.1, .str t.2]
def chars (x : Str) : List (Nat × Str) := esc x.cps.toList 0 false

theorem kpx_new {X Z : List Addr} {GX : List Nat} {s s' s'' : Shared} (k : KpX X GX s s') (k' : KpX Z GX s' s'') (h : ∀ b ∈ Z, b ∈ X ∨ s.heap.get? b = none) : KpX X GX s s'' :=
  ⟨fun b o h1 h2 e => k'.heap b o h1 (fun q => (h b q).elim h2 fun z => by rw [z] at e; cases e) (k.heap b o h1 h2 e), (k.weak (X' := X ++ Z) (fun b hb => List.mem_append.mpr (.inl hb)) (fun _ q => q) |>.trans (k'.weak (fun b hb => List.mem_append.mpr (.inr hb)) fun _ q => q)).tab,
    fun i x h e => k'.gens i x h (k.gens i x h e), fun b => k'.bare (k.bare b), k'.os.trans k.os⟩

section
variable {w : World} {H : Heap} {A : Around} {M : List Addr} {n : Nat} {σ : Vars} {env : Env}

theorem st_assign {prog : Program} {K : Frag} {B s : Shared} {Mc Mw : List Addr} (T : Top0 K H) (S : St H B Mc env Mw σ s) {x : Str} {p pos : Pos} {e : Expr} {d : D} {Q : Shared → Prop} {E : Value → Shared → Prop} (h1 : EvT prog w H A env (Mw ++ Mc) σ e (.d d)) (hk : BindOk env x)
    (k : ∀ s', St H B Mc env Mw (upd σ x (.d d)) s' → Q s') (hs : swapsWith e (some (Expr.Name x p)) pos.line env = pure false := by rfl) :
    wpAny (model prog w) A (exec (.Assign [.Name x p] e pos) env) (fun f s' => f = .next ∧ Q s') E s :=
  wpAny_Assign_Name (h1 s _ _ S.e fun v s1 k1 r1 => store_d T (S.kp T k1) hk r1 fun s2 S2 _ => ⟨rfl, k s2 S2⟩) hs

theorem seg_ifT {prog : Program} {R : GenEnd} {Y : Protocol} {n : Nat} {s₀ s : Shared} {c : Code} {fs : List Frame} {Kf : Flow → Sem Fin} {Hh : Value → Sem Fin} {gd : Bool → Bool} {lv : List Value → List Value} {t : Expr} {body orelse : List Stmt} {pos : Pos} {b : Bool}
    (h : TsT prog w H (A.over c fs) env M σ t b) (S : StE H env M σ s) (k : ∀ s', Kp s s' → Seg (model prog w) A R Y n s₀ c ((if b then execs body env else execs orelse env).wrap Kf Hh gd lv) fs s') :
    Seg (model prog w) A R Y n s₀ c ((exec (.If t body orelse pos) env).wrap Kf Hh gd lv) fs s := seg_if fun E => h s _ E S fun s' k' => ⟨rfl, k s' k'⟩

theorem it_chars (T : Top0 (KK w) H) (hA : AOk A (n + 6)) {x : Str} {np pos : Pos} {e : Expr} (hk : env.kindOf "_iter_escaped_chars" = some .globalImplicit) (h1 : EvT PG w H A env M σ e (.d (.str x)))
    (hse : starEach [e] env = (false, eval e env) :: starEach [] env := by rfl) : ItW PG w H A env M σ (.Call (.Name "_iter_escaped_chars" np) [e] [] pos) ((chars x).map pr) := by
  refine it_gen (ps := ["addr"]) (as := [.str x]) T hA (fn_glob T (f := .ref 101) rfl hk) rfl (evs_cons T h1 evs_nil hse) (qual := ?q) (body := ?b) (scope := ?s) (cdv := ?c) ?F ?g ?l ?nc ?fl ?st (by rw [hse]; rfl)
  case F => walk_at "fnis1"
  case g => rfl
  case l => rfl
  case nc => intro L; rfl
  case fl => intro d hd; rw [List.mem_singleton.mp hd]; rfl
  case st =>
    intro L s S
    generalize hds : (chars x).map pr = ds
    let it := s.heap.objs.size
    let ee := s.heap.objs.size + 1
    let Wf : Nat → List Addr := fun i => if i = 0 then [L] else if i = ds.length ∧ tr x.cps.toList false = true then [L] else [L, it, ee]
    refine ⟨Wf, if_pos rfl, ?_⟩
    have hA1 := aok_in1 hA
    have hit0 : s.heap.get? it = none := size_none s
    have hee0 : s.heap.get? ee = none := by
      cases q : s.heap.get? ee with
      | none => rfl
      | some o => exact absurd (Heap.lt_size q) (Nat.not_lt.mpr (Nat.le_succ _))
    refine seg_func ?_
    rw [vars0_V] at S
    refine seg_plain fun E => assign_int_sz T S rfl fun s1 S1 z1 => ⟨rfl, ?_⟩
    refine seg_plain fun E => assign_bool_sz T S1 rfl fun s2 S2 z2 => ⟨rfl, ?_⟩
    rw [upd_V, upd_V] at S2
    have S2' := S2.V [("pos", .d (.int 0)), ("escape", .d (.bool false)), ("addr", .d (.str x))] (by walk_at "mvsub")
    have zz : s2.heap.objs.size = it := z2.trans z1
    refine seg_execs_cons (seg_for fun E => enum_make T S2' (fn_blt T gn_enumerate bb_enumerate rfl) rfl rfl fun t s3 k3 hSE p0 => ?_)
    rw [zz] at hSE ⊢
    have hne : ee ≠ it := Nat.succ_ne_self _
    have al3 : ∀ b ∈ [it, ee], ∃ o, s3.heap.get? b = some o := fun b hb => by
      obtain ⟨⟨old, h1⟩, o, h2, _⟩ := hSE
      rcases List.mem_cons.mp hb with rfl | hb
      · exact ⟨o, h2⟩
      · rw [List.mem_singleton.mp hb]; exact ⟨_, h1⟩
    have hn2 : ∀ b ∈ [it, ee], s2.heap.get? b = none := fun b hb => by
      cases q : s2.heap.get? b with
      | none => rfl
      | some o =>
        have := Heap.lt_size q
        rw [zz] at this
        rcases List.mem_cons.mp hb with rfl | hb
        · exact absurd this (Nat.lt_irrefl _)
        · rw [List.mem_singleton.mp hb] at this; exact absurd this (Nat.not_lt.mpr (Nat.le_succ _))
    have S3 := S2'.hide T k3 (wr := [it, ee]) hn2 al3
    obtain ⟨n1, n2⟩ := S.ne93s T
    have k03 : KpX [L] [] s s3 := turn_kpx (fun q => n1 (by simpa using q)) (fun q => n2 (by simpa using q)) S3.base
    have S3' := S3.rebase (turn_kp [L] s3) fun m hm => hideAll_none _ hm
    have fl : ∀ p b, FlatV (V [("pos", .d (.int p)), ("escape", .d (.bool b)), ("addr", .d (.str x))]) := fun p b => by walk_at "mflat"
    have WfL : ∀ i, L ∈ Wf i := fun i => by
      show L ∈ (if i = 0 then [L] else if i = ds.length ∧ tr x.cps.toList false = true then [L] else [L, it, ee])
      split
      · exact .head _
      · split <;> exact .head _
    have Wf3 : ∀ i, ¬ (i + 1 = ds.length ∧ tr x.cps.toList false = true) → Wf (i + 1) = [L, it, ee] := fun i h => by
      show (if i + 1 = 0 then [L] else if i + 1 = ds.length ∧ tr x.cps.toList false = true then [L] else [L, it, ee]) = _
      rw [if_neg (Nat.succ_ne_zero i), if_neg h]
    have Wf1 : ∀ i, (i + 1 = ds.length ∧ tr x.cps.toList false = true) → Wf (i + 1) = [L] := fun i h => by
      show (if i + 1 = 0 then [L] else if i + 1 = ds.length ∧ tr x.cps.toList false = true then [L] else [L, it, ee]) = _
      rw [if_neg (Nat.succ_ne_zero i), if_pos h]
    have cut : ∀ {i : Nat} {d : D} {r : List D}, d :: r = ds.drop i → ds[i]? = some d ∧ r = ds.drop (i + 1) ∧ i < ds.length := fun {i d r} e => by
      have hlt : i < ds.length := by
        by_cases q : i < ds.length
        · exact q
        · rw [List.drop_of_length_le (Nat.not_lt.mp q)] at e; cases e
      rw [List.drop_eq_getElem_cons hlt] at e
      injection e with e1 e2
      exact ⟨by rw [List.getElem?_eq_getElem hlt, e1], e2, hlt⟩
    have hLi : L ∉ [it, ee] := fun q => by
      obtain ⟨o, g⟩ := S.e.alive L (.head _)
      have hlt := Heap.lt_size g
      rcases List.mem_cons.mp q with q | q
      · rw [q] at hlt; exact Nat.lt_irrefl _ hlt
      · rw [List.mem_singleton.mp q] at hlt; exact absurd hlt (Nat.not_lt.mpr (Nat.le_succ _))
    refine (?key : ∀ k j b p i s₀ s, x.cps.size - j = k → j ≤ x.cps.size → (esc (x.cps.toList.drop j) j b).map pr = ds.drop i → tr (x.cps.toList.drop j) b = tr x.cps.toList false → (b = true → p = ((j - 1 : Nat) : Int)) →
      St H (turnB [L] s) [it, ee] (fenv _ _ L 101 _) [L] (V [("pos", .d (.int p)), ("escape", .d (.bool b)), ("addr", .d (.str x))]) s → SE it ee x t j s.heap → KpX (Wf i) [] s₀ s → (∀ b ∈ [L, it, ee], b ∈ Wf i ∨ s₀.heap.get? b = none) → i ≤ ds.length →
      Seg (model PG w) A.in1 (GR ds Wf) (GY H ds Wf) (ds.length - i) s₀ ?code ((model PG w).den ?code) ?frs s) _ 0 false 0 0 s s3 rfl (Nat.zero_le _) (by rw [← hds]; rfl) rfl (fun q => nomatch q) S3' hSE k03 (fun b hb => ?_) (Nat.zero_le _)
    case key =>
      intro k
      induction k with
      | zero =>
        intro j b p i s₀ s hk hj he ht hp S hSE k0 hnew hi
        have ej : j = x.cps.size := by omega
        have edrop : x.cps.toList.drop j = [] := by rw [ej]; exact List.drop_of_length_le (by simp)
        rw [edrop] at he ht
        refine seg_turn fun E => enum_done T (by exact hA.hh) S hSE ej hne (fl p b) rfl fun s' S' k' => ?_
        have k1 : KpX (Wf i) [] s₀ s' := kpx_new k0 k' fun b hb => hnew b (by
          rcases List.mem_cons.mp hb with rfl | hb
          · exact .tail _ (.tail _ (.head _))
          · rw [List.mem_singleton.mp hb]; exact .tail _ (.head _))
        refine seg_leaf (.ok .next) ?_
        show Seg (model PG w) A.in1 (GR ds Wf) (GY H ds Wf) (ds.length - i) s₀ _ ((execs [_] _).wrap _ _ _ _) [] s'
        refine seg_execs_cons (seg_ifT (b := b) (ts_val T (ev_name rfl)) S'.e fun s4 k4 => ?_)
        have S4 := S'.kp T k4
        have S4' := S4.rebase (turn_kp [L] s4) fun m hm => hideAll_none _ hm
        have k2 : KpX (Wf i) [] s₀ s4 := k1.trans k4.to
        cases b with
        | true =>
          obtain rfl := hp rfl
          unfold esc at he
          obtain ⟨hd, hr, hlt⟩ := cut he
          have hlen : i + 1 = ds.length := by
            have : (ds.drop (i + 1)).length = 0 := by rw [← hr]; rfl
            rw [List.length_drop] at this; omega
          have hn1 : ds.length - i = 0 + 1 := by omega
          rw [hn1]
          have ht1 : tr x.cps.toList false = true := ht.symm.trans rfl
          refine seg_yield_d (Mc := []) (d := pr (j - 1, "\\")) T (fun M => ev_tuple (ds := [.int _, .str _]) T (evs_cons T (ev_name rfl) (evs_cons T ev_str evs_nil)) (by walk_at "msz")) (by omega) hd S4' (fl _ _) rfl k2 (Wf1 i ⟨hlen, ht1⟩) (fun b hb => .inl (by rw [List.mem_singleton.mp hb]; exact WfL i)) (fun _ => True) trivial (fun _ _ _ _ _ _ _ => trivial) fun s'' _ _ => ?_
          exact seg_end (.ok (.ret .none)) ⟨.inl rfl, rfl, KpX.refl _⟩
        | false =>
          unfold esc at he
          have hlen : i = ds.length := by
            have : (ds.drop i).length = 0 := by rw [← he]; rfl
            rw [List.length_drop] at this; omega
          subst hlen
          exact seg_end (.ok (.ret .none)) ⟨.inl rfl, Nat.sub_self _, k2⟩
      | succ k ih =>
        intro j b p i s₀ s hk hj he ht hp S hSE k0 hnew hi
        have hlt : j < x.cps.size := by omega
        obtain ⟨c, hc⟩ : ∃ c, x.cps[j]? = some c := ⟨_, Array.getElem?_eq_getElem hlt⟩
        have edrop : x.cps.toList.drop j = c :: x.cps.toList.drop (j + 1) := by
          rw [List.drop_eq_getElem_cons (by simpa using hlt)]
          congr 1
          rw [Array.getElem?_eq_getElem hlt] at hc
          simpa using Option.some.inj hc
        rw [edrop] at he ht
        refine seg_turn fun E => enum_item T (by exact hA.hh) S hSE hc hne rfl ⟨.inl rfl, .inl rfl⟩ rfl rfl fun s' S' hSE' k' => ?_
        rw [upd_V, upd_V] at S'
        have S1 := S'.V [("pos", .d (.int j)), ("escape", .d (.bool b)), ("ch", .d (.str ⟨#[c]⟩)), ("addr", .d (.str x))] (by walk_at "mvsub")
        have k1 : KpX (Wf i) [] s₀ s' := kpx_new k0 k' hnew
        have fl4 : ∀ b, FlatV (V [("pos", .d (.int j)), ("escape", .d (.bool b)), ("ch", .d (.str ⟨#[c]⟩)), ("addr", .d (.str x))]) := fun b => by walk_at "mflat"
        refine seg_execs_cons (seg_ifT (b := b) (ts_val T (ev_name rfl)) S1.e fun s4 k4 => ?_)
        have S4 := (S1.kp T k4).rebase (turn_kp [L] s4) fun m hm => hideAll_none _ hm
        have k2 : KpX (Wf i) [] s₀ s4 := k1.trans k4.to
        have hitp : it ≠ PT := S.e.ne_pt T (.tail _ (.head _))
        have heep : ee ≠ PT := S.e.ne_pt T (.tail _ (.tail _ (.head _)))
        have stSE : ∀ j, Stable H [L, it, ee] fun s => SE it ee x t j s.heap := fun j => SE.stable T (by simp) (by simp) hitp heep
        have SE4 : SE it ee x t (j + 1) s4.heap := stSE _ _ _ _ _ hSE' k4 fun _ q => nomatch q
        have L6 : ∀ {env' : Env} {σ' : Vars} {s5 s6 : Shared}, St H (turnB [L] s5) [it, ee] env' [L] σ' s6 → SE it ee x t (j + 1) s5.heap → KpX [L] [] s5 s6 ∧ SE it ee x t (j + 1) s6.heap := fun {env' σ' s5 s6} S6 h5 => by
          obtain ⟨m1, m2⟩ := S6.ne93s T
          have k6 : KpX [L] [] s5 s6 := turn_kpx (fun q => m1 (by simp at q; simp [q])) (fun q => m2 (by simp at q; simp [q])) S6.base
          exact ⟨k6, SE.stable (H := H) (W := [it, ee]) T (by simp) (by simp) hitp heep [L] [] s5 s6 h5 k6 fun b hb => by
            rw [List.mem_singleton.mp hb]
            exact ⟨S6.e.fresh L (.head _), hLi⟩⟩
        have wk : ∀ {i' : Nat} {s₀' s5 s6 : Shared}, KpX (Wf i') [] s₀' s5 → KpX [L] [] s5 s6 → KpX (Wf i') [] s₀' s6 := fun {i' _ _ _} k5 k6 => k5.trans (k6.weak (fun b hb => by rw [List.mem_singleton.mp hb]; exact WfL i') fun _ q => q)
        have last : ∀ {i' : Nat} {b' : Bool}, tr (x.cps.toList.drop (j + 1)) b' = tr x.cps.toList false → (esc (x.cps.toList.drop (j + 1)) (j + 1) b').map pr = ds.drop (i' + 1) → ¬ (i' + 1 = ds.length ∧ tr x.cps.toList false = true) := fun {i' b'} h1 h2 ⟨e1, e2⟩ => by
          rw [e1, List.drop_length, List.map_eq_nil_iff] at h2
          exact esc_ne (h1.trans e2) h2
        cases b with
        | true =>
          unfold esc at he
          rw [List.map_cons] at he
          obtain ⟨hd, hr, hlt'⟩ := cut he
          have ht' : tr (x.cps.toList.drop (j + 1)) false = tr x.cps.toList false := ht
          have hl := last ht' hr
          have hn1 : ds.length - i = (ds.length - (i + 1)) + 1 := by omega
          rw [hn1]
          refine seg_yield_d (Mc := [it, ee]) (d := pr (j, "\\" ++ ⟨#[c]⟩)) T (fun M => ev_tuple (ds := [.int _, .str _]) T (evs_cons T (ev_name rfl) (evs_cons T (ev_bin T ev_str (ev_name rfl) (op_adds (by show 1 + 1 ≤ sizeLine; decide))) evs_nil)) (by walk_at "msz")) (by omega) hd S4 (fl4 _) rfl k2 (Wf3 i hl) hnew (fun s => SE it ee x t (j + 1) s.heap) SE4 (stSE _) fun s'' S'' h'' => ?_
          refine seg_plain fun E => st_assign T S'' ev_bool (.inl rfl) fun s6 S6 => ?_
          rw [upd_V] at S6
          obtain ⟨k6, SE6⟩ := L6 S6 h''
          exact seg_again rfl (ih (j + 1) false j (i + 1) s'' s6 (by omega) (by omega) hr ht' (fun q => nomatch q) ((S6.V [("pos", .d (.int j)), ("escape", .d (.bool false)), ("addr", .d (.str x))] (by walk_at "mvsub")).rebase (turn_kp [L] s6) fun m hm => hideAll_none _ hm) SE6 (wk (KpX.refl _) k6) (fun b hb => .inl (by rw [Wf3 i hl]; exact hb)) hlt')
        | false =>
          refine seg_execs_cons (seg_ifT (b := (⟨#[c]⟩ : Str) == "\\") (ts_cmp T (ev_name rfl) ev_str cmp_eq_str) S4.e fun s5 k5 => ?_)
          have S5 := (S4.kp T k5).rebase (turn_kp [L] s5) fun m hm => hideAll_none _ hm
          have SE5 : SE it ee x t (j + 1) s5.heap := stSE _ _ _ _ _ SE4 k5 fun _ q => nomatch q
          have k3 : KpX (Wf i) [] s₀ s5 := k2.trans k5.to
          unfold esc at he
          cases q : ((⟨#[c]⟩ : Str) == "\\") with
          | true =>
            rw [if_pos q] at he
            have ht' : tr (x.cps.toList.drop (j + 1)) true = tr x.cps.toList false := by
              rw [← ht]
              show _ = tr (x.cps.toList.drop (j + 1)) ((⟨#[c]⟩ : Str) == "\\")
              rw [q]
            refine seg_plain fun E => st_assign T S5 ev_bool (.inl rfl) fun s6 S6 => ?_
            rw [upd_V] at S6
            obtain ⟨k6, SE6⟩ := L6 S6 SE5
            exact seg_again rfl (ih (j + 1) true j i s₀ s6 (by omega) (by omega) he ht' (fun _ => by simp) ((S6.V [("pos", .d (.int j)), ("escape", .d (.bool true)), ("addr", .d (.str x))] (by walk_at "mvsub")).rebase (turn_kp [L] s6) fun m hm => hideAll_none _ hm) SE6 (wk k3 k6) hnew hi)
          | false =>
            rw [if_neg (by rw [q]; exact Bool.false_ne_true), List.map_cons] at he
            obtain ⟨hd, hr, hlt'⟩ := cut he
            have ht' : tr (x.cps.toList.drop (j + 1)) false = tr x.cps.toList false := by
              rw [← ht]
              show _ = tr (x.cps.toList.drop (j + 1)) ((⟨#[c]⟩ : Str) == "\\")
              rw [q]
            have hl := last ht' hr
            have hn1 : ds.length - i = (ds.length - (i + 1)) + 1 := by omega
            rw [hn1]
            refine seg_yield_d (Mc := [it, ee]) (d := pr (j, ⟨#[c]⟩)) T (fun M => ev_tuple (ds := [.int _, .str _]) T (evs_cons T (ev_name rfl) (evs_cons T (ev_name rfl) evs_nil)) (by walk_at "msz")) (by omega) hd S5 (fl4 _) rfl k3 (Wf3 i hl) hnew (fun s => SE it ee x t (j + 1) s.heap) SE5 (stSE _) fun s'' S'' h'' => ?_
            exact seg_again rfl (ih (j + 1) false j (i + 1) s'' s'' (by omega) (by omega) hr ht' (fun q => nomatch q) (S''.V [("pos", .d (.int j)), ("escape", .d (.bool false)), ("addr", .d (.str x))] (by walk_at "mvsub")) h'' (KpX.refl _) (fun b hb => .inl (by rw [Wf3 i hl]; exact hb)) hlt')
    rcases List.mem_cons.mp hb with rfl | hb
    · exact .inl (.head _)
    · rcases List.mem_cons.mp hb with rfl | hb
      · exact .inr hit0
      · rw [List.mem_singleton.mp hb]; exact .inr hee0
end

/-- one sign of _strip_quoted_realnames -/
def qstep (x : Str) (st : Nat × Option Nat × List Str) (t : Nat × Str) : Nat × Option Nat × List Str :=
  if t.2 == "\"" then
    match st.2.1 with
    | none => (st.1, some t.1, st.2.2)
    | some q => (t.1 + 1, none, if (st.1 : Int) != (q : Int) then st.2.2 ++ [Txt.slice x (some st.1) (some q)] else st.2.2)
  else st
def stripped (x : Str) (st : Nat × Option Nat × List Str) : List Str := if decide ((st.1 : Int) < (x.length : Int)) then st.2.2 ++ [Txt.slice x (some st.1) none] else st.2.2
def strip (x : Str) : Str := if (!Txt.contains x "\"") then x else Txt.join "" (stripped x ((chars x).foldl (qstep x) (0, none, [])))
def parenGo : List (Nat × Str) → Int → Bool
  | [], n => n == 0
  | t :: ts, n => if t.2 == "(" then parenGo ts (n + 1) else if t.2 == ")" then (if decide (n - 1 < 0) then false else parenGo ts (n - 1)) else parenGo ts n
def paren (x : Str) : Bool := parenGo (chars (strip x)) 0

abbrev optD : Option Nat → D
  | none => .none
  | some q => .int q
abbrev stripV (x : Str) (a : Addr) (st : Nat × Option Nat × List Str) : List (Str × AV) := [("start", .d (.int st.1)), ("open_pos", .d (optD st.2.1)), ("result", .own a ((st.2.2.map D.str).map .d)), ("addr", .d (.str x))]
theorem foldl_take {α β : Type} (f : β → α → β) (b : β) {xs : List α} {i : Nat} {y : α} (h : xs[i]? = some y) : (xs.take (i + 1)).foldl f b = f ((xs.take i).foldl f b) y := by
  rw [List.take_add_one, h, List.foldl_append]; rfl
theorem esc_len (cs : List Nat) : ∀ p b, (esc cs p b).length ≤ cs.length + 1 := by
  induction cs with
  | nil => intro p b; cases b <;> (unfold esc; simp)
  | cons c cs ih =>
    intro p b
    cases b with
    | true => unfold esc; have := ih (p + 1) false; simp; omega
    | false =>
      unfold esc
      split
      · have := ih (p + 1) true; simp; omega
      · have := ih (p + 1) false; simp; omega
/-- what stands while a text is stripped -/
structure Sok (x : Str) (i : Nat) (st : Nat × Option Nat × List Str) : Prop where
  n : st.2.2.length ≤ i
  l : ∀ r ∈ st.2.2, r.length ≤ x.length
theorem slice_len (x : Str) (a b : Option Int) : (Txt.slice x a b).length ≤ x.length := Txt.slice_le x a b
theorem sok_take (x : Str) : ∀ i, Sok x i (((chars x).take i).foldl (qstep x) (0, none, [])) := by
  intro i
  induction i with
  | zero => exact ⟨by simp, by simp⟩
  | succ i ih =>
    cases h : (chars x)[i]? with
    | none =>
      have : (chars x).take (i + 1) = (chars x).take i := by rw [List.take_add_one, h]; simp
      rw [this]; exact ⟨Nat.le_succ_of_le ih.n, ih.l⟩
    | some t =>
      rw [foldl_take _ _ h]
      generalize ((chars x).take i).foldl (qstep x) (0, none, []) = st at *
      obtain ⟨h1, h2⟩ := ih
      unfold qstep
      split
      · split
        · exact ⟨Nat.le_succ_of_le h1, h2⟩
        · refine ⟨?_, ?_⟩
          · split
            · simp only [List.length_append, List.length_singleton]; omega
            · exact Nat.le_succ_of_le h1
          · intro r hr
            split at hr
            · rcases List.mem_append.mp hr with q | q
              · exact h2 r q
              · rw [List.mem_singleton.mp q]; exact slice_len _ _ _
            · exact h2 r hr
      · exact ⟨Nat.le_succ_of_le h1, h2⟩
theorem joinOk_of {xs : List Str} {n m : Nat} (h1 : xs.length ≤ n) (h2 : ∀ r ∈ xs, r.length ≤ m) (h : n * m ≤ sizeLine) : JoinOk "" xs = true := by
  unfold JoinOk
  have key : ∀ (xs : List Str) (a : Nat), (∀ r ∈ xs, r.length ≤ m) → xs.foldl (fun acc r => acc + r.length + ("" : Str).length) a ≤ a + xs.length * m := by
    intro xs
    induction xs with
    | nil => intro a _; simp
    | cons r rs ih =>
      intro a hr
      have e1 := hr r (.head _)
      have e2 := ih (a + r.length + ("" : Str).length) fun r h => hr r (.tail _ h)
      rw [List.foldl_cons, List.length_cons, Nat.succ_mul]
      have e3 : ("" : Str).length = 0 := rfl
      omega
  have k := key xs 0 h2
  have k2 : xs.length * m ≤ n * m := Nat.mul_le_mul_right _ h1
  have k3 : Builtin.Str.tooLong (xs.toArray.foldl (· + ·.length + ("" : Str).length) 0) = false := by
    unfold Builtin.Str.tooLong
    rw [List.size_toArray, List.foldl_toArray']
    · simp only [decide_eq_false_iff_not, Nat.not_lt]; omega
    · rfl
  rw [k3]; rfl

section
variable {w : World} {H : Heap} {A : Around} {M : List Addr} {n : Nat}

theorem c_strip (T : Top0 (KK w) H) (hA : AOk A (n + 8)) {x : Str} (hx : x.length ≤ 1000) : CallT PG w H A M (.ref 108) [.d (.str x)] (.d (.str (strip x))) := by
  refine call_fun (ps := ["addr"]) (ds := [.str x]) T hA (qual := ?q) (body := ?b) (scope := ?s) (cdv := ?c) ?F ?g ?l ?hb
  case F => walk_at "fnis1"
  case g => rfl
  case l => rfl
  case hb =>
    intro L A' hA'
    rw [vars0_V]
    intro B s Kk E S k
    have hxs : x.length ≤ sizeLine := Nat.le_trans hx (by decide)
    refine x_if T S (ts_cmp T ev_str (ev_name rfl) cmp_notin_str) (fun hq s1 S1 => ?_) (fun hq s1 S1 => ?_)
    · refine x_return T S1 (ev_name rfl) fun v s' S' r => k v s' S'.base ?_
      unfold strip; rw [if_pos hq]; exact r
    · refine x_nil ?_
      show wpAny _ _ (execs _ _) _ _ _
      refine x_assign T S1 ev_int (.inl rfl) fun s2 S2 => ?_
      refine x_assign T S2 ev_none (.inl rfl) fun s3 S3 => ?_
      refine x_new T S3 (evn_list (l := []) T evs_nil (by decide)) (.inl rfl) fun a s4 S4 => ?_
      rw [upd_V, upd_V, upd_V] at S4
      let st : Nat → Nat × Option Nat × List Str := fun i => ((chars x).take i).foldl (qstep x) (0, none, [])
      let J : Nat → List (Str × AV) → Prop := fun i l => ∃ a, l = stripV x a (st i)
      have S5 := S4.V (stripV x a (0, none, [])) (by unfold stripV; walk_at "mvsub")
      refine x_forP (g1 := fun t : Nat × Str => .int t.1) (g2 := fun t => .str t.2) (xs := chars x) T S5 hA'.hh J (fun _ => False) (fun _ => False) rfl (it_chars T hA' rfl (ev_name rfl)) ⟨.inl rfl, .inl rfl⟩ ⟨a, rfl⟩ (fun i y l B' Mc' Mw s' Kk' E' hj hy S' nx _ _ => ?_) (fun Mw l' s' hJ S' => ?_) (fun _ _ _ h => h.elim)
      · obtain ⟨a, rfl⟩ := hj
        have es : st (i + 1) = qstep x (st i) y := foldl_take _ _ hy
        have ok := sok_take x i
        have hi : i ≤ x.length + 1 := by
          have h1 := (List.getElem?_eq_some_iff.mp hy).1
          have h2 := esc_len x.cps.toList 0 false
          have h3 : x.cps.toList.length = x.length := by simp [Str.length]
          unfold chars at h1
          omega
        have nx' : ∀ Mw a s'' st', qstep x (st i) y = st' → St H B' Mc' (fenv _ _ _ _ _) Mw (V (stripV x a st')) s'' → Kk' .next s'' := fun Mw a s'' st' e S => nx Mw _ s'' ⟨a, by rw [es, e]⟩ S
        change Sok x i (st i) at ok
        generalize st i = sti at *
        obtain ⟨p, o, r⟩ := sti
        obtain ⟨t, c⟩ := y
        unfold qstep at nx'
        refine x_if T S' (ts_cmp T (ev_name rfl) ev_str cmp_eq_str) (fun hq s6 S6 => ?_) (fun hq s6 S6 => ?_)
        · refine x_if T S6 (ts_cmp T (ev_name rfl) ev_none cmp_is_none) (fun ho s7 S7 => ?_) (fun ho s7 S7 => ?_)
          · cases o with
            | some q => cases ho
            | none =>
              refine x_assign T S7 (ev_name rfl) (.inl rfl) fun s8 S8 => ?_
              rw [upd_V] at S8
              refine x_nil (x_nil (x_nil ?_))
              exact nx' _ a _ (p, some t, r) (by rw [if_pos hq]) (S8.V _ (by unfold stripV; walk_at "mvsub"))
          · cases o with
            | none => cases ho
            | some q =>
              refine x_if T S7 (ts_cmp T (ev_name rfl) (ev_name rfl) cmp_ne_int) (fun hne s8 S8 => ?_) (fun hne s8 S8 => ?_)
              · refine x_append (a := a) (l := r.map D.str) (d := .str (Txt.slice x (some p) (some q))) T S8 (S8.ownW "result" _ rfl a (by simp [AV.addrs])).1 (ev_name rfl) (ev_slice_str T hxs (ev_name rfl) (part_some (ev_name rfl)) (part_some (ev_name rfl))) ?_ fun s9 S9 => ?_
                · have h1 : r.length ≤ i := ok.n
                  have h2 : (1002 : Nat) ≤ sizeLine := by decide
                  rw [List.length_map]; omega
                · rw [putV_V] at S9
                  simp only [List.map_cons, List.map_nil, AV.put, if_true] at S9
                  refine x_nil ?_
                  refine x_assign T S9 (ev_bin T (ev_name rfl) ev_int op_add) (.inl rfl) fun s10 S10 => ?_
                  refine x_assign T S10 ev_none (.inl rfl) fun s11 S11 => ?_
                  rw [upd_V, upd_V] at S11
                  refine x_nil (x_nil (x_nil ?_))
                  refine nx' _ a _ (t + 1, none, r ++ [Txt.slice x (some p) (some q)]) (by rw [if_pos hq]; simp only; rw [if_pos hne]) (S11.V _ ?_)
                  unfold stripV
                  rw [List.map_append, List.map_cons, List.map_nil]
                  walk_at "mvsub"
              · refine x_nil ?_
                refine x_assign T S8 (ev_bin T (ev_name rfl) ev_int op_add) (.inl rfl) fun s10 S10 => ?_
                refine x_assign T S10 ev_none (.inl rfl) fun s11 S11 => ?_
                rw [upd_V, upd_V] at S11
                refine x_nil (x_nil (x_nil ?_))
                exact nx' _ a _ (t + 1, none, r) (by rw [if_pos hq]; simp only; rw [if_neg (by rw [hne]; exact Bool.false_ne_true)]) (S11.V _ (by unfold stripV; walk_at "mvsub"))
        · refine x_nil (x_nil ?_)
          exact nx' _ a _ (p, o, r) (by rw [if_neg (by rw [hq]; exact Bool.false_ne_true)]) (S6.V _ (by unfold stripV; walk_at "mvsub"))
      · rcases hJ with ⟨a, rfl⟩ | h
        · have ok := sok_take x (chars x).length
          have e0 : st (chars x).length = (chars x).foldl (qstep x) (0, none, []) := by show ((chars x).take _).foldl _ _ = _; rw [List.take_length]
          have hlen : (chars x).length ≤ 1001 := by
            have h2 := esc_len x.cps.toList 0 false
            have h3 : x.cps.toList.length = x.length := by simp [Str.length]
            unfold chars
            omega
          change Sok x (chars x).length (st (chars x).length) at ok
          have er : strip x = Txt.join "" (stripped x (st (chars x).length)) := by unfold strip; rw [if_neg (by rw [hq]; exact Bool.false_ne_true), e0]
          rw [er] at k
          generalize st (chars x).length = sti at *
          obtain ⟨p, o, r⟩ := sti
          have lenOk : ∀ r', (r' = r ∨ r' = r ++ [Txt.slice x (some p) none]) → JoinOk "" r' = true := fun r' h => by
            have h1 : r.length ≤ 1001 := Nat.le_trans ok.n hlen
            rcases h with rfl | rfl
            · exact joinOk_of (n := 1002) (m := 1000) (by omega) (fun r h => Nat.le_trans (ok.l r h) hx) (by decide)
            · refine joinOk_of (n := 1002) (m := 1000) (by rw [List.length_append, List.length_singleton]; omega) (fun r' h => ?_) (by decide)
              rcases List.mem_append.mp h with q | q
              · exact Nat.le_trans (ok.l r' q) hx
              · rw [List.mem_singleton.mp q]; exact Nat.le_trans (slice_len _ _ _) hx
          refine x_if T S' (ts_cmp T (ev_name rfl) (ev_call T (fn_blt T gn_len bb_len rfl) trivial (evs_cons T (ev_name rfl) evs_nil) (len_of_str (by omega))) cmp_lt_int) (fun hlt s6 S6 => ?_) (fun hlt s6 S6 => ?_)
          · refine x_append (a := a) (l := r.map D.str) (d := .str (Txt.slice x (some p) none)) T S6 (S6.ownW "result" _ rfl a (by simp [AV.addrs])).1 (ev_name rfl) (ev_slice_str T hxs (ev_name rfl) (part_some (ev_name rfl)) part_none) ?_ fun s9 S9 => ?_
            · have h1 : r.length ≤ 1001 := Nat.le_trans ok.n hlen
              have h2 : (1002 : Nat) ≤ sizeLine := by decide
              rw [List.length_map]; omega
            · rw [putV_V] at S9
              simp only [List.map_cons, List.map_nil, AV.put, if_true] at S9
              refine x_nil ?_
              obtain ⟨Mw', S10⟩ := S9.freeze T (x := "result") rfl
              rw [upd_V] at S10
              refine @x_return _ _ _ _ _ _ _ _ _ _ _ _ _ _ T S10 _ _ _ (@ev_join _ _ _ _ _ _ _ _ T _ _ _ _ _ (r ++ [Txt.slice x (some p) none]) _ ev_str (EvT.cast (ev_name rfl) ?_) (lenOk _ (.inr rfl)) (by intros; rfl) (by intros; rfl)) (fun v s' S' rr => k v s' S'.base ?_)
              · unfold AV.frz; rw [frzL_d, LS, List.map_append]; rfl
              · unfold stripped; rw [if_pos hlt]; exact rr
          · refine x_nil ?_
            obtain ⟨Mw', S10⟩ := S6.freeze T (x := "result") rfl
            rw [upd_V] at S10
            refine @x_return _ _ _ _ _ _ _ _ _ _ _ _ _ _ T S10 _ _ _ (@ev_join _ _ _ _ _ _ _ _ T _ _ _ _ _ (r) _ ev_str (EvT.cast (ev_name rfl) ?_) (lenOk _ (.inl rfl)) (by intros; rfl) (by intros; rfl)) (fun v s' S' rr => k v s' S'.base ?_)
            · unfold AV.frz; rw [frzL_d]
            · unfold stripped; rw [if_neg (by rw [hlt]; exact Bool.false_ne_true)]; exact rr
        · exact h.elim
end
section
variable {w : World} {H : Heap} {A : Around} {M : List Addr} {n : Nat}
theorem ip_add {prog : Program} {M : List Addr} {a b : Int} : ∀ (s : Shared) (u v : Value) (Q : Value → Shared → Prop) (E : Value → Shared → Prop), Amb H s.heap → RdA s.heap M u (.d (.int a)) → RdA s.heap M v (.d (.int b)) → (∀ r s', Kp s s' → RdA s'.heap M r (.d (.int (a + b))) → Q r s') → wpAny (model prog w) A (inplaceOp .Add u v) Q E s := fun s u v Q E _ x y h => by
  obtain ⟨t, rfl⟩ := int_of x; obtain ⟨t', rfl⟩ := int_of y
  exact iadd_int (h _ _ Kp.toks rd_int)
theorem ip_sub {prog : Program} {M : List Addr} {a b : Int} : ∀ (s : Shared) (u v : Value) (Q : Value → Shared → Prop) (E : Value → Shared → Prop), Amb H s.heap → RdA s.heap M u (.d (.int a)) → RdA s.heap M v (.d (.int b)) → (∀ r s', Kp s s' → RdA s'.heap M r (.d (.int (a - b))) → Q r s') → wpAny (model prog w) A (inplaceOp .Sub u v) Q E s := fun s u v Q E _ x y h => by
  obtain ⟨t, rfl⟩ := int_of x; obtain ⟨t', rfl⟩ := int_of y
  exact isub_int (h _ _ Kp.toks rd_int)

theorem c_paren (T : Top0 (KK w) H) (hA : AOk A (n + 10)) {x : Str} (hx : x.length ≤ 1000) : CallT PG w H A M (.ref 115) [.d (.str x)] (.d (.bool (paren x))) := by
  refine call_fun (ps := ["addr"]) (ds := [.str x]) T hA (qual := ?q) (body := ?b) (scope := ?s) (cdv := ?c) ?F ?g ?l ?hb
  case F => walk_at "fnis1"
  case g => rfl
  case l => rfl
  case hb =>
    intro L A' hA'
    rw [vars0_V]
    intro B s Kk E S k
    refine x_assign T S (ev_call T (fn_glob T ga_108 rfl) kf_108 (evs_cons T (ev_name rfl) evs_nil) (c_strip T hA' hx)) (.inl rfl) fun s1 S1 => ?_
    refine x_assign T S1 ev_int (.inl rfl) fun s2 S2 => ?_
    rw [upd_V, upd_V] at S2
    let J : Nat → List (Str × AV) → Prop := fun i l => ∃ m : Int, l = ([("opens", AV.d (.int m)), ("addr", .d (.str (strip x)))] : List (Str × AV)) ∧ parenGo ((chars (strip x)).drop i) m = paren x
    have S3 := S2.V [("opens", AV.d (.int 0)), ("addr", .d (.str (strip x)))] (by walk_at "mvsub")
    refine x_forP (g1 := fun t : Nat × Str => .int t.1) (g2 := fun t => .str t.2) (xs := chars (strip x)) T S3 hA'.hh J (fun _ => False) (fun r => r = .bool false ∧ paren x = false) rfl (it_chars T hA' rfl (ev_name rfl)) ⟨.inl rfl, .inl rfl⟩ ⟨0, rfl, rfl⟩ (fun i y l B' Mc' Mw s' Kk' E' hj hy S' nx _ rt => ?_) (fun Mw l' s' hJ S' => ?_) (fun v r s' h kp rr => ?_)
    · obtain ⟨m, rfl, hp⟩ := hj
      have hlt := (List.getElem?_eq_some_iff.mp hy).1
      rw [List.drop_eq_getElem_cons hlt] at hp
      have ey : (chars (strip x))[i] = y := (List.getElem?_eq_some_iff.mp hy).2
      rw [ey] at hp
      unfold parenGo at hp
      obtain ⟨t, c⟩ := y
      refine x_if T S' (ts_cmp T (ev_name rfl) ev_str cmp_eq_str) (fun hq s6 S6 => ?_) (fun hq s6 S6 => ?_)
      · rw [if_pos hq] at hp
        refine x_aug (a := .int m) (b := .int 1) T S6 rfl ev_int ip_add (.inl rfl) fun s7 S7 => ?_
        rw [upd_V] at S7
        refine x_nil (x_nil ?_)
        exact nx _ _ _ ⟨m + 1, rfl, hp⟩ (S7.V _ (by walk_at "mvsub"))
      · rw [if_neg (by rw [hq]; exact Bool.false_ne_true)] at hp
        refine x_if T S6 (ts_cmp T (ev_name rfl) ev_str cmp_eq_str) (fun hq2 s7 S7 => ?_) (fun hq2 s7 S7 => ?_)
        · rw [if_pos hq2] at hp
          refine x_aug (a := .int m) (b := .int 1) T S7 rfl ev_int ip_sub (.inl rfl) fun s8 S8 => ?_
          rw [upd_V] at S8
          refine x_if T S8 (ts_cmp T (ev_name rfl) ev_int cmp_lt_int) (fun hq3 s9 S9 => ?_) (fun hq3 s9 S9 => ?_)
          · rw [if_pos hq3] at hp
            exact x_return T S9 ev_bool fun v s' S' r => rt v _ s' ⟨rfl, hp.symm⟩ S'.base r
          · rw [if_neg (by rw [hq3]; exact Bool.false_ne_true)] at hp
            refine x_nil (x_nil (x_nil (x_nil ?_)))
            exact nx _ _ _ ⟨m - 1, rfl, hp⟩ (S9.V _ (by walk_at "mvsub"))
        · rw [if_neg (by rw [hq2]; exact Bool.false_ne_true)] at hp
          refine x_nil (x_nil (x_nil ?_))
          exact nx _ _ _ ⟨m, rfl, hp⟩ (S7.V _ (by walk_at "mvsub"))
    · rcases hJ with ⟨m, rfl, hp⟩ | h
      · rw [List.drop_length] at hp
        unfold parenGo at hp
        refine x_return T S' (ev_cmp T (ev_name rfl) ev_int cmp_eq_int) fun v s' S' r => k v s' S'.base ?_
        rw [← hp]; exact r
      · exact h.elim
    · obtain ⟨rfl, hf⟩ := h
      exact k v s' kp (by rw [hf]; exact rr)
end

theorem rd_handed {h : Heap} {M : List Addr} {v : Value} {d : D} (r : Rd h M v d) : handedIn v = true := by
  cases d with
  | none => unfold Rd at r; subst r; rfl
  | bool _ => unfold Rd at r; subst r; rfl
  | int _ => unfold Rd at r; obtain ⟨_, rfl⟩ := r; rfl
  | str _ => unfold Rd at r; obtain ⟨_, rfl⟩ := r; rfl
  | tup _ => unfold Rd at r; obtain ⟨_, _, rfl, _⟩ := r; rfl
  | list _ => unfold Rd at r; obtain ⟨_, _, rfl, _⟩ := r; rfl
  | inst _ => unfold Rd at r; obtain ⟨_, _, _, _, _, rfl, _⟩ := r; rfl
  | opq _ => unfold Rd at r; obtain ⟨rfl, _⟩ := r; rfl

section
variable {w : World} {H : Heap} {A : Around} {env : Env} {M Mc Mw : List Addr} {σ : Vars} {B s : Shared} {n : Nat}

theorem keys_cons {es : List DictEntry} {n : Str} {ns : List Str} (k : KeysAre es (n :: ns)) : ∃ h t v es', es = ⟨h, .str n t, v⟩ :: es' ∧ KeysAre es' ns := by
  cases es with
  | nil => exact k.elim
  | cons x xs =>
    obtain ⟨hh, kk, vv⟩ := x
    obtain ⟨⟨t, e⟩, k2⟩ := k
    dsimp only at e
    subst e
    exact ⟨hh, t, vv, xs, rfl, k2⟩
theorem keys_nil {es : List DictEntry} (k : KeysAre es []) : es = [] := by
  cases es with
  | nil => rfl
  | cons _ _ => exact k.elim
theorem five {es : List DictEntry} (k : KeysAre es wsNames) : ∃ h0 h1 h2 h3 h4 t0 t1 t2 t3 t4 v0 v1 v2 v3 v4, es = [⟨h0, .str "raw" t0, v0⟩, ⟨h1, .str "n" t1, v1⟩, ⟨h2, .str "nt" t2, v2⟩, ⟨h3, .str "norm" t3, v3⟩, ⟨h4, .str "is_simple" t4, v4⟩] := by
  obtain ⟨h0, t0, v0, e0, q, k⟩ := keys_cons k
  obtain ⟨h1, t1, v1, e1, q1, k⟩ := keys_cons k
  obtain ⟨h2, t2, v2, e2, q2, k⟩ := keys_cons k
  obtain ⟨h3, t3, v3, e3, q3, k⟩ := keys_cons k
  obtain ⟨h4, t4, v4, e4, q4, k⟩ := keys_cons k
  exact ⟨h0, h1, h2, h3, h4, t0, t1, t2, t3, t4, v0, v1, v2, v3, v4, by rw [q, q1, q2, q3, q4, keys_nil k]⟩
theorem inst_of {h : Heap} {v : Value} {d0 d1 d2 d3 d4 : D} (r : RdA h M v (.d (.inst [d0, d1, d2, d3, d4]))) : ∃ x dx k sl h0 h1 h2 h3 h4 t0 t1 t2 t3 t4 v0 v1 v2 v3 v4, v = .ref x ∧
    InstAt h x ⟨.ref 83, some dx, .plain, sl⟩ 83 (some (dictOf [⟨h0, .str "raw" t0, v0⟩, ⟨h1, .str "n" t1, v1⟩, ⟨h2, .str "nt" t2, v2⟩, ⟨h3, .str "norm" t3, v3⟩, ⟨h4, .str "is_simple" t4, v4⟩] k)) ∧
    Rd h M v0 d0 ∧ Rd h M v2 d2 ∧ Rd h M v3 d3 := by
  have r := rda_d.mp r
  unfold Rd at r
  obtain ⟨x, dx, k, sl, es, rfl, _, _, _, _, g1, g2, ks, rl⟩ := r
  obtain ⟨h0, h1, h2, h3, h4, t0, t1, t2, t3, t4, v0, v1, v2, v3, v4, rfl⟩ := five ks
  refine ⟨x, dx, k, sl, h0, h1, h2, h3, h4, t0, t1, t2, t3, t4, v0, v1, v2, v3, v4, rfl, ⟨g1, rfl, rfl, g2⟩, ?_⟩
  unfold RdL at rl
  obtain ⟨a0, r0, e0, b0, rl⟩ := rl
  unfold RdL at rl
  obtain ⟨a1, r1, e1, b1, rl⟩ := rl
  unfold RdL at rl
  obtain ⟨a2, r2, e2, b2, rl⟩ := rl
  unfold RdL at rl
  obtain ⟨a3, r3, e3, b3, rl⟩ := rl
  simp only [List.map_cons, List.map_nil] at e0
  cases e0
  cases e1
  cases e2
  cases e3
  exact ⟨b0, b2, b3⟩

theorem ev_norm (T : Top0 (KK w) H) {x : Str} {xp pos : Pos} {d0 d1 d2 d3 d4 : D} (h1 : EvT PG w H A env M σ (.Name x xp) (.d (.inst [d0, d1, d2, d3, d4]))) : EvT PG w H A env M σ (.Attribute (.Name x xp) "norm" pos) (.d d3) := fun s Q E S h => by
  refine Attribute_name (h1 s _ _ S fun v s1 k1 r1 => ?_)
  obtain ⟨x, dx, k, sl, h0, h1, h2, h3, h4, t0, t1, t2, t3, t4, v0, v1, v2, v3, v4, rfl, I, r0, r2, r3⟩ := inst_of r1
  refine get_value ((S.kp T k1).amb.inK T) I (by exact rfl) (v := v3) (by exact rfl) (rd_handed r3) (h _ _ (k1.trans Kp.toks) (rda_d.mpr r3))
theorem ev_nt (T : Top0 (KK w) H) {x : Str} {xp pos : Pos} {d0 d1 d2 d3 d4 : D} (h1 : EvT PG w H A env M σ (.Name x xp) (.d (.inst [d0, d1, d2, d3, d4]))) : EvT PG w H A env M σ (.Attribute (.Name x xp) "nt" pos) (.d d2) := fun s Q E S h => by
  refine Attribute_name (h1 s _ _ S fun v s1 k1 r1 => ?_)
  obtain ⟨x, dx, k, sl, h0, h1, h2, h3, h4, t0, t1, t2, t3, t4, v0, v1, v2, v3, v4, rfl, I, r0, r2, r3⟩ := inst_of r1
  refine get_value ((S.kp T k1).amb.inK T) I (by exact rfl) (v := v2) (by exact rfl) (rd_handed r2) (h _ _ (k1.trans Kp.toks) (rda_d.mpr r2))
end
section
variable {w : World} {H : Heap} {A : Around} {env : Env} {M Mc Mw : List Addr} {σ : Vars} {B s : Shared} {n : Nat}
theorem hg_inst (T : Top0 (KK w) H) {name : Str} {f : Addr} {pl : Sem Bool} {d0 d1 d2 d3 d4 : D} (hf : findIn (KK w) (.ref 83) name = some (some (.ref f))) (ht : typeIn (KK w) (.ref f) = some (.type "function"))
    (hs : ∀ k h0 h1 h2 h3 h4 t0 t1 t2 t3 t4 v0 v1 v2 v3 v4, shadowIn (some (dictOf [⟨h0, .str "raw" t0, v0⟩, ⟨h1, .str "n" t1, v1⟩, ⟨h2, .str "nt" t2, v2⟩, ⟨h3, .str "norm" t3, v3⟩, ⟨h4, .str "is_simple" t4, v4⟩] k)) name = some false) :
    ∀ (s : Shared) (v : Value) (Q : Value × List Value → Shared → Prop) (E : Value → Shared → Prop), Amb H s.heap → RdA s.heap M v (.d (.inst [d0, d1, d2, d3, d4])) → Q (.ref f, [v]) s → wpAny (model PG w) A (getMethod v name pl) Q E s := fun s v Q E amb r h => by
  obtain ⟨x, dx, k, sl, h0, h1, h2, h3, h4, t0, t1, t2, t3, t4, v0, v1, v2, v3, v4, rfl, I, _⟩ := inst_of r
  exact method_fn (amb.inK T) I (by exact rfl) (by exact rfl) hf ht (hs _ _ _ _ _ _ _ _ _ _ _ _ _ _ _ _) h

/-- count, b, n, nt while a lead is read -/
abbrev WS := List Int × Int × Int × Int
def wsStep (st : WS) (c : Nat) : WS :=
  if (⟨#[c]⟩ : Str) == " " then (st.1, st.2.1 + 1, st.2.2.1 + 1, st.2.2.2)
  else
    let cnt := if decide (st.2.1 ≥ (st.1.length : Int)) then st.1 ++ (List.replicate (st.2.1 - (st.1.length : Int) + 1).toNat [(0 : Int)]).flatten else st.1
    (cnt.set st.2.1.toNat (cnt.getD st.2.1.toNat 0 + 1), 0, st.2.2.1 + 1, st.2.2.2 + 1)
def wsGo : List Nat → WS → WS
  | [], st => st
  | c :: cs, st => if ((⟨#[c]⟩ : Str) == " " || (⟨#[c]⟩ : Str) == "\t") then wsGo cs (wsStep st c) else st
def wsOf (x : Str) : WS := wsGo x.cps.toList ([], 0, 0, 0)
/-- the norm and nt of a lead -/
abbrev normD (st : WS) : D := .tup [.tup (st.1.map .int), .int st.2.1]
abbrev instD (x : Str) : D := .inst [.str x, .int (wsOf x).2.2.1, .int (wsOf x).2.2.2, normD (wsOf x), .bool (decide (((wsOf x).1.length : Int) ≤ 1))]
/-- a lead that is small -/
structure Small (st : WS) : Prop where
  len : st.1.length ≤ 40
  b0 : 0 ≤ st.2.1
  b : st.2.1 ≤ 200
  nt0 : 0 ≤ st.2.2.2
  nt : st.2.2.2 ≤ 200
  cs : ∀ c ∈ st.1, 0 ≤ c ∧ c ≤ 200

def runLen (st : WS) : Int := if st.2.1 > (st.1.length : Int) - 1 then st.2.1 else (st.1.length : Int) - 1
theorem c_longest (T : Top0 (KK w) H) (hA : AOk A (n + 1)) {x : Str} (hs : Small (wsOf x)) : CallT PG w H A M (.ref 45) [.d (instD x)] (.d (.int (runLen (wsOf x)))) := by
  refine call_fun (ps := ["self"]) (ds := [instD x]) T hA (qual := ?q) (body := ?b) (scope := ?s) (cdv := ?c) ?F ?g ?l ?hb
  case F => walk_at "fnis1"
  case g => rfl
  case l => rfl
  case hb =>
    intro L A' hA'
    rw [vars0_V]
    intro B s Kk E S k
    refine x_tup T S hA'.hh [("count", .tup ((wsOf x).1.map .int)), ("trailing", .int (wsOf x).2.1)] (ev_norm T (ev_name rfl)) (fun s1 S1 => ?_) (hb := by walk_at "mbinds")
    simp only [List.foldl_cons, List.foldl_nil, upd_V] at S1
    refine x_return T S1 (ev_call T (fn_blt T gn_max bb_max rfl) trivial (evs_cons T (ev_bin T (ev_call T (fn_blt T gn_len bb_len rfl) trivial (evs_cons T (ev_name rfl) evs_nil) (len_of_tup ?_)) ev_int op_sub) (evs_cons T (ev_name rfl) evs_nil)) (max_ok hA'.hh)) fun v s' S' r => k v s' S'.base ?_
    · rw [List.length_map]; have := hs.len; omega
    · rw [List.length_map] at r; exact r
theorem c_equal (T : Top0 (KK w) H) (hA : AOk A (n + 1)) {x y : Str} (hx : Small (wsOf x)) (hy : Small (wsOf y)) : CallT PG w H A M (.ref 59) [.d (instD x), .d (instD y)] (.d (.bool (PyData.eqv (normD (wsOf x)).py (normD (wsOf y)).py))) := by
  refine call_fun (ps := ["self", "other"]) (ds := [instD x, instD y]) T hA (qual := ?q) (body := ?b) (scope := ?s) (cdv := ?c) ?F ?g ?l ?hb
  case F => walk_at "fnis2"
  case g => rfl
  case l => rfl
  case hb =>
    intro L A' hA'
    rw [vars0_V]
    intro B s Kk E S k
    exact x_return T S (ev_cmp T (ev_norm T (ev_name rfl)) (ev_norm T (ev_name rfl)) (cmp_eq_data hA' (shaped_norm _) (shaped_norm _))) fun v s' S' r => k v s' S'.base r
end
theorem bits_small {a : Int} (h : a.natAbs < 2 ^ 63) : Builtin.Int.intBits a ≤ 64 := by
  unfold Builtin.Int.intBits
  split
  · omega
  · have : a.natAbs.log2 < 63 := by
      by_cases q : a.natAbs = 0
      · rw [q]; decide
      · exact (Nat.log2_lt q).mpr h
    omega
theorem mul_small {a b : Int} (h : a.natAbs < 2 ^ 63) : IntMulOk a b := .of_left (bits_small h)
def ilStep (st : WS) (ts : Int) (acc : Int) (j : Nat) : Int := acc + Int.fdiv (ts + (j : Int)) ts * st.1.getD (ts + (j : Int)).toNat 0
def ilOf (st : WS) (ts : Int) : Int := (List.range ((st.1.length : Int) - ts).toNat).foldl (ilStep st ts) 0
def indent (st : WS) (ts : Int) : Int := st.2.1 + ts * (ilOf st ts + st.2.2.2)
section
variable {w : World} {H : Heap} {A : Around} {M : List Addr} {n : Nat}
theorem c_indent (T : Top0 (KK w) H) (hA : AOk A (n + 1)) {x : Str} (hs : Small (wsOf x)) {ts : Int} (h1 : 1 ≤ ts) (h2 : ts ≤ 300) : CallT PG w H A M (.ref 52) [.d (instD x), .d (.int ts)] (.d (.int (indent (wsOf x) ts))) := by
  refine call_fun (ps := ["self", "tabsize"]) (ds := [instD x, .int ts]) T hA (qual := ?q) (body := ?b) (scope := ?s) (cdv := ?c) ?F ?g ?l ?hb
  case F => walk_at "fnis2"
  case g => rfl
  case l => rfl
  case hb =>
    intro L A' hA'
    rw [vars0_V]
    intro B s Kk E S k
    generalize hst : wsOf x = st at hs k
    have hst' := hst
    have hnorm : ∀ {env : Env} {M : List Addr} {σ : Vars} {p q : Pos}, σ "self" = some (.d (instD x)) → EvT PG w H A' env M σ (.Attribute (.Name "self" p) "norm" q) (.d (normD st)) := fun {env M σ p q} h => hst ▸ ev_norm T (ev_name h)
    have hnt : ∀ {env : Env} {M : List Addr} {σ : Vars} {p q : Pos}, σ "self" = some (.d (instD x)) → EvT PG w H A' env M σ (.Attribute (.Name "self" p) "nt" q) (.d (.int st.2.2.2)) := fun {env M σ p q} h => hst ▸ ev_nt T (ev_name h)
    have hlen := hs.len
    refine x_tup T S hA'.hh [("count", .tup (st.1.map .int)), ("trailing", .int st.2.1)] (hnorm rfl) (fun s1 S1 => ?_) (hb := by walk_at "mbinds")
    simp only [List.foldl_cons, List.foldl_nil, upd_V] at S1
    refine x_assign T S1 ev_int (.inl rfl) fun s2 S2 => ?_
    rw [upd_V] at S2
    let N : Nat := ((st.1.length : Int) - ts).toNat
    let J : Nat → List (Str × AV) → Prop := fun i l => l = ([("il", AV.d (.int (((List.range N).take i).foldl (ilStep st ts) 0))), ("count", .d (.tup (st.1.map .int))), ("trailing", .d (.int st.2.1)), ("self", .d (instD x)), ("tabsize", .d (.int ts))] : List (Str × AV))
    have S3 := S2.V [("il", AV.d (.int 0)), ("count", .d (.tup (st.1.map .int))), ("trailing", .d (.int st.2.1)), ("self", .d (instD x)), ("tabsize", .d (.int ts))] (by walk_at "mvsub")
    refine x_forN (g := fun j : Nat => .int (ts + (j : Int))) (xs := List.range N) T S3 J (fun _ => False) (fun _ => False) rfl
      (ItT.toW (EvItT.cast (it_range2 (a := ts) (b := (st.1.length : Int)) T hA'.hh (fn_blt T gn_range bb_range rfl) (ev_name rfl) (EvT.cast (ev_call T (fn_blt T gn_len bb_len rfl) trivial (evs_cons T (ev_name rfl) evs_nil) (len_of_tup (by rw [List.length_map]; omega))) (by rw [List.length_map])) (by omega) (by omega)) rfl)) (.inl rfl) rfl (fun i y l B' Mc' Mw s' Kk' E' hj hy S' nx _ _ => ?_) (fun Mw l' s' hJ S' => ?_) (fun _ _ _ h => h.elim)
    · subst hj
      have hyN : y < N := by
        have := List.mem_range.mp (List.mem_of_getElem? hy); exact this
      have hylen : ts + (y : Int) < (st.1.length : Int) := by
        have h3 : (N : Int) = ((st.1.length : Int) - ts) := by
          show ((((st.1.length : Int) - ts).toNat : Nat) : Int) = _
          have : N ≠ 0 := by omega
          show _ = _
          omega
        omega
      have hdiv : Int.fdiv (ts + (y : Int)) ts = (ts + (y : Int)) / ts := Int.fdiv_eq_ediv_of_nonneg _ (by omega)
      have hd0 : 0 ≤ (ts + (y : Int)) / ts := Int.ediv_nonneg (by omega) (by omega)
      have hd1 : (ts + (y : Int)) / ts ≤ ts + (y : Int) := Int.ediv_le_self _ (by omega)
      refine x_assign T S' (ev_bin T (ev_name rfl) (ev_bin T (ev_bin T (ev_name rfl) (ev_name rfl) (op_div (by omega) (PyProof.noPylong_small (by omega)))) (ev_item_t (g := .int) T 0 (ev_name rfl) (ev_name rfl) (by omega) (by omega) (by omega)) (op_mul (mul_small (by rw [hdiv]; omega)))) op_add) (.inl rfl) fun s4 S4 => ?_
      rw [upd_V] at S4
      refine x_nil ?_
      refine nx _ _ _ rfl (S4.V _ ?_)
      rw [foldl_take _ _ hy]
      walk_at "mvsub"
    · rcases hJ with rfl | h
      · refine x_return T S' (ev_bin T (ev_name rfl) (ev_bin T (ev_name rfl) (ev_bin T (ev_name rfl) (hnt rfl) op_add) (op_mul (mul_small (by omega)))) op_add) fun v s' S' r => k v s' S'.base ?_
        have e : (List.range N).take (List.range N).length = List.range N := List.take_length
        rw [e] at r
        exact r
      · exact h.elim
end
def witN (a b : WS) : Int := (if runLen b > runLen a then runLen b else runLen a) + 1
def witStep (a b : WS) (acc : List (Int × Int × Int)) (j : Nat) : List (Int × Int × Int) := if indent a (1 + (j : Int)) != indent b (1 + (j : Int)) then acc ++ [(1 + (j : Int), indent a (1 + (j : Int)), indent b (1 + (j : Int)))] else acc
/-- what not_equal_witness hands back -/
def wit (a b : WS) : List (Int × Int × Int) := (List.range ((witN a b + 1) - 1).toNat).foldl (witStep a b) []
theorem wit_len (a b : WS) : ∀ (xs : List Nat) (acc : List (Int × Int × Int)), (xs.foldl (witStep a b) acc).length ≤ acc.length + xs.length := by
  intro xs
  induction xs with
  | nil => intro acc; simp
  | cons x xs ih =>
    intro acc
    rw [List.foldl_cons, List.length_cons]
    refine Nat.le_trans (ih _) ?_
    unfold witStep
    split
    · simp only [List.length_append, List.length_singleton]; omega
    · omega
theorem Small.run {st : WS} (h : Small st) : -1 ≤ runLen st ∧ runLen st ≤ 200 := by
  have h1 := h.len
  have h2 := h.b
  have h3 := h.b0
  unfold runLen
  split <;> omega

section
variable {w : World} {H : Heap} {A : Around} {M : List Addr} {n : Nat} {env : Env} {σ : Vars}
theorem c_wit (T : Top0 (KK w) H) (hA : AOk A (n + 3)) {x y : Str} (hx : Small (wsOf x)) (hy : Small (wsOf y)) : CallT PG w H A M (.ref 66) [.d (instD x), .d (instD y)] (.d (LT3 (wit (wsOf x) (wsOf y)))) := by
  refine call_fun (ps := ["self", "other"]) (ds := [instD x, instD y]) T hA (qual := ?q) (body := ?b) (scope := ?s) (cdv := ?c) ?F ?g ?l ?hb
  case F => walk_at "fnis2"
  case g => rfl
  case l => rfl
  case hb =>
    intro L A' hA'
    rw [vars0_V]
    intro B s Kk E S k
    have rx := hx.run
    have ry := hy.run
    refine x_assign T S (ev_bin T (ev_call T (fn_blt T gn_max bb_max rfl) trivial (evs_cons T (ev_meth (f := .ref 45) T rfl (ev_name rfl) (hg_inst T (by exact rfl) (by exact rfl) (by intros; exact rfl)) evs_nil (c_longest T hA' hx)) (evs_cons T (ev_meth (f := .ref 45) T rfl (ev_name rfl) (hg_inst T (by exact rfl) (by exact rfl) (by intros; exact rfl)) evs_nil (c_longest T hA' hy)) evs_nil)) (max_ok hA'.hh)) ev_int op_add) (.inl rfl) fun s1 S1 => ?_
    refine x_new T S1 (evn_list (l := []) T evs_nil (by decide)) (.inl rfl) fun a s2 S2 => ?_
    rw [upd_V, upd_V] at S2
    have hN : witN (wsOf x) (wsOf y) ≤ 201 := by unfold witN; split <;> omega
    have hN0 : 0 ≤ witN (wsOf x) (wsOf y) := by unfold witN; split <;> omega
    let N : Nat := ((witN (wsOf x) (wsOf y) + 1) - 1).toNat
    let acc : Nat → List (Int × Int × Int) := fun i => ((List.range N).take i).foldl (witStep (wsOf x) (wsOf y)) []
    let VV : Addr → List (Int × Int × Int) → List (Str × AV) := fun a r => [("a", AV.own a ((r.map tri).map .d)), ("n", .d (.int (witN (wsOf x) (wsOf y)))), ("self", .d (instD x)), ("other", .d (instD y))]
    have S3 := S2.V [("a", AV.own a []), ("n", .d (.int (witN (wsOf x) (wsOf y)))), ("self", .d (instD x)), ("other", .d (instD y))] (by walk_at "mvsub")
    have accLen : ∀ i, (acc i).length ≤ 201 := fun i => by
      have h1 := wit_len (wsOf x) (wsOf y) ((List.range N).take i) []
      have h2 : ((List.range N).take i).length ≤ N := by rw [List.length_take, List.length_range]; omega
      have h3 : N ≤ 201 := by omega
      simp only [List.length_nil] at h1
      have h4 : (acc i).length ≤ 0 + ((List.range N).take i).length := h1
      omega
    have accStep : ∀ i y', (List.range N)[i]? = some y' → acc (i + 1) = witStep (wsOf x) (wsOf y) (acc i) y' := fun i y' h => foldl_take _ _ h
    refine x_forN (g := fun j : Nat => .int (1 + (j : Int))) (xs := List.range N) T S3 (fun i l => ∃ a, l = VV a (acc i)) (fun _ => False) (fun _ => False) rfl
      (ItT.toW (it_range2 (a := 1) (b := witN (wsOf x) (wsOf y) + 1) T hA'.hh (fn_blt T gn_range bb_range rfl) ev_int (ev_bin T (ev_name rfl) ev_int op_add) (by decide) (by omega))) (.inl rfl) ⟨a, rfl⟩ (fun i j l B' Mc' Mw s' Kk' E' hj hy' S' nx _ _ => ?_) (fun Mw l' s' hJ S' => ?_) (fun _ _ _ h => h.elim)
    · obtain ⟨a, rfl⟩ := hj
      have hjN : j < N := List.mem_range.mp (List.mem_of_getElem? hy')
      have j1 : 1 ≤ 1 + (j : Int) := by omega
      have j2 : 1 + (j : Int) ≤ 300 := by omega
      have e1 := accStep i j hy'
      have al := accLen i
      generalize acc i = r at *
      refine x_if T S' (ts_cmp T (ev_meth (f := .ref 52) T rfl (ev_name rfl) (hg_inst T (by exact rfl) (by exact rfl) (by intros; exact rfl)) (evs_cons T (ev_name rfl) evs_nil) (c_indent T hA' hx j1 j2)) (ev_meth (f := .ref 52) T rfl (ev_name rfl) (hg_inst T (by exact rfl) (by exact rfl) (by intros; exact rfl)) (evs_cons T (ev_name rfl) evs_nil) (c_indent T hA' hy j1 j2)) cmp_ne_int) (fun hq s6 S6 => ?_) (fun hq s6 S6 => ?_)
      · refine x_append (a := a) (l := r.map tri) (d := tri (1 + (j : Int), indent (wsOf x) (1 + (j : Int)), indent (wsOf y) (1 + (j : Int)))) T S6 (S6.ownW "a" _ rfl a (by simp [AV.addrs])).1 (ev_name rfl) (ev_tuple (ds := [.int _, .int _, .int _]) T (evs_cons T (ev_name rfl) (evs_cons T (ev_meth (f := .ref 52) T rfl (ev_name rfl) (hg_inst T (by exact rfl) (by exact rfl) (by intros; exact rfl)) (evs_cons T (ev_name rfl) evs_nil) (c_indent T hA' hx j1 j2)) (evs_cons T (ev_meth (f := .ref 52) T rfl (ev_name rfl) (hg_inst T (by exact rfl) (by exact rfl) (by intros; exact rfl)) (evs_cons T (ev_name rfl) evs_nil) (c_indent T hA' hy j1 j2)) evs_nil))) (by walk_at "msz")) ?_ fun s9 S9 => ?_
        · have h2 : (1002 : Nat) ≤ sizeLine := by decide
          rw [List.length_map]; omega
        · rw [putV_V] at S9
          simp only [VV, List.map_cons, List.map_nil, AV.put, if_true] at S9
          refine x_nil (x_nil ?_)
          refine nx _ _ _ ⟨a, rfl⟩ (S9.V _ ?_)
          rw [e1]
          unfold witStep
          rw [if_pos hq]
          simp only [VV, List.map_append, List.map_cons, List.map_nil]
          walk_at "mvsub"
      · refine x_nil (x_nil ?_)
        refine nx _ _ _ ⟨a, rfl⟩ (S6.V _ ?_)
        rw [e1]
        unfold witStep
        rw [if_neg (by rw [hq]; exact Bool.false_ne_true)]
        simp only [VV]
        walk_at "mvsub"
    · rcases hJ with ⟨a, rfl⟩ | h
      · obtain ⟨Mw', S10⟩ := S'.freeze T (x := "a") rfl
        rw [upd_V] at S10
        refine x_return T S10 (EvT.cast (ev_name rfl) ?_) fun v s' S' rr => k v s' S'.base rr
        unfold AV.frz
        rw [frzL_d]
        have e : acc (List.range N).length = wit (wsOf x) (wsOf y) := by
          show ((List.range N).take _).foldl _ _ = _
          rw [List.take_length]; rfl
        rw [e]
      · exact h.elim
end

theorem keys_snoc {es : List DictEntry} {ns : List Str} {e : DictEntry} {a : Str} (k : KeysAre es ns) (h : ∃ t, e.key = .str a t) : KeysAre (es ++ [e]) (ns ++ [a]) := by
  induction es generalizing ns with
  | nil =>
    cases ns with
    | nil => exact ⟨h, trivial⟩
    | cons _ _ => exact k.elim
  | cons x xs ih =>
    cases ns with
    | nil => exact k.elim
    | cons y ys => exact ⟨k.1, ih k.2⟩
theorem keys_find {es : List DictEntry} {ns : List Str} {a : Str} (k : KeysAre es ns) (h : a ∉ ns) : es.find? (·.key.isStr a) = none ∧ es.any (·.refKey) = false := by
  induction es generalizing ns with
  | nil => exact ⟨rfl, rfl⟩
  | cons x xs ih =>
    cases ns with
    | nil => exact k.elim
    | cons y ys =>
      obtain ⟨⟨t, e⟩, k2⟩ := k
      rw [List.mem_cons, not_or] at h
      obtain ⟨i1, i2⟩ := ih k2 h.2
      have e1 : x.key.isStr a = false := by
        rw [e]
        show (y == a) = false
        simpa using fun q => h.1 q.symm
      have e2 : x.refKey = false := by unfold DictEntry.refKey; rw [e]
      exact ⟨by rw [List.find?_cons, e1]; exact i1, by rw [List.any_cons, e2, i2]; rfl⟩
theorem put_new {es : List DictEntry} {n : Nat} {a : Str} {hsh : Int} {key v : Value} (h : es.find? (·.key.isStr a) = none) : Obj.putName a hsh key v (dictOf es n) = dictOf (es ++ [⟨hsh, key, v⟩]) (n + 1) := by
  rw [Obj.putName_eq]
  show (match es.toArray.findIdx? (·.key.isStr a) with | some i => _ | none => _) = _
  have e : es.toArray.findIdx? (·.key.isStr a) = none := by
    rw [Array.findIdx?_eq_none_iff]
    intro x hx
    exact List.find?_eq_none.mp h x (by simpa using hx) |> fun q => by simpa using q
  rw [e]
  simp [dictOf]

section
variable {w : World} {H : Heap} {A : Around} {env : Env} {M Mc Mw : List Addr} {σ : Vars} {B s : Shared} {n : Nat} {rest : List Stmt} {Kk : Flow → Shared → Prop} {E : Value → Shared → Prop}

theorem set_attr (X : (KK w).In s.heap) {xo dx : Addr} {sl : Array (Option Value)} {es : List DictEntry} {k : Nat} {a : Str} {v : Value} {ns : List Str} {Q : Unit → Shared → Prop}
    (g1 : s.heap.get? xo = some ⟨.ref 83, some dx, .plain, sl⟩) (g2 : s.heap.get? dx = some (dictOf es k)) (ks : KeysAre es ns) (ha : a ∉ ns) (hz : es.length ≤ 900) (ht : takerIn (KK w) 83 a = some none)
    (h : ∀ h' tk e, h'.get? dx = some (dictOf (es ++ [e]) (k + 1)) → (∃ t, e.key = .str a t) → e.val = v → Heap.SameBut dx s.heap h' → Q () { s with heap := h', toks := tk }) :
    wpAny (model PG w) A (setAttr (.ref xo) a v) Q E s := by
  have I : InstAt s.heap xo ⟨.ref 83, some dx, .plain, sl⟩ 83 (some (dictOf es k)) := ⟨g1, rfl, rfl, g2⟩
  obtain ⟨hf, hr⟩ := keys_find ks ha
  refine set_plain X I (by exact rfl) ?_
  have X' : (KK w).In ({ s with toks := s.toks + 1 } : Shared).heap := X
  have I' : InstAt ({ s with toks := s.toks + 1 } : Shared).heap xo ⟨.ref 83, some dx, .plain, sl⟩ 83 (some (dictOf es k)) := I
  refine osa_open X' I' (by exact rfl) ht fun b => ?_
  obtain ⟨cd, hc, hd'⟩ : ∃ cd, clsIn (KK w) 83 = some cd ∧ cd.hasDict = true := ⟨_, by exact rfl, by exact rfl⟩
  refine wpAny_bind (wpAny_pure (wpAny_bind (wpAny_bind (wpAny_loadPart g1 (wpAny_bind ((looks_clsIn X' hc).here ?_))))))
  rw [hd']
  refine wpAny_pure (a := some dx) (wpAny_bind (wpAny_pure (wpAny_bind ?_)))
  unfold nsSet
  refine wpAny_bind (wpAny_bind (wpAny_askSetting (wpAny_pure (wpAny_bind (wpAny_mkText (wpAny_bind (wpAny_loadPart g2 ?_)))))))
  dsimp only
  have c : (!es.toArray.any (·.key.isStr a) && es.toArray.any (·.refKey)) = false := by
    rw [← Array.any_toList, ← Array.any_toList]
    show (_ && es.any _) = false
    rw [hr, Bool.and_false]
  rw [aRefKeyMayBeTheName_at, c]
  refine wpAny_updatePart g2 ?_
  have D' := Heap.get?_update_self (h := s.heap) (fun o => Obj.putName a (PyData.keyHash w.params a) (.str a (s.toks + 1)) v o) g2 (by rw [put_new hf]; rfl)
  rw [put_new hf] at D'
  refine wpAny_bind (wpAny_lookBehind D' (pastItsLine_dict (by rw [List.size_toArray, sizeLine_eq, List.length_append, List.length_singleton]; omega)) ?_)
  exact wpAny_pure (h _ _ _ D' ⟨_, rfl⟩ rfl (Heap.SameBut.update ..))
end
section
variable {w : World} {H : Heap} {A : Around} {env : Env} {M Mc Mw : List Addr} {σ : Vars} {B s : Shared} {n : Nat} {rest : List Stmt} {Kk : Flow → Shared → Prop} {E : Value → Shared → Prop}

theorem obj_of {h : Heap} {v : Value} {xo dx : Addr} {l : List D} (r : RdA h M v (.obj xo dx l)) : v = .ref xo ∧ xo ∈ M ∧ dx ∈ M ∧ ∃ sl es n, h.get? xo = some ⟨.ref 83, some dx, .plain, sl⟩ ∧ h.get? dx = some (dictOf es n) ∧ KeysAre es (wsNames.take l.length) ∧ RdL h M (es.map (·.val)) l := by
  unfold RdA at r; exact r

/-- self.a = e -/
theorem x_attr (T : Top0 (KK w) H) (S : St H B Mc env Mw σ s) {xo dx : Addr} {l : List D} {y a : Str} {e : Expr} {d : D} {yp apos pos : Pos} (hx : σ y = some (.obj xo dx l)) (he : EvT PG w H A env (Mw ++ Mc) σ e (.d d)) (hn : wsNames[l.length]? = some a) (hnew : a ∉ wsNames.take l.length) (ht : takerIn (KK w) 83 a = some none)
    (k : ∀ s', St H B Mc env Mw (upd σ y (.obj xo dx (l ++ [d]))) s' → wpAny (model PG w) A (execs rest env) Kk E s')
    (hyd : (y == ("__debug__" : Str)) = false := by decide) (hs : swapsWith e (some (.Attribute (.Name y yp) a apos)) pos.line env = pure false := by rfl) :
    wpAny (model PG w) A (execs (.Assign [.Attribute (.Name y yp) a apos] e pos :: rest) env) Kk E s := by
  have hlen : l.length < 5 := (List.getElem?_eq_some_iff.mp hn).1
  refine x_next (plainObj_wpAny_Assign_Attribute (he s _ _ S.e fun v s1 k1 r1 => ev_name hx hyd s1 _ _ (S.kp T k1).e fun u s2 k2 r2 => ?_) hs)
  have S2 := (S.kp T k1).kp T k2
  have rv := rda_d.mp (r1.kp T (S.kp T k1).e k2)
  obtain ⟨rfl, hxM, hdM, sl, es, m, g1, g2, ks, rl⟩ := obj_of r2
  have hdW : dx ∈ Mw := (S.ownW y _ hx dx (by unfold AV.addrs; exact .tail _ (.head _))).1
  have hxd : xo ≠ dx := by rintro rfl; rw [g1] at g2; cases g2
  have hel : es.length = l.length := by have := rl.length; rw [List.length_map] at this; exact this
  refine set_attr (S2.e.amb.inK T) g1 g2 ks hnew (by rw [hel]; omega) ht fun h' tk en g3 hk hv hsb => ⟨rfl, k _ ?_⟩
  have hdp := S2.e.ne_pt T hdM
  have kx := kpx_same (tk := tk) hsb hdp (ne93 T (S2.e.fresh dx hdM))
  have isD : ∀ {o : Obj}, s2.heap.get? dx = some o → o = dictOf es m := fun {o} e => by rw [g2] at e; exact (Option.some.inj e).symm
  have hL : env.locals ≠ dx := (S.sep y _ hx).2.1 dx (by unfold AV.addrs; exact .tail _ (.head _)) |>.1.symm
  have hC : ∀ z c, env.cells.lookup z = some c → c ≠ dx := fun z c e q => (S.sep y _ hx).2.1 dx (by unfold AV.addrs; exact .tail _ (.head _)) |>.2 z c e q.symm
  have keepD : ∀ {v : Value} {d : D}, Rd s2.heap (Mw ++ Mc) v d → Rd h' (Mw ++ Mc) v d := fun {v d} r => r.mono fun b o h1 _ e => ⟨h1, hsb.extBut b o (fun q => h1 (q ▸ hdM)) e⟩
  have keepL : ∀ {v : List Value} {d : List D}, RdL s2.heap (Mw ++ Mc) v d → RdL h' (Mw ++ Mc) v d := fun {v d} r => r.mono fun b o h1 _ e => ⟨h1, hsb.extBut b o (fun q => h1 (q ▸ hdM)) e⟩
  have put : ∀ z av', upd σ y (.obj xo dx (l ++ [d])) z = some av' → ∃ av, σ z = some av ∧ av'.addrs = av.addrs := fun z av' e => by
    unfold upd at e
    by_cases q : z = y
    · rw [if_pos q] at e; cases e
      exact ⟨_, q ▸ hx, by unfold AV.addrs; rfl⟩
    · rw [if_neg q] at e; exact ⟨av', e, rfl⟩
  refine S2.write T hdW kx ⟨_, g3⟩ (let ⟨m, n⟩ := S2.ns; ⟨m, n.at' fun o e => hsb.extBut _ o hL e⟩) (fun z c e => let ⟨v, o, g, r⟩ := S2.cells z c e; ⟨v, o, hsb.extBut _ _ (hC z c e) g, r⟩) (fun z av' e => ?_) (fun z av' e => ?_) (fun z av' e b hb => ?_)
  · have loads : ∀ {u}, Loads s2.heap env z u → Loads h' env z u := fun {u} l => by
      rcases l with ⟨e1, m0, n0, y0⟩ | ⟨e1, c, lc, o, g, dd⟩
      · exact .inl ⟨e1, _, n0.at' fun o e => hsb.extBut _ o hL e, y0⟩
      · exact .inr ⟨e1, c, lc, o, hsb.extBut _ _ (hC z c lc) g, dd⟩
    unfold upd at e
    by_cases q : z = y
    · rw [if_pos q] at e; cases e
      subst q
      obtain ⟨u, lo, ru⟩ := S2.e.vars z _ hx
      obtain ⟨rfl, _⟩ := obj_of ru
      refine ⟨_, loads lo, ?_⟩
      unfold RdA
      refine ⟨rfl, hxM, hdM, sl, es ++ [en], m + 1, hsb.extBut _ _ hxd g1, g3, ?_, ?_⟩
      · rw [List.length_append, List.length_singleton, List.take_add_one, hn]
        exact keys_snoc ks hk
      · rw [List.map_append, List.map_cons, List.map_nil, hv]
        exact (keepL rl).append (rdl_cons (keepD rv) rdl_nil)
    · rw [if_neg q] at e
      obtain ⟨u, lo, ru⟩ := S2.e.vars z av' e
      refine ⟨u, loads lo, ru.mono (fun b o h1 _ e => ⟨h1, hsb.extBut b o (fun q => h1 (q ▸ hdM)) e⟩) fun b hb => ⟨ru.mem b hb, fun o e' => hsb.extBut b o (fun q' => ?_) e'⟩⟩
      exact (S.sep z av' e).2.2 y _ hx q b hb (by unfold AV.addrs; rw [q']; exact .tail _ (.head _))
  · obtain ⟨av, e1, ea⟩ := put z av' e
    rw [ea]
    obtain ⟨h1, h2, h3⟩ := S.sep z av e1
    refine ⟨h1, h2, fun z2 av2 e2 hz => ?_⟩
    obtain ⟨av3, e3, ea3⟩ := put z2 av2 e2
    rw [ea3]
    exact h3 z2 av3 e3 hz
  · obtain ⟨av, e1, ea⟩ := put z av' e
    rw [ea] at hb
    exact S.ownW z av e1 b hb

theorem ev_raw (T : Top0 (KK w) H) {y : Str} {yp pos : Pos} {xo dx : Addr} {d : D} (hx : σ y = some (.obj xo dx [d])) (hyd : (y == ("__debug__" : Str)) = false := by decide) : EvT PG w H A env M σ (.Attribute (.Name y yp) "raw" pos) (.d d) := fun s Q E S h => by
  refine Attribute_name (ev_name hx hyd s _ _ S fun v s1 k1 r1 => ?_)
  obtain ⟨rfl, hxM, hdM, sl, es, m, g1, g2, ks, rl⟩ := obj_of r1
  obtain ⟨h0, t0, v0, es', q, ks⟩ := keys_cons (n := "raw") (ns := []) ks
  have q' := keys_nil ks
  subst q'
  subst q
  unfold RdL at rl
  obtain ⟨a0, r0, e0, b0, rl⟩ := rl
  simp only [List.map_cons, List.map_nil] at e0
  cases e0
  have I : InstAt s1.heap xo ⟨.ref 83, some dx, .plain, sl⟩ 83 (some (dictOf [⟨h0, .str "raw" t0, v0⟩] m)) := ⟨g1, rfl, rfl, g2⟩
  exact get_value ((S.kp T k1).amb.inK T) I (by exact rfl) (v := v0) (by exact rfl) (rd_handed b0) (h _ _ (k1.trans Kp.toks) (rda_d.mpr b0))

/-- Whitespace.S, Whitespace.T -/
theorem ev_cls (T : Top0 (KK w) H) {a : Str} {np pos : Pos} {mc : Value} {x : Str} {t : Tok} (hk : env.kindOf "Whitespace" = some .globalImplicit) (hr : readsIn (KK w) 83 mc = true) (e : findCls (KK w) (.ref 83) mc a = some (.val (.str x t))) : EvT PG w H A env M σ (.Attribute (.Name "Whitespace" np) a pos) (.d (.str x)) := fun s Q E S h => by
  refine Attribute_name (fn_glob T (f := .ref 83) (by exact rfl) hk (by decide) s np _ _ S ?_)
  exact cls_value (S.amb.inK T) hr e rfl (h _ _ Kp.toks rd_str)
end

theorem aok_under {A : Around} {n : Nat} {rest : List Value} {kw : List (Str × Value)} (h : AOk A (n + 1)) (hw : (Code.builtin "type.__call__" ⟨.ref 83 :: rest, kw⟩).weight = 1) (hu : (Code.builtin "type.__call__" ⟨.ref 83 :: rest, kw⟩).cUnits = 1) : AOk (A.under (.builtin "type.__call__" ⟨.ref 83 :: rest, kw⟩)) n :=
  ⟨h.hh, by have := h.dep; show A.depth + (Code.builtin "type.__call__" ⟨.ref 83 :: rest, kw⟩).weight + n + 20 < recursionLimit; rw [hw]; omega, by have := h.un; show A.units + (Code.builtin "type.__call__" ⟨.ref 83 :: rest, kw⟩).cUnits + 20 * n + 400 < cLine; rw [hu]; omega⟩
section
variable {w : World} {H : Heap} {A : Around} {env : Env} {M Mc Mw : List Addr} {σ : Vars} {B s : Shared} {n : Nat}
/-- the frame of __init__, with the new object its own -/
theorem init_st (T : Top0 (KK w) H) {s s₁ s' : Shared} {L xo dx : Addr} {x : Str} {y1 y2 : Str} (hy : y1 ≠ y2) (S : St H s₁ M env [L] (V [(y1, .d (.opq xo)), (y2, .d (.str x))]) s') (hcell : env.cells = []) (k01 : Kp s s₁) (amb : Amb H s.heap) (alive : ∀ m ∈ M, ∃ o, s.heap.get? m = some o) (hx0 : s.heap.get? xo = none) (hd0 : s.heap.get? dx = none) (hxd : xo ≠ dx)
    (g1 : s₁.heap.get? xo = some ⟨.ref 83, some dx, .plain, #[]⟩) (g2 : s₁.heap.get? dx = some (dictOf [] 0)) : St H s M env [L, xo, dx] (V [(y1, .obj xo dx []), (y2, .d (.str x))]) s' := by
  have hL : env.locals = L := List.mem_singleton.mp S.locW
  have nc : ∀ x c, env.cells.lookup x = some c → False := fun x c e => by rw [hcell] at e; simp at e
  have hLn : s₁.heap.get? L = none := S.off L (.head _)
  have xp : xo ≠ PT := by
    rintro rfl
    obtain ⟨ps, t, _⟩ := amb.tab
    rw [t.2] at hx0; cases hx0
  have dp : dx ≠ PT := by
    rintro rfl
    obtain ⟨ps, t, _⟩ := amb.tab
    rw [t.2] at hd0; cases hd0
  have g1' := S.base.heap _ _ xp (by simp) g1
  have g2' := S.base.heap _ _ dp (by simp) g2
  have Lx : L ≠ xo := by rintro rfl; rw [hLn] at g1; cases g1
  have Ld : L ≠ dx := by rintro rfl; rw [hLn] at g2; cases g2
  have xM : xo ∉ M := fun q => by obtain ⟨o, e⟩ := alive _ q; rw [hx0] at e; cases e
  have dM : dx ∉ M := fun q => by obtain ⟨o, e⟩ := alive _ q; rw [hd0] at e; cases e
  have k0 : Kp s s' := k01.trans S.base
  have parts : ∀ m ∈ [L, xo, dx] ++ M, m = xo ∨ m = dx ∨ m ∈ [L] ++ M := fun m hm => by
    simp only [List.cons_append, List.nil_append, List.mem_cons] at hm ⊢
    rcases hm with h | h | h | h
    · exact .inr (.inr (.inl h))
    · exact .inl h
    · exact .inr (.inl h)
    · exact .inr (.inr (.inr h))
  have loads : ∀ {y : Str} {av : AV}, V [(y1, .d (.opq xo)), (y2, .d (.str x))] y = some av → ∃ v, Loads s'.heap env y v ∧ RdA s'.heap ([L] ++ M) v av := fun {y av} e => S.e.vars y av e
  have v1 : V [(y1, AV.d (.opq xo)), (y2, .d (.str x))] y1 = some (.d (.opq xo)) := by show List.lookup _ _ = _; simp
  have v2 : V [(y1, AV.d (.opq xo)), (y2, .d (.str x))] y2 = some (.d (.str x)) := by
    show List.lookup _ _ = _
    have : (y2 == y1) = false := by simpa using fun q => hy q.symm
    simp [List.lookup, this]
  have cases2 : ∀ {y : Str} {av : AV}, V [(y1, .obj xo dx []), (y2, .d (.str x))] y = some av → (y = y1 ∧ av = .obj xo dx []) ∨ (y = y2 ∧ av = .d (.str x)) := fun {y av} e => by
    have := lookup_mem_any e
    rcases List.mem_cons.mp this with q | q
    · cases q; exact .inl ⟨rfl, rfl⟩
    · have q := List.mem_singleton.mp q; cases q; exact .inr ⟨rfl, rfl⟩
  exact {
    e := {
      amb := S.e.amb
      alive := fun m hm => by
        rcases parts m hm with rfl | rfl | q
        · exact ⟨_, g1'⟩
        · exact ⟨_, g2'⟩
        · exact S.e.alive m q
      fresh := fun m hm => by
        rcases parts m hm with rfl | rfl | q
        · exact amb.none_of hx0
        · exact amb.none_of hd0
        · exact S.e.fresh m q
      locM := by rw [hL]; exact .head _
      cellM := fun x c e => (nc x c e).elim
      kind := S.e.kind, glob := S.e.glob, blt := S.e.blt
      vars := fun y av e => by
        rcases cases2 e with ⟨rfl, rfl⟩ | ⟨rfl, rfl⟩
        · obtain ⟨v, l, r⟩ := loads v1
          have r := rda_d.mp r
          unfold Rd at r
          obtain ⟨rfl, _⟩ := r
          refine ⟨_, l, ?_⟩
          unfold RdA
          exact ⟨rfl, .tail _ (.head _), .tail _ (.tail _ (.head _)), #[], [], 0, g1', g2', trivial, rdl_nil⟩
        · obtain ⟨v, l, r⟩ := loads v2
          exact ⟨v, l, rda_d.mpr ((rda_d.mp r).flat rfl)⟩ }
    base := k0
    off := fun m hm => by
      rcases List.mem_cons.mp hm with rfl | hm
      · exact Kp.none amb k01 hLn
      · rcases List.mem_cons.mp hm with rfl | hm
        · exact hx0
        · rw [List.mem_singleton.mp hm]; exact hd0
    locW := by rw [hL]; exact .head _
    cellW := fun x c e _ => (nc x c e).elim
    cellN := fun x _ c e _ => (nc x c e).elim
    locC := fun x c e => (nc x c e).elim
    ns := S.ns
    cells := fun x c e => (nc x c e).elim
    sep := fun y av e => by
      rcases cases2 e with ⟨rfl, rfl⟩ | ⟨rfl, rfl⟩
      · refine ⟨by unfold AV.addrs; simpa using hxd, fun a ha => ⟨?_, fun y c e => (nc y c e).elim⟩, fun z av' e' hz a ha => ?_⟩
        · rw [hL]
          unfold AV.addrs at ha
          rcases List.mem_cons.mp ha with rfl | ha
          · exact Lx.symm
          · rw [List.mem_singleton.mp ha]; exact Ld.symm
        · rcases cases2 e' with ⟨rfl, rfl⟩ | ⟨rfl, rfl⟩
          · exact absurd rfl hz
          · unfold AV.addrs; simp
      · unfold AV.addrs
        exact ⟨.nil, fun _ h => (nomatch h), fun _ _ _ _ _ h => (nomatch h)⟩
    ownW := fun y av e a ha => by
      rcases cases2 e with ⟨rfl, rfl⟩ | ⟨rfl, rfl⟩
      · unfold AV.addrs at ha
        rcases List.mem_cons.mp ha with rfl | ha
        · exact ⟨.tail _ (.head _), xM⟩
        · rw [List.mem_singleton.mp ha]; exact ⟨.tail _ (.tail _ (.head _)), dM⟩
      · unfold AV.addrs at ha; cases ha }
end
section
variable {w : World} {H : Heap} {A : Around} {M : List Addr} {n : Nat}
theorem make_with (T : Top0 (KK w) H) (hA : AOk A (n + 2)) {x : Str} {y1 y2 : Str} {qual : Str} {body : List Stmt} {scope : Scope} {cdv : Value} {l : List D} (F : FnIs (KK w) 38 qual [y1, y2] body scope cdv) (hg : scope.isGenerator = false) (hnc : ∀ L, cellsFrom (L + 1) scope.names [] = []) (hy : y1 ≠ y2)
    (hb : ∀ L xo dx A' s s' Kk E, AOk A' n → St H s M (fenv qual scope L 38 cdv) [L, xo, dx] (V [(y1, .obj xo dx []), (y2, .d (.str x))]) s' → (∀ s'' Mw σ, St H s M (fenv qual scope L 38 cdv) Mw σ s'' → σ y1 = some (.obj xo dx l) → Kk .next s'') → wpAny (model PG w) A' (execs body (fenv qual scope L 38 cdv)) Kk E s') :
    CallT PG w H A M (.ref 83) [.d (.str x)] (.d (.inst l)) := fun s vs Q E amb alive fresh r h => by
  obtain ⟨v, rfl, rv⟩ := one_of r
  obtain ⟨t, rfl⟩ := str_of rv
  obtain ⟨hp, g, dr, tk, os⟩ := s
  have X := amb.inK T
  have hA1 : AOk (A.under (.builtin "type.__call__" ⟨.ref 83 :: [.str x t], []⟩)) (n + 1) := aok_under hA (by rfl) (by rfl)
  refine wpAny_call (make_core (makes_of X (by exact rfl)) (looks_findIn X (r := some (.ref 38)) (by exact rfl)) (fun self => bind_fn X self (by exact rfl)) (.inl rfl) ?_)
  have k1 : Kp ⟨hp, g, dr, tk, os⟩ ⟨(hp.push emptyDict).push (instObj 83 hp.objs.size), g, dr, tk, os⟩ := Kp.of (s := ⟨hp, g, dr, tk, os⟩) (tk := tk) fun b o e => Heap.get?_push_of_some _ (Heap.get?_push_of_some _ e)
  have hx0 : hp.get? (hp.objs.size + 1) = none := Heap.get?_none_of_le (Nat.le_succ _)
  have hd0 : hp.get? hp.objs.size = none := Heap.get?_none_of_le (Nat.le_refl _)
  have sz : (hp.push emptyDict).objs.size = hp.objs.size + 1 := Heap.size_push ..
  have g1 : ((hp.push emptyDict).push (instObj 83 hp.objs.size)).get? (hp.objs.size + 1) = some ⟨.ref 83, some hp.objs.size, .plain, #[]⟩ := by rw [← sz]; exact Heap.get?_push_size _ rfl
  have g2 : ((hp.push emptyDict).push (instObj 83 hp.objs.size)).get? hp.objs.size = some (dictOf [] 0) := Heap.get?_push_of_some _ (Heap.get?_push_size _ rfl)
  generalize hs1 : (⟨(hp.push emptyDict).push (instObj 83 hp.objs.size), g, dr, tk, os⟩ : Shared) = s1 at *
  have g1' : s1.heap.get? (hp.objs.size + 1) = some ⟨.ref 83, some hp.objs.size, .plain, #[]⟩ := by rw [← hs1]; exact g1
  have g2' : s1.heap.get? hp.objs.size = some (dictOf [] 0) := by rw [← hs1]; exact g2
  have amb1 := amb.kp k1
  have alive1 : ∀ m ∈ M, ∃ o, s1.heap.get? m = some o := fun m hm => by
    obtain ⟨o, e⟩ := alive m hm
    refine ⟨o, k1.heap m o ?_ (by simp) e⟩
    rintro rfl
    obtain ⟨ps, tt⟩ := T.tab
    have := fresh _ hm
    rw [tt.2] at this; cases this
  have xp : hp.objs.size + 1 ≠ PT := by
    intro q
    obtain ⟨ps, tt, _⟩ := amb.tab
    rw [q] at hx0
    rw [show (⟨hp, g, dr, tk, os⟩ : Shared).heap = hp from rfl] at *
    rw [tt.2] at hx0; cases hx0
  have xM : hp.objs.size + 1 ∉ M := fun q => by obtain ⟨o, e⟩ := alive _ q; have e' : hp.get? _ = _ := e; rw [hx0] at e'; cases e'
  have rd1 : RdL s1.heap M [.ref (hp.objs.size + 1), .str x t] [.opq (hp.objs.size + 1), .str x] := rdl_cons (by unfold Rd; exact ⟨rfl, xM, xp, _, g1'⟩) (rdl_cons (by unfold Rd; exact ⟨_, rfl⟩) rdl_nil)
  obtain ⟨oc, od, osl, name, params, dV, kV, doc, pm, an, ct, ho, hbind⟩ := F.look
  refine codeAny_call_function hA1.room (amb1.inK T _ _ ho) rfl F.co hg rfl (codeRec_of (amb1.inK T) F.code) ?_
  rw [hbind _ rfl]
  refine wpAny_pure ?_
  refine wpAny_newFunctionEnv_cells F.kind (fun z hz => ?_) fun env he s' y => ?_
  · have hyp : z.1 ∈ [y1, y2] := (List.of_mem_zip (show (z.1, z.2) ∈ [y1, y2].zip _ from hz)).1
    have := List.all_eq_true.mp F.kinds z.1 hyp
    rcases Bool.or_eq_true_iff.mp this with q | q
    · exact .inl (beq_iff_eq.mp q)
    · exact .inr ⟨beq_iff_eq.mp q, cellsFrom_some scope.names (s1.heap.objs.size + 1) [] (.inl (beq_iff_eq.mp q))⟩
  · subst he
    have S := enter T F amb1 alive1 fresh rd1 rfl y
    have mw : mwOf scope s1.heap.objs.size = [s1.heap.objs.size] := by
      show _ :: (cellsFrom (s1.heap.objs.size + 1) scope.names []).map (·.2) = _
      rw [hnc]; rfl
    rw [mw, vars0_V] at S
    refine ⟨(S.e.amb.nolimit T), codeAny_func ?_⟩
    have S0 := init_st T hy S (hnc _) k1 amb alive hx0 hd0 (Nat.succ_ne_self _) g1' g2'
    refine hb s1.heap.objs.size (hp.objs.size + 1) hp.objs.size _ _ s' _ _ hA1.deeper S0 fun s'' Mw σ S2 hσ => ⟨rfl, ?_⟩
    obtain ⟨v, lo, ro⟩ := S2.e.vars y1 _ hσ
    obtain ⟨rfl, _⟩ := obj_of ro
    refine h _ s'' S2.base (rda_d.mpr ?_)
    have := ro.frz (M' := M) (fun b hb => List.mem_append.mpr (.inr hb)) (let ⟨ps, t, _⟩ := S2.e.amb.tab; .inr ⟨_, t.2⟩) fun b hb q => (S2.ownW y1 _ hσ b hb).2 q
    exact this
end

abbrev WV (xo dx a : Addr) (x : Str) (st : WS) : List (Str × AV) := [("count", .own a ((st.1.map D.int).map .d)), ("b", .d (.int st.2.1)), ("n", .d (.int st.2.2.1)), ("nt", .d (.int st.2.2.2)), ("S", .d (.str " ")), ("T", .d (.str "\t")), ("self", .obj xo dx [.str x])]
structure WI (x : Str) (i : Nat) (st : WS) : Prop where
  b0 : 0 ≤ st.2.1
  b : st.2.1 ≤ i
  len : st.1.length ≤ i
theorem zeros_map (k : Nat) : ((List.replicate k [(0 : Int)]).flatten).map D.int = (List.replicate k [D.int 0]).flatten := by
  rw [List.map_flatten, List.map_replicate]; rfl
theorem zeros_len (k : Nat) : ((List.replicate k [(0 : Int)]).flatten).length = k := by simp
theorem own_get {c : List Int} {k : Nat} (h : k < c.length) : ((c.map D.int).map AV.d)[k]? = some (.d (.int (c.getD k 0))) := by
  rw [List.getElem?_map, List.getElem?_map, List.getElem?_eq_getElem h, List.getD_eq_getElem?_getD, List.getElem?_eq_getElem h]; rfl
section
variable {w : World} {H : Heap} {A : Around} {M : List Addr} {n : Nat}
theorem c_make (T : Top0 (KK w) H) (hA : AOk A (n + 2)) {x : Str} (hx : x.length ≤ 200) : CallT PG w H A M (.ref 83) [.d (.str x)] (.d (instD x)) := by
  refine make_with (y1 := "self") (y2 := "ws") (qual := ?q) (body := ?b) (scope := ?s) (cdv := ?c) T hA ?F ?g ?nc (by decide) ?hb
  case F => walk_at "fnis2"
  case g => rfl
  case nc => intro L; rfl
  case hb =>
    intro L xo dx A' s s' Kk E hA' S k
    have xl : x.cps.toList.length = x.length := by simp [Str.length]
    refine x_attr T S rfl (ev_name rfl) rfl (by decide) (by exact rfl) fun s1 S1 => ?_
    rw [upd_V] at S1
    refine x_tup_sw T S1 hA'.hh [("S", .str " "), ("T", .str "\t")] (ev_tuple (ds := [.str " ", .str "\t"]) T (evs_cons T (ev_cls (mc := .type "type") T rfl (by exact rfl) (by exact rfl)) (evs_cons T (ev_cls (mc := .type "type") T rfl (by exact rfl) (by exact rfl)) evs_nil)) (by decide)) (fun s2 S2 => ?_) (by walk_at "mbinds")
    simp only [List.reverse_cons, List.reverse_nil, List.nil_append, List.cons_append, List.foldl_cons, List.foldl_nil, upd_V] at S2
    refine x_new T S2 (evn_list (l := []) T evs_nil (by decide)) (.inl rfl) fun a s3 S3 => ?_
    refine x_three T S3 ev_int (.inl rfl) (.inl rfl) (.inl rfl) fun s4 S4 => ?_
    simp only [upd_V] at S4
    have S5 := S4.V (WV xo dx a x ([], 0, 0, 0)) (by unfold WV; walk_at "mvsub")
    have hgo : ∀ i st c, x.cps.toList[i]? = some c → wsGo (x.cps.toList.drop i) st = (if ((⟨#[c]⟩ : Str) == " " || (⟨#[c]⟩ : Str) == "\t") then wsGo (x.cps.toList.drop (i + 1)) (wsStep st c) else st) := fun i st c hc => by
      have hlt := (List.getElem?_eq_some_iff.mp hc).1
      rw [List.drop_eq_getElem_cons hlt, (List.getElem?_eq_some_iff.mp hc).2]
      rfl
    refine x_forN (g := fun c : Nat => .str ⟨#[c]⟩) (xs := x.cps.toList) T S5 (fun i l => ∃ a st, l = WV xo dx a x st ∧ WI x i st ∧ wsGo (x.cps.toList.drop i) st = wsOf x) (fun l => ∃ a st, l = WV xo dx a x st ∧ WI x 200 st ∧ st = wsOf x) (fun _ => False) rfl
      (ItT.toW (it_str T hA'.hh (ev_raw T rfl))) (.inl rfl) ⟨a, _, rfl, ⟨by decide, by decide, by decide⟩, rfl⟩ (fun i c l B' Mc' Mw s' Kk' E' hj hc S' nx brk _ => ?_) (fun Mw l' s' hJ S' => ?_) (fun _ _ _ h => h.elim)
    · obtain ⟨a, st, rfl, hI, hg⟩ := hj
      rw [hgo i st c hc] at hg
      have hi : i < 200 := by have := (List.getElem?_eq_some_iff.mp hc).1; omega
      have b0 := hI.b0
      have b1 := hI.b
      have b2 := hI.len
      have big : (2000 : Nat) ≤ sizeLine := by decide
      obtain ⟨cnt, bb, nn, nt⟩ := st
      simp only at b0 b1 b2
      refine x_if T S' (ts_cmp T (ev_name rfl) (ev_name rfl) cmp_eq_str) (fun hq s6 S6 => ?_) (fun hq s6 S6 => ?_)
      · rw [if_pos (by rw [hq]; rfl)] at hg
        unfold wsStep at hg
        rw [if_pos hq] at hg
        refine x_assign T S6 (ev_bin T (ev_name rfl) ev_int op_add) (.inl rfl) fun s7 S7 => ?_
        refine x_assign T S7 (ev_bin T (ev_name rfl) ev_int op_add) (.inl rfl) fun s8 S8 => ?_
        rw [upd_V, upd_V] at S8
        refine x_nil (x_nil ?_)
        exact nx _ _ _ ⟨a, _, rfl, ⟨by show 0 ≤ bb + 1; omega, by show bb + 1 ≤ ((i + 1 : Nat) : Int); omega, by show cnt.length ≤ i + 1; omega⟩, hg⟩ (S8.V _ (by unfold WV; walk_at "mvsub"))
      · refine x_if T S6 (ts_cmp T (ev_name rfl) (ev_name rfl) cmp_eq_str) (fun hq2 s7 S7 => ?_) (fun hq2 s7 S7 => ?_)
        · rw [if_pos (by rw [hq, hq2]; rfl)] at hg
          unfold wsStep at hg
          rw [if_neg (by rw [hq]; exact Bool.false_ne_true)] at hg
          refine x_assign T S7 (ev_bin T (ev_name rfl) ev_int op_add) (.inl rfl) fun s8 S8 => ?_
          refine x_assign T S8 (ev_bin T (ev_name rfl) ev_int op_add) (.inl rfl) fun s9 S9 => ?_
          rw [upd_V, upd_V] at S9
          have lens : ((cnt.map D.int).map AV.d).length = cnt.length := by rw [List.length_map, List.length_map]
          refine x_if T S9 (ts_cmp T (ev_name rfl) (EvT.cast (ev_call T (fn_blt T gn_len bb_len rfl) trivial (evs_cons T (ev_name rfl) evs_nil) (len_of_own (by rw [lens]; omega))) (by rw [lens])) cmp_ge_int) (fun hq3 s10 S10 => ?_) (fun hq3 s10 S10 => ?_)
          · have hge : bb ≥ (cnt.length : Int) := of_decide_eq_true hq3
            simp only [hq3, if_true] at hg
            generalize hz : (List.replicate (bb - (cnt.length : Int) + 1).toNat [(0 : Int)]).flatten = zs at hg
            have hzl : (zs.length : Int) = bb - (cnt.length : Int) + 1 := by rw [← hz, zeros_len]; omega
            have hzm : zs.map D.int = (List.replicate (bb - (cnt.length : Int) + 1).toNat [D.int 0]).flatten := by rw [← hz, zeros_map]
            refine x_new (l := cnt.map D.int ++ zs.map D.int) T S10 (evn_add T (.inr ⟨a, rfl⟩) (.inl rfl) (ev_name rfl) (hzm ▸ (evn_mul (la := [.int 0]) T (.inl rfl) (ev_list (ds := [.int 0]) T (evs_cons T ev_int evs_nil) (by decide)) (ev_bin T (ev_bin T (ev_name rfl) (EvT.cast (ev_call T (fn_blt T gn_len bb_len rfl) trivial (evs_cons T (ev_name rfl) evs_nil) (len_of_own (by rw [lens]; omega))) (by rw [lens])) op_sub) ev_int op_add) (by omega) (by omega) (by simp; omega)).ev T) (by rw [List.length_map, List.length_map]; omega)) (.inl rfl) fun a2 s11 S11 => ?_
            rw [upd_V] at S11
            rw [← List.map_append] at S11
            have hlen2 : bb.toNat < (cnt ++ zs).length := by rw [List.length_append]; omega
            have hlen3 : (cnt ++ zs).length ≤ i + 1 := by rw [List.length_append]; omega
            refine x_nil ?_
            refine x_setitem (a := a2) (l := (cnt ++ zs).map D.int) (n := bb) (d := .int ((cnt ++ zs).getD bb.toNat 0 + 1)) T S11 (S11.ownW "count" _ rfl a2 (by simp [AV.addrs])).1 (ev_bin T (ev_item_own (b := a2) (x := .d (.int ((cnt ++ zs).getD bb.toNat 0))) T (ev_name rfl) (ev_name rfl) b0 (own_get hlen2) (by show bb < _; omega)) ev_int op_add) (ev_name rfl) (ev_name rfl) b0 (by rw [List.length_map]; omega) (by omega) fun s12 S12 => ?_
            rw [putV_V, ← List.map_set] at S12
            simp only [List.map_cons, List.map_nil, AV.put, if_true] at S12
            refine x_assign T S12 ev_int (.inl rfl) fun s13 S13 => ?_
            rw [upd_V] at S13
            refine x_nil (x_nil (x_nil ?_))
            exact nx _ _ _ ⟨a2, ((cnt ++ zs).set bb.toNat ((cnt ++ zs).getD bb.toNat 0 + 1), 0, nn + 1, nt + 1), rfl, ⟨Int.le_refl _, by show (0 : Int) ≤ ((i + 1 : Nat) : Int); omega, by show ((cnt ++ zs).set _ _).length ≤ i + 1; rw [List.length_set]; omega⟩, hg⟩ (S13.V _ (by unfold WV; walk_at "mvsub"))
          · have hlt3 : ¬ bb ≥ (cnt.length : Int) := fun q => by rw [decide_eq_true q] at hq3; cases hq3
            simp only [hq3, Bool.false_eq_true, if_false] at hg
            have hlen2 : bb.toNat < cnt.length := by omega
            refine x_nil ?_
            refine x_setitem (a := a) (l := (cnt).map D.int) (n := bb) (d := .int ((cnt).getD bb.toNat 0 + 1)) T S10 (S10.ownW "count" _ rfl a (by simp [AV.addrs])).1 (ev_bin T (ev_item_own (b := a) (x := .d (.int ((cnt).getD bb.toNat 0))) T (ev_name rfl) (ev_name rfl) b0 (own_get hlen2) (by show bb < _; omega)) ev_int op_add) (ev_name rfl) (ev_name rfl) b0 (by rw [List.length_map]; omega) (by omega) fun s12 S12 => ?_
            rw [putV_V, ← List.map_set] at S12
            simp only [List.map_cons, List.map_nil, AV.put, if_true] at S12
            refine x_assign T S12 ev_int (.inl rfl) fun s13 S13 => ?_
            rw [upd_V] at S13
            refine x_nil (x_nil (x_nil ?_))
            exact nx _ _ _ ⟨a, ((cnt).set bb.toNat ((cnt).getD bb.toNat 0 + 1), 0, nn + 1, nt + 1), rfl, ⟨Int.le_refl _, by show (0 : Int) ≤ ((i + 1 : Nat) : Int); omega, by show ((cnt).set _ _).length ≤ i + 1; rw [List.length_set]; omega⟩, hg⟩ (S13.V _ (by unfold WV; walk_at "mvsub"))
        · rw [if_neg (by rw [hq, hq2]; exact Bool.false_ne_true)] at hg
          refine x_break ?_
          exact brk _ _ _ ⟨a, (cnt, bb, nn, nt), rfl, ⟨b0, by show bb ≤ ((200 : Nat) : Int); omega, by show cnt.length ≤ 200; omega⟩, hg⟩ (S7.V _ (by unfold WV; walk_at "mvsub"))
    · obtain ⟨a, st, rfl, hI, hst⟩ : ∃ a st, l' = WV xo dx a x st ∧ WI x 200 st ∧ st = wsOf x := by
        rcases hJ with ⟨a, st, e, hI, hg⟩ | h
        · refine ⟨a, st, e, ⟨hI.b0, by have := hI.b; omega, by have := hI.len; omega⟩, ?_⟩
          rw [List.drop_length] at hg
          exact hg
        · exact h
      have big : (2000 : Nat) ≤ sizeLine := by decide
      have hl := hI.len
      have lens : ((st.1.map D.int).map AV.d).length = st.1.length := by rw [List.length_map, List.length_map]
      have el : instD x = .inst [.str x, .int st.2.2.1, .int st.2.2.2, normD st, .bool (decide ((st.1.length : Int) ≤ 1))] := by rw [hst]
      refine x_attr T S' rfl (ev_name rfl) rfl (by show _ ∉ List.take 1 wsNames; decide) (by exact rfl) fun s6 S6 => ?_
      refine x_attr T S6 rfl (ev_name rfl) rfl (by show _ ∉ List.take 2 wsNames; decide) (by exact rfl) fun s7 S7 => ?_
      refine x_attr T S7 rfl (ev_tuple (ds := [.tup (st.1.map .int), .int st.2.1]) T (evs_cons T (ev_call T (fn_blt T gn_tuple bb_tuple rfl) trivial (evs_cons T (ev_name rfl) evs_nil) (tuple_own T (by rw [List.length_map]; omega))) (evs_cons T (ev_name rfl) evs_nil)) (by walk_at "msz")) rfl (by show _ ∉ List.take 3 wsNames; decide) (by exact rfl) fun s8 S8 => ?_
      refine x_attr T S8 rfl (ev_cmp T (EvT.cast (ev_call T (fn_blt T gn_len bb_len rfl) trivial (evs_cons T (ev_name rfl) evs_nil) (len_of_own (by rw [lens]; omega))) (by rw [lens])) ev_int cmp_le_int) rfl (by show _ ∉ List.take 4 wsNames; decide) (by exact rfl) fun s9 S9 => ?_
      refine x_nil (k _ _ _ S9 ?_)
      rw [hst]
      rfl
end

section
variable {prog : Program} {w : World} {K : Frag} {H : Heap} {A : Around} {env : Env} {Mc Mw : List Addr} {σ : Vars} {B : Shared} {s : Shared} {rest : List Stmt} {Kk : Flow → Shared → Prop} {E : Value → Shared → Prop}
/-- an if whose branches meet again -/
theorem x_ifV (T : Top0 K H) (S : St H B Mc env Mw σ s) {t : Expr} {body orelse : List Stmt} {pos : Pos} {b : Bool} (l2 : List (Str × AV)) (h : TsT prog w H A env (Mw ++ Mc) σ t b)
    (h1 : b = true → ∀ s', St H B Mc env Mw σ s' → wpAny (model prog w) A (execs body env) (fun f s'' => f = .next ∧ ∃ Mw, St H B Mc env Mw (V l2) s'') E s')
    (h2 : b = false → ∀ s', St H B Mc env Mw σ s' → wpAny (model prog w) A (execs orelse env) (fun f s'' => f = .next ∧ ∃ Mw, St H B Mc env Mw (V l2) s'') E s')
    (hr : ∀ Mw s', St H B Mc env Mw (V l2) s' → wpAny (model prog w) A (execs rest env) Kk E s') :
    wpAny (model prog w) A (execs (.If t body orelse pos :: rest) env) Kk E s := by
  refine x_if T S h (fun hb s' S' => wpAny_mono (h1 hb s' S') (fun f s'' q => ?_) fun _ _ e => e) (fun hb s' S' => wpAny_mono (h2 hb s' S') (fun f s'' q => ?_) fun _ _ e => e)
  · obtain ⟨rfl, Mw, q⟩ := q; exact hr Mw s'' q
  · obtain ⟨rfl, Mw, q⟩ := q; exact hr Mw s'' q
end
def dresses : List Str := ["", "\\(", "\")\"", "\"\\\")\"", "\\\\", "a\\\""]
def showOf (low l : Int) : Str := if decide (255 + l - low ≥ 256) then (if (255 + l - low - 256) == 0 then ("(" : Str) else ("\"(\"" : Str)) else (if (255 + l - low - 255) == 0 then (")" : Str) else ("\\)" : Str))
def pieceOf (low : Int) (rides row : List Int) (k : Nat) : Str := dresses.getD (rides.getD k 0).toNat "" ++ showOf low (row.getD k 0)
def pieces (low : Int) (rides row : List Int) : List Str := (List.range row.length).map (pieceOf low rides row)
def opening (low : Int) (row : List Int) : List Int := ((List.range row.length).filter fun k => showOf low (row.getD k 0) == "(").map fun k => ((k : Nat) : Int)
def closing (low : Int) (row : List Int) : List Int := ((List.range row.length).filter fun k => showOf low (row.getD k 0) == ")").map fun k => ((k : Nat) : Int)
theorem showOf_len (low l : Int) : (showOf low l).length ≤ 3 := by unfold showOf; split <;> split <;> decide
theorem dress_len (i : Nat) : (dresses.getD i "").length ≤ 5 := by
  match i with
  | 0 => decide
  | 1 => decide
  | 2 => decide
  | 3 => decide
  | 4 => decide
  | 5 => decide
  | i + 6 =>
    have : dresses.getD (i + 6) "" = "" := by rw [List.getD_eq_getElem?_getD, List.getElem?_eq_none (by show 6 ≤ i + 6; omega)]; rfl
    rw [this]; decide
/-- five rides -/
structure Rides (rides : List Int) : Prop where
  len : rides.length = 5
  dig : ∀ k, k < 5 → 0 ≤ rides.getD k 0 ∧ rides.getD k 0 < 6
abbrev bracketsD (low : Int) (rides row : List Int) : D := .tup [LS (pieces low rides row), LI (opening low row), LI (closing low row)]

section
variable {w : World} {H : Heap} {A : Around} {M : List Addr} {n : Nat}
theorem c_nonterminal (T : Top0 (KK w) H) (hA : AOk A (n + 1)) (x : Int) : CallT PG w H A M (.ref 132) [.d (.int x)] (.d (.bool (decide (x ≥ 256)))) := by
  refine call_fun (ps := ["x"]) (ds := [.int x]) T hA (qual := ?q) (body := ?b) (scope := ?s) (cdv := ?c) ?F ?g ?l ?hb
  case F => walk_at "fnis1"
  case g => rfl
  case l => rfl
  case hb =>
    intro L A' hA'
    rw [vars0_V]
    intro B s Kk E S k
    refine x_return T S (ev_cmp T (ev_name rfl) (ev_glob_int T rfl rfl) cmp_ge_int) fun v s' S' r => k v s' S'.base r
theorem c_eof (T : Top0 (KK w) H) (hA : AOk A (n + 1)) (x : Int) : CallT PG w H A M (.ref 139) [.d (.int x)] (.d (.bool (x == 0))) := by
  refine call_fun (ps := ["x"]) (ds := [.int x]) T hA (qual := ?q) (body := ?b) (scope := ?s) (cdv := ?c) ?F ?g ?l ?hb
  case F => walk_at "fnis1"
  case g => rfl
  case l => rfl
  case hb =>
    intro L A' hA'
    rw [vars0_V]
    intro B s Kk E S k
    refine x_return T S (ev_cmp T (ev_name rfl) (ev_glob_int T rfl rfl) cmp_eq_int) fun v s' S' r => k v s' S'.base r

theorem c_brackets (T : Top0 (KK w) H) (hA : AOk A (n + 2)) {row rides : List Int} {low : Int} (hr : Row row) (hd : Rides rides) : CallT PG w H A M (.ref 144) [.d (LI row), .d (.int low), .d (LI rides)] (.d (bracketsD low rides row)) := by
  refine call_fun (ps := ["row", "low", "rides"]) (ds := [LI row, .int low, LI rides]) T hA (qual := ?q) (body := ?b) (scope := ?s) (cdv := ?c) ?F ?g ?l ?hb
  case F => walk_at "fnis3"
  case g => rfl
  case l => rfl
  case hb =>
    intro L A' hA'
    rw [vars0_V]
    intro B s Kk E S k
    refine x_assign T S (EvT.cast (ev_list (ds := [.str _, .str _, .str _, .str _, .str _, .str _]) T (evs_cons T ev_str (evs_cons T ev_str (evs_cons T ev_str (evs_cons T ev_str (evs_cons T ev_str (evs_cons T ev_str evs_nil)))))) (by walk_at "msz")) (show _ = AV.d (LS dresses) from rfl)) (.inr ⟨rfl, rfl, rfl⟩) fun s1 S1 => ?_
    refine x_new T S1 (evn_list (l := []) T evs_nil (by decide)) (.inr ⟨rfl, rfl, rfl⟩) fun a s2 S2 => ?_
    rw [upd_V, upd_V] at S2
    have hl := hr.len
    let VV : Addr → Nat → List (Str × AV) := fun a i => [("shows", AV.own a ((((row.take i).map (showOf low)).map D.str).map .d)), ("dresses", .d (LS dresses)), ("row", .d (LI row)), ("low", .d (.int low)), ("rides", .d (LI rides))]
    have S3 := S2.V (VV a 0) (by simp only [VV]; walk_at "mvsub")
    refine x_forN (g := .int) (xs := row) T S3 (fun i l => ∃ a, l = VV a i) (fun _ => False) (fun _ => False) rfl (ItT.toW (it_list T hA'.hh (ev_name rfl))) (.inl rfl) ⟨a, rfl⟩ (fun i c l B' Mc' Mw s' Kk' E' hj hc S' nx _ _ => ?_) (fun Mw l' s' hJ S' => ?_) (fun _ _ _ h => h.elim)
    · obtain ⟨a, rfl⟩ := hj
      have hi5 : i < 5 := by have := (List.getElem?_eq_some_iff.mp hc).1; omega
      have et : (row.take (i + 1)).map (showOf low) = (row.take i).map (showOf low) ++ [showOf low c] := by rw [List.take_add_one, hc, List.map_append]; rfl
      refine x_assign T S' (ev_bin T (ev_bin T ev_int (ev_name rfl) op_add) (ev_name rfl) op_sub) (.inl rfl) fun s5 S5 => ?_
      refine x_assign T S5 (ev_call T (fn_glob T ga_132 rfl) kf_132 (evs_cons T (ev_name rfl) evs_nil) (c_nonterminal T hA' _)) (.inl rfl) fun s6 S6 => ?_
      refine x_assign T S6 ev_str (.inl rfl) fun s7 S7 => ?_
      rw [upd_V, upd_V, upd_V] at S7
      generalize hsy : 255 + c - low = sy at *
      have big : (1002 : Nat) ≤ sizeLine := by decide
      refine x_ifV T S7 (("shown", .d (.str (showOf low c))) :: VV a i) (b := (decide (sy ≥ 256) == true) && ((decide (sy < 256) == false) && true)) (ts_boolop (all_and T (ts_cmp T (ev_name rfl) ev_bool cmp_is_bool) fun _ => all_and T (ts_cmp T (ev_call T (fn_glob T ga_125 rfl) kf_125 (evs_cons T (ev_name rfl) evs_nil) (c_terminal T hA' _)) ev_bool cmp_is_bool) fun _ => all_nil_and)) (fun hq s8 S8 => ?_) (fun hq s8 S8 => ?_) (fun Mw8 s8 S8 => ?_)
      · have hu : sy ≥ 256 := by
          by_cases q : sy ≥ 256
          · exact q
          · rw [decide_eq_false q] at hq; cases hq
        have es : showOf low c = (if (sy - 256) == 0 then ("(" : Str) else ("\"(\"" : Str)) := by unfold showOf; rw [hsy, if_pos (decide_eq_true hu)]
        refine x_assign T S8 (ev_ifexp T (b := ((sy - 256) == 0) == true) (av := .d (.str (showOf low c))) (ts_cmp T (ev_call T (fn_glob T ga_139 rfl) kf_139 (evs_cons T (ev_bin T (ev_name rfl) ev_int op_sub) evs_nil) (c_eof T hA' _)) ev_bool cmp_is_bool) (fun h => EvT.cast ev_str (by rw [es]; rw [beq_true] at h; rw [if_pos h])) (fun h => EvT.cast ev_str (by rw [es]; rw [beq_true] at h; rw [if_neg (by rw [h]; exact Bool.false_ne_true)]))) (.inl rfl) fun s9 S9 => ?_
        rw [upd_V] at S9
        exact x_nil ⟨rfl, _, S9.V _ (by simp only [VV]; walk_at "mvsub")⟩
      · have hu : ¬ sy ≥ 256 := fun q => by
          rw [decide_eq_true q, decide_eq_false (by omega)] at hq; cases hq
        have es : showOf low c = (if (sy - 255) == 0 then (")" : Str) else ("\\)" : Str)) := by unfold showOf; rw [hsy, if_neg (by rw [decide_eq_false hu]; exact Bool.false_ne_true)]
        refine x_if T S8 (b := (decide (sy ≥ 256) == false) && ((decide (sy < 256) == true) && true)) (ts_boolop (all_and T (ts_cmp T (ev_name rfl) ev_bool cmp_is_bool) fun _ => all_and T (ts_cmp T (ev_call T (fn_glob T ga_125 rfl) kf_125 (evs_cons T (ev_name rfl) evs_nil) (c_terminal T hA' _)) ev_bool cmp_is_bool) fun _ => all_nil_and)) (fun hq2 s9 S9 => ?_) (fun hq2 s9 S9 => ?_)
        · refine x_assign T S9 (ev_ifexp T (b := ((sy - 255) == 0) == true) (av := .d (.str (showOf low c))) (ts_cmp T (ev_call T (fn_glob T ga_139 rfl) kf_139 (evs_cons T (ev_bin T (ev_name rfl) ev_int op_sub) evs_nil) (c_eof T hA' _)) ev_bool cmp_is_bool) (fun h => EvT.cast ev_str (by rw [es]; rw [beq_true] at h; rw [if_pos h])) (fun h => EvT.cast ev_str (by rw [es]; rw [beq_true] at h; rw [if_neg (by rw [h]; exact Bool.false_ne_true)]))) (.inl rfl) fun s10 S10 => ?_
          rw [upd_V] at S10
          exact x_nil (x_nil ⟨rfl, _, S10.V _ (by simp only [VV]; walk_at "mvsub")⟩)
        · rw [decide_eq_false hu, decide_eq_true (show sy < 256 by omega)] at hq2; cases hq2
      · refine x_append (a := a) (l := ((row.take i).map (showOf low)).map D.str) (d := .str (showOf low c)) T S8 (S8.ownW "shows" _ rfl a (by simp [AV.addrs])).1 (ev_name rfl) (ev_name rfl) (by
          rw [List.length_map, List.length_map, List.length_take]; omega) fun s9 S9 => ?_
        rw [putV_V] at S9
        simp only [VV, List.map_cons, List.map_nil, AV.put, if_true] at S9
        refine x_nil ?_
        refine nx _ _ _ ⟨a, rfl⟩ (S9.V _ ?_)
        simp only [VV, et, List.map_append, List.map_cons, List.map_nil]
        walk_at "mvsub"
    · have ⟨a, e⟩ : ∃ a, l' = VV a row.length := by
        rcases hJ with h | h
        · exact h
        · exact h.elim
      subst e
      have eall : row.take row.length = row := List.take_length
      obtain ⟨Mw', S5⟩ := S'.freeze T (x := "shows") rfl
      rw [upd_V] at S5
      have S6 := S5.V [("shows", .d (LS (row.map (showOf low)))), ("dresses", .d (LS dresses)), ("row", .d (LI row)), ("rides", .d (LI rides))] (by
        simp only [List.forall_mem_cons]
        refine ⟨?_, rfl, rfl, rfl, fun _ h => nomatch h⟩
        show some (AV.d (AV.frz (.own a _))) = _
        unfold AV.frz
        rw [frzL_d, eall])
      have hsl : (row.map (showOf low)).length = 5 := by rw [List.length_map, hl]
      have hn : ∀ k : Nat, ((k : Nat) : Int).toNat = k := fun k => Int.toNat_natCast k
      have sget : ∀ k, k < 5 → (row.map (showOf low)).getD k "" = showOf low (row.getD k 0) := fun k hk => by
        rw [List.getD_eq_getElem?_getD, List.getElem?_map, List.getD_eq_getElem?_getD, List.getElem?_eq_getElem (by omega)]; rfl
      refine x_compT (g := fun k : Nat => .int k) T S6 rfl (fun d => d.toInt.toNat) (fun _ => rfl) [("shows", L + 3), ("rides", L + 1), ("dresses", L + 2)] (fun _ => true) (fun k => .str (pieceOf low rides row k)) (it_range1 T hA'.hh (fn_blt T gn_range bb_range rfl) (ev_call T (fn_blt T gn_len bb_len rfl) trivial (evs_cons T (ev_name rfl) evs_nil) (len_of_list (by rw [List.length_map]; omega))) (by omega) (by rw [List.length_map]; omega)).g ?hlen ?C rfl ?t (.inl rfl) fun s7 S7 => ?_
      case hlen => rw [List.length_range, List.length_map, hl]; decide
      case C => walk_at "mcapt"
      case t =>
        intro k hk Ca M'
        have hk5 : k < 5 := by have := List.mem_range.mp hk; rw [List.length_map] at this; omega
        obtain ⟨r0, r1⟩ := hd.dig k hk5
        have rl := hd.len
        have dl : dresses.length = 6 := rfl
        refine ⟨tests_nil, fun _ => ?_⟩
        refine EvT.cast (ev_bin T (ev_item_g (g := .str) T "" (ev_name rfl) (ev_item_g (g := .int) T 0 (ev_name rfl) (ev_name rfl) (by omega) (by rw [hn]; omega) (by omega)) (by rw [hn]; exact r0) (by rw [hn]; omega) (by omega)) (ev_item_g (g := .str) T "" (ev_name rfl) (ev_name rfl) (by omega) (by rw [hn]; omega) (by omega)) (op_adds ?_)) ?_
        · rw [hn, sget k hk5]
          have h1 := dress_len (rides.getD k 0).toNat
          have h2 := showOf_len low (row.getD k 0)
          have h3 : (10 : Nat) ≤ sizeLine := by decide
          omega
        · rw [hn, sget k hk5]; rfl
      have e1 : D.list (((List.range (LI row |> fun _ => ((row.map D.int).length : Int).toNat)).filter fun _ => true).map fun k => .str (pieceOf low rides row k)) = LS (pieces low rides row) := by
        show D.list (((List.range ((row.map D.int).length : Int).toNat).filter fun _ => true).map _) = _
        rw [List.filter_eq_self.mpr (fun _ _ => rfl), hn, List.length_map]
        unfold LS pieces
        rw [List.map_map]; rfl
      have S8 := S7.V [("pieces", .d (LS (pieces low rides row))), ("shows", .d (LS (row.map (showOf low)))), ("row", .d (LI row))] (by
        simp only [List.forall_mem_cons]
        refine ⟨?_, rfl, rfl, fun _ h => nomatch h⟩
        rw [← e1]; rfl)
      have pick : ∀ (q : Str), D.list (((List.range ((row.map D.int).length : Int).toNat).filter fun k => (row.map (showOf low)).getD k "" == q).map fun k : Nat => .int k) = LI (((List.range row.length).filter fun k => showOf low (row.getD k 0) == q).map fun k => ((k : Nat) : Int)) := fun q => by
        rw [hn, List.length_map]
        unfold LI
        rw [List.map_map]
        have : (List.range row.length).filter (fun k => (row.map (showOf low)).getD k "" == q) = (List.range row.length).filter (fun k => showOf low (row.getD k 0) == q) := List.filter_congr fun k hk => by
          rw [sget k (by have := List.mem_range.mp hk; omega)]
        rw [this]; rfl
      refine x_return T S8 (ev_tuple (ds := [LS (pieces low rides row), LI (opening low row), LI (closing low row)]) T (evs_cons T (ev_name rfl) (evs_cons T
        (EvT.cast (ev_compT (g := fun k : Nat => .int k) T (fun d => d.toInt.toNat) (fun _ => rfl) [("shows", L + 3)] (fun k => (row.map (showOf low)).getD k "" == "(") (fun k : Nat => .int k) (it_range1 T hA'.hh (fn_blt T gn_range bb_range rfl) (ev_call T (fn_blt T gn_len bb_len rfl) trivial (evs_cons T (ev_name rfl) evs_nil) (len_of_list (by rw [List.length_map]; omega))) (by omega) (by rw [List.length_map]; omega)).g ?h1 ?C1 rfl ?t1) (congrArg AV.d (pick "("))) (evs_cons T
        (EvT.cast (ev_compT (g := fun k : Nat => .int k) T (fun d => d.toInt.toNat) (fun _ => rfl) [("shows", L + 3)] (fun k => (row.map (showOf low)).getD k "" == ")") (fun k : Nat => .int k) (it_range1 T hA'.hh (fn_blt T gn_range bb_range rfl) (ev_call T (fn_blt T gn_len bb_len rfl) trivial (evs_cons T (ev_name rfl) evs_nil) (len_of_list (by rw [List.length_map]; omega))) (by omega) (by rw [List.length_map]; omega)).g ?h2 ?C2 rfl ?t2) (congrArg AV.d (pick ")"))) evs_nil))) (by walk_at "msz")) fun v s' S' r => k v s' S'.base r
      case h1 => rw [List.length_range, List.length_map, hl]; decide
      case h2 => rw [List.length_range, List.length_map, hl]; decide
      case C1 => walk_at "mcapt"
      case C2 => walk_at "mcapt"
      all_goals
        intro k hk Ca M'
        have hk5 : k < 5 := by have := List.mem_range.mp hk; rw [List.length_map] at this; omega
        exact ⟨tests_one (ts_cmp T (EvT.cast (ev_item_g (g := .str) T "" (ev_name rfl) (ev_name rfl) (by omega) (by rw [hn]; omega) (by omega)) (by rw [hn])) ev_str cmp_eq_str), fun _ => ev_name rfl⟩
end

def slT {α : Type} (l : List α) (lo hi : Option Int) : List α := (l.drop (lo.elim 0 (clipAt l.length))).take (hi.elim l.length (clipAt l.length) - lo.elim 0 (clipAt l.length))
theorem sl_map {α : Type} (g : α → D) (l : List α) (lo hi : Option Int) : sl (l.map g) lo hi = (slT l lo hi).map g := by
  unfold sl slT
  rw [List.length_map, List.map_take, List.map_drop]
def endOf (rides : List Int) (k : Int) : Str := ([")", "\")", ")\\"] : List Str).getD (Int.fmod (rides.getD k.toNat 0) 3).toNat ""
def textOf (low : Int) (rides row : List Int) (place k : Int) : Str := Txt.join "" (slT (pieces low rides row) (some place) (some k)) ++ endOf rides k
def toldOf (low : Int) (rides row : List Int) (place : Int) : List Bool := ((closing low row).filter fun k => decide (k > place)).map fun k => paren (textOf low rides row place k)
def freeOf (low : Int) (rides row : List Int) : List Int := (opening low row).filter fun place => !((toldOf low rides row place).any (· == true))

theorem join_len {m : Nat} : ∀ {xs : List Str}, (∀ r ∈ xs, r.length ≤ m) → (Txt.join "" xs).length ≤ xs.length * m := by
  intro xs h
  unfold Txt.join Builtin.Str.glued
  cases xs with
  | nil => exact Nat.zero_le _
  | cons x xs =>
    have key : ∀ (ys : List Str) (acc : Array Nat), (∀ r ∈ ys, r.length ≤ m) → (ys.foldl (fun acc p => acc ++ ("" : Str).cps ++ p.cps) acc).size ≤ acc.size + ys.length * m := by
      intro ys
      induction ys with
      | nil => intro acc _; simp
      | cons y ys ih =>
        intro acc hy
        rw [List.foldl_cons, List.length_cons, Nat.succ_mul]
        have h1 := ih (acc ++ ("" : Str).cps ++ y.cps) fun r hr => hy r (.tail _ hr)
        have h2 : y.cps.size ≤ m := hy y (.head _)
        have h3 : (acc ++ ("" : Str).cps ++ y.cps).size = acc.size + y.cps.size := by
          rw [Array.size_append, Array.size_append]; rfl
        omega
    have h1 := key xs x.cps fun r hr => h r (.tail _ hr)
    have h2 : x.cps.size ≤ m := h x (.head _)
    show (xs.foldl _ x.cps).size ≤ _
    rw [List.length_cons, Nat.succ_mul]
    omega
theorem cat_len (a b : Str) : (a ++ b).length = a.length + b.length := Array.size_append ..
theorem piece_len (low : Int) (rides row : List Int) (k : Nat) : (pieceOf low rides row k).length ≤ 8 := by
  unfold pieceOf
  rw [cat_len]
  have h1 := dress_len (rides.getD k 0).toNat
  have h2 := showOf_len low (row.getD k 0)
  omega
theorem pieces_len {low : Int} {rides row : List Int} : ∀ r ∈ pieces low rides row, r.length ≤ 8 := fun r h => by
  obtain ⟨k, _, rfl⟩ := List.mem_map.mp h
  exact piece_len _ _ _ _
theorem slT_mem {α : Type} {l : List α} {lo hi : Option Int} {x : α} (h : x ∈ slT l lo hi) : x ∈ l := List.mem_of_mem_drop (List.mem_of_mem_take h)
theorem slT_len {α : Type} (l : List α) (lo hi : Option Int) : (slT l lo hi).length ≤ l.length := by
  unfold slT
  rw [List.length_take, List.length_drop]; omega
theorem pieces_count {low : Int} {rides row : List Int} (hr : Row row) : (pieces low rides row).length = 5 := by
  unfold pieces; rw [List.length_map, List.length_range, hr.len]
theorem closing_mem {low : Int} {row : List Int} (hr : Row row) {k : Int} (h : k ∈ closing low row) : 0 ≤ k ∧ k < 5 := by
  obtain ⟨j, hj, rfl⟩ := List.mem_map.mp h
  have := List.mem_range.mp (List.mem_filter.mp hj).1
  rw [hr.len] at this
  omega
theorem opening_mem {low : Int} {row : List Int} (hr : Row row) {k : Int} (h : k ∈ opening low row) : 0 ≤ k ∧ k < 5 := by
  obtain ⟨j, hj, rfl⟩ := List.mem_map.mp h
  have := List.mem_range.mp (List.mem_filter.mp hj).1
  rw [hr.len] at this
  omega
theorem end_len (rides : List Int) (k : Int) : (endOf rides k).length ≤ 2 := by
  unfold endOf
  generalize (Int.fmod (rides.getD k.toNat 0) 3).toNat = i
  match i with
  | 0 => decide
  | 1 => decide
  | 2 => decide
  | i + 3 =>
    have : ([")", "\")", ")\\"] : List Str).getD (i + 3) "" = "" := by rw [List.getD_eq_getElem?_getD, List.getElem?_eq_none (by show 3 ≤ i + 3; omega)]; rfl
    rw [this]; decide
theorem text_len {low : Int} {rides row : List Int} (hr : Row row) (place k : Int) : (textOf low rides row place k).length ≤ 42 := by
  unfold textOf
  rw [cat_len]
  have h1 := join_len (m := 8) (xs := slT (pieces low rides row) (some place) (some k)) fun r h => pieces_len r (slT_mem h)
  have h2 := slT_len (pieces low rides row) (some place) (some k)
  rw [pieces_count hr] at h2
  have h3 := end_len rides k
  omega

section
variable {w : World} {H : Heap} {A : Around} {M : List Addr} {n : Nat}
theorem c_free (T : Top0 (KK w) H) (hA : AOk A (n + 12)) {row rides : List Int} {low : Int} (hr : Row row) (hd : Rides rides) : CallT PG w H A M (.ref 149) [.d (LI row), .d (.int low), .d (LI rides)] (.d (LI (freeOf low rides row))) := by
  refine call_fun (ps := ["row", "low", "rides"]) (ds := [LI row, .int low, LI rides]) T hA (qual := ?q) (body := ?b) (scope := ?s) (cdv := ?c) ?F ?g ?l ?hb
  case F => walk_at "fnis3"
  case g => rfl
  case l => rfl
  case hb =>
    intro L A' hA'
    rw [vars0_V]
    intro B s Kk E S k
    refine x_tup T S hA'.hh [("pieces", LS (pieces low rides row)), ("opening", LI (opening low row)), ("closing", LI (closing low row))] (ev_call T (fn_glob T ga_144 rfl) kf_144 (evs_cons T (ev_name rfl) (evs_cons T (ev_name rfl) (evs_cons T (ev_name rfl) evs_nil))) (c_brackets T hA' hr hd)) (fun s1 S1 => ?_) (hb := by walk_at "mbinds")
    simp only [List.foldl_cons, List.foldl_nil, upd_V] at S1
    refine x_new T S1 (evn_list (l := []) T evs_nil (by decide)) (.inl rfl) fun a s2 S2 => ?_
    rw [upd_V] at S2
    let good : Int → Bool := fun place => !((toldOf low rides row place).any (· == true))
    let VV : Addr → Nat → List (Str × AV) := fun a i => [("free", AV.own a (((((opening low row).take i).filter good).map D.int).map .d)), ("pieces", .d (LS (pieces low rides row))), ("opening", .d (LI (opening low row))), ("closing", .d (LI (closing low row))), ("rides", .d (LI rides))]
    have S3 := S2.V (VV a 0) (by simp only [VV]; walk_at "mvsub")
    refine x_forN (g := .int) (xs := opening low row) T S3 (fun i l => ∃ a, l = VV a i) (fun _ => False) (fun _ => False) rfl (ItT.toW (it_list T hA'.hh (ev_name rfl))) (.inr ⟨rfl, rfl, rfl⟩) ⟨a, rfl⟩ (fun i place l B' Mc' Mw s' Kk' E' hj hc S' nx _ _ => ?_) (fun Mw l' s' hJ S' => ?_) (fun _ _ _ h => h.elim)
    · obtain ⟨a, rfl⟩ := hj
      have hp := opening_mem hr (List.mem_of_getElem? hc)
      have big : (2000 : Nat) ≤ sizeLine := by decide
      have rl := hd.len
      refine x_compT (g := .int) T S' rfl D.toInt (fun _ => rfl) [("rides", L + 1), ("place", L + 3), ("pieces", L + 2)] (fun k => decide (k > place)) (fun k => .str (textOf low rides row place k)) (it_list T hA'.hh (ev_name rfl)).g ?hlen ?C rfl ?t (.inl rfl) fun s5 S5 => ?_
      case hlen =>
        have h1 : (closing low row).length ≤ 5 := by
          unfold closing; rw [List.length_map]
          refine Nat.le_trans (List.length_filter_le _ _) ?_
          rw [List.length_range, hr.len]; exact Nat.le_refl _
        omega
      case C => walk_at "mcapt"
      case t =>
        intro k hk Ca M'
        have hk5 := closing_mem hr hk
        obtain ⟨r0, r1⟩ := hd.dig k.toNat (by omega)
        refine ⟨tests_one (ts_cmp T (ev_name rfl) (ev_name rfl) cmp_gt_int), fun _ => ?_⟩
        have hm0 : 0 ≤ Int.fmod (rides.getD k.toNat 0) 3 := Int.fmod_nonneg_of_pos _ (by decide)
        have hm1 : Int.fmod (rides.getD k.toNat 0) 3 < 3 := Int.fmod_lt_of_pos _ (by decide)
        have pc := pieces_count (low := low) (rides := rides) hr
        refine @ev_bin _ _ _ _ _ _ _ _ T _ _ _ _ _ _ _ (@ev_join _ _ _ _ _ _ _ _ T _ _ _ _ _ (slT (pieces low rides row) (some place) (some k)) _ ev_str (EvT.cast (ev_slice_list T (.inl rfl) (by rw [List.length_map, pc]; decide) (ev_name rfl) (part_some (ev_name rfl)) (part_some (ev_name rfl))) (congrArg (fun z => AV.d (.list z)) (sl_map D.str _ _ _))) ?_ (by intros; rfl) (by intros; rfl)) (ev_item_g (g := .str) (xs := [")", "\")", ")\\"]) T "" (ev_list (ds := [.str _, .str _, .str _]) T (evs_cons T ev_str (evs_cons T ev_str (evs_cons T ev_str evs_nil))) (by decide)) (ev_bin T (ev_item_g (g := .int) T 0 (ev_name rfl) (ev_name rfl) hk5.1 (by omega) (by omega)) ev_int (op_mod (by decide))) hm0 (by show _ < 3; omega) (by decide)) (op_adds ?_)
        · have h2 := slT_len (pieces low rides row) (some place) (some k)
          exact joinOk_of (n := 5) (m := 8) (by omega) (fun r h => pieces_len r (slT_mem h)) (by decide)
        · have := text_len (low := low) (rides := rides) hr place k
          unfold textOf at this
          rw [cat_len] at this
          unfold endOf at this
          omega
      refine x_compT (g := .str) (xs := ((closing low row).filter fun k => decide (k > place)).map fun k => textOf low rides row place k) T S5 rfl D.toStr (fun _ => rfl) [] (fun _ => true) (fun x => .bool (paren x)) (ItT.g (EvItT.cast (it_list T hA'.hh (ev_name rfl)) (by rw [List.map_map]; rfl))) ?hlen2 Capt.nil rfl ?t2 (.inl rfl) fun s6 S6 => ?_
      case hlen2 =>
        rw [List.length_map]
        have h1 : (closing low row).length ≤ 5 := by
          unfold closing; rw [List.length_map]
          refine Nat.le_trans (List.length_filter_le _ _) ?_
          rw [List.length_range, hr.len]; exact Nat.le_refl _
        have h2 : ((closing low row).filter fun k => decide (k > place)).length ≤ (closing low row).length := List.length_filter_le _ _
        omega
      case t2 =>
        intro x hx Ca M'
        obtain ⟨k, hk, rfl⟩ := List.mem_map.mp hx
        refine ⟨tests_nil, fun _ => ?_⟩
        exact ev_call T (fn_glob T ga_115 rfl) kf_115 (evs_cons T (ev_name rfl) evs_nil) (c_paren T hA' (by have := text_len (low := low) (rides := rides) hr place k; omega))
      have et : D.list ((((((closing low row).filter fun k => decide (k > place)).map fun k => textOf low rides row place k).filter fun _ => true).map fun x => .bool (paren x))) = LB (toldOf low rides row place) := by
        rw [List.filter_eq_self.mpr (fun _ _ => rfl), List.map_map]
        unfold LB toldOf
        rw [List.map_map]; rfl
      rw [et] at S6
      have hfil : (toldOf low rides row place).filter (fun b => (!(b == true)) && ((!(b == false)) && true)) = [] := by
        rw [List.filter_eq_nil_iff]
        intro b _
        cases b <;> decide
      refine x_if T S6 (b := !PyData.eqv (D.py (.list [])) (D.py (.list []))) (ts_cmp T (EvT.cast (ev_compT (g := .bool) T D.toBool (fun _ => rfl) [] (fun b => (!(b == true)) && ((!(b == false)) && true)) .bool (it_list T hA'.hh (ev_name rfl)).g ?h1 Capt.nil rfl ?t3) (by rw [hfil]; rfl)) (ev_list (ds := []) T evs_nil (by decide)) (cmp_ne_data hA' (by decide) (by decide))) (fun hq s7 S7 => ?_) (fun hq s7 S7 => ?_)
      case h1 =>
        unfold toldOf
        rw [List.length_map]
        have h1 : (closing low row).length ≤ 5 := by
          unfold closing; rw [List.length_map]
          refine Nat.le_trans (List.length_filter_le _ _) ?_
          rw [List.length_range, hr.len]; exact Nat.le_refl _
        have h2 : ((closing low row).filter fun k => decide (k > place)).length ≤ (closing low row).length := List.length_filter_le _ _
        omega
      case t3 =>
        intro b hb Ca M'
        exact ⟨tests_one (ts_boolop (all_and T (ts_cmp T (ev_name rfl) ev_bool cmp_isnot_bool) fun _ => all_and T (ts_cmp T (ev_name rfl) ev_bool cmp_isnot_bool) fun _ => all_nil_and)), fun _ => ev_name rfl⟩
      · exact absurd hq (by decide)
      · have et2 : (opening low row).take (i + 1) = (opening low row).take i ++ [place] := by rw [List.take_add_one, hc]; rfl
        refine x_nil ?_
        refine x_if T S7 (ts_cmp T ev_bool (ev_name rfl) cmp_notin_bools) (fun hq2 s8 S8 => ?_) (fun hq2 s8 S8 => ?_)
        · refine x_append (a := a) (l := (((opening low row).take i).filter good).map D.int) (d := .int place) T S8 (S8.ownW "free" _ rfl a (by simp [AV.addrs])).1 (ev_name rfl) (ev_name rfl) ?_ fun s9 S9 => ?_
          · rw [List.length_map]
            have h1 : (((opening low row).take i).filter good).length ≤ ((opening low row).take i).length := List.length_filter_le _ _
            have h2 : ((opening low row).take i).length ≤ (opening low row).length := by rw [List.length_take]; omega
            have h3 : (opening low row).length ≤ 5 := by
              unfold opening; rw [List.length_map]
              refine Nat.le_trans (List.length_filter_le _ _) ?_
              rw [List.length_range, hr.len]; exact Nat.le_refl _
            omega
          · rw [putV_V] at S9
            simp only [VV, List.map_cons, List.map_nil, AV.put, if_true] at S9
            refine x_nil (x_nil ?_)
            refine nx _ _ _ ⟨a, rfl⟩ (S9.V _ ?_)
            have eg : good place = true := hq2
            simp only [VV, et2, List.filter_append, List.filter_cons, eg, if_true, List.filter_nil, List.map_append, List.map_cons, List.map_nil]
            walk_at "mvsub"
        · refine x_nil (x_nil ?_)
          refine nx _ _ _ ⟨a, rfl⟩ (S8.V _ ?_)
          have eg : good place = false := hq2
          simp only [VV, et2, List.filter_append, List.filter_cons, eg, Bool.false_eq_true, if_false, List.filter_nil, List.append_nil]
          walk_at "mvsub"
    · have ⟨a, e⟩ : ∃ a, l' = VV a (opening low row).length := by
        rcases hJ with h | h
        · exact h
        · exact h.elim
      subst e
      have eall : (opening low row).take (opening low row).length = opening low row := List.take_length
      obtain ⟨Mw', S5⟩ := S'.freeze T (x := "free") rfl
      rw [upd_V] at S5
      refine x_return T S5 (EvT.cast (ev_name rfl) ?_) fun v s' S' r => k v s' S'.base r
      unfold AV.frz
      rw [frzL_d, eall]
      rfl
end

def preOf (low : Int) (row : List Int) : Str := Txt.mul "(" (if ((closing low row).length : Int) - ((opening low row).length : Int) > 0 then ((closing low row).length : Int) - ((opening low row).length : Int) else 0)
def wholeText (low : Int) (rides row : List Int) (e : Str) : Str := preOf low row ++ Txt.join "" (pieces low rides row) ++ e
def wholeOf (low : Int) (rides row : List Int) (ends : List Str) : List Bool := ends.map fun e => paren (wholeText low rides row e)
theorem closing_len {low : Int} {row : List Int} (hr : Row row) : (closing low row).length ≤ 5 := by
  unfold closing; rw [List.length_map]
  refine Nat.le_trans (List.length_filter_le _ _) ?_
  rw [List.length_range, hr.len]; exact Nat.le_refl _
theorem opening_len {low : Int} {row : List Int} (hr : Row row) : (opening low row).length ≤ 5 := by
  unfold opening; rw [List.length_map]
  refine Nat.le_trans (List.length_filter_le _ _) ?_
  rw [List.length_range, hr.len]; exact Nat.le_refl _
theorem mul_len {i : Int} (h0 : 0 ≤ i) (h1 : i ≤ 5) : (Txt.mul "(" i).length ≤ 5 ∧ MulOk "(" i := by
  have : i = 0 ∨ i = 1 ∨ i = 2 ∨ i = 3 ∨ i = 4 ∨ i = 5 := by omega
  rcases this with rfl | rfl | rfl | rfl | rfl | rfl <;> exact ⟨by decide, by decide, by decide, by decide⟩
theorem pre_ok {low : Int} {row : List Int} (hr : Row row) : (preOf low row).length ≤ 5 ∧ MulOk "(" (if ((closing low row).length : Int) - ((opening low row).length : Int) > 0 then ((closing low row).length : Int) - ((opening low row).length : Int) else 0) := by
  have h1 := closing_len (low := low) hr
  unfold preOf
  refine mul_len ?_ ?_ <;> split <;> omega
theorem whole_len {low : Int} {rides row : List Int} (hr : Row row) (e : Str) (he : e.length ≤ 10) : (preOf low row).length + (Txt.join "" (pieces low rides row)).length ≤ 50 ∧ (wholeText low rides row e).length ≤ 60 := by
  have h1 := (pre_ok (low := low) hr).1
  have h2 := join_len (m := 8) (xs := pieces low rides row) pieces_len
  rw [pieces_count hr] at h2
  refine ⟨by omega, ?_⟩
  unfold wholeText
  rw [cat_len, cat_len]
  omega
section
variable {w : World} {H : Heap} {A : Around} {M : List Addr} {n : Nat}
theorem c_whole (T : Top0 (KK w) H) (hA : AOk A (n + 12)) {row rides : List Int} {low : Int} {ends : List Str} (hr : Row row) (hd : Rides rides) (he : ∀ e ∈ ends, e.length ≤ 10) (hel : ends.length ≤ 10) : CallT PG w H A M (.ref 154) [.d (LI row), .d (.int low), .d (LI rides), .d (LS ends)] (.d (LB (wholeOf low rides row ends))) := by
  refine call_fun (ps := ["row", "low", "rides", "ends"]) (ds := [LI row, .int low, LI rides, LS ends]) T hA (qual := ?q) (body := ?b) (scope := ?s) (cdv := ?c) ?F ?g ?l ?hb
  case F => walk_at "fnis4"
  case g => rfl
  case l => rfl
  case hb =>
    intro L A' hA'
    rw [vars0_V]
    intro B s Kk E S k
    have hc5 := closing_len (low := low) hr
    have ho5 := opening_len (low := low) hr
    have big : (2000 : Nat) ≤ sizeLine := by decide
    refine x_tup T S hA'.hh [("pieces", LS (pieces low rides row)), ("opening", LI (opening low row)), ("closing", LI (closing low row))] (ev_call T (fn_glob T ga_144 rfl) kf_144 (evs_cons T (ev_name rfl) (evs_cons T (ev_name rfl) (evs_cons T (ev_name rfl) evs_nil))) (c_brackets T hA' hr hd)) (fun s1 S1 => ?_) (hb := by walk_at "mbinds")
    simp only [List.foldl_cons, List.foldl_nil, upd_V] at S1
    refine x_return T S1 (EvT.cast (ev_compT (g := .str) T D.toStr (fun _ => rfl) [("pieces", L + 1), ("opening", L + 2), ("closing", L + 3)] (fun _ => true) (fun e => .bool (paren (wholeText low rides row e))) (it_list T hA'.hh (ev_name rfl)).g (by omega) ?C rfl ?t) ?e) fun v s' S' r => k v s' S'.base r
    case C => walk_at "mcapt"
    case e => rw [List.filter_eq_self.mpr (fun _ _ => rfl)]; unfold LB wholeOf; rw [List.map_map]; rfl
    case t =>
      intro e hem Ca M'
      have hl := whole_len (low := low) (rides := rides) hr e (he e hem)
      have hp := pre_ok (low := low) hr
      refine ⟨tests_nil, fun _ => ?_⟩
      refine ev_call T (fn_glob T ga_115 rfl) kf_115 (evs_cons T (ev_bin T (ev_bin T (ev_bin T ev_str (ev_call T (fn_blt T gn_max bb_max rfl) trivial (evs_cons T ev_int (evs_cons T (ev_bin T (EvT.cast (ev_call T (fn_blt T gn_len bb_len rfl) trivial (evs_cons T (ev_name rfl) evs_nil) (len_of_list (by rw [List.length_map]; omega))) (by rw [List.length_map])) (EvT.cast (ev_call T (fn_blt T gn_len bb_len rfl) trivial (evs_cons T (ev_name rfl) evs_nil) (len_of_list (by rw [List.length_map]; omega))) (by rw [List.length_map])) op_sub) evs_nil)) (max_ok hA'.hh)) (op_muls hp.2)) (ev_join (xs := pieces low rides row) T ev_str (ev_name rfl) (joinOk_of (n := 5) (m := 8) (by rw [pieces_count hr]; exact Nat.le_refl _) pieces_len (by decide))) (op_adds ?_)) (ev_name rfl) (op_adds ?_)) evs_nil) (c_paren T hA' (by have h9 := hl.2; show (wholeText low rides row e).length ≤ 1000; omega))
      · show (preOf low row).length + _ ≤ _
        omega
      · have := hl.2
        unfold wholeText at this
        rw [cat_len] at this
        show (preOf low row ++ _).length + _ ≤ _
        omega
end

section
variable {prog : Program} {w : World} {K : Frag} {H : Heap} {A : Around} {env : Env} {M Mc Mw : List Addr} {σ : Vars} {B : Shared} {s : Shared} {rest : List Stmt} {Kk : Flow → Shared → Prop} {E : Value → Shared → Prop}
theorem it_own_g (T : Top0 K H) (hh : A.handled = none) {e : Expr} {a : Addr} {ds : List D} (h1 : EvT prog w H A env M σ e (.own a (ds.map .d))) (fl : ∀ d ∈ ds, d.flat = true) : ItG prog w H A env M σ e ds := fun s Q E S k =>
  it_own T hh h1 trivial s Q E S fun it wr gx I s' k1 W hI h2 h3 => k it wr gx I s' (M.filter fun b => decide (b ≠ a)) k1 W (.inr ⟨fun b hb => (List.mem_filter.mp hb).1, fl⟩) (hI _ fun b hb => ⟨(List.mem_filter.mp hb).1, of_decide_eq_true (List.mem_filter.mp hb).2⟩) h2 h3
theorem own_newG (S : St H B Mc env Mw σ s) {x : Str} {av : AV} (hn : av.addrs.Nodup) (hf : ∀ a ∈ av.addrs, a ≠ env.locals ∧ (∀ y c, env.cells.lookup y = some c → a ≠ c) ∧ a ∈ Mw ∧ a ∉ Mc ∧ ∀ y av', σ y = some av' → a ∉ av'.addrs) :
    Sep env (upd σ x av) ∧ ∀ y av', upd σ x av y = some av' → ∀ b ∈ av'.addrs, b ∈ Mw ∧ b ∉ Mc := by
  constructor
  · intro y bv e
    unfold upd at e
    by_cases hy : y = x
    · rw [if_pos hy] at e; cases e
      refine ⟨hn, fun b hb => ⟨(hf b hb).1, (hf b hb).2.1⟩, fun z av' ez hz b hb => ?_⟩
      unfold upd at ez
      rw [if_neg (fun q => hz (hy.trans q.symm))] at ez
      exact (hf b hb).2.2.2.2 z av' ez
    · rw [if_neg hy] at e
      obtain ⟨h1, h2, h3⟩ := S.sep y bv e
      refine ⟨h1, h2, fun z av' ez hz b hb => ?_⟩
      unfold upd at ez
      by_cases hzx : z = x
      · rw [if_pos hzx] at ez; cases ez
        exact fun q => (hf b q).2.2.2.2 y bv e hb
      · rw [if_neg hzx] at ez; exact h3 z av' ez hz b hb
  · intro y av' e b hb
    unfold upd at e
    by_cases hy : y = x
    · rw [if_pos hy] at e; cases e
      exact ⟨(hf b hb).2.2.1, (hf b hb).2.2.2.1⟩
    · rw [if_neg hy] at e; exact S.ownW y av' e b hb
theorem St.takes : ∀ {X : List Addr} {Mw : List Addr}, St H B (X ++ Mc) env Mw σ s → (∀ b ∈ X, B.heap.get? b = none) → (X ++ Mc).Nodup ∨ (X.Nodup ∧ ∀ b ∈ X, b ∉ Mc) → ∃ Mw', St H B Mc env Mw' σ s ∧ (∀ b ∈ X, b ∈ Mw') ∧ ∀ b ∈ Mw, b ∈ Mw' := by
  intro X
  induction X with
  | nil => intro Mw S _ _; exact ⟨Mw, S, (fun _ h => nomatch h), fun _ h => h⟩
  | cons x X ih =>
    intro Mw S hB hn
    have hn' : (x :: X).Nodup ∧ ∀ b ∈ x :: X, b ∉ Mc := by
      rcases hn with h | h
      · rw [List.nodup_append] at h
        exact ⟨h.1, fun b hb q => h.2.2 b hb b q rfl⟩
      · exact h
    obtain ⟨n1, n2⟩ := hn'
    rw [List.nodup_cons] at n1
    have S1 : St H B (X ++ Mc) env (x :: Mw) σ s := St.take S (hB x (.head _)) fun q => by
      rcases List.mem_append.mp q with q | q
      · exact n1.1 q
      · exact n2 x (.head _) q
    obtain ⟨Mw', S2, h1, h2⟩ := ih S1 (fun b hb => hB b (.tail _ hb)) (.inr ⟨n1.2, fun b hb => n2 b (.tail _ hb)⟩)
    exact ⟨Mw', S2, fun b hb => by
      rcases List.mem_cons.mp hb with rfl | hb
      · exact h2 _ (.head _)
      · exact h1 b hb, fun b hb => h2 b (.tail _ hb)⟩
/-- [] as one of several -/
theorem empty_then {pos p : Pos} {es : List Expr} {s : Shared} {Q : List Value → Shared → Prop} {E : Value → Shared → Prop} (h : wpAny (model prog w) A (spliced (backTo pos (starEach es env))) (fun vs s' => Q (.ref s.heap.objs.size :: vs) s') E { s with heap := s.heap.push { cls := .type "list", data := .seq #[] } }) :
    wpAny (model prog w) A (spliced (backTo pos (starEach (.List [] p :: es) env))) Q E s := by
  show wpAny _ _ (do let v ← eval (.List [] p) env; let here ← (pure [v] : Sem (List Value)); return here ++ (← holding here (spliced (backTo pos (starEach es env))))) _ _ _
  refine wpAny_bind (wpAny_List_spliced (wpAny_pure ⟨by simp, ?_⟩))
  exact wpAny_bind (wpAny_pure (wpAny_bind (wpAny_holding (wpAny_mono h (fun vs s' hq => wpAny_pure hq) fun _ _ e => e))))
end
section
variable {prog : Program} {w : World} {K : Frag} {H : Heap} {A : Around} {env : Env} {M Mc Mw : List Addr} {σ : Vars} {B : Shared} {s : Shared} {rest : List Stmt} {Kk : Flow → Shared → Prop} {E : Value → Shared → Prop}
abbrev EL : Obj := { cls := .type "list", data := .seq #[] }
abbrev rowsAV (r r0 r1 r2 : Addr) (l0 l1 l2 : List D) : AV := .own r [.own r0 (l0.map .d), .own r1 (l1.map .d), .own r2 (l2.map .d)]
/-- x, y = [[], [], []], [] -/
theorem x_rows (T : Top0 K H) (S : St H B Mc env Mw σ s) (hh : A.handled = none) {x y : Str} {es : List Expr} {k k2 : Nat} {p p1 p2 p3 p4 p5 p6 pos : Pos} (hxy : x ≠ y) (hx : env.kindOf x = some .local) (hy : env.kindOf y = some .local)
    (kk : ∀ r r0 r1 r2 g Mw' s', St H B Mc env Mw' (upd (upd σ y (.own g [])) x (rowsAV r r0 r1 r2 [] [] [])) s' → wpAny (model prog w) A (execs rest env) Kk E s')
    (hs : swapsWithSole [.Tuple es k p] (.Tuple [.List [.List [] p1, .List [] p2, .List [] p3] p4, .List [] p5] k2 p6) pos.line env = pure false := by rfl) (hw : swappedStores [.Tuple es k p] (.Tuple [.List [.List [] p1, .List [] p2, .List [] p3] p4, .List [] p5] k2 p6) env = pure (some [x, y]) := by rfl) :
    wpAny (model prog w) A (execs (.Assign [.Tuple es k p] (.Tuple [.List [.List [] p1, .List [] p2, .List [] p3] p4, .List [] p5] k2 p6) pos :: rest) env) Kk E s := by
  refine @x_next _ _ _ _ _ _ _ _ _ (@Assign_Tuple_swapped _ _ _ _ _ _ _ _ _ _ _ _ ?_ hs hw)
  generalize hn : s.heap.objs.size = n
  refine wpAny_Tuple_spliced ?_
  show wpAny _ _ (do let v ← eval (.List [.List [] p1, .List [] p2, .List [] p3] p4) env; let here ← (pure [v] : Sem (List Value)); return here ++ (← holding here (spliced (backTo p6 (starEach [.List [] p5] env))))) _ _ _
  refine wpAny_bind (wpAny_List_spliced (empty_then (empty_then (empty_then (wpAny_pure ⟨by simp [sizeLine], ?_⟩)))))
  refine wpAny_bind (wpAny_pure (wpAny_bind (wpAny_holding (empty_then (wpAny_pure (wpAny_pure ⟨by simp [sizeLine], ?_⟩))))))
  simp only [Heap.size_push, hn, List.cons_append, List.nil_append]
  generalize hh5 : ((((s.heap.push EL).push EL).push EL).push { cls := .type "list", data := .seq ([Value.ref n, .ref (n + 1), .ref (n + 1 + 1)] : List Value).toArray }).push EL = h5
  have sz5 : h5.objs.size = n + 1 + 1 + 1 + 1 + 1 := by rw [← hh5]; simp only [Heap.size_push, hn]
  have q0 : h5.get? n = some EL := by rw [← hh5, ← hn]; exact Heap.get?_push_of_some _ (Heap.get?_push_of_some _ (Heap.get?_push_of_some _ (Heap.get?_push_of_some _ (Heap.get?_push_size _ rfl))))
  have q1 : h5.get? (n + 1) = some EL := by
    have e : (s.heap.push EL).objs.size = n + 1 := by rw [Heap.size_push, hn]
    rw [← hh5, ← e]; exact Heap.get?_push_of_some _ (Heap.get?_push_of_some _ (Heap.get?_push_of_some _ (Heap.get?_push_size _ rfl)))
  have q2 : h5.get? (n + 1 + 1) = some EL := by
    have e : ((s.heap.push EL).push EL).objs.size = n + 1 + 1 := by rw [Heap.size_push, Heap.size_push, hn]
    rw [← hh5, ← e]; exact Heap.get?_push_of_some _ (Heap.get?_push_of_some _ (Heap.get?_push_size _ rfl))
  have q3 : h5.get? (n + 1 + 1 + 1) = some { cls := .type "list", data := .seq ([Value.ref n, .ref (n + 1), .ref (n + 1 + 1)] : List Value).toArray } := by
    have e : (((s.heap.push EL).push EL).push EL).objs.size = n + 1 + 1 + 1 := by rw [Heap.size_push, Heap.size_push, Heap.size_push, hn]
    rw [← hh5]
    refine Heap.get?_push_of_some _ ?_
    rw [← e]; exact Heap.get?_push_size _ rfl
  have q4 : h5.get? (n + 1 + 1 + 1 + 1) = some EL := by
    rw [← hh5]
    have e : ((((s.heap.push EL).push EL).push EL).push { cls := .type "list", data := .seq ([Value.ref n, .ref (n + 1), .ref (n + 1 + 1)] : List Value).toArray }).objs.size = n + 1 + 1 + 1 + 1 := by rw [Heap.size_push, Heap.size_push, Heap.size_push, Heap.size_push, hn]
    rw [← e]; exact Heap.get?_push_size _ rfl
  have keep5 : ∀ b o, s.heap.get? b = some o → h5.get? b = some o := fun b o e => by
    rw [← hh5]; exact Heap.get?_push_of_some _ (Heap.get?_push_of_some _ (Heap.get?_push_of_some _ (Heap.get?_push_of_some _ (Heap.get?_push_of_some _ e))))
  have ht : (h5.push { cls := .type "tuple", data := .seq #[Value.ref (n + 1 + 1 + 1), Value.ref (n + 1 + 1 + 1 + 1)] }).IsTuple (n + 1 + 1 + 1 + 1 + 1) #[Value.ref (n + 1 + 1 + 1), Value.ref (n + 1 + 1 + 1 + 1)] := ⟨_, by rw [← sz5]; exact Heap.get?_push_size _ rfl, rfl, _, rfl⟩
  refine unpackItems_tuple (items := #[Value.ref (n + 1 + 1 + 1), Value.ref (n + 1 + 1 + 1 + 1)]) hh ht fun h' he => ?_
  have up : ∀ b o, h5.get? b = some o → h'.get? b = some o := fun b o e => he b o (by
    have h1 := Heap.lt_size e
    show b ≠ (h5.push _).objs.size
    rw [Heap.size_push]; exact Nat.ne_of_lt (Nat.lt_succ_of_lt h1)) (Heap.get?_push_of_some _ e)
  have k1 : Kp s { s with heap := h' } := Kp.of (tk := s.toks) fun b o e => up b o (keep5 b o e)
  have nn : ∀ i, s.heap.get? (n + i) = none := fun i => Heap.get?_none_of_le (by rw [hn]; omega)
  let g : Addr := n + 1 + 1 + 1 + 1
  let XR : List Addr := [n, n + 1, n + 1 + 1, n + 1 + 1 + 1]
  have ndX : (XR ++ [g]).Nodup := by show (List.range' n 5).Nodup; exact List.nodup_range'
  have gXR : g ∉ XR := fun q => (List.nodup_append.mp ndX).2.2 g q g (.head _) rfl
  have ndR : XR.Nodup := (List.nodup_append.mp ndX).1
  have nX : ∀ b ∈ g :: XR, s.heap.get? b = none := fun b hb => by
    simp only [g, XR, List.mem_cons, List.not_mem_nil, or_false] at hb
    rcases hb with rfl | rfl | rfl | rfl | rfl
    · exact nn 4
    · exact nn 0
    · exact nn 1
    · exact nn 2
    · exact nn 3
  have aX : ∀ b ∈ g :: XR, ∃ o, h'.get? b = some o := fun b hb => by
    simp only [g, XR, List.mem_cons, List.not_mem_nil, or_false] at hb
    rcases hb with rfl | rfl | rfl | rfl | rfl
    · exact ⟨_, up _ _ q4⟩
    · exact ⟨_, up _ _ q0⟩
    · exact ⟨_, up _ _ q1⟩
    · exact ⟨_, up _ _ q2⟩
    · exact ⟨_, up _ _ q3⟩
  have S1 := S.hide T k1 (wr := g :: XR) nX aX
  have outM : ∀ b ∈ g :: XR, b ∉ Mw ++ Mc := fun b hb q => by obtain ⟨o, e⟩ := S.e.alive b q; rw [nX b hb] at e; cases e
  have nB : ∀ b ∈ g :: XR, B.heap.get? b = none := fun b hb => kp_base_none S.e.amb S.base (nX b hb)
  have S2 : St H B (XR ++ Mc) env (g :: Mw) σ { s with heap := h' } := St.take S1 (nB g (.head _)) fun q => (List.mem_append.mp q).elim gXR fun q => outM g (.head _) (List.mem_append.mpr (.inr q))
  have fr : ∀ b ∈ g :: XR, b ≠ env.locals ∧ (∀ y c, env.cells.lookup y = some c → b ≠ c) ∧ b ∉ Mc ∧ ∀ y av', σ y = some av' → b ∉ av'.addrs := fun b hb => ⟨fun q => outM b hb (q ▸ S.e.locM), fun y c e q => outM b hb (q ▸ S.e.cellM y c e), fun q => outM b hb (List.mem_append.mpr (.inr q)), fun y av' e q => outM b hb (List.mem_append.mpr (.inl (S.ownW y av' e b q).1))⟩
  have ag : (AV.own g []).addrs = [g] := by unfold AV.addrs AV.addrsL; rfl
  have ar : (rowsAV (n + 1 + 1 + 1) n (n + 1) (n + 1 + 1) [] [] []).addrs = [n + 1 + 1 + 1, n, n + 1, n + 1 + 1] := by
    simp [AV.addrs, AV.addrsL]
  obtain ⟨sp, ow⟩ := own_newG S2 (x := y) (av := .own g []) (by rw [ag]; simp) (fun a ha => by
    rw [ag, List.mem_singleton] at ha; subst ha
    obtain ⟨f1, f2, f3, f4⟩ := fr g (.head _)
    exact ⟨f1, f2, .head _, fun q => (List.mem_append.mp q).elim gXR f3, f4⟩)
  refine assignInOrder_cons (bindName_ (store T S2 (.inl hy) ?_ sp ow fun s3 S3 k3 => ?_))
  · unfold RdA
    exact ⟨rfl, .head _, #[], ⟨0, up _ _ q4⟩, rdal_nil⟩
  · obtain ⟨Mw', S4, h1, h2⟩ := S3.takes (fun b hb => nB b (.tail _ hb)) (.inr ⟨ndR, fun b hb => (fr b (.tail _ hb)).2.2.1⟩)
    have kr : ∀ b ∈ XR, ∀ o, h'.get? b = some o → s3.heap.get? b = some o := fun b hb o e => k3.heap b o (S3.e.ne_pt T (List.mem_append.mpr (.inr (List.mem_append.mpr (.inl hb))))) (fun q => by
      rcases List.mem_cons.mp q with rfl | q
      · exact gXR hb
      · exact outM b (.tail _ hb) (List.mem_append.mpr (.inl q))) e
    have inR : ∀ a, a ∈ (rowsAV (n + 1 + 1 + 1) n (n + 1) (n + 1 + 1) [] [] []).addrs → a ∈ XR := fun a ha => by
      rw [ar] at ha
      simp only [XR, List.mem_cons, List.not_mem_nil, or_false] at ha ⊢
      rcases ha with h | h | h | h <;> simp [h]
    obtain ⟨sp2, ow2⟩ := own_newG S4 (x := x) (av := rowsAV (n + 1 + 1 + 1) n (n + 1) (n + 1 + 1) [] [] []) (by
      rw [ar]
      have : [n + 1 + 1 + 1, n, n + 1, n + 1 + 1].Perm XR := by
        show [n + 1 + 1 + 1, n, n + 1, n + 1 + 1].Perm ([n, n + 1, n + 1 + 1] ++ [n + 1 + 1 + 1])
        exact (List.perm_append_comm (l₁ := [n + 1 + 1 + 1]) (l₂ := [n, n + 1, n + 1 + 1]))
      exact this.nodup_iff.mpr ndR) (fun a ha => by
      have haX := inR a ha
      obtain ⟨f1, f2, f3, f4⟩ := fr a (.tail _ haX)
      refine ⟨f1, f2, h1 a haX, f3, fun z av' e => ?_⟩
      unfold upd at e
      by_cases hz : z = y
      · rw [if_pos hz] at e; cases e
        rw [ag, List.mem_singleton]
        rintro rfl
        exact gXR haX
      · rw [if_neg hz] at e; exact f4 z av' e)
    have inM : ∀ b ∈ XR, b ∈ Mw' ++ Mc := fun b hb => List.mem_append.mpr (.inl (h1 b hb))
    refine assignInOrder_cons (bindName_ (store T S4 (.inl hx) ?_ sp2 ow2 fun s5 S5 _ => assignInOrder_nil ⟨trivial, kk _ _ _ _ _ _ s5 S5⟩))
    unfold rowsAV RdA
    refine ⟨rfl, inM _ (by simp [XR]), _, ⟨0, kr _ (by simp [XR]) _ (up _ _ q3)⟩, ?_⟩
    refine rdal_cons (by unfold RdA; exact ⟨rfl, inM _ (by simp [XR]), #[], ⟨0, kr _ (by simp [XR]) _ (up _ _ q0)⟩, rdal_nil⟩) (rdal_cons (by unfold RdA; exact ⟨rfl, inM _ (by simp [XR]), #[], ⟨0, kr _ (by simp [XR]) _ (up _ _ q1)⟩, rdal_nil⟩) (rdal_cons (by unfold RdA; exact ⟨rfl, inM _ (by simp [XR]), #[], ⟨0, kr _ (by simp [XR]) _ (up _ _ q2)⟩, rdal_nil⟩) rdal_nil))
end

/-- one level of an insertion: the row, what goes in; what the row becomes, what goes out (none: it stayed) -/
def insRow (row : List Int) (out : Int) : List Int × Option Int :=
  let greater := row.filter fun one => decide (one > out)
  match greater with
  | [] => (row ++ [out], none)
  | g :: _ => (row.set (row.length - greater.length) out, some g)
abbrev RS := List Int × List Int × List Int
/-- a letter goes in: the three rows, what grew -/
def insOne (st : RS × List Int) (letter : Int) : RS × List Int :=
  match insRow st.1.1 letter with
  | (a, none) => ((a, st.1.2.1, st.1.2.2), st.2 ++ [0])
  | (a, some o1) => match insRow st.1.2.1 o1 with
    | (b, none) => ((a, b, st.1.2.2), st.2 ++ [1])
    | (b, some o2) => match insRow st.1.2.2 o2 with
      | (c, none) => ((a, b, c), st.2 ++ [2])
      | (c, some _) => ((a, b, c), st.2)
def inserted (row : List Int) : RS × List Int := row.foldl insOne (([], [], []), [])
abbrev insD (st : RS × List Int) : D := .tup [.list [LI st.1.1, LI st.1.2.1, LI st.1.2.2], LI st.2]
/-- what is still to do from a level on -/
def insFrom : Nat → RS × List Int → Int → RS × List Int
  | 0, st, o => insOne st o
  | 1, st, o => match insRow st.1.2.1 o with
    | (b, none) => ((st.1.1, b, st.1.2.2), st.2 ++ [1])
    | (b, some o2) => match insRow st.1.2.2 o2 with
      | (c, none) => ((st.1.1, b, c), st.2 ++ [2])
      | (c, some _) => ((st.1.1, b, c), st.2)
  | 2, st, o => match insRow st.1.2.2 o with
    | (c, none) => ((st.1.1, st.1.2.1, c), st.2 ++ [2])
    | (c, some _) => ((st.1.1, st.1.2.1, c), st.2)
  | _, st, _ => st
def rowAt (st : RS) : Nat → List Int
  | 0 => st.1
  | 1 => st.2.1
  | _ => st.2.2
def setRow (st : RS) (j : Nat) (l : List Int) : RS := match j with
  | 0 => (l, st.2.1, st.2.2)
  | 1 => (st.1, l, st.2.2)
  | _ => (st.1, st.2.1, l)
theorem insFrom_none {j : Nat} (hj : j < 3) {st : RS × List Int} {o : Int} {a : List Int} (h : insRow (rowAt st.1 j) o = (a, none)) : insFrom j st o = (setRow st.1 j a, st.2 ++ [(j : Int)]) := by
  have : j = 0 ∨ j = 1 ∨ j = 2 := by omega
  rcases this with rfl | rfl | rfl
  · have h' : insRow st.1.1 o = (a, none) := h
    simp only [insFrom, insOne, h']; rfl
  · have h' : insRow st.1.2.1 o = (a, none) := h
    simp only [insFrom, h']; rfl
  · have h' : insRow st.1.2.2 o = (a, none) := h
    simp only [insFrom, h']; rfl
theorem insFrom_some {j : Nat} (hj : j < 3) {st : RS × List Int} {o o' : Int} {a : List Int} (h : insRow (rowAt st.1 j) o = (a, some o')) : insFrom j st o = insFrom (j + 1) (setRow st.1 j a, st.2) o' := by
  have : j = 0 ∨ j = 1 ∨ j = 2 := by omega
  rcases this with rfl | rfl | rfl
  · have h' : insRow st.1.1 o = (a, some o') := h
    simp only [insFrom, insOne, h']; rfl
  · have h' : insRow st.1.2.1 o = (a, some o') := h
    simp only [insFrom, h']; rfl
  · have h' : insRow st.1.2.2 o = (a, some o') := h
    simp only [insFrom, h']; rfl
theorem putL_d (a : Addr) (l' : List D) (l : List D) : AV.putL a l' (l.map .d) = l.map .d := by
  induction l with
  | nil => unfold AV.putL; rfl
  | cons d l ih => rw [List.map_cons]; unfold AV.putL AV.put; rw [ih]
theorem rows_addrs {r r0 r1 r2 : Addr} {l0 l1 l2 : List D} : (rowsAV r r0 r1 r2 l0 l1 l2).addrs = [r, r0, r1, r2] := by
  simp [AV.addrs, AV.addrsL, addrsL_d]
def rAt (r0 r1 r2 : Addr) : Nat → Addr
  | 0 => r0
  | 1 => r1
  | _ => r2
abbrev rowsOf (r r0 r1 r2 : Addr) (st : RS) : AV := rowsAV r r0 r1 r2 (st.1.map .int) (st.2.1.map .int) (st.2.2.map .int)
theorem put_rows {r r0 r1 r2 : Addr} (nd : [r, r0, r1, r2].Nodup) (st : RS) {j : Nat} (hj : j < 3) (l : List Int) : (rowsOf r r0 r1 r2 st).put (rAt r0 r1 r2 j) (l.map .int) = rowsOf r r0 r1 r2 (setRow st j l) := by
  simp only [List.nodup_cons, List.mem_cons, List.not_mem_nil, or_false, not_or, not_false_eq_true, List.nodup_nil, and_true] at nd
  obtain ⟨⟨n1, n2, n3⟩, ⟨n4, n5⟩, n6⟩ := nd
  have : j = 0 ∨ j = 1 ∨ j = 2 := by omega
  rcases this with rfl | rfl | rfl
  · simp [rowsOf, rowsAV, AV.put, AV.putL, rAt, setRow, putL_d, -List.map_map, n1, Ne.symm n4, Ne.symm n5]
  · simp [rowsOf, rowsAV, AV.put, AV.putL, rAt, setRow, putL_d, -List.map_map, n2, n4, Ne.symm n6]
  · simp [rowsOf, rowsAV, AV.put, AV.putL, rAt, setRow, putL_d, -List.map_map, n3, n5, n6]
theorem AV.addrs_own {g : Addr} {l : List AV} : g ∈ (AV.own g l).addrs := by unfold AV.addrs; exact .head _
theorem rAt_mem {r r0 r1 r2 : Addr} {j : Nat} : rAt r0 r1 r2 j ∈ [r, r0, r1, r2] := by
  match j with
  | 0 => simp [rAt]
  | 1 => simp [rAt]
  | j + 2 => simp [rAt]
theorem rows_get {r0 r1 r2 : Addr} {st : RS} {j : Nat} (hj : j < 3) : ([.own r0 ((st.1.map D.int).map .d), .own r1 ((st.2.1.map D.int).map .d), .own r2 ((st.2.2.map D.int).map .d)] : List AV)[j]? = some (.own (rAt r0 r1 r2 j) (((rowAt st j).map D.int).map .d)) := by
  have : j = 0 ∨ j = 1 ∨ j = 2 := by omega
  rcases this with rfl | rfl | rfl <;> rfl
/-- no row is longer than k -/
structure Lk (k : Nat) (st : RS × List Int) : Prop where
  row : ∀ j, (rowAt st.1 j).length ≤ k
  g : st.2.length ≤ k
theorem insRow_len (row : List Int) (o : Int) : (insRow row o).1.length ≤ row.length + 1 ∧ ((insRow row o).2 ≠ none → (insRow row o).1.length = row.length) := by
  unfold insRow
  dsimp only
  split
  · simp
  · simp
theorem rowAt_set {st : RS} {j k : Nat} {l : List Int} : rowAt (setRow st j l) k = l ∨ rowAt (setRow st j l) k = rowAt st k := by
  match j, k with
  | 0, 0 => exact .inl rfl
  | 0, 1 => exact .inr rfl
  | 0, k + 2 => exact .inr rfl
  | 1, 0 => exact .inr rfl
  | 1, 1 => exact .inl rfl
  | 1, k + 2 => exact .inr rfl
  | j + 2, 0 => exact .inr rfl
  | j + 2, 1 => exact .inr rfl
  | j + 2, k + 2 => exact .inl rfl
theorem Lk.set {k m : Nat} {st : RS × List Int} {j : Nat} {l gr : List Int} (h : Lk k st) (hk : k ≤ m) (hl : l.length ≤ m) (hg : gr.length ≤ m) : Lk m (setRow st.1 j l, gr) :=
  ⟨fun i => by rcases rowAt_set (st := st.1) (j := j) (k := i) (l := l) with e | e <;> rw [e]; exact hl; exact Nat.le_trans (h.row i) hk, hg⟩
theorem lk_from {k : Nat} : ∀ (m : Nat) {j : Nat} {st : RS × List Int} {o : Int}, j + m = 3 → Lk k st → Lk (k + 1) (insFrom j st o)
  | 0, j, st, o, e, h => by
    obtain rfl : j = 3 := by omega
    exact ⟨fun j => Nat.le_succ_of_le (h.row j), Nat.le_succ_of_le h.g⟩
  | m + 1, j, st, o, e, h => by
    obtain ⟨l1, l2⟩ := insRow_len (rowAt st.1 j) o
    have hr := h.row j
    have hg := h.g
    rcases q : insRow (rowAt st.1 j) o with ⟨a, _ | o'⟩
    · rw [insFrom_none (by omega) q]
      rw [q] at l1
      exact h.set (by omega) (by simp only at l1; omega) (by simp; omega)
    · rw [insFrom_some (by omega) q]
      rw [q] at l2
      have l2 := l2 (by simp)
      refine lk_from m (by omega) (h.set (Nat.le_refl _) ?_ hg)
      simp only at l2
      omega
theorem lk_take (row : List Int) : ∀ i, Lk i ((row.take i).foldl insOne (([], [], []), [])) := by
  intro i
  induction i with
  | zero => exact ⟨fun j => by match j with | 0 => exact Nat.le_refl _ | 1 => exact Nat.le_refl _ | j + 2 => exact Nat.le_refl _, Nat.le_refl _⟩
  | succ i ih =>
    cases h : row[i]? with
    | none =>
      have : row.take (i + 1) = row.take i := by rw [List.take_add_one, h]; simp
      rw [this]; exact ⟨fun j => Nat.le_succ_of_le (ih.row j), Nat.le_succ_of_le ih.g⟩
    | some t =>
      rw [foldl_take _ _ h]
      exact lk_from 3 (j := 0) rfl ih
section
variable {w : World} {H : Heap} {A : Around} {M : List Addr} {n : Nat}
theorem c_inserted (T : Top0 (KK w) H) (hA : AOk A (n + 1)) {row : List Int} (hl : row.length ≤ 20) : CallT PG w H A M (.ref 179) [.d (LI row)] (.d (insD (inserted row))) := by
  refine call_fun (ps := ["row"]) (ds := [LI row]) T hA (qual := ?q) (body := ?b) (scope := ?s) (cdv := ?c) ?F ?g ?l ?hb
  case F => walk_at "fnis1"
  case g => rfl
  case l => rfl
  case hb =>
    intro L A' hA'
    rw [vars0_V]
    intro B s Kk E S k
    refine @x_rows _ _ _ _ _ _ _ _ _ _ _ _ _ _ T S hA'.hh ("rows") ("grown") _ _ _ _ _ _ _ _ _ _ _ (by decide) rfl rfl (fun r r0 r1 r2 g Mw s1 S1 => ?_) (by intros; rfl) (by intros; rfl)
    rw [upd_V, upd_V] at S1
    let st : Nat → RS × List Int := fun i => (row.take i).foldl insOne (([], [], []), [])
    let VV : Addr → Addr → Addr → Addr → Addr → RS × List Int → List (Str × AV) := fun r r0 r1 r2 g st => [("rows", rowsOf r r0 r1 r2 st.1), ("grown", .own g ((st.2.map D.int).map .d)), ("row", .d (LI row))]
    have S2 := S1.V (VV r r0 r1 r2 g (([], [], []), [])) (by simp only [VV]; walk_at "mvsub")
    refine x_forN (g := .int) (xs := row) T S2 (fun i l => ∃ r r0 r1 r2 g, l = VV r r0 r1 r2 g (st i)) (fun _ => False) (fun _ => False) rfl (ItT.toW (it_list T hA'.hh (ev_name rfl))) (.inl rfl) ⟨r, r0, r1, r2, g, rfl⟩ (fun i c l B' Mc' Mw s' Kk' E' hj hc S' nx _ _ => ?_) (fun Mw l' s' hJ S' => ?_) (fun _ _ _ h => h.elim)
    · obtain ⟨r, r0, r1, r2, g, rfl⟩ := hj
      have hi20 : i < 20 := by have := (List.getElem?_eq_some_iff.mp hc).1; omega
      have lk : Lk i (st i) := lk_take row i
      have hst : st (i + 1) = insOne (st i) c := foldl_take _ _ hc
      generalize st i = st0 at lk hst S'
      have big : (2000 : Nat) ≤ sizeLine := by decide
      let W2 : Addr → Addr → Addr → Addr → Addr → RS × List Int → Int → List (Str × AV) := fun r r0 r1 r2 g st o => [("out", .d (.int o)), ("rows", rowsOf r r0 r1 r2 st.1), ("grown", .own g ((st.2.map D.int).map .d)), ("row", .d (LI row))]
      refine x_assign T S' (ev_name rfl) (.inr ⟨rfl, rfl, rfl⟩) fun s5 S5 => ?_
      rw [upd_V] at S5
      have S6 := S5.V (W2 r r0 r1 r2 g st0 c) (by simp only [W2]; walk_at "mvsub")
      refine x_forN (g := fun j : Nat => .int j) (xs := List.range 3) T S6 (fun j l => ∃ r r0 r1 r2 g st' o, l = W2 r r0 r1 r2 g st' o ∧ insFrom j st' o = st (i + 1) ∧ Lk i st') (fun l => ∃ r r0 r1 r2 g o, l = W2 r r0 r1 r2 g (st (i + 1)) o) (fun _ => False) rfl
        (ItT.toW (EvItT.cast (it_range1 (n := 3) T hA'.hh (fn_blt T gn_range bb_range rfl) ev_int (by decide) (by decide)) rfl)) (.inl rfl) ⟨r, r0, r1, r2, g, st0, c, rfl, by rw [hst]; rfl, lk⟩ (fun j y l B2 Mc2 Mw2 s7 Kk2 E2 hj hy S7 nx2 brk _ => ?_) (fun Mw2 l' s7 hJ S7 => ?_) (fun _ _ _ h => h.elim)
      · clear S6 S5 S' nx
        obtain ⟨r, r0, r1, r2, g, st', o, rfl, hins, lk'⟩ := hj
        have hyj : y = j ∧ j < 3 := by
          have h1 := (List.getElem?_eq_some_iff.mp hy)
          obtain ⟨h2, h3⟩ := h1
          rw [List.length_range] at h2
          rw [List.getElem_range] at h3
          exact ⟨h3.symm, h2⟩
        obtain ⟨rfl, hj3⟩ := hyj
        have hn : ((y : Nat) : Int).toNat = y := Int.toNat_natCast y
        obtain ⟨nd, -, sepg⟩ := S7.sep "rows" _ rfl
        rw [rows_addrs] at nd sepg
        have hg : ∀ a ∈ [r, r0, r1, r2], a ≠ g := fun a ha q => sepg "grown" _ rfl (by decide) a ha (by subst q; exact AV.addrs_own)
        have hra : rAt r0 r1 r2 y ∈ [r, r0, r1, r2] := rAt_mem
        have hrW : rAt r0 r1 r2 y ∈ Mw2 := (S7.ownW "rows" _ rfl _ (by rw [rows_addrs]; exact hra)).1
        have hgW : g ∈ Mw2 := (S7.ownW "grown" _ rfl _ AV.addrs_own).1
        have lrow := lk'.row y
        have lgr := lk'.g
        generalize hro : rowAt st'.1 y = ro at *
        have evrow : ∀ {env : Env} {M : List Addr} {σ : Vars} {p1 p2 p3 : Pos}, σ "rows" = some (rowsOf r r0 r1 r2 st'.1) → σ "level" = some (.d (.int y)) → EvT PG w H A' env M σ (.Subscript (.Name "rows" p1) (.Name "level" p2) p3) (.own (rAt r0 r1 r2 y) ((ro.map D.int).map .d)) := fun {env M σ p1 p2 p3} h1 h2 => ev_item_own T (ev_name h1) (ev_name h2) (by omega) (by rw [hn, ← hro]; exact rows_get hj3) (by omega)
        refine x_compT (g := .int) (xs := ro) T S7 rfl D.toInt (fun _ => rfl) [("out", L + 1)] (fun one => decide (one > o)) D.int (it_own_g T hA'.hh (evrow rfl rfl) (fun d hd => by obtain ⟨z, _, rfl⟩ := List.mem_map.mp hd; rfl)) (by omega) (by walk_at "mcapt") rfl ?t (.inl rfl) fun s8 S8 => ?_
        case t =>
          intro z hz Ca M'
          exact ⟨tests_one (ts_cmp T (ev_name rfl) (ev_name rfl) cmp_gt_int), fun _ => ev_name rfl⟩
        have hgl : (ro.filter fun one => decide (one > o)).length ≤ ro.length := List.length_filter_le _ _
        have hins0 : insRow ro o = (match ro.filter fun one => decide (one > o) with | [] => (ro ++ [o], none) | z :: _ => (ro.set (ro.length - (ro.filter fun one => decide (one > o)).length) o, some z)) := rfl
        generalize hgr : (ro.filter fun one => decide (one > o)) = gr at S8 hgl hins0
        have heqv : PyData.eqv (D.py (LI gr)) (D.py (.list [])) = (gr == []) := by
          have := eqv_ints gr []
          simp only [D.py, ints_py, PyData.eqv, D.pyL]
          exact this
        have gone : ∀ {l' : List D} {x : List D}, AV.put (rAt r0 r1 r2 y) l' (.own g (x.map .d)) = .own g (x.map .d) := fun {l' x} => by
          unfold AV.put; rw [if_neg (fun q => hg _ hra q.symm), putL_d]
        refine x_if T S8 (ts_cmp T (ev_name rfl) (ev_list (ds := []) T evs_nil (by decide)) (cmp_eq_data hA' (shaped_ints gr) (by decide))) (fun hq s9 S9 => ?_) (fun hq s9 S9 => ?_)
        · rw [heqv] at hq
          obtain rfl := beq_iff_eq.mp hq
          have hi2 : insRow (rowAt st'.1 y) o = (ro ++ [o], none) := by rw [hro]; exact hins0
          rw [insFrom_none hj3 hi2] at hins
          have e1 : (rowsOf r r0 r1 r2 st'.1).put (rAt r0 r1 r2 y) (ro.map D.int ++ [.int o]) = rowsOf r r0 r1 r2 (setRow st'.1 y (ro ++ [o])) := by
            have := put_rows nd st'.1 hj3 (ro ++ [o]); rw [List.map_append] at this; exact this
          refine x_append (a := rAt r0 r1 r2 y) (l := ro.map D.int) (d := .int o) T S9 hrW (evrow rfl rfl) (ev_name rfl) (by rw [List.length_map]; omega) fun s10 S10 => ?_
          rw [putV_V] at S10
          simp only [W2, List.map_cons, List.map_nil] at S10
          rw [e1, gone] at S10
          refine x_append (a := g) (l := st'.2.map D.int) (d := .int y) T S10 hgW (ev_name rfl) (ev_name rfl) (by rw [List.length_map]; omega) fun s11 S11 => ?_
          rw [putV_V] at S11
          simp only [List.map_cons, List.map_nil] at S11
          have e2 : ∀ stt, (rowsOf r r0 r1 r2 stt).put g (st'.2.map D.int ++ [.int y]) = rowsOf r r0 r1 r2 stt := fun stt => by
            have h0 := hg r (by simp); have h1 := hg r0 (by simp); have h2 := hg r1 (by simp); have h3 := hg r2 (by simp)
            simp [rowsOf, rowsAV, AV.put, AV.putL, putL_d, -List.map_map, h0, h1, h2, h3]
          rw [e2] at S11
          refine x_break ?_
          refine brk _ _ _ ⟨r, r0, r1, r2, g, o, rfl⟩ (S11.V _ ?_)
          rw [← hins]
          simp only [W2, List.map_append, List.map_cons, List.map_nil, AV.put, if_true]
          walk_at "mvsub"
        · rw [heqv] at hq
          obtain ⟨z, zs, rfl⟩ : ∃ z zs, gr = z :: zs := by
            cases gr with
            | nil => cases hq
            | cons z zs => exact ⟨z, zs, rfl⟩
          have hi2 : insRow (rowAt st'.1 y) o = (ro.set (ro.length - (z :: zs).length) o, some z) := by rw [hro]; exact hins0
          rw [insFrom_some hj3 hi2] at hins
          refine x_nil ?_
          have e1 : (rowsOf r r0 r1 r2 st'.1).put (rAt r0 r1 r2 y) ((ro.map D.int).set (((ro.length : Int) - ((z :: zs).length : Int)).toNat) (.int o)) = rowsOf r r0 r1 r2 (setRow st'.1 y (ro.set (ro.length - (z :: zs).length) o)) := by
            have e : ((ro.length : Int) - ((z :: zs).length : Int)).toNat = ro.length - (z :: zs).length := by omega
            have := put_rows nd st'.1 hj3 (ro.set (ro.length - (z :: zs).length) o); rw [List.map_set] at this; rw [e]; exact this
          have hzl : 1 ≤ (z :: zs).length := by simp
          have elen : ((ro.map D.int).map AV.d).length = ro.length := by rw [List.length_map, List.length_map]
          refine x_setitem (a := rAt r0 r1 r2 y) (l := ro.map D.int) (d := .int o) (n := (ro.length : Int) - ((z :: zs).length : Int)) T S9 hrW (ev_name rfl) (evrow rfl rfl) (ev_bin T (EvT.cast (ev_call T (fn_blt T gn_len bb_len rfl) trivial (evs_cons T (evrow rfl rfl) evs_nil) (len_of_own (by rw [elen]; omega))) (by rw [elen])) (EvT.cast (ev_call T (fn_blt T gn_len bb_len rfl) trivial (evs_cons T (ev_name rfl) evs_nil) (len_of_list (by rw [List.length_map]; omega))) (by rw [List.length_map])) op_sub) (by omega) (by rw [List.length_map]; omega) (by omega) fun s10 S10 => ?_
          rw [putV_V] at S10
          simp only [W2, List.map_cons, List.map_nil] at S10
          rw [e1, gone] at S10
          refine x_assign (d := .int z) T S10 (EvT.cast (ev_item_g (g := .int) (xs := z :: zs) T 0 (ev_name rfl) ev_int (by decide) (by simp) (by omega)) rfl) (.inr ⟨rfl, rfl, rfl⟩) fun s11 S11 => ?_
          rw [upd_V] at S11
          refine x_nil ?_
          refine nx2 _ _ _ ⟨r, r0, r1, r2, g, _, z, rfl, hins, lk'.set (Nat.le_refl _) ?_ lgr⟩ (S11.V _ ?_)
          · rw [List.length_set]; exact lrow
          · simp only [W2]
            walk_at "mvsub"
      · refine x_nil ?_
        have : ∃ r r0 r1 r2 g o, l' = W2 r r0 r1 r2 g (st (i + 1)) o := by
          rcases hJ with ⟨r, r0, r1, r2, g, st', o, e, h, _⟩ | h
          · rw [List.length_range] at h
            exact ⟨r, r0, r1, r2, g, o, by rw [← h]; exact e⟩
          · exact h
        obtain ⟨r, r0, r1, r2, g, o, rfl⟩ := this
        exact nx _ _ _ ⟨r, r0, r1, r2, g, rfl⟩ (S7.V _ (by simp only [W2, VV]; walk_at "mvsub"))
    · have ⟨r, r0, r1, r2, g, e⟩ : ∃ r r0 r1 r2 g, l' = VV r r0 r1 r2 g (st row.length) := by
        rcases hJ with h | h
        · exact h
        · exact h.elim
      subst e
      have eall : st row.length = inserted row := by show (row.take row.length).foldl _ _ = _; rw [List.take_length]; rfl
      rw [eall] at S'
      obtain ⟨Mw2, S5⟩ := S'.freeze T (x := "rows") rfl
      rw [upd_V] at S5
      obtain ⟨Mw3, S6⟩ := S5.freeze T (x := "grown") rfl
      rw [upd_V] at S6
      refine x_return T S6 (ev_tuple (ds := [.list [LI (inserted row).1.1, LI (inserted row).1.2.1, LI (inserted row).1.2.2], LI (inserted row).2]) T (evs_cons T (EvT.cast (ev_name rfl) ?_) (evs_cons T (EvT.cast (ev_name rfl) ?_) evs_nil)) (by walk_at "msz")) fun v s' S' r => k v s' S'.base r
      · simp only [rowsOf, rowsAV, AV.frz, AV.frzL, frzL_d]
      · unfold AV.frz; rw [frzL_d]
end

section
variable {prog : Program} {w : World} {K : Frag} {H : Heap} {A : Around} {env : Env} {M Mc Mw : List Addr} {σ : Vars} {B : Shared} {s : Shared} {rest : List Stmt} {Kk : Flow → Shared → Prop} {E : Value → Shared → Prop}

theorem tab_unique {h : Heap} {c P : Addr} {p q : Array Value} (x : h.TableAt c P p) (y : h.TableAt c P q) : p = q := by
  have e := x.2.symm.trans y.2
  cases e; rfl
/-- the code of a generator expression, made or found -/
theorem genexpr_code (amb : Amb H s.heap) (hc : env.code = .ref 93) {pos : Pos} {q : Str} {scope : Scope} {Q : Value → Shared → Prop} (h : ∀ code s', Kp s s' → Q code s') : wpAny (model prog w) A (genexprCode env pos q scope) Q E s := by
  obtain ⟨ps, t, c⟩ := amb.tab
  cases hf : codeAmong pos ps.toList with
  | some c' => exact wpAny_genexprCode_hit hc c hf (h _ _ (KpX.refl _))
  | none =>
    refine wpAny_genexprCodeX hc c t hf fun c' h' tk hx h1 h2 hcode hrec htab _ => h _ _ ?_
    exact ⟨fun b o hb _ e => hx b o hb e, fun ps' t' _ => by
      obtain rfl := tab_unique t t'
      exact ⟨_, htab, hcode⟩, fun _ _ _ e => e, id, rfl⟩

theorem bare_fresh (c : Code) : (GenState.fresh c).bare = true := rfl
/-- a generator expression over a list of data -/
theorem genexp_new (T : Top0 K H) (hroom : A.depth < recursionLimit) (S : StE H env M σ s) {y x : Str} {yp px pos : Pos} {elt : Expr} {ifs : List Expr} {scope : Scope} {cl : List (Str × Addr)} {ds : List D} (hy : σ y = some (.d (.list ds))) (hyd : (y == ("__debug__" : Str)) = false) (hc : env.code = .ref 93)
    (hco : scope.isCoroutine = false) (hclos : closureFor scope env = pure cl) (hcell : ∀ y ∈ scope.names, y.2 ≠ .cell) (h0 : scope.names.lookup (".0" : Str) = some NameKind.local) (hkind : scope.kind = .function)
    {Q : Value → Shared → Prop} (h : ∀ (a C it al : Addr) (items : Array Value) (g : Nat) (code : Value) (s' : Shared), Kp s s' → s.heap.get? a = none → s.heap.get? C = none → s.heap.get? it = none → a ≠ C → a ≠ it → C ≠ it → al ∉ M → al ≠ PT → al ≠ a → al ≠ C → al ≠ it → s'.heap.IsList al items → RdL s'.heap M items.toList ds →
      s'.heap.IsListIter it al 0 → s'.heap.Ns C (fun y => if y = ".0" then some (.ref it) else none) → s'.heap.IsGen a g → s.gens[g]? = none →
      s'.gens[g]? = some (.fresh (.compStart (.GeneratorExp elt [⟨.Name x px, .Name y yp, ifs, 0⟩] scope pos) 0 (.ref it) .none (genEnv scope cl C code builtinsNs env))) → Q (.ref a) s')
    (hs : ∀ x, genFold (.Name y yp) env x = pure x := by intro _; rfl) :
    wpAny (model prog w) A (eval (.GeneratorExp elt [⟨.Name x px, .Name y yp, ifs, 0⟩] scope pos) env) Q E s := by
  refine wpAny_GeneratorExp_make hco hclos hcell h0 hkind hroom (ev_name hy hyd s _ _ S fun v s1 k1 r1 => ?_) hs
  obtain ⟨al, items, rfl, hm, hp, hl, r⟩ := list_of r1
  have S1 := S.kp T k1
  refine wpAny_pyIter_list hl ?_
  generalize hs2 : ({ s1 with heap := s1.heap.push { cls := .type "list_iterator", data := .fields #[.ref al, .int 0 0] } } : Shared) = s2
  have k2 : Kp s1 s2 := hs2 ▸ Kp.push (tk := s1.toks)
  have S2 := S1.kp T k2
  have hl2 : s2.heap.IsListIter s1.heap.objs.size al 0 := hs2 ▸ ⟨_, Heap.get?_push_size _ rfl, rfl, rfl⟩
  have hit1 : s1.heap.get? s1.heap.objs.size = none := size_none s1
  generalize s1.heap.objs.size = it at *
  clear hs2
  refine ⟨S2.amb.nolimit T, ?_⟩
  refine genexpr_code S2.amb hc fun code s3 k3 => ?_
  have S3 := S2.kp T k3
  obtain ⟨mg, bm, ob, n1, n2, n3, n4, n5, n6, n7⟩ := T.bm
  have bmp : bm ≠ PT := by
    rintro rfl
    obtain ⟨ps, t⟩ := T.tab
    rw [t.2] at n4; cases n4; cases n5
  refine wpAny_builtinsFor (by rw [S.glob]; exact S3.amb.ns T n1) n2 n3 (S3.amb.keep _ _ bmp n4) n5 n6 n7 ?_
  intro h' hns hsb
  generalize hs5 : ({ s3 with gens := s3.gens.push (.fresh (.compStart (.GeneratorExp elt [⟨.Name x px, .Name y yp, ifs, 0⟩] scope pos) 0 (.ref it) .none (genEnv scope cl s3.heap.objs.size code builtinsNs env))), toks := s3.toks + 1 + 1 + 1, heap := h'.push { cls := .type "generator", data := .fields #[.int s3.gens.size 0, .str "<genexpr>" (s3.toks + 1), .str (env.qual ++ "<genexpr>") (s3.toks + 1 + 1)] } } : Shared) = s5
  have hsz : h'.objs.size = s3.heap.objs.size + 1 := by rw [hsb.1, Heap.size_push]
  have keep' : ∀ b o, s3.heap.get? b = some o → h'.get? b = some o := fun b o e => hsb.extBut b o (Nat.ne_of_lt (Heap.lt_size e)) (Heap.get?_push_of_some _ e)
  have keep5 : ∀ b o, s3.heap.get? b = some o → s5.heap.get? b = some o := fun b o e => hs5 ▸ Heap.get?_push_of_some _ (keep' b o e)
  have gen5 : s5.gens[s3.gens.size]? = some (.fresh (.compStart (.GeneratorExp elt [⟨.Name x px, .Name y yp, ifs, 0⟩] scope pos) 0 (.ref it) .none (genEnv scope cl s3.heap.objs.size code builtinsNs env))) := by
    rw [← hs5]; exact Array.getElem?_push_size ..
  have isg : s5.heap.IsGen h'.objs.size s3.gens.size := by rw [← hs5]; exact ⟨_, _, _, Heap.get?_push_size _ rfl, rfl, rfl, rfl⟩
  have ns5 : s5.heap.Ns s3.heap.objs.size (fun y => if y = ".0" then some (.ref it) else none) := by rw [← hs5]; exact hns.push _
  have k5 : Kp s3 s5 := ⟨fun b o _ _ e => keep5 b o e, fun ps a b => ⟨#[], by rw [Array.append_empty]; exact a.keeps keep5, by rw [Array.append_empty]; exact b.keeps keep5⟩,
    fun i z _ e => by
      rw [← hs5]
      show (s3.gens.push _)[i]? = some z
      have hi := (Array.getElem?_eq_some_iff.mp e).1
      rw [Array.getElem?_push_lt hi]
      rw [Array.getElem?_eq_getElem hi] at e; exact e, fun b => by rw [← hs5]; exact AllBare.push b rfl, by rw [← hs5]⟩
  have k35 := k3.trans k5
  have k25 := k2.trans k35
  have hitp : it ≠ PT := by
    rintro rfl
    obtain ⟨ps, t, _⟩ := S1.amb.tab
    rw [t.2] at hit1; cases hit1
  have hi2 : ∃ o, s2.heap.get? it = some o := let ⟨o, e, _⟩ := hl2; ⟨o, e⟩
  have hC3 : s3.heap.get? s3.heap.objs.size = none := size_none s3
  have ha3 : s3.heap.get? h'.objs.size = none := Heap.get?_none_of_le (by rw [hsz]; exact Nat.le_succ _)
  have hi3 : ∃ o, s3.heap.get? it = some o := let ⟨o, e⟩ := hi2; ⟨o, k3.heap it o hitp (by simp) e⟩
  have hl5 : s5.heap.IsListIter it al 0 := hl2.at fun o e => k35.heap it o hitp (by simp) e
  have hal1 : ∃ o, s1.heap.get? al = some o := let ⟨o, e, _⟩ := hl; ⟨o, e⟩
  have hal3 : ∃ o, s3.heap.get? al = some o := let ⟨o, e⟩ := hal1; ⟨o, (k2.trans k3).heap al o hp (by simp) e⟩
  refine h h'.objs.size s3.heap.objs.size it al items s3.gens.size code s5 (k1.trans k25) ?_ ?_ (Kp.none S.amb k1 hit1) ?_ ?_ ?_ hm hp ?_ ?_ ?_ (hl.at fun o e => k25.heap al o hp (by simp) e) (r.kp k25) hl5 ns5 isg ?_ gen5
  · exact Kp.none S.amb (k1.trans (k2.trans k3)) ha3
  · exact Kp.none S.amb (k1.trans (k2.trans k3)) hC3
  · rw [hsz]; exact Nat.succ_ne_self _
  · rintro e; obtain ⟨o, e2⟩ := hi3; rw [← e, ha3] at e2; cases e2
  · rintro e; obtain ⟨o, e2⟩ := hi3; rw [← e, hC3] at e2; cases e2
  · rintro e; obtain ⟨o, e2⟩ := hal3; rw [e, ha3] at e2; cases e2
  · rintro e; obtain ⟨o, e2⟩ := hal3; rw [e, hC3] at e2; cases e2
  · rintro e; obtain ⟨o, e2⟩ := hal1; rw [e, hit1] at e2; cases e2
  · exact gens_none (k1.trans (k2.trans k3)) (Array.getElem?_eq_none (Nat.le_refl _))

def strOf (i : Int) : Str := Str.ofString (toString i)
def firstsOf (xs : List (Int × Int × Int)) : List Str := xs.map fun t => strOf t.1
theorem passing_all (n : Nat) : passing (fun _ => true) n 0 = List.range n := by
  unfold passing
  rw [List.drop_zero, List.filter_eq_self.mpr (fun _ _ => rfl)]
/-- the elements of the generator expression -/
theorem quiet_str (T : Top0 K H) (hh : A.handled = none) {scope : Scope} {cl : List (Str × Addr)} {C a it : Addr} {code : Value} {items : Array Value} {xs : List (Int × Int × Int)} {p1 p2 p3 p4 p5 : Pos} {kc : Nat} {s : Shared} {fp : List Addr}
    (hglob : env.globals = mainGlobals) (hkind : scope.kind = .function) (hk1 : (genEnv scope cl C code builtinsNs env).kindOf "str" = some .globalImplicit) (hk2 : (genEnv scope cl C code builtinsNs env).kindOf "tup" = some .local) (e0 : nsIn K mainGlobals "str" = some none)
    (amb : Amb H s.heap) (hfp : ∀ b ∈ fp, b ≠ C ∧ b ≠ a) (hfp2 : ∀ b o, s.heap.get? b = some o → b ≠ C → b ≠ a → b ∈ fp) (hC0 : H.get? C = none) (ha0 : H.get? a = none) (hi0 : H.get? it = none)
    (hC : s.heap.Ns C m) (hg : s.heap.IsGen a g) (hit : s.heap.IsListIter it al i0) (r : RdL s.heap M items.toList (xs.map tri)) (hsm : ∀ t ∈ xs, t.1.natAbs.log2 < 1920) :
    QuietGen prog w (genEnv scope cl C code builtinsNs env) "tup" [] (.Call (.Name "str" p1) [.Subscript (.Name "tup" p2) (.Constant (.int 0) kc p3) p4] [] p5) fp [it] (fun i v => items[i]? = some v) (fun _ => true) (fun i y => ∃ t u, xs[i]? = some t ∧ y = .str (strOf t.1) u) s.heap where
  tests := fun A' E' i v s2 m2 hh' hv hn hm hk => wpAny_pure ⟨rfl, s2.heap, s2.toks, rfl, fun _ _ e => e⟩
  elt := fun A' E' i v s2 m2 hh' hv _ hn hm hk => by
    have hv' : items.toList[i]? = some v := by rw [Array.getElem?_toList]; exact hv
    have hlen : items.toList.length = xs.length := by rw [r.length, List.length_map]
    have hi : i < xs.length := by rw [← hlen]; exact (List.getElem?_eq_some_iff.mp hv').1
    obtain ⟨v', hv2, rv⟩ := r.get (i := i) (d := tri xs[i]) (by rw [List.getElem?_map, List.getElem?_eq_getElem hi]; rfl)
    rw [hv'] at hv2
    obtain rfl := Option.some.inj hv2
    have hx : xs[i]? = some xs[i] := List.getElem?_eq_getElem hi
    have hsm' := hsm xs[i] (List.getElem_mem hi)
    generalize xs[i] = t at *
    unfold tri Rd at rv
    obtain ⟨tp, tis, rfl, hm1, hp1, ht, rt⟩ := rv
    have keepH : ∀ b o, s.heap.get? b = some o → b ≠ C → b ≠ a → b ≠ it → s2.heap.get? b = some o := fun b o e h1 h2 h3 => hk b (hfp2 b o e h1 h2) (by simpa using h3) o e
    have ht2 : s2.heap.IsTuple tp tis := by
      obtain ⟨o, e, hc, n, hd⟩ := ht
      refine ⟨o, keepH tp o e ?_ ?_ ?_, hc, n, hd⟩
      · rintro rfl
        obtain ⟨o', _, _, e', hd', _⟩ := hC
        rw [e] at e'; cases e'; rw [hd] at hd'; cases hd'
      · rintro rfl
        obtain ⟨o', _, _, e', hc', _⟩ := hg
        rw [e] at e'; cases e'; rw [hc] at hc'; injection hc' with q; exact absurd q (by decide)
      · rintro rfl
        obtain ⟨o', e', hc', _⟩ := hit
        rw [e] at e'; cases e'; rw [hc] at hc'; injection hc' with q; exact absurd q (by decide)
    have neH : ∀ b o, H.get? b = some o → b ≠ C ∧ b ≠ a ∧ b ≠ it := fun b o e => ⟨(fun q => by rw [q, hC0] at e; cases e), (fun q => by rw [q, ha0] at e; cases e), (fun q => by rw [q, hi0] at e; cases e)⟩
    have amb2 : Amb H s2.heap := ⟨fun b o hb e => let ⟨h1, h2, h3⟩ := neH b o e; keepH b o (amb.keep b o hb e) h1 h2 h3, by
      obtain ⟨ps, t1, t2⟩ := amb.tab
      obtain ⟨ps0, t0⟩ := T.tab
      obtain ⟨o93, _, h93, _⟩ := t0.1
      obtain ⟨n1, n2, n3⟩ := neH 93 _ h93
      obtain ⟨q1, q2, q3⟩ := neH PT _ t0.2
      refine ⟨ps, ?_, ?_⟩
      · obtain ⟨⟨o, vs, e, rr⟩, e2⟩ := t1
        exact ⟨⟨o, vs, keepH _ _ e n1 n2 n3, rr⟩, keepH _ _ e2 q1 q2 q3⟩
      · obtain ⟨o, vs, file, tf, flags, tg, inF, text, tt, op, h1, h2, h3, h4, h5, h6, h7, h8, rr⟩ := t2
        exact ⟨o, vs, file, tf, flags, tg, inF, text, tt, op, keepH _ _ h1 n1 n2 n3, h2, h3, h4, h5, h6, h7, keepH _ _ h8 q1 q2 q3, rr⟩⟩
    obtain ⟨mg, G⟩ := T.g
    obtain ⟨mb, Bn, hb⟩ := T.b
    refine wpAny_Call_ofName (Name_function_global hkind hk1 (loadGlobal_builtin (v := .type "str") (by show s2.heap.Ns env.globals mg; rw [hglob]; exact amb2.ns T G) (mg_none_of T.k G e0) (amb2.ns T Bn) ((hb "str" (by decide)).trans rfl) ?_) (by decide))
    refine callWith_of (P := fun h => K.In h) (by rfl) (keeps_f (f := .type "str") trivial) ?_
    show wpAny _ _ (evalArgs (.type "str") true ((false, eval (.Subscript (.Name "tup" p2) (.Constant (.int 0) kc p3) p4) (genEnv scope cl C code builtinsNs env)) :: []) []) _ _ _
    refine evalArgs_plain ?_
    show wpAny _ _ (do let v ← eval (.Subscript (.Name "tup" p2) (.Constant (.int 0) kc p3) p4) (genEnv scope cl C code builtinsNs env); let here ← (pure [v] : Sem (List Value)); return here ++ (← holding here (spliced []))) _ _ _
    refine wpAny_bind (Subscript_ (wpAny_Name (wpAny_loadName_local hkind hk2 hn hm ?_) (by decide)))
    refine wpAny_bind (m := fresh) (f := fun t => pure (Value.int 0 t)) (wpAny_fresh (wpAny_pure ?_))
    unfold RdL at rt
    obtain ⟨v0, r0, e0, b0, rt⟩ := rt
    unfold Rd at b0
    obtain ⟨t0, rfl⟩ := b0
    have e1 : tis.toList[0]? = some (.int t.1 t0) := by rw [e0]; rfl
    refine item_tupleT (l := tis.toList) (j := 0) (x := .int t.1 t0) (by rw [Array.toArray_toList]; exact ht2) (by decide) (by decide) ?_ e1 ?_ (by rfl)
    · unfold seqIndex?
      rw [e0]
      simp
    · refine wpAny_bind (wpAny_pure (wpAny_bind (wpAny_holding (wpAny_pure (wpAny_pure ⟨amb2.inK T, ?_⟩)))))
      show wpAny _ _ (call (.type "str") [.int t.1 t0]) _ _ _
      exact P.str_of_int hsm' ⟨⟨t, _, hx, rfl⟩, s2.heap, _, rfl, fun _ _ e => e⟩

theorem strValues_len (l : List (Str × Tok)) : (strValues l).length = l.length := by unfold strValues; simp
/-- str.join of the generator -/
theorem join_genexp (T : Top0 K H) (hh : A.handled = none) (hroom : A.depth < recursionLimit) {scope : Scope} {cl : List (Str × Addr)} {C a it al : Addr} {g : Nat} {code : Value} {items : Array Value} {xs : List (Int × Int × Int)} {p1 p2 p3 p4 p5 px yp pos : Pos} {kc : Nat} {y : Str} {s : Shared} {sep : Str} {t : Tok}
    (hglob : env.globals = mainGlobals) (hkind : scope.kind = .function) (hco : scope.isCoroutine = false) (hk1 : (genEnv scope cl C code builtinsNs env).kindOf "str" = some .globalImplicit) (hk2 : (genEnv scope cl C code builtinsNs env).kindOf "tup" = some .local) (e0 : nsIn K mainGlobals "str" = some none)
    (amb : Amb H s.heap) (hC0 : H.get? C = none) (ha0 : H.get? a = none) (hi0 : H.get? it = none) (haC : a ≠ C) (hai : a ≠ it) (hCi : C ≠ it) (hala : al ≠ a) (halC : al ≠ C) (hali : al ≠ it)
    (hl : s.heap.IsList al items) (hC : s.heap.Ns C m) (hg : s.heap.IsGen a g) (hit : s.heap.IsListIter it al 0) (r : RdL s.heap M items.toList (xs.map tri)) (hsm : ∀ t ∈ xs, t.1.natAbs.log2 < 1920)
    (hgs : s.gens[g]? = some (.fresh (.compStart (.GeneratorExp (.Call (.Name "str" p1) [.Subscript (.Name "tup" p2) (.Constant (.int 0) kc p3) p4] [] p5) [⟨.Name "tup" px, .Name y yp, [], 0⟩] scope pos) 0 (.ref it) .none (genEnv scope cl C code builtinsNs env))))
    (hn : xs.length ≤ sizeLine) (ok : JoinOk sep (firstsOf xs) = true) {Q : Value → Shared → Prop} (h : ∀ u s', KpX [C, it] [g] s s' → Q (.str (Txt.join sep (firstsOf xs)) u) s') :
    wpAny (model prog w) A (call (.builtin "str.join") [.str sep t, .ref a]) Q E s := by
  let fp : List Addr := (List.range s.heap.objs.size).filter fun b => decide (b ≠ C) && decide (b ≠ a)
  have hfp : ∀ b ∈ fp, b ≠ C ∧ b ≠ a := fun b hb => by simpa [fp] using (List.mem_filter.mp hb).2
  have hfp2 : ∀ b o, s.heap.get? b = some o → b ≠ C → b ≠ a → b ∈ fp := fun b o e h1 h2 => List.mem_filter.mpr ⟨List.mem_range.mpr (Heap.lt_size e), by simp [h1, h2]⟩
  have hlen : items.size = xs.length := by have := r.length; rw [List.length_map, Array.length_toList] at this; exact this
  have qg := quiet_str (prog := prog) (w := w) (K := K) (p1 := p1) (p2 := p2) (p3 := p3) (p4 := p4) (p5 := p5) (kc := kc) T hh hglob hkind hk1 hk2 e0 amb hfp hfp2 hC0 ha0 hi0 hC hg hit r hsm
  obtain ⟨mc, hcs, hcn⟩ := T.nolimit
  have hcs2 : cStatics ≠ C ∧ cStatics ≠ a ∧ cStatics ≠ it ∧ ∃ o, s.heap.get? cStatics = some o := by
    obtain ⟨o, _, _, e, _⟩ := id hcs
    obtain ⟨o2, _, _, e2, _⟩ := amb.ns T hcs
    exact ⟨(fun q => by rw [q, hC0] at e; cases e), (fun q => by rw [q, ha0] at e; cases e), (fun q => by rw [q, hi0] at e; cases e), o2, e2⟩
  have aliveI : ∃ o, s.heap.get? it = some o := let ⟨o, e, _⟩ := hit; ⟨o, e⟩
  have aliveA : ∃ o, s.heap.get? a = some o := let ⟨o, _, _, e, _⟩ := hg; ⟨o, e⟩
  have aliveC : ∃ o, s.heap.get? C = some o := let ⟨o, _, _, e, _⟩ := hC; ⟨o, e⟩
  have aliveL : ∃ o, s.heap.get? al = some o := let ⟨o, e, _⟩ := hl; ⟨o, e⟩
  have memI : it ∈ fp := let ⟨o, e⟩ := aliveI; hfp2 it o e (Ne.symm hCi) (Ne.symm hai)
  have memL : al ∈ fp := let ⟨o, e⟩ := aliveL; hfp2 al o e halC hala
  have W := WalksS.genexpQ (prog := prog) (w := w) (A := A.in1.in1) hh a g C fp [it] (fun _ => true) items.size (fun i y => ∃ t u, xs[i]? = some t ∧ y = .str (strOf t.1) u) haC (fun q => (hfp a q).2 rfl) (fun b hb => by rw [List.mem_singleton.mp hb]; exact memI) hroom
    (let ⟨h1, h2, _, o, e⟩ := hcs2; hfp2 cStatics o e h1 h2) hcs2.1 (by simpa using hcs2.2.2.1)
  have st0 : GenAt prog w A.in1.in1 a g C fp [it] (fun _ => true) items.size (fun i y => ∃ t u, xs[i]? = some t ∧ y = .str (strOf t.1) u) 0 s :=
    GenAt.fresh (A := A.in1.in1) (cenv := genEnv scope cl C code builtinsNs env) hh (fun A' hA' => (Walks.list hA' it al hali items).mono_fp fun b hb => by
      rcases List.mem_cons.mp hb with rfl | hb
      · exact memI
      · rw [List.mem_singleton.mp hb]; exact memL) (fun _ => true) _ hk2 (by simp [genEnv, hkind]) hco (fun q => (hfp C q).1 rfl) qg hg hgs ⟨hit, hl⟩ hC (amb.nolimit T)
  rw [passing_all, List.length_range] at W
  refine SC.joinGen W (fun i s st => st.1.typeIs) st0 (fun b hb => ?_) (.head _) (fun j v hv => ?_) (fun s' l hm hacc => ?_) (by rw [hlen]; exact hn)
  · rcases List.mem_cons.mp hb with rfl | hb
    · obtain ⟨o, e⟩ := aliveA; exact Heap.lt_size e
    · rcases List.mem_cons.mp hb with rfl | hb
      · obtain ⟨o, e⟩ := aliveC; exact Heap.lt_size e
      · exact List.mem_range.mp (List.mem_filter.mp hb).1
  · obtain ⟨i, _, t, u, _, e⟩ := hv
    exact ⟨_, u, e⟩
  · have hll : l.length = xs.length := by
      have := hacc.1
      rw [List.size_toArray, strValues_len] at this
      rw [this, hlen]
    have el : l.map (·.1) = firstsOf xs := by
      refine List.ext_getElem (by rw [List.length_map, hll, firstsOf, List.length_map]) fun j h1 h2 => ?_
      rw [List.length_map] at h1
      have hv : (strValues l).toArray[j]? = some (.str l[j].1 l[j].2) := by
        unfold strValues
        rw [List.getElem?_toArray, List.getElem?_map, List.getElem?_eq_getElem h1]; rfl
      obtain ⟨i, hi, t, u, hx, e⟩ := hacc.2 j _ hv
      have hij : i = j := by
        obtain ⟨h3, h4⟩ := List.getElem?_eq_some_iff.mp hi
        rw [← h4]; simp
      subst hij
      injection e with e _
      rw [List.getElem_map, e]
      have hf : (firstsOf xs)[i]? = some (strOf t.1) := by unfold firstsOf; rw [List.getElem?_map, hx]; rfl
      exact (List.getElem?_eq_some_iff.mp hf).2.symm
    rw [el]
    refine ⟨ok, fun t' k => h t' _ ?_⟩
    have hp : PT ≠ C ∧ PT ≠ it ∧ (93 : Addr) ≠ C ∧ (93 : Addr) ≠ it := by
      obtain ⟨ps0, t0⟩ := T.tab
      obtain ⟨o93, _, h93, _⟩ := t0.1
      have h92 := t0.2
      exact ⟨(fun q => by rw [q, hC0] at h92; cases h92), (fun q => by rw [q, hi0] at h92; cases h92), (fun q => by rw [q, hC0] at h93; cases h93), (fun q => by rw [q, hi0] at h93; cases h93)⟩
    have keep : ∀ b o, b ∉ [C, it] → s.heap.get? b = some o → s'.heap.get? b = some o := hm.heap
    refine ⟨fun b o _ hb e => keep b o hb e, fun ps t i => ⟨#[], ?_, ?_⟩, fun i x hi e => ?_, fun b => hm.gens.bare b, hm.os⟩
    · rw [Array.append_empty]
      obtain ⟨⟨o, vs, e, rr⟩, e2⟩ := t
      exact ⟨⟨o, vs, keep _ _ (by simp [hp.2.2.1, hp.2.2.2]) e, rr⟩, keep _ _ (by simp [hp.1, hp.2.1]) e2⟩
    · rw [Array.append_empty]
      obtain ⟨o, vs, file, tf, flags, tg, inF, text, tt, op, h1, h2, h3, h4, h5, h6, h7, h8, rr⟩ := i
      exact ⟨o, vs, file, tf, flags, tg, inF, text, tt, op, keep _ _ (by simp [hp.2.2.1, hp.2.2.2]) h1, h2, h3, h4, h5, h6, h7, keep _ _ (by simp [hp.1, hp.2.1]) h8, rr⟩
    · show s'.gens[i]? = some x
      rcases hm.gens with q | ⟨⟨_, q⟩, _⟩
      · rw [q]; exact e
      · rw [q i (fun z => hi (by rw [z]; exact .head _))]; exact e
end
def preOf2 (xs : List (Int × Int × Int)) : Str := if decide ((xs.length : Int) > 1) then ("at tab size" : Str) ++ "s" else "at tab size"
/-- the words of format_witnesses -/
def fmt (xs : List (Int × Int × Int)) : Str := preOf2 xs ++ " " ++ Txt.join ", " (firstsOf xs)
section
variable {w : World} {H : Heap} {A : Around} {M : List Addr} {n : Nat}
theorem c_format (T : Top0 (KK w) H) (hA : AOk A (n + 4)) {xs : List (Int × Int × Int)} (hlen : xs.length ≤ 1000) (hsm : ∀ t ∈ xs, t.1.natAbs.log2 < 1920) (ok : JoinOk ", " (firstsOf xs) = true) (hjl : (Txt.join ", " (firstsOf xs)).length ≤ 5000) : CallT PG w H A M (.ref 94) [.d (LT3 xs)] (.d (.str (fmt xs))) := by
  refine call_fun (ps := ["w"]) (ds := [LT3 xs]) T hA (qual := ?q) (body := ?b) (scope := ?s) (cdv := ?c) ?F ?g ?l ?hb
  case F => walk_at "fnis1"
  case g => rfl
  case l => rfl
  case hb =>
    intro L A' hA'
    rw [vars0_V]
    intro B s Kk E S k
    have big : (8000 : Nat) ≤ sizeLine := by decide
    refine x_next (wpAny_Assign_Name (genexp_new (ds := xs.map tri) (y := "w") (cl := []) T hA'.room S.e rfl (by decide) rfl rfl rfl (by decide) rfl rfl fun a C it al items g code s5 k5 ha0 hC0 hi0 haC hai hCi halM halP hala halC hali hl r hit hns hg hg0 hgs => ?_) (by rfl))
    have hp : ∀ b, s.heap.get? b = none → b ≠ PT := fun b e q => by
      obtain ⟨ps, t, _⟩ := S.e.amb.tab
      rw [q, t.2] at e; cases e
    have aliveC : ∃ o, s5.heap.get? C = some o := let ⟨o, _, _, e, _⟩ := hns; ⟨o, e⟩
    have aliveI : ∃ o, s5.heap.get? it = some o := let ⟨o, e, _⟩ := hit; ⟨o, e⟩
    have aliveA : ∃ o, s5.heap.get? a = some o := let ⟨o, _, _, e, _⟩ := hg; ⟨o, e⟩
    have out : ∀ b, s.heap.get? b = none → b ∉ mwOf _ L ++ M := fun b e q => by obtain ⟨o, e2⟩ := S.e.alive b q; rw [e] at e2; cases e2
    have f2 : ∀ b ∈ [C, it], s.heap.get? b = none := fun b hb => by
      rcases List.mem_cons.mp hb with rfl | hb
      · exact hC0
      · rw [List.mem_singleton.mp hb]; exact hi0
    have S5 := S.hide T k5 (wr := [C, it]) f2 fun b hb => by
      rcases List.mem_cons.mp hb with rfl | hb
      · exact aliveC
      · rw [List.mem_singleton.mp hb]; exact aliveI
    generalize mwOf _ L = Mw0 at *
    have S5' := S5.rebase (turn_kp Mw0 s5) fun m hm => hideAll_none _ hm
    refine store_d (d := .opq a) T S5' (.inl rfl) (rda_d.mpr (by
      unfold Rd
      refine ⟨rfl, fun q => ?_, hp a ha0, aliveA⟩
      rcases List.mem_append.mp q with q | q
      · exact out a ha0 (List.mem_append.mpr (.inl q))
      · rcases List.mem_append.mp q with q | q
        · rcases List.mem_cons.mp q with q | q
          · exact haC q
          · exact hai (List.mem_singleton.mp q)
        · exact out a ha0 (List.mem_append.mpr (.inr q)))) fun s6 S6 _ => ⟨rfl, ?_⟩
    rw [upd_V] at S6
    refine x_assign T S6 ev_str (.inl rfl) fun s7 S7 => ?_
    rw [upd_V] at S7
    refine x_ifV T S7 [("prefix", .d (.str (preOf2 xs))), ("firsts", .d (.opq a)), ("w", .d (LT3 xs))] (ts_cmp T (EvT.cast (ev_call T (fn_blt T gn_len bb_len rfl) trivial (evs_cons T (ev_name rfl) evs_nil) (len_of_list (by rw [List.length_map]; omega))) (by rw [List.length_map])) ev_int cmp_gt_int) (fun hq s8 S8 => ?_) (fun hq s8 S8 => ?_) (fun Mw9 s9 S9 => ?_)
    · refine x_assign T S8 (ev_bin T (ev_name rfl) ev_str (op_adds (by decide))) (.inl rfl) fun s9 S9 => ?_
      rw [upd_V] at S9
      refine x_nil ⟨rfl, _, S9.V _ ?_⟩
      have e : preOf2 xs = ("at tab size" : Str) ++ "s" := by unfold preOf2; rw [if_pos hq]
      rw [e]
      walk_at "mvsub"
    · refine x_nil ⟨rfl, _, S8.V _ ?_⟩
      have e : preOf2 xs = "at tab size" := by unfold preOf2; rw [if_neg (by rw [hq]; exact Bool.false_ne_true)]
      rw [e]
      walk_at "mvsub"
    · obtain ⟨k59, S9', nw⟩ := turn_back T S5 S9
      have hpl : (preOf2 xs).length ≤ 20 := by unfold preOf2; split <;> decide
      refine wpAny_execs_cons (wpAny_Return_some (wpAny_BinOp ?_))
      refine ev_bin T (ev_name rfl) ev_str (op_adds (a := preOf2 xs) (b := " ") (by show _ + 1 ≤ _; omega)) s9 _ _ S9'.e fun u s10 k10 r10 => ?_
      have S10 := S9'.kp T k10
      refine @MethodCall_ _ _ _ _ _ _ _ _ _ _ _ _ (@ev_str _ _ _ _ _ _ _ (", ") _ _ s10 _ _ S10.e fun v s11 k11 r11 => ?_) (by rfl)
      have S11 := S10.kp T k11
      refine hg_join s11 v _ _ S11.e.amb r11 ?_
      refine call_with T trivial S11.e (evs_cons T (ev_name rfl) evs_nil) (by rfl) fun vs s12 k12 r12 => ?_
      have S12 := S11.kp T k12
      obtain ⟨va, rfl, ra⟩ := one_of r12
      have ra := rda_d.mp ra
      unfold Rd at ra
      obtain ⟨rfl, -⟩ := ra
      obtain ⟨tv, rfl⟩ := str_of r11
      obtain ⟨tu, rfl⟩ := str_of r10
      have kq : KpX Mw0 [] s5 s12 := ((k59.trans k10.to).trans k11.to).trans k12.to
      have nMw : ∀ b, s.heap.get? b = none → b ∉ Mw0 := fun b e q => out b e (List.mem_append.mpr (.inl q))
      have kk : ∀ b o, s.heap.get? b = none → s5.heap.get? b = some o → s12.heap.get? b = some o := fun b o e e2 => kq.heap b o (hp b e) (nMw b e) e2
      have nH : ∀ b, s.heap.get? b = none → H.get? b = none := fun b e => S.e.amb.none_of e
      show wpAny _ _ (call (.builtin "str.join") [.str ", " tv, .ref a]) _ _ s12
      refine join_genexp (K := KK w) (m := fun y => if y = ".0" then some (.ref it) else none) (M := Mw0 ++ M) T hA'.hh hA'.room rfl rfl rfl rfl rfl rfl S12.e.amb (nH C hC0) (nH a ha0) (nH it hi0) haC hai hCi hala halC hali
        (hl.at fun o e => kq.heap al o halP (fun q => halM (List.mem_append.mpr (.inl q))) e) (hns.at' fun o e => kk C o hC0 e) (let ⟨o, nm, qn, e, rr⟩ := hg; ⟨o, nm, qn, kk a o ha0 e, rr⟩) (hit.at fun o e => kk it o hi0 e)
        (r.mono fun b o h1 h2 e => ⟨h1, kq.heap b o h2 (fun q => h1 (List.mem_append.mpr (.inl q))) e⟩) hsm (kq.gens g _ (by simp) hgs) (by omega) ok fun u2 s13 k13 => ?_
      have hB : ∀ b ∈ [C, it], B.heap.get? b = none := fun b hb => kp_base_none S.e.amb S.base (f2 b hb)
      have a5 : ∀ b ∈ [C, it], ∃ o, s5.heap.get? b = some o := fun b hb => by
        rcases List.mem_cons.mp hb with rfl | hb
        · exact aliveC
        · rw [List.mem_singleton.mp hb]; exact aliveI
      have hW : ∀ b ∈ [C, it], b ∉ Mw9 ++ M := fun b hb q => by
        rcases List.mem_append.mp q with q | q
        · rcases nw b q with q | q
          · exact nMw b (f2 b hb) q
          · obtain ⟨o, e⟩ := a5 b hb; rw [q] at e; cases e
        · exact out b (f2 b hb) (List.mem_append.mpr (.inr q))
      have S13 := S12.drop T k13 hB (fun g' hg' => by rw [List.mem_singleton.mp hg']; exact gens_none S.base hg0) hW (fun x c e => nomatch e)
      refine op_adds (M := []) (a := preOf2 xs ++ " ") (b := Txt.join ", " (firstsOf xs)) (by rw [cat_len]; show (preOf2 xs).length + 1 + _ ≤ _; omega) s13 _ _ _ _ S13.e.amb (fun _ h => nomatch h) rd_str rd_str fun rv s14 k14 rr => ?_
      exact k rv s14 (S13.kp T k14).base ((rda_d.mp rr).flat rfl)
end

def lowerOf (low : Int) (rides row : List Int) : List Int := (List.range row.length).map fun (k : Nat) => if (freeOf low rides row).any (· == (k : Int)) then row.getD k 0 - 1 else row.getD k 0
def wordsOf (n : Nat) : Str := if (n : Int) == 3 then "at tab sizes 1, 2, 3" else if (n : Int) == 1 then "at tab size 1" else "at tab size "
def cntList (l : List (Int × Int × Int)) : List Int := (slT l (some (-1)) none).map fun t => Int.fdiv (t.2.1 - t.2.2) t.1
def cntOf (l : List (Int × Int × Int)) : Int := (cntList l).sum
abbrev dueOf (low : Int) (rides row : List Int) : List (Int × Int × Int) := apart row (lowerOf low rides row) 0
/-- a step at which no check fails -/
structure Good (low : Int) (rides row : List Int) : Prop where
  isRow : Row (lowerOf low rides row)
  s1 : Small (wsOf (lead row))
  s2 : Small (wsOf (lead (lowerOf low rides row)))
  told : wit (wsOf (lead row)) (wsOf (lead (lowerOf low rides row))) = dueOf low rides row
  words : fmt (dueOf low rides row) = wordsOf (dueOf low rides row).length
  eq : PyData.eqv (normD (wsOf (lead row))).py (normD (wsOf (lead (lowerOf low rides row)))).py = (freeOf low rides row == [])
  ok : JoinOk ", " (firstsOf (dueOf low rides row)) = true
  jl : (Txt.join ", " (firstsOf (dueOf low rides row))).length ≤ 5000
theorem lead_len {i : Int} (h : i = 0 ∨ i = 1 ∨ i = 2) : (leadOf i).length ≤ 4 := by rcases h with rfl | rfl | rfl <;> decide
theorem lead_ok {ns : List Int} (h : ∀ i ∈ ns, i = 0 ∨ i = 1 ∨ i = 2) (hl : ns.length ≤ 20) : JoinOk "" (ns.map leadOf) = true ∧ (lead ns).length ≤ 80 := by
  have h1 : ∀ r ∈ ns.map leadOf, r.length ≤ 4 := fun r hr => by
    obtain ⟨i, hi, rfl⟩ := List.mem_map.mp hr
    exact lead_len (h i hi)
  refine ⟨joinOk_of (n := 20) (m := 4) (by rw [List.length_map]; exact hl) h1 (by decide), ?_⟩
  have h2 := join_len (m := 4) h1
  rw [List.length_map] at h2
  unfold lead
  omega
theorem columns_get {ns : List Int} (h : Row ns) {k : Nat} (hk : k < 5) : 0 ≤ (columns ns).getD k 0 ∧ (columns ns).getD k 0 ≤ 100 := by
  have h1 := Row.sum_le h.dig
  have h2 : (ns.filter fun i => i == 2).length ≤ ns.length := List.length_filter_le _ _
  rw [h.len] at h1 h2
  unfold columns
  match k, hk with
  | 0, _ => show 0 ≤ 5 + ns.sum + _ ∧ 5 + ns.sum + _ ≤ (100 : Int); omega
  | 1, _ => show 0 ≤ (10 : Int) + 2 * _ ∧ (10 : Int) + 2 * _ ≤ 100; omega
  | 2, _ => show 0 ≤ (15 : Int) + 3 * _ ∧ (15 : Int) + 3 * _ ≤ 100; omega
  | 3, _ => show (0 : Int) ≤ 20 ∧ (20 : Int) ≤ 100; omega
  | 4, _ => show (0 : Int) ≤ 25 ∧ (25 : Int) ≤ 100; omega
structure TriOk (t : Int × Int × Int) : Prop where
  ts : 1 ≤ t.1 ∧ t.1 ≤ 5
  a : 0 ≤ t.2.1 ∧ t.2.1 ≤ 200
  b : 0 ≤ t.2.2 ∧ t.2.2 ≤ 200
theorem apart_ok {row other : List Int} (h1 : Row row) (h2 : Row other) {behind : Int} (hb : 0 ≤ behind ∧ behind ≤ 10) {t : Int × Int × Int} (ht : t ∈ apart row other behind) : TriOk t := by
  unfold apart at ht
  obtain ⟨k, hk, rfl⟩ := List.mem_map.mp ht
  have hk5 : k < 5 := List.mem_range.mp (List.mem_filter.mp hk).1
  have c1 := columns_get h1 hk5
  have c2 := columns_get h2 hk5
  exact ⟨⟨by show (1 : Int) ≤ (k : Int) + 1; omega, by show (k : Int) + 1 ≤ 5; omega⟩, ⟨c1.1, by show (columns row).getD k 0 ≤ 200; omega⟩, ⟨by show 0 ≤ (columns other).getD k 0 + behind; omega, by show (columns other).getD k 0 + behind ≤ 200; omega⟩⟩
theorem apart_len (row other : List Int) (behind : Int) : (apart row other behind).length ≤ 5 := by
  unfold apart
  rw [List.length_map]
  exact Nat.le_trans (List.length_filter_le _ _) (by rw [List.length_range]; exact Nat.le_refl _)
theorem tri_py (xs : List (Int × Int × Int)) : D.pyL (xs.map tri) = xs.map fun t => PyData.tuple [.int t.1, .int t.2.1, .int t.2.2] := by
  rw [pyL_eq, List.map_map]; rfl
theorem shaped_tris (xs : List (Int × Int × Int)) : SeqAt.shaped (D.py (LT3 xs)) = true := by
  have h1 : ∀ xs : List (Int × Int × Int), PyData.canLayAll0 (xs.map fun t => PyData.tuple [.int t.1, .int t.2.1, .int t.2.2]) = true := fun xs => by
    induction xs with
    | nil => simp [PyData.canLayAll0]
    | cons x l ih => rw [List.map_cons]; simp [PyData.canLayAll0, PyData.canLay0, ih]
  have h2 : ∀ xs : List (Int × Int × Int), PyData.depthAll (xs.map fun t => PyData.tuple [.int t.1, .int t.2.1, .int t.2.2]) ≤ 1 := fun xs => by
    induction xs with
    | nil => simp [PyData.depthAll]
    | cons x l ih => rw [List.map_cons]; simp [PyData.depthAll, PyData.depth, ih]
  unfold SeqAt.shaped
  simp only [D.py, tri_py]
  have := h2 xs
  simp [PyData.canLay0, PyData.depth, h1]
  omega
theorem eqv_tris (xs : List (Int × Int × Int)) : PyData.eqv (D.py (LT3 xs)) (D.py (LT3 xs)) = true := by
  simp only [D.py, tri_py, PyData.eqv]
  induction xs with
  | nil => simp [PyData.eqvAll]
  | cons x l ih => rw [List.map_cons]; simp [PyData.eqvAll, PyData.eqv, ih]
section
variable {prog : Program} {w : World} {K : Frag} {H : Heap} {A : Around} {env : Env} {M : List Addr} {σ : Vars}
theorem ev_neg {e : Expr} {i : Int} {pos : Pos} (h1 : EvT prog w H A env M σ e (.d (.int i))) : EvT prog w H A env M σ (.UnaryOp .USub e pos) (.d (.int (-i))) := fun s Q E S h =>
  wpAny_UnaryOp (h1 s _ _ S fun v s1 k1 r1 => by
    obtain ⟨t, rfl⟩ := int_of r1
    exact PyProof.Rows.neg_int (h _ _ (k1.trans Kp.toks) rd_int))
end

abbrev roadStep (rides : List Int) (st : List Int × List Int) (low : Int) : List Int × List Int := (st.1 ++ [cntOf (dueOf low rides st.2)], lowerOf low rides st.2)
/-- a road: what the steps changed, the last row -/
def roadOf (rides : List Int) (lows row : List Int) : List Int × List Int := lows.foldl (roadStep rides) ([], row)
theorem road_row {rides : List Int} {lows : List Int} (hg : ∀ low ∈ lows, ∀ row, Row row → Good low rides row) {row : List Int} (hr : Row row) : ∀ i, Row ((lows.take i).foldl (roadStep rides) ([], row)).2 ∧ ((lows.take i).foldl (roadStep rides) ([], row)).1.length ≤ i := by
  intro i
  induction i with
  | zero => exact ⟨hr, Nat.le_refl _⟩
  | succ i ih =>
    cases h : lows[i]? with
    | none =>
      have : lows.take (i + 1) = lows.take i := by rw [List.take_add_one, h]; simp
      rw [this]; exact ⟨ih.1, Nat.le_succ_of_le ih.2⟩
    | some t =>
      rw [foldl_take _ _ h]
      refine ⟨(hg t (List.mem_of_getElem? h) _ ih.1).isRow, ?_⟩
      show (_ ++ [_]).length ≤ i + 1
      rw [List.length_append, List.length_singleton]; omega
theorem freeOf_len {low : Int} {rides row : List Int} (hr : Row row) : (freeOf low rides row).length ≤ 5 := Nat.le_trans (List.length_filter_le _ _) (opening_len hr)
theorem last_len {α : Type} (l : List α) : (slT l (some (-1)) none).length ≤ 1 := by
  unfold slT
  rw [List.length_take, List.length_drop]
  show min (l.length - clipAt l.length (-1)) (l.length - clipAt l.length (-1)) ≤ 1
  unfold clipAt
  simp only [show (-1 : Int) < 0 by decide, if_true]
  omega
theorem fdiv_small {a b : Int} (hb : 1 ≤ b) (ha : -200 ≤ a ∧ a ≤ 200) : -200 ≤ Int.fdiv a b ∧ Int.fdiv a b ≤ 200 := by
  rw [Int.fdiv_eq_ediv_of_nonneg _ (by omega)]
  have h1 : a / b * b ≤ a := Int.ediv_mul_le a (by omega)
  have h2 : a < (a / b + 1) * b := Int.lt_ediv_add_one_mul_self a (by omega)
  refine ⟨?_, ?_⟩
  · apply Int.not_lt.mp
    intro q
    have h3 : a / b + 1 ≤ -200 := by omega
    have h4 : (a / b + 1) * b ≤ -200 * b := Int.mul_le_mul_of_nonneg_right h3 (by omega)
    omega
  · apply Int.not_lt.mp
    intro q
    have h3 : 201 ≤ a / b := by omega
    have h4 : 201 * b ≤ a / b * b := Int.mul_le_mul_of_nonneg_right h3 (by omega)
    omega
theorem cnt_long {l : List (Int × Int × Int)} (h : ∀ t ∈ l, TriOk t) : ∀ k, k < (cntList l).length → InLong ((cntList l).getD k 0) ∧ InLong ((cntList l).take (k + 1)).sum := by
  have h1 : (cntList l).length ≤ 1 := by unfold cntList; rw [List.length_map]; exact last_len l
  have h2 : ∀ z ∈ cntList l, -200 ≤ z ∧ z ≤ 200 := fun z hz => by
    obtain ⟨t, ht, rfl⟩ := List.mem_map.mp hz
    have := h t (slT_mem ht)
    obtain ⟨⟨a1, a2⟩, ⟨b1, b2⟩, c1, c2⟩ := this
    exact fdiv_small a1 (by omega)
  generalize cntList l = c at *
  intro k hk
  match c, h1, h2, hk with
  | [z], _, h2, hk =>
    have hz := h2 z (.head _)
    have : k = 0 := by simp at hk; exact hk
    subst this
    have e1 : ([z] : List Int).getD 0 0 = z := rfl
    have e2 : (([z] : List Int).take (0 + 1)).sum = z := by simp
    rw [e1, e2]
    unfold InLong
    omega
def triI : D → Int × Int × Int
  | .tup [.int a, .int b, .int c] => (a, b, c)
  | _ => (0, 0, 0)
theorem triI_tri (t : Int × Int × Int) : triI (tri t) = t := rfl
section
variable {w : World} {H : Heap} {A : Around} {M : List Addr} {n : Nat}
theorem c_road (T : Top0 (KK w) H) (hA : AOk A (n + 14)) {row rides lows : List Int} (hr : Row row) (hd : Rides rides) (hl : lows.length ≤ 20) (hg : ∀ low ∈ lows, ∀ row, Row row → Good low rides row) :
    CallT PG w H A M (.ref 174) [.d (LI row), .d (.tup (lows.map .int)), .d (LI rides)] (.d (.tup [LI (roadOf rides lows row).1, LI (roadOf rides lows row).2])) := by
  refine call_fun (ps := ["row", "lows", "rides"]) (ds := [LI row, .tup (lows.map .int), LI rides]) T hA (qual := ?q) (body := ?b) (scope := ?s) (cdv := ?c) ?F ?g ?l ?hb
  case F => walk_at "fnis3"
  case g => rfl
  case l => rfl
  case hb =>
    intro L A' hA'
    rw [vars0_V]
    intro B s Kk E S k
    refine x_new T S (evn_list (l := []) T evs_nil (by decide)) (.inl rfl) fun a s1 S1 => ?_
    rw [upd_V] at S1
    have big : (8000 : Nat) ≤ sizeLine := by decide
    let st : Nat → List Int × List Int := fun i => (lows.take i).foldl (roadStep rides) ([], row)
    let VV : Addr → List Int × List Int → List (Str × AV) := fun a st => [("counts", .own a ((st.1.map D.int).map .d)), ("row", .d (LI st.2)), ("rides", .d (LI rides)), ("lows", .d (.tup (lows.map .int)))]
    have S2 := S1.V (VV a ([], row)) (by simp only [VV]; walk_at "mvsub")
    refine x_forN (g := .int) (xs := lows) T S2 (fun i l => ∃ a, l = VV a (st i)) (fun _ => False) (fun _ => False) rfl (ItT.toW (it_tuple T hA'.hh (ev_name rfl))) (.inl rfl) ⟨a, rfl⟩ (fun i low l B' Mc' Mw s' Kk' E' hj hc S' nx _ _ => ?_) (fun Mw l' s' hJ S' => ?_) (fun _ _ _ h => h.elim)
    · obtain ⟨a, rfl⟩ := hj
      have hi20 : i < 20 := by have := (List.getElem?_eq_some_iff.mp hc).1; omega
      obtain ⟨hrow, hcl⟩ := road_row hg hr i
      have hst : st (i + 1) = roadStep rides (st i) low := foldl_take _ _ hc
      have G := hg low (List.mem_of_getElem? hc) _ hrow
      change Row (st i).2 at hrow
      change (st i).1.length ≤ i at hcl
      change Good low rides (st i).2 at G
      generalize st i = st0 at *
      obtain ⟨cs, rw0⟩ := st0
      simp only at hrow hcl G hst
      have hlow := G.isRow
      have hl0 := hrow.len
      have hfl := freeOf_len (low := low) (rides := rides) hrow
      have L1 := lead_ok hrow.dig (by rw [hl0]; decide)
      have L2 := lead_ok hlow.dig (by rw [hlow.len]; decide)
      have hdue : (dueOf low rides rw0).length ≤ 5 := apart_len rw0 (lowerOf low rides rw0) 0
      have S4 := S'.V [("low", .d (.int low)), ("counts", .own a ((cs.map D.int).map .d)), ("row", .d (LI rw0)), ("rides", .d (LI rides)), ("lows", .d (.tup (lows.map .int)))] (by simp only [VV]; walk_at "mvsub")
      refine x_assign T S4 (ev_call T (fn_glob T ga_149 rfl) kf_149 (evs_cons T (ev_name rfl) (evs_cons T (ev_name rfl) (evs_cons T (ev_name rfl) evs_nil))) (c_free T hA' hrow hd)) (.inr ⟨rfl, rfl, rfl⟩) fun s5 S5 => ?_
      rw [upd_V] at S5
      refine x_if T S5 (b := false) (ts_cmp T (ev_name rfl) ev_none cmp_is_none) (fun hq => nomatch hq) (fun _ s6 S6 => x_nil ?_)
      show wpAny _ _ (execs _ _) _ _ _
      refine x_compT (g := fun k : Nat => .int k) T S6 rfl (fun d => d.toInt.toNat) (fun _ => rfl) [("row", L + 1), ("free", L + 2)] (fun _ => true) (fun k => .int (if (freeOf low rides rw0).any (· == (k : Int)) then rw0.getD k 0 - 1 else rw0.getD k 0)) (it_range1 T hA'.hh (fn_blt T gn_range bb_range rfl) (ev_call T (fn_blt T gn_len bb_len rfl) trivial (evs_cons T (ev_name rfl) evs_nil) (len_of_list (by rw [List.length_map]; omega))) (by omega) (by rw [List.length_map]; omega)).g ?hlen ?C rfl ?t (.inl rfl) fun s7 S7 => ?_
      case hlen => rw [List.length_range, List.length_map, hl0]; decide
      case C => walk_at "mcapt"
      case t =>
        intro k hk Ca M'
        have hk5 : k < 5 := by have := List.mem_range.mp hk; rw [List.length_map] at this; omega
        have hn : ((k : Nat) : Int).toNat = k := Int.toNat_natCast k
        refine ⟨tests_nil, fun _ => ev_ifexp T (ts_cmp T (ev_name rfl) (ev_name rfl) cmp_in_ints) (fun h => ?_) (fun h => ?_)⟩
        · rw [h, if_pos rfl]
          exact EvT.cast (ev_bin T (ev_item_g (g := .int) T 0 (ev_name rfl) (ev_name rfl) (by omega) (by rw [hn]; omega) (by omega)) ev_int op_sub) (by rw [hn])
        · rw [h, if_neg Bool.false_ne_true]
          exact EvT.cast (ev_item_g (g := .int) T 0 (ev_name rfl) (ev_name rfl) (by omega) (by rw [hn]; omega) (by omega)) (by rw [hn])
      have e1 : D.list (((List.range ((rw0.map D.int).length : Int).toNat).filter fun _ => true).map fun (k : Nat) => D.int (if (freeOf low rides rw0).any (· == (k : Int)) then rw0.getD k 0 - 1 else rw0.getD k 0)) = LI (lowerOf low rides rw0) := by
        rw [List.filter_eq_self.mpr (fun _ _ => rfl), Int.toNat_natCast, List.length_map]
        unfold LI lowerOf
        rw [List.map_map]; rfl
      rw [e1] at S7
      refine x_assign T S7 (ev_call T (fn_glob T ga_169 rfl) kf_169 (evs_cons T (ev_name rfl) (evs_cons T (ev_name rfl) (evs_cons T ev_int evs_nil))) (c_apart T hA' hrow hlow 0)) (.inl rfl) fun s8 S8 => ?_
      rw [upd_V] at S8
      have hdl : ((dueOf low rides rw0).map tri).length = (dueOf low rides rw0).length := List.length_map ..
      refine x_assign (d := .str (wordsOf (dueOf low rides rw0).length)) T S8 (ev_ifexp T (ts_cmp T (EvT.cast (ev_call T (fn_blt T gn_len bb_len rfl) trivial (evs_cons T (ev_name rfl) evs_nil) (len_of_list (by rw [hdl]; omega))) (by rw [hdl])) ev_int cmp_eq_int) (fun h => EvT.cast ev_str (by unfold wordsOf; rw [if_pos h])) (fun h => ev_ifexp T (ts_cmp T (EvT.cast (ev_call T (fn_blt T gn_len bb_len rfl) trivial (evs_cons T (ev_name rfl) evs_nil) (len_of_list (by rw [hdl]; omega))) (by rw [hdl])) ev_int cmp_eq_int) (fun h2 => EvT.cast ev_str (by unfold wordsOf; rw [if_neg (by rw [h]; exact Bool.false_ne_true), if_pos h2])) (fun h2 => EvT.cast ev_str (by unfold wordsOf; rw [if_neg (by rw [h]; exact Bool.false_ne_true), if_neg (by rw [h2]; exact Bool.false_ne_true)])))) (.inl rfl) fun s9 S9 => ?_
      rw [upd_V] at S9
      refine x_tup_sw T S9 hA'.hh [("lead", instD (lead rw0)), ("under", instD (lead (lowerOf low rides rw0)))] (ev_tuple (ds := [instD (lead rw0), instD (lead (lowerOf low rides rw0))]) T (evs_cons T (ev_call T (fn_glob T ga_83 rfl) kf_83 (evs_cons T (ev_call T (fn_glob T ga_159 rfl) kf_159 (evs_cons T (ev_name rfl) evs_nil) (c_lead T hA' hrow.dig (by omega) L1.1)) evs_nil) (c_make T hA' (by omega))) (evs_cons T (ev_call T (fn_glob T ga_83 rfl) kf_83 (evs_cons T (ev_call T (fn_glob T ga_159 rfl) kf_159 (evs_cons T (ev_name rfl) evs_nil) (c_lead T hA' hlow.dig (by rw [hlow.len]; omega) L2.1)) evs_nil) (c_make T hA' (by omega))) evs_nil)) (by walk_at "msz")) (fun s10 S10 => ?_) (by walk_at "mbinds")
      simp only [List.reverse_cons, List.reverse_nil, List.nil_append, List.cons_append, List.foldl_cons, List.foldl_nil, upd_V] at S10
      refine x_assign T S10 (ev_meth (f := .ref 66) T rfl (ev_name rfl) (hg_inst T (by exact rfl) (by exact rfl) (by intros; exact rfl)) (evs_cons T (ev_name rfl) evs_nil) (c_wit T hA' G.s1 G.s2)) (.inl rfl) fun s11 S11 => ?_
      rw [upd_V, G.told] at S11
      have S12 := S11.V [("told", .d (LT3 (dueOf low rides rw0))), ("due", .d (LT3 (dueOf low rides rw0))), ("words", .d (.str (wordsOf (dueOf low rides rw0).length))), ("lead", .d (instD (lead rw0))), ("under", .d (instD (lead (lowerOf low rides rw0)))), ("free", .d (LI (freeOf low rides rw0))), ("lower", .d (LI (lowerOf low rides rw0))), ("counts", .own a ((cs.map D.int).map .d)), ("rides", .d (LI rides)), ("lows", .d (.tup (lows.map .int)))] (by walk_at "mvsub")
      have tok : ∀ t ∈ dueOf low rides rw0, TriOk t := fun t ht => apart_ok hrow hlow (by decide) ht
      have hsm : ∀ t ∈ dueOf low rides rw0, t.1.natAbs.log2 < 1920 := fun t ht => by
        obtain ⟨⟨h1, h2⟩, _⟩ := tok t ht
        have h3 : t.1.natAbs < 2 ^ 10 := by omega
        by_cases q : t.1.natAbs = 0
        · rw [q]; decide
        · have := (Nat.log2_lt q).mpr h3; omega
      have hF : PyData.eqv (D.py (LI (freeOf low rides rw0))) (D.py (.list [])) = (freeOf low rides rw0 == []) := by
        have := eqv_ints (freeOf low rides rw0) []
        simp only [D.py, ints_py, PyData.eqv, D.pyL]
        exact this
      refine x_if T S12 (ts_boolop (all_or T (ts_cmp T (ev_name rfl) (ev_name rfl) (cmp_ne_data hA' (shaped_tris _) (shaped_tris _))) fun _ => all_or T (ts_cmp T (ev_call T (fn_glob T ga_94 rfl) kf_94 (evs_cons T (ev_name rfl) evs_nil) (c_format T hA' (by omega) hsm G.ok G.jl)) (ev_name rfl) cmp_ne_str) fun _ => all_or T (ts_cmp T (ev_meth (f := .ref 59) T rfl (ev_name rfl) (hg_inst T (by exact rfl) (by exact rfl) (by intros; exact rfl)) (evs_cons T (ev_name rfl) evs_nil) (c_equal T hA' G.s1 G.s2)) (ev_cmp T (ev_name rfl) (ev_list (ds := []) T evs_nil (by decide)) (cmp_eq_data hA' (shaped_ints _) (by decide))) cmp_isnot_bool) fun _ => all_nil_or)) (fun hq => ?_) (fun _ s13 S13 => x_nil ?_)
      · rw [eqv_tris, G.words, G.eq, hF] at hq
        simp at hq
      · show wpAny _ _ (execs _ _) _ _ _
        refine x_append (a := a) (l := cs.map D.int) (d := .int (cntOf (dueOf low rides rw0))) T S13 (S13.ownW "counts" _ rfl a (by simp [AV.addrs])).1 (ev_name rfl) (ev_call T (fn_blt T gn_sum bb_sum rfl) trivial (evs_cons T (EvT.cast (ev_compT (g := tri) (xs := slT (dueOf low rides rw0) (some (-1)) none) T triI triI_tri [] (fun _ => true) (fun t => .int (Int.fdiv (t.2.1 - t.2.2) t.1)) (it_list T hA'.hh (EvT.cast (ev_slice_list T (.inl rfl) (by rw [hdl]; omega) (ev_name rfl) (part_some (ev_neg ev_int)) part_none) (congrArg (fun z => AV.d (.list z)) (sl_map tri _ _ _)))).g ?h1 Capt.nil rfl ?t1) ?e1) evs_nil) (sum_ok (ns := cntList (dueOf low rides rw0)) T hA'.hh (cnt_long tok))) (by rw [List.length_map]; omega) fun s14 S14 => ?_
        case h1 => have := last_len (dueOf low rides rw0); omega
        case t1 =>
          intro t ht Ca M'
          obtain ⟨⟨t1, t2⟩, ⟨a1, a2⟩, b1, b2⟩ := tok t (slT_mem ht)
          refine ⟨tests_nil, fun _ => ev_bin T (ev_bin T (ev_item_tup (l := [.int t.1, .int t.2.1, .int t.2.2]) (x := .int t.2.1) T (ev_name rfl) ev_int (by decide) rfl) (ev_item_tup (l := [.int t.1, .int t.2.1, .int t.2.2]) (x := .int t.2.2) T (ev_name rfl) ev_int (by decide) rfl) op_sub) (ev_item_tup (l := [.int t.1, .int t.2.1, .int t.2.2]) (x := .int t.1) T (ev_name rfl) ev_int (by decide) rfl) (op_div (by omega) (PyProof.noPylong_small (by omega)))⟩
        case e1 =>
          rw [List.filter_eq_self.mpr (fun _ _ => rfl)]
          unfold cntList
          rw [List.map_map]; rfl
        rw [putV_V] at S14
        simp only [List.map_cons, List.map_nil, AV.put, if_true] at S14
        refine x_assign T S14 (ev_name rfl) (.inr ⟨rfl, rfl, rfl⟩) fun s15 S15 => ?_
        rw [upd_V] at S15
        refine x_nil ?_
        refine nx _ _ _ ⟨a, rfl⟩ (S15.V _ ?_)
        rw [hst]
        simp only [VV, List.map_append, List.map_cons, List.map_nil]
        walk_at "mvsub"
    · have ⟨a, e⟩ : ∃ a, l' = VV a (st lows.length) := by
        rcases hJ with h | h
        · exact h
        · exact h.elim
      subst e
      have eall : st lows.length = roadOf rides lows row := by show (lows.take lows.length).foldl _ _ = _; rw [List.take_length]; rfl
      rw [eall] at S'
      obtain ⟨Mw2, S5⟩ := S'.freeze T (x := "counts") rfl
      rw [upd_V] at S5
      refine x_return T S5 (ev_tuple (ds := [LI (roadOf rides lows row).1, LI (roadOf rides lows row).2]) T (evs_cons T (EvT.cast (ev_name rfl) ?_) (evs_cons T (ev_name rfl) evs_nil)) (by walk_at "msz")) fun v s' S' r => k v s' S'.base r
      unfold AV.frz; rw [frzL_d]
end

theorem sg_bs (c : Nat) : ((⟨#[c]⟩ : Str) == "\\") = (c == 92) := by
  show ((⟨#[c]⟩ : Str) == ⟨#[92]⟩) = _
  simp [BEq.beq]
theorem sg_q (c : Nat) : ((⟨#[c]⟩ : Str) == "\"") = (c == 34) := by
  show ((⟨#[c]⟩ : Str) == ⟨#[34]⟩) = _
  simp [BEq.beq]
theorem sg_o (c : Nat) : ((⟨#[c]⟩ : Str) == "(") = (c == 40) := by
  show ((⟨#[c]⟩ : Str) == ⟨#[40]⟩) = _
  simp [BEq.beq]
theorem sg_c (c : Nat) : ((⟨#[c]⟩ : Str) == ")") = (c == 41) := by
  show ((⟨#[c]⟩ : Str) == ⟨#[41]⟩) = _
  simp [BEq.beq]
theorem es_cps (c : Nat) : (("\\" : Str) ++ ⟨#[c]⟩) = ⟨#[92, c]⟩ := rfl
theorem two_ne (a b c : Nat) : ((⟨#[a, b]⟩ : Str) == ⟨#[c]⟩) = false := by
  simp [BEq.beq]
/-- brackets counted over the signs: an escape is open or not -/
def pg : List Nat → Bool → Int → Bool
  | [], _, n => n == 0
  | _ :: cs, true, n => pg cs false n
  | c :: cs, false, n => if c == 92 then pg cs true n else if c == 40 then pg cs false (n + 1) else if c == 41 then (if decide (n - 1 < 0) then false else pg cs false (n - 1)) else pg cs false n
theorem parenGo_pg : ∀ (cs : List Nat) (p : Nat) (e : Bool) (n : Int), parenGo (esc cs p e) n = pg cs e n
  | [], p, true, n => by
    unfold esc pg parenGo parenGo
    rw [if_neg (show ¬ ((("\\" : Str)) == "(") = true by decide), if_neg (show ¬ ((("\\" : Str)) == ")") = true by decide)]
  | [], p, false, n => by unfold esc pg parenGo; rfl
  | c :: cs, p, true, n => by
    unfold esc pg parenGo
    rw [es_cps]
    have h1 : ((⟨#[92, c]⟩ : Str) == "(") = false := two_ne 92 c 40
    have h2 : ((⟨#[92, c]⟩ : Str) == ")") = false := two_ne 92 c 41
    simp only [h1, h2, Bool.false_eq_true, if_false]
    exact parenGo_pg cs _ _ _
  | c :: cs, p, false, n => by
    unfold esc pg
    rw [sg_bs]
    cases h : (c == 92) with
    | true => simp only [if_true]; exact parenGo_pg cs _ _ _
    | false =>
      simp only [Bool.false_eq_true, if_false]
      unfold parenGo
      simp only [sg_o, sg_c, parenGo_pg cs]
/-- what is left of a text without what stands in quotation marks; what stands behind a mark that is open -/
def out : List Nat → Bool → Option (List Nat) → List Nat
  | [], _, none => []
  | [], _, some p => p
  | c :: cs, true, none => c :: out cs false none
  | c :: cs, true, some p => out cs false (some (p ++ [c]))
  | c :: cs, false, none => if c == 92 then c :: out cs true none else if c == 34 then out cs false (some [c]) else c :: out cs false none
  | c :: cs, false, some p => if c == 92 then out cs true (some (p ++ [c])) else if c == 34 then out cs false none else out cs false (some (p ++ [c]))
theorem out_none : ∀ (cs : List Nat) (e : Bool), 34 ∉ cs → out cs e none = cs
  | [], e, _ => by unfold out; rfl
  | c :: cs, true, h => by
    unfold out
    rw [out_none cs false (fun q => h (.tail _ q))]
  | c :: cs, false, h => by
    unfold out
    have hc : (c == 34) = false := by
      simp only [beq_eq_false_iff_ne]
      rintro rfl
      exact h (.head _)
    rw [out_none cs false (fun q => h (.tail _ q)), out_none cs true (fun q => h (.tail _ q)), hc]
    simp
def codes (x : Str) : List Nat := x.cps.toList
theorem codes_cat (a b : Str) : codes (a ++ b) = codes a ++ codes b := by
  show (a.cps ++ b.cps).toList = _
  rw [Array.toList_append]; rfl
theorem codes_join (xs : List Str) : codes (Txt.join "" xs) = (xs.map codes).flatten := by
  unfold Txt.join Builtin.Str.glued
  cases xs with
  | nil => rfl
  | cons x xs =>
    have key : ∀ (ys : List Str) (acc : Array Nat), (ys.foldl (fun acc p => acc ++ ("" : Str).cps ++ p.cps) acc).toList = acc.toList ++ (ys.map codes).flatten := by
      intro ys
      induction ys with
      | nil => intro acc; simp
      | cons y ys ih =>
        intro acc
        rw [List.foldl_cons, ih, List.map_cons, List.flatten_cons, Array.toList_append, Array.toList_append, List.append_assoc, List.append_assoc]
        rfl
    rw [List.map_cons, List.flatten_cons]
    exact key xs x.cps
theorem slice_ss (x : Str) {a b : Nat} (hab : a ≤ b) (hb : b ≤ x.length) : codes (Txt.slice x (some a) (some b)) = ((codes x).drop a).take (b - a) := by
  have := StrLaws.sliceText_nat x hab hb
  have e : Txt.slice x (some a) (some b) = StrLaws.sliceText x (some a) (some b) := rfl
  rw [e, this]; rfl
theorem slice_sn (x : Str) {a : Nat} (ha : a ≤ x.length) : codes (Txt.slice x (some a) none) = (codes x).drop a := by
  have hl : x.cps.toList.length = x.length := by simp [Str.length]
  have := StrLaws.sliceText_from (x := x) (i := a) ⟨by omega, by rw [hl]; omega⟩
  have e : Txt.slice x (some a) none = StrLaws.sliceText x (some a) none := rfl
  rw [e, this]
  show (List.take _ (List.drop _ _)) = _
  rw [Int.toNat_natCast]
  refine List.take_of_length_le ?_
  rw [List.length_drop]; omega

abbrev fl (res : List Str) : List Nat := (res.map codes).flatten
/-- what stands while a text is stripped: pre is read, em is what will stay of it -/
def SI (pre : List Nat) (em : List Nat) : Nat × Option Nat × List Str → Prop
  | (a, none, res) => a ≤ pre.length ∧ em = fl res ++ pre.drop a
  | (a, some q, res) => a ≤ q ∧ q ≤ pre.length ∧ em = fl res ++ (pre.drop a).take (q - a)
theorem SI.snoc {pre em : List Nat} {st : Nat × Option Nat × List Str} (h : SI pre em st) (c : Nat) : SI (pre ++ [c]) (if st.2.1.isNone then em ++ [c] else em) st := by
  obtain ⟨a, _ | q, res⟩ := st
  · obtain ⟨h1, rfl⟩ := h
    refine ⟨by rw [List.length_append]; omega, ?_⟩
    show _ ++ _ = _
    rw [List.drop_append_of_le_length h1, List.append_assoc]
  · obtain ⟨h1, h2, rfl⟩ := h
    refine ⟨h1, by rw [List.length_append]; omega, ?_⟩
    show fl res ++ _ = _
    rw [List.drop_append_of_le_length (by omega), List.take_append_of_le_length (by rw [List.length_drop]; omega)]
theorem qstep_other {x : Str} {st : Nat × Option Nat × List Str} {t : Nat × Str} (h : (t.2 == "\"") = false) : qstep x st t = st := by
  unfold qstep
  rw [h, if_neg (by decide)]
theorem fl_snoc (res : List Str) (y : Str) : fl (res ++ [y]) = fl res ++ codes y := by
  unfold fl; rw [List.map_append, List.flatten_append]; simp
theorem strip_end {x : Str} {em : List Nat} {st : Nat × Option Nat × List Str} (h : SI (codes x) em st) (e : Bool) : fl (stripped x st) = em ++ out [] e (st.2.1.map fun q => (codes x).drop q) := by
  have hl : (codes x).length = x.length := by show x.cps.toList.length = _; simp [Str.length]
  obtain ⟨a, o, res⟩ := st
  have key : ∀ (ha : a ≤ (codes x).length), fl (stripped x (a, o, res)) = fl res ++ (codes x).drop a := fun ha => by
    unfold stripped
    split
    · rw [fl_snoc, slice_sn x (by omega)]
    · rename_i hn
      have : a = (codes x).length := by
        have : ¬ ((a : Int) < (x.length : Int)) := fun q => hn (decide_eq_true q)
        omega
      rw [List.drop_of_length_le (by omega), List.append_nil]
  cases o with
  | none =>
    obtain ⟨h1, rfl⟩ := h
    rw [key h1]
    show _ = _ ++ out [] e none
    unfold out; rw [List.append_nil]
  | some q =>
    obtain ⟨h1, h2, rfl⟩ := h
    rw [key (by omega)]
    show _ = _ ++ out [] e (some ((codes x).drop q))
    have e1 : (codes x).drop q = ((codes x).drop a).drop (q - a) := by rw [List.drop_drop]; congr 1; omega
    unfold out
    rw [List.append_assoc, e1, List.take_append_drop]
theorem strip_go (x : Str) : ∀ (cs pre : List Nat) (e : Bool) (st : Nat × Option Nat × List Str) (em : List Nat), codes x = pre ++ cs → SI pre em st →
    fl (stripped x ((esc cs pre.length e).foldl (qstep x) st)) = em ++ out cs e (st.2.1.map fun q => pre.drop q)
  | [], pre, e, st, em, hx, hI => by
    rw [List.append_nil] at hx
    subst hx
    have e1 : (esc [] (codes x).length e).foldl (qstep x) st = st := by
      cases e
      · unfold esc; rfl
      · unfold esc
        rw [List.foldl_cons, List.foldl_nil]
        exact qstep_other (by show ((("\\" : Str)) == "\"") = false; decide)
    rw [e1]
    exact strip_end hI e
  | c :: cs, pre, e, st, em, hx, hI => by
    have hx' : codes x = (pre ++ [c]) ++ cs := by rw [hx]; simp
    have hlen : (pre ++ [c]).length = pre.length + 1 := by simp
    have plain : ∀ e', fl (stripped x ((esc cs (pre.length + 1) e').foldl (qstep x) st)) = (if st.2.1.isNone then em ++ [c] else em) ++ out cs e' (st.2.1.map fun q => (pre ++ [c]).drop q) := fun e' => by
      have := strip_go x cs (pre ++ [c]) e' st _ hx' (hI.snoc c)
      rw [hlen] at this
      exact this
    have pend : ∀ q res a, st = (a, some q, res) → (pre ++ [c]).drop q = pre.drop q ++ [c] := fun q res a h => by
      subst h
      obtain ⟨_, h2, _⟩ := hI
      rw [List.drop_append_of_le_length h2]
    obtain ⟨a, o, res⟩ := st
    cases e with
    | true =>
      unfold esc
      rw [List.foldl_cons, qstep_other (by show (("\\" : Str) ++ ⟨#[c]⟩ == "\"") = false; rw [es_cps]; exact two_ne 92 c 34), plain false]
      cases o with
      | none =>
        show (em ++ [c]) ++ out cs false none = em ++ out (c :: cs) true none
        rw [List.append_assoc]
        conv => rhs; unfold out
        rfl
      | some q =>
        show em ++ out cs false (some ((pre ++ [c]).drop q)) = em ++ out (c :: cs) true (some (pre.drop q))
        rw [pend q res a rfl]
        conv => rhs; unfold out
    | false =>
      unfold esc
      rw [sg_bs]
      cases h92 : (c == 92) with
      | true =>
        rw [if_pos rfl, plain true]
        cases o with
        | none =>
          show (em ++ [c]) ++ out cs true none = em ++ out (c :: cs) false none
          rw [List.append_assoc]
          conv => rhs; unfold out
          rw [h92, if_pos rfl]; rfl
        | some q =>
          show em ++ out cs true (some ((pre ++ [c]).drop q)) = em ++ out (c :: cs) false (some (pre.drop q))
          rw [pend q res a rfl]
          conv => rhs; unfold out
          rw [h92, if_pos rfl]
      | false =>
        rw [if_neg (by decide), List.foldl_cons]
        cases h34 : (c == 34) with
        | false =>
          rw [qstep_other (by show ((⟨#[c]⟩ : Str) == "\"") = false; rw [sg_q]; exact h34), plain false]
          cases o with
          | none =>
            show (em ++ [c]) ++ out cs false none = em ++ out (c :: cs) false none
            rw [List.append_assoc]
            conv => rhs; unfold out
            rw [h92, h34, if_neg (by decide), if_neg (by decide)]; rfl
          | some q =>
            show em ++ out cs false (some ((pre ++ [c]).drop q)) = em ++ out (c :: cs) false (some (pre.drop q))
            rw [pend q res a rfl]
            conv => rhs; unfold out
            rw [h92, h34, if_neg (by decide), if_neg (by decide)]
        | true =>
          have hq : ((⟨#[c]⟩ : Str) == "\"") = true := by rw [sg_q]; exact h34
          cases o with
          | none =>
            have e1 : qstep x (a, none, res) (pre.length, ⟨#[c]⟩) = (a, some pre.length, res) := by
              unfold qstep
              rw [if_pos (show ((pre.length, (⟨#[c]⟩ : Str)).2 == "\"") = true from hq)]
            rw [e1]
            obtain ⟨h1, rfl⟩ := hI
            have := strip_go x cs (pre ++ [c]) false (a, some pre.length, res) (fl res ++ pre.drop a) hx' ⟨h1, by rw [hlen]; omega, by
              rw [List.drop_append_of_le_length h1, List.take_append_of_le_length (by rw [List.length_drop]; omega), List.take_of_length_le (by rw [List.length_drop]; omega)]⟩
            rw [hlen] at this
            rw [this]
            show _ ++ out cs false (some ((pre ++ [c]).drop pre.length)) = _ ++ out (c :: cs) false none
            rw [List.drop_append_of_le_length (Nat.le_refl _), List.drop_length]
            conv => rhs; unfold out
            rw [h92, h34, if_neg (by decide), if_pos rfl]; rfl
          | some q =>
            obtain ⟨h1, h2, rfl⟩ := hI
            let res' := if (a : Int) != (q : Int) then res ++ [Txt.slice x (some a) (some q)] else res
            have e1 : qstep x (a, some q, res) (pre.length, ⟨#[c]⟩) = (pre.length + 1, none, res') := by
              unfold qstep
              rw [if_pos (show ((pre.length, (⟨#[c]⟩ : Str)).2 == "\"") = true from hq)]
            have hxl : q ≤ x.length := by
              have : (codes x).length = x.length := by show x.cps.toList.length = _; simp [Str.length]
              rw [hx, List.length_append] at this
              omega
            have e2 : fl res' = fl res ++ (pre.drop a).take (q - a) := by
              show fl (if (a : Int) != (q : Int) then _ else _) = _
              split
              · rw [fl_snoc, slice_ss x h1 hxl, hx, List.drop_append_of_le_length (by omega), List.take_append_of_le_length (by rw [List.length_drop]; omega)]
              · rename_i hn
                have : a = q := by
                  have : ((a : Int) != (q : Int)) = false := by simpa using hn
                  simp at this
                  omega
                rw [this, Nat.sub_self, List.take_zero, List.append_nil]
            rw [e1]
            have := strip_go x cs (pre ++ [c]) false (pre.length + 1, none, res') (fl res ++ (pre.drop a).take (q - a)) hx' ⟨by rw [hlen]; exact Nat.le_refl _, by
              have e3 : (pre ++ [c]).drop (pre.length + 1) = [] := List.drop_of_length_le (by rw [hlen]; exact Nat.le_refl _)
              rw [e2, e3, List.append_nil]⟩
            rw [hlen] at this
            rw [this]
            show _ ++ out cs false none = _ ++ out (c :: cs) false (some (pre.drop q))
            conv => rhs; unfold out
            rw [h92, h34, if_neg (by decide), if_pos rfl]
theorem strip_out (x : Str) : codes (strip x) = out (codes x) false none := by
  unfold strip
  split
  · rename_i h
    have h2 : Txt.contains x "\"" = decide (34 ∈ x.cps.toList) := StrLaws.found_one x 34
    rw [h2] at h
    have : 34 ∉ codes x := fun q => by rw [decide_eq_true (show 34 ∈ x.cps.toList from q)] at h; cases h
    exact (out_none (codes x) false this).symm
  · have := strip_go x (codes x) [] false (0, none, []) [] rfl ⟨Nat.le_refl _, rfl⟩
    rw [codes_join]
    exact this
/-- what _check_parenthesis says, sign by sign -/
theorem paren_run (x : Str) : paren x = pg (out (codes x) false none) false 0 := by
  unfold paren chars
  rw [parenGo_pg]
  have := strip_out x
  unfold codes at this
  rw [this]
  rfl

/-- the brackets of what is left of a text, counted from n on -/
def run (cs : List Nat) (n : Int) : Bool := pg (out cs false none) false n
theorem paren_eq (x : Str) : paren x = run (codes x) 0 := paren_run x
theorem run_dress (i : Nat) (rest : List Nat) (n : Int) : run (codes (dresses.getD i "") ++ rest) n = run rest n := by
  match i with
  | 0 => rfl
  | 1 => rfl
  | 2 => rfl
  | 3 => rfl
  | 4 => rfl
  | 5 => rfl
  | i + 6 =>
    have : dresses.getD (i + 6) "" = "" := by rw [List.getD_eq_getElem?_getD, List.getElem?_eq_none (by show 6 ≤ i + 6; omega)]; rfl
    rw [this]; rfl
/-- what a letter shows: 1 opens, -1 closes, 0 neither -/
def kd (low l : Int) : Int := if l == low + 1 then 1 else if l == low then -1 else 0
theorem show_open (low l : Int) : (showOf low l == "(") = (l == low + 1) := by
  have e : (l == low + 1) = (255 + l - low - 256 == 0) := by
    rw [Bool.eq_iff_iff, beq_iff_eq, beq_iff_eq]; omega
  rw [e]
  unfold showOf
  by_cases h : 255 + l - low ≥ 256
  · rw [if_pos (decide_eq_true h)]
    cases q : (255 + l - low - 256 == 0)
    · rw [if_neg (by decide)]; decide
    · rw [if_pos rfl]; decide
  · rw [if_neg (by rw [decide_eq_false h]; exact Bool.false_ne_true)]
    have q : (255 + l - low - 256 == 0) = false := by
      rw [beq_eq_false_iff_ne]; omega
    rw [q]
    cases (255 + l - low - 255 == 0)
    · rw [if_neg (by decide)]; decide
    · rw [if_pos rfl]; decide
theorem show_close (low l : Int) : (showOf low l == ")") = (l == low) := by
  have e : (l == low) = (255 + l - low - 255 == 0) := by
    rw [Bool.eq_iff_iff, beq_iff_eq, beq_iff_eq]; omega
  rw [e]
  unfold showOf
  by_cases h : 255 + l - low ≥ 256
  · rw [if_pos (decide_eq_true h)]
    have q : (255 + l - low - 255 == 0) = false := by
      rw [beq_eq_false_iff_ne]; omega
    rw [q]
    cases (255 + l - low - 256 == 0)
    · rw [if_neg (by decide)]; decide
    · rw [if_pos rfl]; decide
  · rw [if_neg (by rw [decide_eq_false h]; exact Bool.false_ne_true)]
    cases q : (255 + l - low - 255 == 0)
    · rw [if_neg (by decide)]; decide
    · rw [if_pos rfl]; decide
theorem run_show (low l : Int) (rest : List Nat) (n : Int) : run (codes (showOf low l) ++ rest) n = if l == low + 1 then run rest (n + 1) else if l == low then (if decide (n - 1 < 0) then false else run rest (n - 1)) else run rest n := by
  by_cases h1 : l = low + 1
  · have e : showOf low l = "(" := by
      have := show_open low l
      rw [beq_iff_eq.mpr h1] at this
      exact beq_iff_eq.mp this
    rw [e, if_pos (beq_iff_eq.mpr h1)]; rfl
  · by_cases h2 : l = low
    · have e : showOf low l = ")" := by
        have := show_close low l
        rw [beq_iff_eq.mpr h2] at this
        exact beq_iff_eq.mp this
      rw [e, if_neg (by simpa using h1), if_pos (beq_iff_eq.mpr h2)]; rfl
    · rw [if_neg (by simpa using h1), if_neg (by simpa using h2)]
      unfold showOf
      by_cases h : 255 + l - low ≥ 256
      · rw [if_pos (decide_eq_true h), if_neg (by simp; omega)]; rfl
      · rw [if_neg (by rw [decide_eq_false h]; exact Bool.false_ne_true), if_neg (by simp; omega)]; rfl
/-- letters shown one behind the other, then what is told of the rest -/
def sr (low : Int) : List Int → (Int → Bool) → Int → Bool
  | [], f, n => f n
  | l :: ls, f, n => if l == low + 1 then sr low ls f (n + 1) else if l == low then (if decide (n - 1 < 0) then false else sr low ls f (n - 1)) else sr low ls f n
theorem run_pieces (low : Int) (rides row : List Int) (rest : List Nat) : ∀ (ks : List Nat) (n : Int), run (((ks.map (pieceOf low rides row)).map codes).flatten ++ rest) n = sr low (ks.map fun k => row.getD k 0) (run rest) n
  | [], n => rfl
  | k :: ks, n => by
    rw [List.map_cons, List.map_cons, List.flatten_cons, List.append_assoc]
    unfold pieceOf
    rw [codes_cat, List.append_assoc, run_dress, run_show]
    have ih := run_pieces low rides row rest ks
    unfold pieceOf at ih
    rw [ih, ih, ih, List.map_cons]
    rfl
def endF (n : Int) : Bool := if decide (n - 1 < 0) then false else n - 1 == 0
theorem run_end (rides : List Int) (k : Int) (n : Int) : run (codes (endOf rides k)) n = endF n := by
  unfold endOf
  have h0 : 0 ≤ Int.fmod (rides.getD k.toNat 0) 3 := Int.fmod_nonneg_of_pos _ (by decide)
  have h1 : Int.fmod (rides.getD k.toNat 0) 3 < 3 := Int.fmod_lt_of_pos _ (by decide)
  generalize Int.fmod (rides.getD k.toNat 0) 3 = m at *
  have : m = 0 ∨ m = 1 ∨ m = 2 := by omega
  rcases this with rfl | rfl | rfl <;> rfl
theorem slT_map {α β : Type} (f : α → β) (l : List α) (lo hi : Option Int) : slT (l.map f) lo hi = (slT l lo hi).map f := by
  unfold slT
  rw [List.length_map, List.map_take, List.map_drop]
/-- the plain form: no rides -/
def openP (low : Int) (row : List Int) : List Int := ((List.range row.length).filter fun k => row.getD k 0 == low + 1).map fun k => ((k : Nat) : Int)
def closeP (low : Int) (row : List Int) : List Int := ((List.range row.length).filter fun k => row.getD k 0 == low).map fun k => ((k : Nat) : Int)
theorem opening_eq (low : Int) (row : List Int) : opening low row = openP low row := by
  unfold opening openP
  congr 2
  funext k
  exact show_open _ _
theorem closing_eq (low : Int) (row : List Int) : closing low row = closeP low row := by
  unfold closing closeP
  congr 2
  funext k
  exact show_close _ _
def toldP (low : Int) (row : List Int) (place : Int) : List Bool := ((closeP low row).filter fun k => decide (k > place)).map fun k => sr low ((slT (List.range row.length) (some place) (some k)).map fun j => row.getD j 0) endF 0
def freeP (low : Int) (row : List Int) : List Int := (openP low row).filter fun place => !((toldP low row place).any (· == true))
theorem told_eq (low : Int) (rides row : List Int) (place : Int) : toldOf low rides row place = toldP low row place := by
  unfold toldOf toldP
  rw [closing_eq]
  refine List.map_congr_left fun k _ => ?_
  rw [paren_eq]
  unfold textOf
  rw [codes_cat, codes_join]
  unfold pieces
  rw [slT_map, run_pieces]
  congr 1
  funext n
  exact run_end rides k n
theorem free_eq (low : Int) (rides row : List Int) : freeOf low rides row = freeP low row := by
  unfold freeOf freeP
  rw [opening_eq]
  congr 1
  funext place
  rw [told_eq]
def preN (low : Int) (row : List Int) : Int := if ((closeP low row).length : Int) - ((openP low row).length : Int) > 0 then ((closeP low row).length : Int) - ((openP low row).length : Int) else 0
def wholeP (low : Int) (row : List Int) (ends : List Str) : List Bool := ends.map fun e => sr low ((List.range row.length).map fun j => row.getD j 0) (run (codes e)) (preN low row)
theorem run_mul {i : Int} (h0 : 0 ≤ i) (h1 : i ≤ 5) (rest : List Nat) : run (codes (Txt.mul "(" i) ++ rest) 0 = run rest i := by
  have : i = 0 ∨ i = 1 ∨ i = 2 ∨ i = 3 ∨ i = 4 ∨ i = 5 := by omega
  rcases this with rfl | rfl | rfl | rfl | rfl | rfl <;> rfl
theorem whole_eq {low : Int} {rides row : List Int} (hr : Row row) (ends : List Str) : wholeOf low rides row ends = wholeP low row ends := by
  unfold wholeOf wholeP
  refine List.map_congr_left fun e _ => ?_
  have hc := closing_len (low := low) hr
  rw [closing_eq] at hc
  rw [paren_eq]
  unfold wholeText preOf
  rw [codes_cat, codes_cat, codes_join, List.append_assoc, closing_eq, opening_eq]
  unfold pieces
  rw [run_mul (by split <;> omega) (by split <;> omega), run_pieces]
  rfl

def dg : List Int := [0, 1, 2]
def rowsFrom (a b : Int) : List (List Int) := dg.flatMap fun c => dg.flatMap fun d => dg.map fun e => [a, b, c, d, e]
theorem rows_all {p : List Int → Bool} (h : ∀ a ∈ dg, ∀ b ∈ dg, (rowsFrom a b).all p = true) {r : List Int} (hr : Row r) : p r = true := by
  obtain ⟨hl, hd⟩ := hr
  match r, hl with
  | [a, b, c, d, e], _ =>
    have m : ∀ i ∈ [a, b, c, d, e], i ∈ dg := fun i hi => by
      rcases hd i hi with rfl | rfl | rfl <;> decide
    refine List.all_eq_true.mp (h a (m a (.head _)) b (m b (.tail _ (.head _)))) _ ?_
    unfold rowsFrom
    refine List.mem_flatMap.mpr ⟨c, m c (.tail _ (.tail _ (.head _))), List.mem_flatMap.mpr ⟨d, m d (.tail _ (.tail _ (.tail _ (.head _)))), List.mem_map.mpr ⟨e, m e (.tail _ (.tail _ (.tail _ (.tail _ (.head _))))), rfl⟩⟩⟩
def smallB (st : WS) : Bool := decide (st.1.length ≤ 40) && decide (0 ≤ st.2.1) && decide (st.2.1 ≤ 200) && decide (0 ≤ st.2.2.2) && decide (st.2.2.2 ≤ 200) && st.1.all fun c => decide (0 ≤ c) && decide (c ≤ 200)
theorem small_of {st : WS} (h : smallB st = true) : Small st := by
  unfold smallB at h
  simp only [Bool.and_eq_true, decide_eq_true_eq, List.all_eq_true] at h
  obtain ⟨⟨⟨⟨⟨h1, h2⟩, h3⟩, h4⟩, h5⟩, h6⟩ := h
  exact ⟨h1, h2, h3, h4, h5, h6⟩
def lowerP (low : Int) (row : List Int) : List Int := (List.range row.length).map fun (k : Nat) => if (freeP low row).any (· == (k : Int)) then row.getD k 0 - 1 else row.getD k 0
theorem lower_eq (low : Int) (rides row : List Int) : lowerOf low rides row = lowerP low row := by
  unfold lowerOf lowerP; rw [free_eq]
def isRowB (r : List Int) : Bool := r.length == 5 && r.all fun i => i == 0 || i == 1 || i == 2
theorem row_of {r : List Int} (h : isRowB r = true) : Row r := by
  unfold isRowB at h
  simp only [Bool.and_eq_true, beq_iff_eq, List.all_eq_true, Bool.or_eq_true] at h
  exact ⟨h.1, fun i hi => by have := h.2 i hi; omega⟩
def nEq (a b : WS) : Bool := a.1 == b.1 && a.2.1 == b.2.1
theorem norm_eqv (a b : WS) : PyData.eqv (normD a).py (normD b).py = nEq a b := by
  simp only [normD, D.py, D.pyL, ints_py, PyData.eqv, PyData.eqvAll, eqv_ints, Bool.and_true]
  rfl
/-- how often a letter stands in a row -/
def cntN (i : Int) (row : List Int) : Nat := (row.filter fun x => x == i).length
def leadL (a b c : Nat) : List Int := if c == 0 then (if b == 0 then (if a == 0 then [] else [(a : Int)]) else [(a : Int), (b : Int)]) else [(a : Int), (b : Int), 0, (c : Int)]
/-- what is read of a row's lead -/
def leadQ (row : List Int) : WS := (leadL (cntN 0 row) (cntN 1 row) (cntN 2 row), 0, ((cntN 0 row + 2 * cntN 1 row + 4 * cntN 2 row : Nat) : Int), ((cntN 0 row + cntN 1 row + cntN 2 row : Nat) : Int))
def behindQ (k : Int) (s : WS) : WS := (s.1, k, s.2.2.1 + k, s.2.2.2)
def farOf (last : List Int) : Str := lead last ++ "    ( \t"
def nearOf (row : List Int) : Str := lead row ++ "x \t"
/-- the same reading, over the codes -/
def wsStepN (st : WS) (c : Nat) : WS :=
  if c == 32 then (st.1, st.2.1 + 1, st.2.2.1 + 1, st.2.2.2)
  else
    let cnt := if decide (st.2.1 ≥ (st.1.length : Int)) then st.1 ++ (List.replicate (st.2.1 - (st.1.length : Int) + 1).toNat [(0 : Int)]).flatten else st.1
    (cnt.set st.2.1.toNat (cnt.getD st.2.1.toNat 0 + 1), 0, st.2.2.1 + 1, st.2.2.2 + 1)
def wsN : List Nat → WS → WS
  | [], st => st
  | c :: cs, st => if (c == 32 || c == 9) then wsN cs (wsStepN st c) else st
theorem chr_eq (c d : Nat) : ((⟨#[c]⟩ : Str) == ⟨#[d]⟩) = (c == d) := by
  rw [Bool.eq_iff_iff, beq_iff_eq, beq_iff_eq]
  constructor
  · intro h; injection h with h; injection h with h; injection h
  · intro h; rw [h]
theorem chr_blank (c : Nat) : ((⟨#[c]⟩ : Str) == " ") = (c == 32) := chr_eq c 32
theorem chr_tab (c : Nat) : ((⟨#[c]⟩ : Str) == "\t") = (c == 9) := chr_eq c 9
theorem wsGo_eq : ∀ (cs : List Nat) (st : WS), wsGo cs st = wsN cs st
  | [], st => by unfold wsGo wsN; rfl
  | c :: cs, st => by
    unfold wsGo wsN
    have e : wsStep st c = wsStepN st c := by unfold wsStep wsStepN; rw [chr_blank]
    rw [chr_blank, chr_tab, e, wsGo_eq cs]
abbrev wsC (cs : List Nat) : WS := wsN cs ([], 0, 0, 0)
theorem wsOf_eq {x : Str} {cs : List Nat} (h : codes x = cs) : wsOf x = wsC cs := by rw [← h]; exact wsGo_eq _ _
def leadC (i : Int) : List Nat := if i = 0 then [9] else if i = 1 then [32, 9] else [32, 32, 32, 9]
theorem codes_leadOf (i : Int) : codes (leadOf i) = leadC i := by
  unfold leadOf leadC
  split
  · rfl
  · split <;> rfl
def leadCs (row : List Int) : List Nat := (row.map leadC).flatten
theorem codes_lead (row : List Int) : codes (lead row) = leadCs row := by
  unfold lead leadCs
  rw [codes_join, List.map_map]
  congr 2
  funext i
  exact codes_leadOf i
def wsB (row : List Int) : Bool :=
  wsC (leadCs row) == leadQ row && (wsC (leadCs row ++ [120, 32, 9]) == leadQ row && (wsC (leadCs row ++ [32, 32, 32, 32, 40, 32, 9]) == behindQ 4 (leadQ row) && (wsC (leadCs row ++ [32]) == behindQ 1 (leadQ row) && (smallB (leadQ row) && (smallB (behindQ 4 (leadQ row)) && (smallB (behindQ 1 (leadQ row)) && (smallB (wsC (32 :: leadCs row)) && (nEq (wsC (32 :: leadCs row)) (behindQ 1 (leadQ row)) == false))))))))
structure WsOk (row : List Int) : Prop where
  lead : wsOf (lead row) = leadQ row
  near : wsOf (nearOf row) = leadQ row
  far : wsOf (farOf row) = behindQ 4 (leadQ row)
  tail : wsOf (Mine.lead row ++ " ") = behindQ 1 (leadQ row)
  s0 : Small (leadQ row)
  s4 : Small (behindQ 4 (leadQ row))
  s1 : Small (behindQ 1 (leadQ row))
  sf : Small (wsOf (" " ++ Mine.lead row))
  nf : nEq (wsOf (" " ++ Mine.lead row)) (behindQ 1 (leadQ row)) = false
theorem wsOk_of {row : List Int} (h : wsB row = true) : WsOk row := by
  unfold wsB at h
  simp only [Bool.and_eq_true, beq_iff_eq] at h
  obtain ⟨h1, h2, h3, h4, h5, h6, h7, h8, h9⟩ := h
  have e : ∀ (y : Str) (cs : List Nat), codes y = cs → codes (lead row ++ y) = leadCs row ++ cs := fun y cs h => by rw [codes_cat, codes_lead, h]
  have e' : codes (" " ++ lead row) = 32 :: leadCs row := by rw [codes_cat, codes_lead]; rfl
  exact ⟨(wsOf_eq (codes_lead row)).trans h1, (wsOf_eq (e _ _ rfl)).trans h2, (wsOf_eq (e _ _ rfl)).trans h3, (wsOf_eq (e _ _ rfl)).trans h4, small_of h5, small_of h6, small_of h7, by rw [wsOf_eq e']; exact small_of h8, by rw [wsOf_eq e']; exact h9⟩
/-- the step by a count of what closes, from the end on -/
def lowGo (low : Int) : List Int → List Int × Nat
  | [] => ([], 0)
  | l :: r => if l == low then (l :: (lowGo low r).1, (lowGo low r).2 + 1) else if l == low + 1 then (if (lowGo low r).2 == 0 then (low :: (lowGo low r).1, 0) else (l :: (lowGo low r).1, (lowGo low r).2 - 1)) else (l :: (lowGo low r).1, (lowGo low r).2)
def lowQ (low : Int) (row : List Int) : List Int := (lowGo low row).1
def lowB (low : Int) (row : List Int) : Bool := lowerP low row == lowQ low row && (isRowB (lowQ low row) && ((freeP low row == []) == (lowQ low row == row)))
structure LowOk (low : Int) (row : List Int) : Prop where
  step : lowerP low row = lowQ low row
  isRow : Row (lowQ low row)
  free : (freeP low row == []) = (lowQ low row == row)
theorem lowOk_of {low : Int} {row : List Int} (h : lowB low row = true) : LowOk low row := by
  unfold lowB at h
  simp only [Bool.and_eq_true, beq_iff_eq] at h
  exact ⟨h.1, row_of h.2.1, h.2.2⟩
/-- one step's checks -/
def goodB (low : Int) (row : List Int) : Bool :=
  let lo := lowQ low row
  let d := apart row lo 0
  let f := d.map (·.1)
  wit (leadQ row) (leadQ lo) == d && ((f == [1, 2, 3] || f == [1] || f == []) && ((nEq (leadQ row) (leadQ lo) == (lo == row)) && (cntOf d == row.sum - lo.sum)))
def fmtF (f : List Int) : Str := (if decide ((f.length : Int) > 1) then ("at tab size" : Str) ++ "s" else "at tab size") ++ " " ++ Txt.join ", " (f.map strOf)
theorem fmt_eq (xs : List (Int × Int × Int)) : fmt xs = fmtF (xs.map (·.1)) := by
  unfold fmt fmtF preOf2 firstsOf
  rw [List.length_map, List.map_map]; rfl
theorem words3 : fmtF [1, 2, 3] = wordsOf 3 ∧ JoinOk ", " ([1, 2, 3].map strOf) = true ∧ (Txt.join ", " ([1, 2, 3].map strOf)).length ≤ 5000 := by decide +kernel
theorem words1 : fmtF [1] = wordsOf 1 ∧ JoinOk ", " ([1].map strOf) = true ∧ (Txt.join ", " ([1].map strOf)).length ≤ 5000 := by decide +kernel
theorem words0 : fmtF [] = wordsOf 0 ∧ JoinOk ", " ([].map strOf) = true ∧ (Txt.join ", " ([].map strOf)).length ≤ 5000 := by decide +kernel
/-- what a step's checks say -/
structure GoodQ (low : Int) (row : List Int) : Prop where
  wit : wit (leadQ row) (leadQ (lowQ low row)) = apart row (lowQ low row) 0
  firsts : (apart row (lowQ low row) 0).map (·.1) = [1, 2, 3] ∨ (apart row (lowQ low row) 0).map (·.1) = [1] ∨ (apart row (lowQ low row) 0).map (·.1) = []
  eq : nEq (leadQ row) (leadQ (lowQ low row)) = (lowQ low row == row)
  cnt : cntOf (apart row (lowQ low row) 0) = row.sum - (lowQ low row).sum
theorem goodQ_of {low : Int} {row : List Int} (h : goodB low row = true) : GoodQ low row := by
  unfold goodB at h
  simp only [Bool.and_eq_true, Bool.or_eq_true, beq_iff_eq] at h
  obtain ⟨h1, h2, h3, h4⟩ := h
  refine ⟨h1, ?_, h3, h4⟩
  rcases h2 with (h2 | h2) | h2
  · exact .inl h2
  · exact .inr (.inl h2)
  · exact .inr (.inr h2)
theorem good_of {low : Int} {rides row : List Int} (W1 : WsOk row) (W2 : WsOk (lowQ low row)) (L : LowOk low row) (G : GoodQ low row) : Good low rides row := by
  have e : lowerOf low rides row = lowQ low row := (lower_eq low rides row).trans L.step
  have ef : firstsOf (apart row (lowQ low row) 0) = ((apart row (lowQ low row) 0).map (·.1)).map strOf := by unfold firstsOf; rw [List.map_map]; rfl
  have el : (apart row (lowQ low row) 0).length = ((apart row (lowQ low row) 0).map (·.1)).length := (List.length_map ..).symm
  have hw : fmt (apart row (lowQ low row) 0) = wordsOf (apart row (lowQ low row) 0).length ∧ JoinOk ", " (firstsOf (apart row (lowQ low row) 0)) = true ∧ (Txt.join ", " (firstsOf (apart row (lowQ low row) 0))).length ≤ 5000 := by
    rw [fmt_eq, ef, el]
    rcases G.firsts with h5 | h5 | h5 <;> rw [h5]
    · exact words3
    · exact words1
    · exact words0
  exact {
    isRow := by rw [e]; exact L.isRow
    s1 := by rw [W1.lead]; exact W1.s0
    s2 := by rw [e, W2.lead]; exact W2.s0
    told := by show _ = apart row (lowerOf low rides row) 0; rw [e, W1.lead, W2.lead]; exact G.wit
    words := by show fmt (apart row (lowerOf low rides row) 0) = wordsOf (apart row (lowerOf low rides row) 0).length; rw [e]; exact hw.1
    eq := by rw [e, free_eq, norm_eqv, W1.lead, W2.lead, L.free]; exact G.eq
    ok := by show JoinOk _ (firstsOf (apart row (lowerOf low rides row) 0)) = true; rw [e]; exact hw.2.1
    jl := by show (Txt.join _ (firstsOf (apart row (lowerOf low rides row) 0))).length ≤ 5000; rw [e]; exact hw.2.2 }

/-- the steps that every row takes -/
def LowAll : Prop := ∀ low row, (low = 0 ∨ low = 1) → Row row → LowOk low row ∧ GoodQ low row
abbrev roadStepQ (st : List Int × List Int) (low : Int) : List Int × List Int := (st.1 ++ [st.2.sum - (lowQ low st.2).sum], lowQ low st.2)
def roadQ (lows row : List Int) : List Int × List Int := lows.foldl roadStepQ ([], row)
theorem road_go (X : LowAll) (rides : List Int) : ∀ (lows : List Int), (∀ low ∈ lows, low = 0 ∨ low = 1) → ∀ st : List Int × List Int, Row st.2 → lows.foldl (roadStep rides) st = lows.foldl roadStepQ st ∧ Row (lows.foldl roadStepQ st).2
  | [], _, st, h => ⟨rfl, h⟩
  | low :: lows, hl, st, h => by
    obtain ⟨L, G⟩ := X low st.2 (hl low (.head _)) h
    have e : lowerOf low rides st.2 = lowQ low st.2 := (lower_eq low rides st.2).trans L.step
    have e2 : roadStep rides st low = roadStepQ st low := by
      show (st.1 ++ [cntOf (apart st.2 (lowerOf low rides st.2) 0)], lowerOf low rides st.2) = (st.1 ++ [st.2.sum - (lowQ low st.2).sum], lowQ low st.2)
      rw [e, G.cnt]
    rw [List.foldl_cons, List.foldl_cons, e2]
    exact road_go X rides lows (fun l hl' => hl l (.tail _ hl')) _ L.isRow
theorem road_eq (X : LowAll) (rides : List Int) {lows row : List Int} (hl : ∀ low ∈ lows, low = 0 ∨ low = 1) (h : Row row) : roadOf rides lows row = roadQ lows row ∧ Row (roadQ lows row).2 := road_go X rides lows hl ([], row) h
abbrev numOf (letter : Int) (row : List Int) : Int := ((row.filter fun one => one == letter).length : Nat)
abbrev maxI (a b : Int) : Int := if b > a then b else a
abbrev minI (a b : Int) : Int := if b < a then b else a
def counts0 (ones twos rest : Int) : List Int := [ones, twos + rest, twos]
def counts1 (ones twos rest : Int) : List Int := [maxI twos (twos + rest - ones), ones + twos, minI ones rest]
def swap3 (t : Int × Int × Int) : Int × Int × Int := (t.1, t.2.2, t.2.1)
def heapOf (st : RS) : Str := lead (st.1 ++ st.2.1 ++ st.2.2)
def roadsB (row : List Int) : Bool :=
  let r1 := roadQ [0, 1, 0] row
  let r2 := roadQ [1, 0, 1] row
  let st := (inserted row).1
  let ones := numOf 1 st.1
  let twos := numOf 2 st.1
  let rest := numOf 2 st.2.1
  r1.2 == r2.2 && (r1.1 == counts0 ones twos rest && r2.1 == counts1 ones twos rest)
def wholeB (row : List Int) : Bool :=
  let last := (roadQ [0, 1, 0] row).2
  let st := (inserted row).1
  let ones := numOf 1 st.1
  let twos := numOf 2 st.1
  let rest := numOf 2 st.2.1
  wholeP 0 row [""] == [ones == 0] && (wholeP 1 row [""] == [maxI twos (twos + rest - ones) == 0] && (wholeP 0 last ["", ")", ")(()"] == [true, false, false] && wholeP 1 last ["", ")", ")(()"] == [true, false, false]))
def leadsB (row : List Int) : Bool :=
  let last := (roadQ [0, 1, 0] row).2
  let a := leadQ row
  let b := behindQ 4 (leadQ last)
  let due := apart row last 4
  wit a b == due && wit b a == due.map swap3
def heapRow (row : List Int) : List Int := (inserted row).1.1 ++ (inserted row).1.2.1 ++ (inserted row).1.2.2
def heapB (row : List Int) : Bool :=
  isRowB (heapRow row) && (nEq (leadQ row) (leadQ (heapRow row)) == true && nEq (leadQ row) (behindQ 1 (leadQ (heapRow row))) == false)
def lastB (row : List Int) : Bool :=
  let last := (roadQ [0, 1, 0] row).2
  let st := inserted row
  inserted last == ((List.replicate st.1.1.length 0, List.replicate st.1.2.1.length 1, List.replicate st.1.2.2.length 2), st.2)

/-- all that the law asks of a row -/
structure LawOk (rides row : List Int) : Prop where
  same : (roadOf rides [1, 0, 1] row).2 = (roadOf rides [0, 1, 0] row).2
  c0 : (roadOf rides [0, 1, 0] row).1 = counts0 (numOf 1 (inserted row).1.1) (numOf 2 (inserted row).1.1) (numOf 2 (inserted row).1.2.1)
  c1 : (roadOf rides [1, 0, 1] row).1 = counts1 (numOf 1 (inserted row).1.1) (numOf 2 (inserted row).1.1) (numOf 2 (inserted row).1.2.1)
  lastRow : Row (roadOf rides [0, 1, 0] row).2
  w0 : wholeOf 0 rides row [""] = [numOf 1 (inserted row).1.1 == 0]
  w1 : wholeOf 1 rides row [""] = [maxI (numOf 2 (inserted row).1.1) (numOf 2 (inserted row).1.1 + numOf 2 (inserted row).1.2.1 - numOf 1 (inserted row).1.1) == 0]
  v : ∀ low, low = 0 ∨ low = 1 → wholeOf low rides (roadOf rides [0, 1, 0] row).2 ["", ")", ")(()"] = [true, false, false]
  sn : Small (wsOf (nearOf row))
  sf : Small (wsOf (farOf (roadOf rides [0, 1, 0] row).2))
  nf : wit (wsOf (nearOf row)) (wsOf (farOf (roadOf rides [0, 1, 0] row).2)) = apart row (roadOf rides [0, 1, 0] row).2 4
  fn : wit (wsOf (farOf (roadOf rides [0, 1, 0] row).2)) (wsOf (nearOf row)) = (apart row (roadOf rides [0, 1, 0] row).2 4).map swap3
  dig : ∀ i ∈ (inserted row).1.1 ++ (inserted row).1.2.1 ++ (inserted row).1.2.2, i = 0 ∨ i = 1 ∨ i = 2
  len : ((inserted row).1.1 ++ (inserted row).1.2.1 ++ (inserted row).1.2.2).length ≤ 20
  sh : Small (wsOf (heapOf (inserted row).1))
  sm : Small (wsOf (heapOf (inserted row).1 ++ " "))
  so : Small (wsOf (" " ++ heapOf (inserted row).1))
  e1 : PyData.eqv (normD (wsOf (nearOf row))).py (normD (wsOf (heapOf (inserted row).1))).py = true
  e2 : PyData.eqv (normD (wsOf (nearOf row))).py (normD (wsOf (heapOf (inserted row).1 ++ " "))).py = false
  e3 : PyData.eqv (normD (wsOf (" " ++ heapOf (inserted row).1))).py (normD (wsOf (heapOf (inserted row).1 ++ " "))).py = false
  last : inserted (roadOf rides [0, 1, 0] row).2 = ((List.replicate (inserted row).1.1.length 0, List.replicate (inserted row).1.2.1.length 1, List.replicate (inserted row).1.2.2.length 2), (inserted row).2)
theorem lawOk_of {rides row : List Int} (X : LowAll) (Y : ∀ row, Row row → WsOk row) (hr : Row row) (h1 : roadsB row = true) (h2 : wholeB row = true) (h3 : leadsB row = true) (h4 : heapB row = true) (h5 : lastB row = true) : LawOk rides row := by
  unfold roadsB at h1
  unfold wholeB at h2
  unfold leadsB at h3
  unfold heapB at h4
  unfold lastB at h5
  simp only [Bool.and_eq_true, beq_iff_eq] at h1 h2 h3 h4 h5
  obtain ⟨a1, a2, a3⟩ := h1
  obtain ⟨b2, b3, b4, b5⟩ := h2
  obtain ⟨d3, d4⟩ := h3
  obtain ⟨f0, f4, f5⟩ := h4
  have hh := row_of f0
  obtain ⟨r0, hl⟩ := road_eq X rides (lows := [0, 1, 0]) (by simp) hr
  obtain ⟨r1, _⟩ := road_eq X rides (lows := [1, 0, 1]) (by simp) hr
  have Wr := Y row hr
  have Wl := Y _ hl
  have Wh := Y _ hh
  exact {
    same := by rw [r0, r1]; exact a1.symm
    c0 := by rw [r0]; exact a2
    c1 := by rw [r1]; exact a3
    lastRow := by rw [r0]; exact hl
    w0 := by rw [whole_eq hr]; exact b2
    w1 := by rw [whole_eq hr]; exact b3
    v := fun low h => by
      rw [r0, whole_eq hl]
      rcases h with rfl | rfl
      · exact b4
      · exact b5
    sn := by rw [Wr.near]; exact Wr.s0
    sf := by rw [r0, Wl.far]; exact Wl.s4
    nf := by rw [r0, Wr.near, Wl.far]; exact d3
    fn := by rw [r0, Wr.near, Wl.far]; exact d4
    dig := hh.dig
    len := by show (heapRow row).length ≤ 20; rw [hh.len]; decide
    sh := by show Small (wsOf (lead (heapRow row))); rw [Wh.lead]; exact Wh.s0
    sm := by show Small (wsOf (lead (heapRow row) ++ " ")); rw [Wh.tail]; exact Wh.s1
    so := Wh.sf
    e1 := by show PyData.eqv (normD (wsOf (nearOf row))).py (normD (wsOf (lead (heapRow row)))).py = true; rw [norm_eqv, Wr.near, Wh.lead]; exact f4
    e2 := by show PyData.eqv (normD (wsOf (nearOf row))).py (normD (wsOf (lead (heapRow row) ++ " "))).py = false; rw [norm_eqv, Wr.near, Wh.tail]; exact f5
    e3 := by show PyData.eqv (normD (wsOf (" " ++ lead (heapRow row)))).py (normD (wsOf (lead (heapRow row) ++ " "))).py = false; rw [norm_eqv, Wh.tail]; exact Wh.nf
    last := by rw [r0]; exact h5 }

abbrev Ent := Str × Tok × Int × Tok
def entOf (w : World) (t : Ent) : DictEntry := ⟨hashStr w t.1, .str t.1 t.2.1, .int t.2.2.1 t.2.2.2⟩
def signs : List Str := [("(" : Str), (")" : Str), ("[" : Str), ("]" : Str), (":" : Str), ("," : Str), (";" : Str), ("+" : Str), ("-" : Str), ("*" : Str), ("/" : Str), ("|" : Str), ("&" : Str), ("<" : Str), (">" : Str), ("=" : Str), ("." : Str), ("%" : Str), ("{" : Str), ("}" : Str), ("==" : Str), ("!=" : Str), ("<=" : Str), (">=" : Str), ("~" : Str), ("^" : Str), ("<<" : Str), (">>" : Str), ("**" : Str), ("+=" : Str), ("-=" : Str), ("*=" : Str), ("/=" : Str), ("%=" : Str), ("&=" : Str), ("|=" : Str), ("^=" : Str), ("<<=" : Str), (">>=" : Str), ("**=" : Str), ("//" : Str), ("//=" : Str), ("@" : Str), ("@=" : Str), ("->" : Str), ("..." : Str), (":=" : Str), ("!" : Str)]
def tabList : List (Str × Int) := [(("!" : Str), (54 : Int)), (("!=" : Str), (28 : Int)), (("%" : Str), (24 : Int)), (("%=" : Str), (40 : Int)), (("&" : Str), (19 : Int)), (("&=" : Str), (41 : Int)), (("(" : Str), (7 : Int)), ((")" : Str), (8 : Int)), (("*" : Str), (16 : Int)), (("**" : Str), (35 : Int)), (("**=" : Str), (46 : Int)), (("*=" : Str), (38 : Int)), (("+" : Str), (14 : Int)), (("+=" : Str), (36 : Int)), (("," : Str), (12 : Int)), (("-" : Str), (15 : Int)), (("-=" : Str), (37 : Int)), (("->" : Str), (51 : Int)), (("." : Str), (23 : Int)), (("..." : Str), (52 : Int)), (("/" : Str), (17 : Int)), (("//" : Str), (47 : Int)), (("//=" : Str), (48 : Int)), (("/=" : Str), (39 : Int)), ((":" : Str), (11 : Int)), ((":=" : Str), (53 : Int)), ((";" : Str), (13 : Int)), (("<" : Str), (20 : Int)), (("<<" : Str), (33 : Int)), (("<<=" : Str), (44 : Int)), (("<=" : Str), (29 : Int)), (("=" : Str), (22 : Int)), (("==" : Str), (27 : Int)), ((">" : Str), (21 : Int)), ((">=" : Str), (30 : Int)), ((">>" : Str), (34 : Int)), ((">>=" : Str), (45 : Int)), (("@" : Str), (49 : Int)), (("@=" : Str), (50 : Int)), (("[" : Str), (9 : Int)), (("]" : Str), (10 : Int)), (("^" : Str), (32 : Int)), (("^=" : Str), (43 : Int)), (("{" : Str), (25 : Int)), (("|" : Str), (18 : Int)), (("|=" : Str), (42 : Int)), (("}" : Str), (26 : Int)), (("~" : Str), (31 : Int))]
theorem dict_ents (w : World) : ∃ (o : Obj) (es : Array DictEntry) (tb : List Ent), (KK w).lookup 116 = some o ∧ o.ExactDict ∧ o.data = .dict es 48 ∧ es = (tb.map (entOf w)).toArray ∧ tb.map (fun t => (t.1, t.2.2.1)) = tabList :=
  ⟨_, _, [(("!" : Str), _, (54 : Int), _), (("!=" : Str), _, (28 : Int), _), (("%" : Str), _, (24 : Int), _), (("%=" : Str), _, (40 : Int), _), (("&" : Str), _, (19 : Int), _), (("&=" : Str), _, (41 : Int), _), (("(" : Str), _, (7 : Int), _), ((")" : Str), _, (8 : Int), _), (("*" : Str), _, (16 : Int), _), (("**" : Str), _, (35 : Int), _), (("**=" : Str), _, (46 : Int), _), (("*=" : Str), _, (38 : Int), _), (("+" : Str), _, (14 : Int), _), (("+=" : Str), _, (36 : Int), _), (("," : Str), _, (12 : Int), _), (("-" : Str), _, (15 : Int), _), (("-=" : Str), _, (37 : Int), _), (("->" : Str), _, (51 : Int), _), (("." : Str), _, (23 : Int), _), (("..." : Str), _, (52 : Int), _), (("/" : Str), _, (17 : Int), _), (("//" : Str), _, (47 : Int), _), (("//=" : Str), _, (48 : Int), _), (("/=" : Str), _, (39 : Int), _), ((":" : Str), _, (11 : Int), _), ((":=" : Str), _, (53 : Int), _), ((";" : Str), _, (13 : Int), _), (("<" : Str), _, (20 : Int), _), (("<<" : Str), _, (33 : Int), _), (("<<=" : Str), _, (44 : Int), _), (("<=" : Str), _, (29 : Int), _), (("=" : Str), _, (22 : Int), _), (("==" : Str), _, (27 : Int), _), ((">" : Str), _, (21 : Int), _), ((">=" : Str), _, (30 : Int), _), ((">>" : Str), _, (34 : Int), _), ((">>=" : Str), _, (45 : Int), _), (("@" : Str), _, (49 : Int), _), (("@=" : Str), _, (50 : Int), _), (("[" : Str), _, (9 : Int), _), (("]" : Str), _, (10 : Int), _), (("^" : Str), _, (32 : Int), _), (("^=" : Str), _, (43 : Int), _), (("{" : Str), _, (25 : Int), _), (("|" : Str), _, (18 : Int), _), (("|=" : Str), _, (42 : Int), _), (("}" : Str), _, (26 : Int), _), (("~" : Str), _, (31 : Int), _)], rfl, ⟨rfl, rfl, rfl⟩, rfl, rfl, rfl⟩
theorem find_ent (w : World) {x : Str} {v : Int} : ∀ {tb : List Ent}, (tb.map fun t => (t.1, t.2.2.1)).lookup x = some v → ∃ tok, findBy Value.isStrOf (tb.map (entOf w)).toArray x = some (.int v tok)
  | [], h => by simp at h
  | t :: tb, h => by
    obtain ⟨y, t1, z, t2⟩ := t
    rw [List.map_cons, List.lookup_cons] at h
    unfold findBy
    rw [List.map_cons, List.find?_toArray, List.find?_cons]
    have e : Value.isStrOf x (entOf w (y, t1, z, t2)).key = (y == x) := rfl
    rw [e]
    cases q : (x == y) with
    | true =>
      rw [q] at h
      have hv : z = v := by simpa using h
      have q2 : (y == x) = true := by rw [beq_iff_eq.mp q]; simp
      rw [q2]
      exact ⟨t2, by rw [← hv]; rfl⟩
    | false =>
      rw [q] at h
      have q2 : (y == x) = false := by
        rw [beq_eq_false_iff_ne] at q ⊢
        exact fun z => q z.symm
      rw [q2]
      obtain ⟨tok, e⟩ := find_ent w (tb := tb) h
      unfold findBy at e
      rw [List.find?_toArray] at e
      exact ⟨tok, e⟩
section
variable {w : World} {H : Heap} {A : Around} {env : Env} {M : List Addr} {σ : Vars}
theorem dict_map (T : Top0 (KK w) H) {h : Heap} (amb : Amb H h) : ∃ f, h.MapOf (PySem.strKind PG w) 116 f ∧ ∀ x v, tabList.lookup x = some v → ∃ tok, f x = some (.int v tok) := by
  obtain ⟨o, es, tb, h1, h2, h3, rfl, h5⟩ := dict_ents w
  refine ⟨fun k => findBy Value.isStrOf (tb.map (entOf w)).toArray k, ⟨o, _, _, amb.inK T _ _ h1, h2, h3, fun e he => ?_, fun _ => rfl⟩, fun x v hx => find_ent w (by rw [h5]; exact hx)⟩
  obtain ⟨t, ht, rfl⟩ := List.mem_map.mp (Array.mem_toList_iff.mpr he : e ∈ tb.map (entOf w))
  exact ⟨t.1, by show (t.1 == t.1) = true; simp, rfl⟩
theorem ev_dict (T : Top0 (KK w) H) {i : Expr} {np pos : Pos} {x : Str} {v : Int} (hk : env.kindOf "EXACT_TOKEN_TYPES" = some .globalImplicit) (h2 : EvT PG w H A env M σ i (.d (.str x))) (hx : tabList.lookup x = some v)
    (hs : ∀ o v, subscripted i false o v = operate [o, v] (getItem o v) := by intro _ _; rfl) : EvT PG w H A env M σ (.Subscript (.Name "EXACT_TOKEN_TYPES" np) i pos) (.d (.int v)) := fun s Q E S h => by
  refine Subscript_ (fn_glob (f := .ref 116) T (by exact rfl) hk (by decide) s np _ _ S (h2 s _ _ S fun u s1 k1 r1 => ?_))
  obtain ⟨t, rfl⟩ := str_of r1
  obtain ⟨f, hm, hf⟩ := dict_map T (S.kp T k1).amb
  obtain ⟨tok, hv⟩ := hf x v hx
  exact subscriptTail_builtin hm.typeIs slot_dict_getitem.lookup (wpAny_getItem_of (by show (x == x) = true; simp) hm hv (h _ _ (k1.trans Kp.toks) rd_int)) (hs _ _) (fun _ => rfl)
end
theorem sign_tab : ∀ i, i < 48 → tabList.lookup (signs.getD i "") = some ((i : Int) + 7) := by decide +kernel
theorem sign_len : signs.length = 48 := by decide

section
variable {prog : Program} {w : World} {K : Frag} {H : Heap} {A : Around} {env : Env} {M Mc Mw : List Addr} {σ : Vars} {B : Shared} {s s' : Shared}
/-- a name that is a cell of the block's own is bound -/
theorem store_c (T : Top0 K H) (S : St H B Mc env Mw σ s) {x : Str} {v : Value} {d : D} {c : Addr} {Q : Unit → Shared → Prop} {E : Value → Shared → Prop} (hk : env.kindOf x = some .cell) (lc : env.cells.lookup x = some c) (hcW : c ∈ Mw)
    (r : RdA s.heap (Mw ++ Mc) v (.d d)) (h : ∀ s', St H B Mc env Mw (upd σ x (.d d)) s' → KpX Mw [] s s' → Q () s') : wpAny (model prog w) A (storeName env x v) Q E s := by
  have hLf := S.e.fresh _ S.e.locM
  have hLp := S.e.ne_pt T S.e.locM
  have sep := sep_d S.sep x d
  have ow := own_d S.ownW x d
  obtain ⟨m, n⟩ := S.ns
  obtain ⟨v₀, hcell⟩ := S.cells x c lc
  refine wpAny_storeName_cell S.e.kind hk lc hcell fun h' hc' hs => ?_
  have hcM := S.e.cellM x c lc
  have k := kpx_same (tk := s.toks) hs (S.e.ne_pt T hcM) (ne93 T (S.e.fresh c hcM))
  refine h _ ?_ (k.weak (fun b hb => by rw [List.mem_singleton.mp hb]; exact hcW) fun _ q => nomatch q)
  have hLc : env.locals ≠ c := fun q => S.locC x c lc q.symm
  have n' : h'.Ns env.locals m := n.at' fun o e => hs.extBut _ o hLc e
  refine S.write T hcW k (let ⟨o, e, _⟩ := hc'; ⟨o, e⟩) ⟨_, n'⟩ (fun y d e => ?_) (fun y av' e => ?_) sep ow
  · by_cases q : d = c
    · subst q; exact ⟨_, hc'⟩
    · obtain ⟨u, o, g, r⟩ := S.cells y d e
      exact ⟨u, o, hs.extBut _ _ q g, r⟩
  · have rd : ∀ {u : Value} {bv : AV}, upd σ x (.d d) y = some bv → RdA s.heap (Mw ++ Mc) u bv → RdA h' (Mw ++ Mc) u bv := fun ex rr =>
      rr.mono (fun b o h1 h2 e => ⟨h1, hs.extBut b o (fun q => h1 (q ▸ hcM)) e⟩) fun b hb => ⟨rr.mem b hb, fun o e => hs.extBut b o (((sep y _ ex).2.1 b hb).2 x c lc) e⟩
    unfold upd at e
    by_cases hy : y = x
    · subst hy
      rw [if_pos rfl] at e; cases e
      exact ⟨v, .inr ⟨hk, c, lc, hc'⟩, rd (by unfold upd; rw [if_pos rfl]) r⟩
    · rw [if_neg hy] at e
      obtain ⟨u, l, rr⟩ := S.e.vars y av' e
      refine ⟨u, ?_, rd (by unfold upd; rw [if_neg hy]; exact e) rr⟩
      rcases l with ⟨e1, m0, n0, y0⟩ | ⟨e1, d, ld, o, g, dd⟩
      · exact .inl ⟨e1, _, n0.at' fun o e => hs.extBut _ o hLc e, y0⟩
      · exact .inr ⟨e1, d, ld, o, hs.extBut _ _ (fun q => hy (S.cellN y x c (q ▸ ld) lc)) g, dd⟩
/-- x, z = .., z a cell of the block's own -/
theorem asg_xz (T : Top0 K H) (hh : A.handled = none) {x z : Str} {p1 p2 p : Pos} {kk : Nat} {d1 d2 : D} {c : Addr} (hx : BindOk env x) (hk : env.kindOf z = some .cell) (lc : env.cells.lookup z = some c) (hcW : c ∈ Mw)
    (hf : (assignEach [.Name x p1, .Name z p2] env).findIdx? (·.1) = none) (hl : (assignEach [.Name x p1, .Name z p2] env).length = 2) (he : (assignEach [.Name x p1, .Name z p2] env).map (·.2) = [assign (.Name x p1) env, assign (.Name z p2) env]) :
    AsgT prog w H A B env Mc Mw (.Tuple [.Name x p1, .Name z p2] kk p) (.tup [d1, d2]) σ (upd (upd σ x (.d d1)) z (.d d2)) := fun s v Q E S r h => by
  unfold Rd at r
  obtain ⟨a, items, rfl, hm, hp, ht, rl⟩ := r
  refine wpAny_assign_Tuple hh ht (by rw [hl]; have := rl.length; simp at this; omega) hf fun h' hx' => ?_
  have kp : Kp s { s with heap := h' } := Kp.of (tk := s.toks) fun b o e => hx' b o (Nat.ne_of_lt (Heap.lt_size e)) e
  have rl := rl.kp kp
  unfold RdL at rl
  obtain ⟨v1, r1, e1, a1, rl⟩ := rl
  unfold RdL at rl
  obtain ⟨v2, r2, e2, a2, rl⟩ := rl
  unfold RdL at rl
  subst rl e2
  rw [e1, he]
  refine assignInOrder_cons (wpAny_assign_Name (store_d T (S.kp T kp) hx (rda_d.mpr a1) fun s1 S1 k1 => ?_))
  refine assignInOrder_cons (wpAny_assign_Name (store_c T S1 hk lc hcW (rda_d.mpr (a2.mono fun c o h1 h2 e => ⟨h1, k1.heap c o h2 (fun q => h1 (List.mem_append.mpr (.inl q))) e⟩)) fun s2 S2 k2 => ?_))
  exact assignInOrder_nil (h s2 S2 ((kp.to.trans k1).trans k2))
theorem newComp_cell {scope : Scope} {globals : Addr} {cl : List (Str × Addr)} {z : Str} {qual : Str} {M : Model} {Q : Env → Shared → Prop} {E : Value → Shared → Prop} (hz : ∀ n, cellsFrom n scope.names cl = (z, n) :: cl) (hp : ∀ h, pushCells h scope.names = h.push { cls := .type "cell", data := .cell none })
    (h : Q { scope := scope, locals := s.heap.objs.size, globals := globals, cells := (z, s.heap.objs.size + 1) :: cl, qual := qual, func := none, code := env.code, frame := env.frame, builtins := env.builtins } { s with heap := (s.heap.push { cls := .type "dict", data := .dict #[] }).push { cls := .type "cell", data := .cell none } }) :
    wpAny M A (newFunctionEnv scope globals cl [] qual none .none (some env)) Q E s := by
  simp only [newFunctionEnv, Option.isSome_some, if_true]
  refine wpAny_bind (wpAny_alloc ?_)
  refine wpAny_bind (wpAny_layCells _ (fun name kind cells => by cases hkc : kind == NameKind.cell <;> simp [hkc]) _ _ _ _ ?_)
  rw [show ({ s with heap := s.heap.push { cls := .type "dict", data := .dict #[] } } : Shared).heap.objs.size = s.heap.objs.size + 1 from Heap.size_push .., hz, hp]
  refine wpAny_bind ?_
  rw [List.forIn_nil]
  exact wpAny_pure (wpAny_pure h)
end
section
variable {prog : Program} {w : World} {K : Frag} {H : Heap} {A : Around} {env : Env} {M Mc Mw : List Addr} {σ : Vars}
theorem comp_block_c (T : Top0 K H) {elt target iter : Expr} {ifs : List Expr} {scope : Scope} {cl : List (Str × Addr)} {pos : Pos} {s₀ s₂ : Shared} {it : Addr} {wr : List Addr} {gx : List Nat} {I : List Addr → Nat → Shared → Prop} {ds : List D}
    (names : List Str) (bnd : D → Vars → Vars) (p : D → Bool) (f : D → D) (S₀ : StE H env M σ s₀) (k₂ : Kp s₀ s₂) (W : Iter prog w A it wr gx ds I) {M₀ : List Addr} (hM₀ : M₀ = M ∨ ((∀ b ∈ M₀, b ∈ M) ∧ ∀ d ∈ ds, d.flat = true)) (hI : I M₀ 0 s₂) (hwr : ∀ b ∈ wr, s₀.heap.get? b = none) (hgx : ∀ g ∈ gx, s₀.gens[g]? = none) (hlen : ds.length ≤ sizeLine)
    {z : Str} (hz : ∀ n, cellsFrom n scope.names cl = (z, n) :: cl) (hzp : ∀ h, pushCells h scope.names = h.push { cls := .type "cell", data := .cell none }) (hzn : z ∉ names) (hkind : scope.kind = .function) (C : Capt env scope cl names σ)
    (asg : ∀ d ∈ ds, ∀ B' Mc' Ca, AsgT prog w H A B' (compEnvC scope ((z, Ca + 1) :: cl) Ca env) Mc' [Ca, Ca + 1] target d (capt names σ) (bnd d (capt names σ)))
    (hb : ∀ d, ∀ x av, capt names σ x = some av → bnd d (capt names σ) x = some av)
    (turn : ∀ d ∈ ds, ∀ Ca M', TestsT prog w H A M' (bnd d (capt names σ)) (compEnvC scope ((z, Ca + 1) :: cl) Ca env) ifs (p d) ∧ (p d = true → EvT prog w H A (compEnvC scope ((z, Ca + 1) :: cl) Ca env) M' (bnd d (capt names σ)) elt (.d (f d))))
    {RR : Value → Addr → Result → Shared → Prop} {E : Value → Shared → Prop}
    (hRR : ∀ Da Ca s', Kp s₀ s' → s₀.heap.get? Da = none → s₀.heap.get? Ca = none → Da ≠ Ca → (∃ o, s'.heap.get? Ca = some o) → (∃ m, s'.heap.Ns Ca m) → Rd s'.heap (Ca :: M) (.ref Da) (.list ((ds.filter p).map f)) → RR (.ref Da) Ca (.ok .next) s') :
    wpAny (model prog w) A (newList []) (fun acc s₃ => wpAny (model prog w) A (newFunctionEnv scope env.globals cl [] env.qual none .none (some env)) (fun cenv s₄ =>
      codeAny (model prog w) A (.compStart (.ListComp elt [⟨target, iter, ifs, 0⟩] scope pos) 0 (.ref it) acc { cenv with scope := relabel scope env }) (RR acc cenv.locals) s₄) E s₃) E s₂ := by
  refine wpAny_newObj_type (newComp_cell hz hzp ?_)
  dsimp only
  generalize hDa : s₂.heap.objs.size = Da at *
  generalize hH2 : s₂.heap.push { cls := .type "list", dict := none, data := .seq ([] : List Value).toArray } = H2
  generalize hCa : H2.objs.size = Ca at *
  have hC : Ca = Da + 1 := by rw [← hCa, ← hH2, Heap.size_push, hDa]
  have hlc : z ∉ cl.map (·.1) := fun q => by
    obtain ⟨p, hp, e⟩ := List.mem_map.mp q
    have : ∃ c, cl.lookup z = some c := by
      clear hz C asg hb turn hRR hC
      induction cl with
      | nil => cases hp
      | cons y r ih =>
        rw [List.lookup_cons]
        cases q : z == y.1 with
        | true => exact ⟨_, rfl⟩
        | false =>
          rcases List.mem_cons.mp hp with rfl | hp
          · rw [e] at q; simp at q
          · exact ih (List.mem_map.mpr ⟨p, hp, e⟩) hp
    obtain ⟨c, hc⟩ := this
    exact hzn (C.all z c hc)
  have lkz : ((z, Ca + 1) :: cl).lookup z = some (Ca + 1) := by simp
  have lkx : ∀ {x}, x ≠ z → ((z, Ca + 1) :: cl).lookup x = cl.lookup x := fun {x} h => by
    rw [List.lookup_cons]
    have : (x == z) = false := by simpa using h
    rw [this]
  have lkc : ∀ {x c}, ((z, Ca + 1) :: cl).lookup x = some c → (x = z ∧ c = Ca + 1) ∨ (x ≠ z ∧ cl.lookup x = some c) := fun {x c} h => by
    by_cases q : x = z
    · rw [q, lkz] at h; exact .inl ⟨q, (Option.some.inj h).symm⟩
    · rw [lkx q] at h; exact .inr ⟨q, h⟩
  have S₂ := S₀.kp T k₂
  generalize hh1 : (H2.push { cls := .type "dict", data := .dict #[] }).push { cls := .type "cell", data := .cell none } = h₁
  have old : ∀ b o, s₂.heap.get? b = some o → h₁.get? b = some o := fun b o e => by
    rw [← hh1, ← hH2]; exact Heap.get?_push_of_some _ (Heap.get?_push_of_some _ (Heap.get?_push_of_some _ e))
  have hns₁ : h₁.Ns Ca (fun _ => none) := by
    rw [← hh1]; exact (hCa ▸ Heap.Ns.new H2 (.type "dict")).push _
  have hcl₁ : h₁.IsCell (Ca + 1) none := by
    have e : (H2.push { cls := .type "dict", data := .dict #[] }).objs.size = Ca + 1 := by rw [Heap.size_push, hCa]
    rw [← hh1, ← e]
    exact ⟨_, Heap.get?_push_size _ rfl, rfl⟩
  generalize hs3 : ({ s₂ with heap := h₁ } : Shared) = s₃
  have e3 : s₃.heap = h₁ := by rw [← hs3]
  have k3 : Kp s₂ s₃ := by rw [← hs3]; exact Kp.of (tk := s₂.toks) old
  have k03 := k₂.trans k3
  have hD2 : s₂.heap.get? Da = none := hDa ▸ size_none s₂
  have hC2 : s₂.heap.get? Ca = none := by
    cases e : s₂.heap.get? Ca with
    | none => rfl
    | some o' => exact absurd (Heap.lt_size e) (by rw [hC, hDa]; exact Nat.not_lt.mpr (Nat.le_succ _))
  have hL2 : s₂.heap.get? (Ca + 1) = none := by
    cases e : s₂.heap.get? (Ca + 1) with
    | none => rfl
    | some o' => exact absurd (Heap.lt_size e) (by rw [hC, hDa]; exact Nat.not_lt.mpr (Nat.le_succ_of_le (Nat.le_succ _)))
  have hD0 : s₀.heap.get? Da = none := Kp.none S₀.amb k₂ hD2
  have hC0 : s₀.heap.get? Ca = none := Kp.none S₀.amb k₂ hC2
  have hL0 : s₀.heap.get? (Ca + 1) = none := Kp.none S₀.amb k₂ hL2
  have hDC : Da ≠ Ca := by rw [hC]; exact Nat.ne_of_lt (Nat.lt_succ_self _)
  have hDL : Da ≠ Ca + 1 := by rw [hC]; omega
  have hCL : Ca ≠ Ca + 1 := Nat.ne_of_lt (Nat.lt_succ_self _)
  have hacc : h₁.PlainList Da #[] := ⟨0, by rw [← hh1]; exact Heap.get?_push_of_some _ (Heap.get?_push_of_some _ (by rw [← hH2, ← hDa]; exact Heap.get?_push_size _ rfl))⟩
  have hI3 : I (Ca :: (Ca + 1) :: Da :: M₀) 0 s₃ := W.frame _ [] _ _ _ (W.ext _ (Ca :: (Ca + 1) :: Da :: M₀) _ _ hI fun b hb => by
      rcases List.mem_cons.mp hb with rfl | hb
      · exact .inr hC2
      · rcases List.mem_cons.mp hb with rfl | hb
        · exact .inr hL2
        · rcases List.mem_cons.mp hb with rfl | hb
          · exact .inr hD2
          · exact .inl hb) k3.to (fun _ _ q => nomatch q)
  have al3 := W.off _ _ _ hI3
  have oD : ∃ o, s₃.heap.get? Da = some o := by rw [e3]; obtain ⟨n, e⟩ := hacc; exact ⟨_, e⟩
  have oC : ∃ o, s₃.heap.get? Ca = some o := by rw [e3]; obtain ⟨o, _, _, e, _⟩ := hns₁; exact ⟨o, e⟩
  have oL : ∃ o, s₃.heap.get? (Ca + 1) = some o := by rw [e3]; obtain ⟨o, e, _⟩ := hcl₁; exact ⟨o, e⟩
  have fr : ∀ {b}, s₀.heap.get? b = none → b ∉ M := fun {b} e q => by obtain ⟨o, g⟩ := S₀.alive b q; rw [e] at g; cases g
  have hwM : ∀ b ∈ wr, b ∉ M := fun b hb => fr (hwr b hb)
  have hDM := fr hD0
  have hCM := fr hC0
  have hLM := fr hL0
  have hwC : ∀ b ∈ wr, b ≠ Ca ∧ b ≠ Da ∧ b ≠ Ca + 1 := fun b hb => ⟨fun q => (al3 b hb).1 (by rw [q]; exact .head _), fun q => (al3 b hb).1 (by rw [q]; exact .tail _ (.tail _ (.head _))), fun q => (al3 b hb).1 (by rw [q]; exact .tail _ (.head _))⟩
  have two : ∀ {b}, b ∈ [Ca, Ca + 1] → b = Ca ∨ b = Ca + 1 := fun {b} h => by simpa using h
  have St₃ : St H s₀ (Da :: (wr ++ M)) (compEnvC scope ((z, Ca + 1) :: cl) Ca env) [Ca, Ca + 1] (capt names σ) s₃ := by
    have S3 := S₀.kp T k03
    have cM : ∀ x c, cl.lookup x = some c → c ∈ M := fun x c e => S₀.cellM x c ((C.ok x (C.all x c e)).2.2 ▸ e)
    refine {
      e := {
        amb := S3.amb
        alive := fun m hm => ?_
        fresh := fun m hm => ?_
        locM := .head _
        cellM := fun x c e => by
          rcases lkc e with ⟨_, rfl⟩ | ⟨_, e⟩
          · exact .tail _ (.head _)
          · exact List.mem_append.mpr (.inr (.tail _ (List.mem_append.mpr (.inr (cM x c e)))))
        kind := hkind, glob := S₀.glob, blt := S₀.blt
        vars := fun x av e => ?_ }
      base := k03
      off := fun m hm => by
        rcases two hm with rfl | rfl
        · exact hC0
        · exact hL0
      locW := .head _
      cellW := fun x c e q => by cases q
      cellN := fun x y c e1 e2 => by
        rcases lkc e1 with ⟨rfl, h1⟩ | ⟨_, h1⟩ <;> rcases lkc e2 with ⟨rfl, h2⟩ | ⟨_, h2⟩
        · rfl
        · exact absurd (cM _ _ h2) (h1 ▸ hLM)
        · exact absurd (cM _ _ h1) (h2 ▸ hLM)
        · exact C.inj x y c h1 h2
      locC := fun x c e q => by
        rcases lkc e with ⟨_, h⟩ | ⟨_, h⟩
        · exact hCL (q.symm.trans h)
        · have := cM x c h; rw [q] at this; exact hCM this
      ns := ⟨_, by rw [e3]; exact hns₁⟩
      cells := fun x c e => ?_
      sep := fun x av e => ?_
      ownW := fun x av e a ha => ?_ }
    · rcases List.mem_append.mp hm with q | q
      · rcases two q with rfl | rfl
        · exact oC
        · exact oL
      · rcases List.mem_cons.mp q with rfl | q
        · exact oD
        · rcases List.mem_append.mp q with q | q
          · exact (al3 m q).2
          · exact S3.alive m q
    · rcases List.mem_append.mp hm with q | q
      · rcases two q with rfl | rfl
        · exact S₀.amb.none_of hC0
        · exact S₀.amb.none_of hL0
      · rcases List.mem_cons.mp q with rfl | q
        · exact S₀.amb.none_of hD0
        · rcases List.mem_append.mp q with q | q
          · exact S₀.amb.none_of (hwr m q)
          · exact S3.fresh m q
    · unfold capt at e
      by_cases hx : x ∈ names
      · rw [if_pos hx] at e
        obtain ⟨c1, c2, c3⟩ := C.ok x hx
        obtain ⟨d, hd⟩ := C.data x hx
        rw [hd] at e; cases e
        obtain ⟨v, l, r⟩ := S₀.vars x _ hd
        have hxz : x ≠ z := fun q => hzn (q ▸ hx)
        rcases l with ⟨e1, _⟩ | ⟨e1, c, lc, o, g, dd⟩
        · rw [c2] at e1; cases e1
        · refine ⟨v, .inr ⟨c1, c, (lkx hxz).trans (c3.trans lc), o, k03.heap c o (S₀.ne_pt T (S₀.cellM x c lc)) (by simp) g, dd⟩, ?_⟩
          refine rda_d.mpr ((rda_d.mp r).mono fun b o h1 h2 e => ⟨fun q => ?_, k03.heap b o h2 (by simp) e⟩)
          rcases List.mem_append.mp q with q | q
          · rcases two q with rfl | rfl
            · rw [hC0] at e; cases e
            · rw [hL0] at e; cases e
          · rcases List.mem_cons.mp q with rfl | q
            · rw [hD0] at e; cases e
            · rcases List.mem_append.mp q with q | q
              · rw [hwr b q] at e; cases e
              · exact h1 q
      · rw [if_neg hx] at e; cases e
    · rcases lkc e with ⟨_, rfl⟩ | ⟨_, e⟩
      · exact ⟨_, by rw [e3]; exact hcl₁⟩
      have hx := C.all x c e
      obtain ⟨c1, c2, c3⟩ := C.ok x hx
      obtain ⟨d, hd⟩ := C.data x hx
      obtain ⟨v, l, r⟩ := S₀.vars x _ hd
      rcases l with ⟨e1, _⟩ | ⟨e1, c', lc, o, g, dd⟩
      · rw [c2] at e1; cases e1
      · have : c' = c := by
          have e' : cl.lookup x = some c := e
          rw [c3, lc] at e'; exact Option.some.inj e'
        subst this
        exact ⟨_, o, k03.heap c' o (S₀.ne_pt T (S₀.cellM x c' lc)) (by simp) g, dd⟩
    · unfold capt at e
      by_cases hx : x ∈ names
      · rw [if_pos hx] at e
        obtain ⟨d, hd⟩ := C.data x hx
        rw [hd] at e; cases e
        unfold AV.addrs
        exact ⟨.nil, fun _ h => (nomatch h), fun _ _ _ _ _ h => (nomatch h)⟩
      · rw [if_neg hx] at e; cases e
    · unfold capt at e
      by_cases hx : x ∈ names
      · rw [if_pos hx] at e
        obtain ⟨d, hd⟩ := C.data x hx
        rw [hd] at e; cases e
        unfold AV.addrs at ha; cases ha
      · rw [if_neg hx] at e; cases e
  have loop : codeAny (model prog w) A (.compLoop (.ListComp elt [⟨target, iter, ifs, 0⟩] scope pos) 0 (.ref it) (.ref Da) (compEnvC scope ((z, Ca + 1) :: cl) Ca env)) (RR (.ref Da) Ca) s₃ := by
    refine compLoop_any (fun n s' => ∃ i ys, n = ds.length + 1 - i ∧ i ≤ ds.length ∧ s'.heap.PlainList Da ys ∧ RdL s'.heap (Ca :: (Ca + 1) :: (Da :: (wr ++ M))) ys.toList (((ds.take i).filter p).map f) ∧
      St H s₀ (Da :: (wr ++ M)) (compEnvC scope ((z, Ca + 1) :: cl) Ca env) [Ca, Ca + 1] (capt names σ) s' ∧ I (Ca :: (Ca + 1) :: Da :: M₀) i s') ?_ (ds.length + 1) ⟨0, #[], rfl, Nat.zero_le _, by rw [e3]; exact hacc, by simpa using rdl_nil, St₃, hI3⟩
    rintro n s4 ⟨i, ys, rfl, hle, hpl, hrd, S4, hI4⟩
    have hid : ∀ b ∈ wr, b ∈ [Ca, Ca + 1] ++ (Da :: (wr ++ M)) := fun b hb => .tail _ (.tail _ (.tail _ (List.mem_append.mpr (.inl hb))))
    have cellX : ∀ x c, (compEnvC scope ((z, Ca + 1) :: cl) Ca env).cells.lookup x = some c → c = Ca + 1 ∨ c ∈ M := fun x c e => by
      rcases lkc e with ⟨_, h⟩ | ⟨_, e⟩
      · exact .inl h
      · exact .inr (S₀.cellM x c ((C.ok x (C.all x c e)).2.2 ▸ e))
    by_cases hlt : i < ds.length
    · obtain ⟨d, hd⟩ : ∃ d, ds[i]? = some d := ⟨_, List.getElem?_eq_getElem hlt⟩
      have hdm : d ∈ ds := List.mem_of_getElem? hd
      have htake : ds.take (i + 1) = ds.take i ++ [d] := by rw [List.take_add_one, hd]; rfl
      refine W.item _ i s4 _ _ d hd hI4 fun v s5 hI5 k5 rv => ?_
      have al5 := W.off _ _ _ hI5
      have S5 := S4.other T k5 hid (fun b hb q => (two q).elim (hwC b hb).1 (hwC b hb).2.2) hwr hgx (fun b hb => (al5 b hb).2) (fun x c e q => (cellX x c e).elim (fun h => (hwC c q).2.2 h) (fun h => hwM c q h))
      have hpl5 : s5.heap.PlainList Da ys := hpl.at fun o e => k5.heap Da o (fun q => by
          obtain ⟨ps, t, _⟩ := S₀.amb.tab
          rw [q, t.2] at hD0; cases hD0) (fun q => (hwC _ q).2.1 rfl) e
      have hrd5 : RdL s5.heap (Ca :: (Ca + 1) :: (Da :: (wr ++ M))) ys.toList (((ds.take i).filter p).map f) := hrd.mono fun b o h1 h2 e => ⟨h1, k5.heap b o h2 (fun q => h1 (hid b q)) e⟩
      refine W.lot _ _ _ target v _ _ hI5 ?_
      have rv' : Rd s5.heap ([Ca, Ca + 1] ++ (Da :: (wr ++ M))) v d := by
        rcases hM₀ with e | ⟨_, hfl⟩
        · subst e
          refine rv.hidden fun b hb => ?_
          rcases List.mem_append.mp hb with hb | hb
          · rcases two hb with rfl | rfl
            · exact List.mem_append.mpr (.inr (.head _))
            · exact List.mem_append.mpr (.inr (.tail _ (.head _)))
          · rcases List.mem_cons.mp hb with rfl | hb
            · exact List.mem_append.mpr (.inr (.tail _ (.tail _ (.head _))))
            · rcases List.mem_append.mp hb with q | q
              · exact List.mem_append.mpr (.inl q)
              · exact List.mem_append.mpr (.inr (.tail _ (.tail _ (.tail _ q))))
        · exact rv.flat (hfl d hdm)
      refine asg d hdm _ _ Ca s5 v _ _ S5 rv' fun s6 S6 k6 => ?_
      have up2 : ∀ b ∈ [Ca, Ca + 1], b ∈ Ca :: (Ca + 1) :: Da :: M₀ := fun b hb => by
        rcases two hb with rfl | rfl
        · exact .head _
        · exact .tail _ (.head _)
      have frame6 : ∀ {s7 : Shared}, KpX [Ca, Ca + 1] [] s5 s7 → I (Ca :: (Ca + 1) :: Da :: M₀) (i + 1) s7 := fun {s7} k => W.frame _ [] _ _ _ hI5 (k.weak up2 fun _ q => nomatch q) fun _ _ q => nomatch q
      obtain ⟨ht, he⟩ := turn d hdm Ca ([Ca, Ca + 1] ++ (Da :: (wr ++ M)))
      refine ht s6 _ _ S6.e fun s7 k7 => ?_
      have S7 := S6.kp T k7
      have k57 : KpX [Ca, Ca + 1] [] s5 s7 := k6.trans k7.to
      have hDp : Da ≠ PT := S4.e.ne_pt T (List.mem_append.mpr (.inr (.head _)))
      have hD2n : Da ∉ [Ca, Ca + 1] := fun q => (two q).elim hDC hDL
      have hpl7 : s7.heap.PlainList Da ys := hpl5.at fun o e => k57.heap Da o hDp hD2n e
      have hin : ∀ b, b ∉ Ca :: (Ca + 1) :: (Da :: (wr ++ M)) → b ∉ [Ca, Ca + 1] := fun b h q => h ((two q).elim (fun e => e ▸ .head _) fun e => e ▸ .tail _ (.head _))
      have hrd7 : RdL s7.heap (Ca :: (Ca + 1) :: (Da :: (wr ++ M))) ys.toList (((ds.take i).filter p).map f) := hrd5.mono fun b o h1 h2 e => ⟨h1, k57.heap b o h2 (hin b h1) e⟩
      cases hp : p d with
      | false =>
        simp only [Bool.false_eq_true, if_false]
        refine ⟨_, by omega, i + 1, ys, rfl, hlt, hpl7, ?_, S7.sub (hb d), frame6 k57⟩
        rw [htake, List.filter_append, List.filter_cons, hp]; simpa using hrd7
      | true =>
        simp only [if_true]
        refine he hp s7 _ _ S7.e fun y s8 k8 ry => ?_
        have hpl8 : s8.heap.PlainList Da ys := hpl7.at fun o e => k8.heap Da o hDp (by simp) e
        have hrd8 := hrd7.kp k8
        have S8 := S7.kp T k8
        have hys : ys.size ≤ sizeLine := by
          have := hrd8.length
          simp only [List.length_map, Array.length_toList] at this
          have h2 : ((ds.take i).filter p).length ≤ (ds.take i).length := List.length_filter_le _ _
          rw [List.length_take] at h2
          omega
        refine wpAny_list_append_plain (hsz := hys) hpl8 fun h' hpl' hs' => ?_
        have hDin : Da ∈ [Ca, Ca + 1] ++ (Da :: (wr ++ M)) := List.mem_append.mpr (.inr (.head _))
        have k9 : KpX [Da] [] s8 { s8 with heap := h' } := kpx_same (tk := s8.toks) hs' hDp (ne93 T (S4.e.fresh _ hDin))
        have S9 : St H s₀ (Da :: (wr ++ M)) (compEnvC scope ((z, Ca + 1) :: cl) Ca env) [Ca, Ca + 1] _ { s8 with heap := h' } := S8.other T k9 (fun b hb => by rw [List.mem_singleton.mp hb]; exact hDin) (fun b hb q => hD2n (by rw [← List.mem_singleton.mp hb]; exact q))
          (fun b hb => by rw [List.mem_singleton.mp hb]; exact hD0) (fun _ q => nomatch q) (fun b hb => by rw [List.mem_singleton.mp hb]; obtain ⟨n, e⟩ := hpl'; exact ⟨_, e⟩) (fun x c e q => (cellX x c e).elim (fun h => hDL (by rw [← List.mem_singleton.mp q]; exact h)) fun h => hDM (by rw [← List.mem_singleton.mp q]; exact h))
        have inD : Da ∈ Ca :: (Ca + 1) :: (Da :: (wr ++ M)) := .tail _ (.tail _ (.head _))
        refine ⟨_, by omega, i + 1, ys.push y, rfl, hlt, hpl', ?_, S9.sub (hb d), ?_⟩
        · rw [htake, List.filter_append, List.map_append, Array.toList_push, List.filter_cons, hp]
          refine RdL.append ?_ (rdl_cons ?_ rdl_nil)
          · exact hrd8.mono fun b o h1 h2 e => ⟨h1, k9.heap b o h2 (fun q => h1 (by rw [List.mem_singleton.mp q]; exact inD)) e⟩
          · exact (rda_d.mp ry).mono fun b o h1 h2 e => ⟨h1, k9.heap b o h2 (fun q => h1 (by rw [List.mem_singleton.mp q]; exact inD)) e⟩
        · refine W.frame _ [] _ _ _ hI5 (((k57.trans k8.to).weak (X' := Ca :: (Ca + 1) :: Da :: M₀) up2 fun _ q => nomatch q).trans (k9.weak (fun b hb => by rw [List.mem_singleton.mp hb]; exact .tail _ (.tail _ (.head _))) fun _ q => nomatch q)) fun _ _ q => nomatch q
    · obtain rfl : i = ds.length := Nat.le_antisymm hle (Nat.not_lt.mp hlt)
      refine W.done _ s4 _ _ hI4 fun s5 k5 => ?_
      have hDp : Da ≠ PT := S4.e.ne_pt T (List.mem_append.mpr (.inr (.head _)))
      have hCp : Ca ≠ PT := S4.e.ne_pt T (.head _)
      have hpl5 : s5.heap.PlainList Da ys := hpl.at fun o e => k5.heap Da o hDp (fun q => (hwC _ q).2.1 rfl) e
      have kf : Kp s₀ s5 := ⟨fun b o h1 h2 e => k5.heap b o h1 (fun q => by rw [hwr b q] at e; cases e) (S4.base.heap b o h1 h2 e), (S4.base.to.trans k5 : KpX wr gx s₀ s5).tab,
        fun i x h e => k5.gens i x (fun q => by rw [hgx i q] at e; cases e) (S4.base.gens i x h e), fun b => k5.bare (S4.base.bare b), k5.os.trans S4.base.os⟩
      obtain ⟨m, hns⟩ := S4.ns
      have hCw : Ca ∉ wr := fun q => (hwC _ q).1 rfl
      have hns5 : s5.heap.Ns Ca m := nsKpx hns k5 hCp hCw
      refine hRR Da Ca s5 kf hD0 hC0 hDC (let ⟨o, _, _, e, _⟩ := hns5; ⟨o, e⟩) ⟨m, hns5⟩ ?_
      unfold Rd
      refine ⟨Da, ys, rfl, fun q => ?_, hDp, hpl5.isList, ?_⟩
      · rcases List.mem_cons.mp q with q | q
        · exact hDC q
        · exact hDM q
      · rw [List.take_length] at hrd
        refine hrd.mono fun b o h1 h2 e => ⟨fun q => h1 ?_, k5.heap b o h2 (fun q => h1 (hid b q)) e⟩
        rcases List.mem_cons.mp q with rfl | q
        · exact .head _
        · exact .tail _ (.tail _ (.tail _ (List.mem_append.mpr (.inr q))))
  subst hs3
  exact codeAny_compStart_list loop (W.self _ 0 _ _ _ hI3 loop)

/-- [elt for target in iter if ..], with a cell of the block's own -/
theorem ev_comp_c (T : Top0 K H) {elt target iter : Expr} {ifs : List Expr} {scope : Scope} {pos : Pos} {cl : List (Str × Addr)} {ds : List D} (names : List Str) (bnd : D → Vars → Vars) (p : D → Bool) (f : D → D)
    (hclos : closureFor scope env = pure cl) {z : Str} (hz : ∀ n, cellsFrom n scope.names cl = (z, n) :: cl) (hzp : ∀ h, pushCells h scope.names = h.push { cls := .type "cell", data := .cell none }) (hzn : z ∉ names) (hkind : scope.kind = .function) (hnames : ∀ x ∈ scope.names, x.2 = .local → scope.names.lookup x.1 = some .local)
    (hi : ItG prog w H A env M σ iter ds) (hlen : ds.length ≤ sizeLine) (C : Capt env scope cl names σ)
    (asg : ∀ d ∈ ds, ∀ B' Mc' Ca, AsgT prog w H A B' (compEnvC scope ((z, Ca + 1) :: cl) Ca env) Mc' [Ca, Ca + 1] target d (capt names σ) (bnd d (capt names σ)))
    (hb : ∀ d, ∀ x av, capt names σ x = some av → bnd d (capt names σ) x = some av)
    (turn : ∀ d ∈ ds, ∀ Ca M', TestsT prog w H A M' (bnd d (capt names σ)) (compEnvC scope ((z, Ca + 1) :: cl) Ca env) ifs (p d) ∧ (p d = true → EvT prog w H A (compEnvC scope ((z, Ca + 1) :: cl) Ca env) M' (bnd d (capt names σ)) elt (.d (f d))))
    (hs : ∀ x, foldedSetIterable iter env x = pure x := by intro _; rfl) :
    EvT prog w H A env M σ (.ListComp elt [⟨target, iter, ifs, 0⟩] scope pos) (.d (.list ((ds.filter p).map f))) := fun s Q E S h => by
  rw [eval_ListComp]
  refine wpAny_comprehension_free (use := none) rfl hs hclos hkind hnames ?_
  refine hi s _ _ S fun it wr gx I s2 M₀ k2 W hM₀ hI hwr hgx => ?_
  refine comp_block_c T names bnd p f S k2 W hM₀ hI hwr hgx hlen hz hzp hzn hkind C asg hb turn ?_
  intro Da Ca s' k hD hC hDC alC nsC rd
  obtain ⟨m, n⟩ := nsC
  refine ⟨m, n, fun h' hs' => ?_⟩
  have hCH := S.amb.none_of hC
  have hCp : Ca ≠ PT := by
    rintro rfl
    obtain ⟨ps, t, _⟩ := S.amb.tab
    rw [t.2] at hC; cases hC
  have kC := kpx_same' hs' hCp (ne93 T hCH)
  refine h _ _ (kp_fresh hC k kC) (rda_d.mpr (rd.mono fun b o h1 h2 e => ⟨fun q => h1 (.tail _ q), kC.heap b o h2 (fun q => h1 (by rw [List.mem_singleton.mp q]; exact .head _)) e⟩))
end

section
variable {prog : Program} {w : World} {K : Frag} {H : Heap} {A : Around} {env : Env} {M Mc Mw : List Addr} {σ : Vars} {B : Shared} {s : Shared} {rest : List Stmt} {Kk : Flow → Shared → Prop} {E : Value → Shared → Prop}
/-- x, y, z = a list of as many -/
theorem x_tupL (T : Top0 K H) (S : St H B Mc env Mw σ s) (hh : A.handled = none) {es : List Expr} {k : Nat} {p pos : Pos} {e : Expr} (xds : List (Str × D)) (h1 : EvT prog w H A env (Mw ++ Mc) σ e (.d (.list (xds.map (·.2)))))
    (kk : ∀ s', St H B Mc env Mw (xds.foldl (fun σ p => upd σ p.1 (.d p.2)) σ) s' → wpAny (model prog w) A (execs rest env) Kk E s')
    (hn : es.map nameOf = xds.map (fun p => some p.1) := by rfl) (hb : ∀ p ∈ xds, BindOk env p.1)
    (hf : (assignEach es env).findIdx? (·.1) = none := by rfl) (hl : (assignEach es env).length = xds.length := by rfl)
    (hs : swapsWithSole [.Tuple es k p] e pos.line env = pure false := by rfl) (hw : swappedStores [.Tuple es k p] e env = pure none := by rfl) :
    wpAny (model prog w) A (execs (.Assign [.Tuple es k p] e pos :: rest) env) Kk E s := by
  refine x_next (Assign_Tuple (h1 s _ _ S.e fun v s1 k1 r1 => ?_) hs hw)
  have S1 := S.kp T k1
  obtain ⟨a, items, rfl, hm, hp, ht, rl⟩ := list_of r1
  rw [arm_assign_Tuple]
  refine wpAny_bind (wpAny_standAt ?_)
  unfold unpack
  have hsz : (assignEach es env).length = items.size := by rw [hl]; have := rl.length; simp at this; omega
  rw [hsz, hf]
  refine wpAny_bind (wpAny_holding (PySem.W.kun_itemsOf hh ht fun h' hx => ?_))
  have kp : Kp s1 { s1 with heap := h' } := Kp.of (tk := s1.toks) fun b o e => hx b o (Nat.ne_of_lt (Heap.lt_size e)) e
  exact assign_order T xds es _ σ _ _ _ hn hb (S1.kp T kp) (rl.kp kp) fun s2 S2 k2 => ⟨rfl, kk s2 S2⟩
end

def numsOf (script : List Int) : List Int := slT script none (some 60)
def manyOf (k m : Nat) : Nat := (Builtin.Range.rangeSize (k : Int) (m : Int) 5).toNat
theorem many_ok : ∀ k, k < 5 → ∀ m, m < 61 → Builtin.Range.small (k : Nat) (m : Nat) 5 = true ∧ Builtin.divisionGoesByPylong ((m : Int) - (k : Int)) 5 = false ∧ Builtin.Range.rangeSize (k : Int) (m : Int) 5 = ((manyOf k m : Nat) : Int) ∧ manyOf k m ≤ 12 ∧ ∀ i, i < manyOf k m → k + 5 * i < m := by decide +kernel
def modsOf (nums : List Int) (k : Nat) : List Int := (List.range (manyOf k nums.length)).map fun i => Int.fmod (nums.getD (k + 5 * i) 0) 5040
def bases : List Int := [11, 6, 4, 13, 17]
def drawOf (nums : List Int) (k : Nat) : Int := bases.getD k 0 + (modsOf nums k).sum
def drawsOf (nums : List Int) : List Int := (List.range 5).map (drawOf nums)
theorem sum_bound {l : List Int} {m : Int} (h : ∀ z ∈ l, 0 ≤ z ∧ z ≤ m) : 0 ≤ l.sum ∧ l.sum ≤ l.length * m := by
  induction l with
  | nil => simp
  | cons x r ih =>
    have h1 := h x (.head _)
    have h2 := ih fun z hz => h z (.tail _ hz)
    rw [List.sum_cons, List.length_cons]
    have : ((r.length + 1 : Nat) : Int) * m = r.length * m + m := by rw [Int.natCast_add, Int.add_mul]; simp
    omega
theorem sum_long {l : List Int} {m : Int} (hm : m ≤ 1000000) (hl : l.length ≤ 100) (h : ∀ z ∈ l, 0 ≤ z ∧ z ≤ m) : ∀ k, k < l.length → InLong (l.getD k 0) ∧ InLong (l.take (k + 1)).sum := fun k hk => by
  have h2 : l.getD k 0 ∈ l := by rw [List.getD_eq_getElem?_getD, List.getElem?_eq_getElem hk]; exact List.getElem_mem hk
  have h3 := h _ h2
  have h4 := sum_bound (l := l.take (k + 1)) fun z hz => h z (List.mem_of_mem_take hz)
  have h5 : (l.take (k + 1)).length ≤ 100 := by rw [List.length_take]; omega
  have h6 : ((l.take (k + 1)).length : Int) * m ≤ 100 * 1000000 := by
    have hm0 : 0 ≤ m := Int.le_trans h3.1 h3.2
    have a1 : ((l.take (k + 1)).length : Int) * m ≤ 100 * m := Int.mul_le_mul_of_nonneg_right (by omega) hm0
    omega
  unfold InLong
  omega
theorem mods_ok (nums : List Int) (k : Nat) : ∀ z ∈ modsOf nums k, 0 ≤ z ∧ z ≤ 5040 := fun z hz => by
  obtain ⟨i, _, rfl⟩ := List.mem_map.mp hz
  have h0 := Int.fmod_nonneg_of_pos (nums.getD (k + 5 * i) 0) (show (0 : Int) < 5040 by decide)
  have h1 := Int.fmod_lt_of_pos (nums.getD (k + 5 * i) 0) (show (0 : Int) < 5040 by decide)
  omega
theorem nums_len (script : List Int) : (numsOf script).length ≤ 60 := by
  unfold numsOf slT
  rw [List.length_take]
  show min (clipAt script.length 60 - 0) _ ≤ 60
  unfold clipAt
  omega
theorem draw_ok {nums : List Int} (hn : nums.length ≤ 60) {k : Nat} (hk : k < 5) : 0 ≤ drawOf nums k ∧ drawOf nums k ≤ 100000 := by
  have h1 := sum_bound (mods_ok nums k)
  have h2 : (modsOf nums k).length ≤ 12 := by
    unfold modsOf
    rw [List.length_map, List.length_range]
    exact (many_ok k hk nums.length (by omega)).2.2.2.1
  have h3 : 0 ≤ bases.getD k 0 ∧ bases.getD k 0 ≤ 17 := by
    have : k = 0 ∨ k = 1 ∨ k = 2 ∨ k = 3 ∨ k = 4 := by omega
    rcases this with rfl | rfl | rfl | rfl | rfl <;> decide
  unfold drawOf
  omega
theorem draws_ok {nums : List Int} (hn : nums.length ≤ 60) : (drawsOf nums).length = 5 ∧ ∀ d ∈ drawsOf nums, 0 ≤ d ∧ d ≤ 100000 := by
  refine ⟨by unfold drawsOf; rw [List.length_map, List.length_range], fun d hd => ?_⟩
  obtain ⟨k, hk, rfl⟩ := List.mem_map.mp hd
  exact draw_ok hn (List.mem_range.mp hk)
def ridesOf (draws : List Int) : List Int := draws.map fun d => Int.fmod (Int.fdiv d 3) 6
def drawnOf (draws : List Int) : List Int := draws.map fun d => Int.fmod d 3
theorem rides_ok {draws : List Int} (h : draws.length = 5) : Rides (ridesOf draws) := by
  refine ⟨by unfold ridesOf; rw [List.length_map, h], fun k hk => ?_⟩
  have e : (ridesOf draws).getD k 0 = Int.fmod (Int.fdiv (draws.getD k 0) 3) 6 := by
    unfold ridesOf
    rw [List.getD_eq_getElem?_getD, List.getElem?_map, List.getD_eq_getElem?_getD, List.getElem?_eq_getElem (by omega)]; rfl
  rw [e]
  exact ⟨Int.fmod_nonneg_of_pos _ (by decide), Int.fmod_lt_of_pos _ (by decide)⟩
theorem drawn_ok {draws : List Int} (h : draws.length = 5) : Row (drawnOf draws) := by
  refine ⟨by unfold drawnOf; rw [List.length_map, h], fun i hi => ?_⟩
  obtain ⟨d, _, rfl⟩ := List.mem_map.mp hi
  have h0 := Int.fmod_nonneg_of_pos d (show (0 : Int) < 3 by decide)
  have h1 := Int.fmod_lt_of_pos d (show (0 : Int) < 3 by decide)
  omega
def signText : Str := "( ) [ ] : , ; + - * / | & < > = . % { } == != <= >= ~ ^ << >> ** += -= *= /= %= &= |= ^= <<= >>= **= // //= @ @= -> ... := !"
theorem sign_split : Builtin.Str.partsBetween signText (Builtin.Str.occurrences signText " " 0 signText.length (signText.length + 1)) (" " : Str).length = signs ∧ (decide (signText.length < (" " : Str).length) || decide (Builtin.Str.strKind signText < Builtin.Str.strKind " ")) = false ∧ (Builtin.Str.occurrences signText " " 0 signText.length (signText.length + 1)).isEmpty = false := by decide +kernel

abbrev LL (l : List (List Int)) : D := .list (l.map fun x => LI x)
theorem LL_py (l : List (List Int)) : D.pyL (l.map fun x => LI x) = l.map fun x => PyData.list (x.map PyData.int) := by
  rw [pyL_eq, List.map_map]
  refine List.map_congr_left fun x _ => ?_
  show PyData.list (D.pyL (x.map D.int)) = _
  rw [ints_py]
theorem shaped_LL (l : List (List Int)) : SeqAt.shaped (D.py (LL l)) = true := by
  have h1 : ∀ l : List (List Int), PyData.canLayAll0 (l.map fun x => PyData.list (x.map PyData.int)) = true := fun l => by
    induction l with
    | nil => simp [PyData.canLayAll0]
    | cons x l ih => rw [List.map_cons]; simp [PyData.canLayAll0, PyData.canLay0, canLay_ints, ih]
  have h2 : ∀ l : List (List Int), PyData.depthAll (l.map fun x => PyData.list (x.map PyData.int)) ≤ 1 := fun l => by
    induction l with
    | nil => simp [PyData.depthAll]
    | cons x l ih => rw [List.map_cons]; simp [PyData.depthAll, PyData.depth, depth_ints, ih]
  unfold SeqAt.shaped
  simp only [D.py, LL_py]
  have := h2 l
  simp [PyData.canLay0, PyData.depth, h1]
  omega
theorem eqv_LL (l : List (List Int)) : PyData.eqv (D.py (LL l)) (D.py (LL l)) = true := by
  simp only [D.py, LL_py, PyData.eqv]
  induction l with
  | nil => simp [PyData.eqvAll]
  | cons x l ih => rw [List.map_cons]; simp [PyData.eqvAll, PyData.eqv, eqv_ints, ih]
theorem shaped_insD (st : RS × List Int) : SeqAt.shaped (D.py (insD st)) = true := by
  unfold SeqAt.shaped
  simp only [insD, D.py, D.pyL, ints_py]
  simp [PyData.canLay0, PyData.canLayAll0, canLay_ints, PyData.depth, PyData.depthAll, depth_ints]
theorem eqv_insD (st : RS × List Int) : PyData.eqv (D.py (insD st)) (D.py (insD st)) = true := by
  simp only [insD, D.py, D.pyL, ints_py]
  simp [PyData.eqv, PyData.eqvAll, eqv_ints]
theorem eqv_LI (l : List Int) : PyData.eqv (D.py (LI l)) (D.py (LI l)) = true := by
  simp only [D.py, ints_py, PyData.eqv, eqv_ints]
  simp
/-- x.split(y) -/
theorem ev_split {prog : Program} {w : World} {K : Frag} {H : Heap} {A : Around} {env : Env} {M : List Addr} {σ : Vars} (T : Top0 K H) {o e : Expr} {apos pos : Pos} {x y : Str} {xs : List Str} {pl : Sem Bool} (h1 : EvT prog w H A env M σ o (.d (.str x))) (h2 : EvT prog w H A env M σ e (.d (.str y)))
    (hx : Builtin.Str.partsBetween x (Builtin.Str.occurrences x y 0 x.length (x.length + 1)) y.length = xs)
    (c1 : (decide (x.length < y.length) || decide (Builtin.Str.strKind x < Builtin.Str.strKind y)) = false) (c2 : (y.length == 0) = false) (c3 : (Builtin.Str.occurrences x y 0 x.length (x.length + 1)).isEmpty = false) (c4 : x.length ≤ sizeLine) (c5 : xs.length ≤ sizeLine)
    (hse : starEach [e] env = (false, eval e env) :: starEach [] env := by rfl)
    (he : eval (.Call (.Attribute o "split" apos) [e] [] pos) env = (do
      let ov ← eval o env
      standAt apos.atName
      let (f, first) ← holding [ov] (getMethod ov "split" pl)
      callWith pos f first (backTo pos (starEach [e] env)) []) := by rfl) : EvT prog w H A env M σ (.Call (.Attribute o "split" apos) [e] [] pos) (.d (LS xs)) := by
  subst hx
  exact ev_meth (f := .builtin "str.split") T trivial h1 (by with_reducible exact hg_split) (evs_cons T h2 evs_nil hse) (split_ok c1 c2 c3 c4 c5) (by rw [hse]; rfl) he
section
variable {w : World} {H : Heap} {A : Around} {M : List Addr} {n : Nat}
theorem c_law (T : Top0 (KK w) H) (hA : AOk A (n + 16)) {script : List Int} (hsl : script.length ≤ 1000) (hg : ∀ rides low, low = 0 ∨ low = 1 → ∀ row, Row row → Good low rides row) (hlaw : ∀ rides row, Row row → LawOk rides row) : CallT PG w H A M (.ref 184) [.d (LI script)] (.d (.bool true)) := by
  refine call_fun (ps := ["script"]) (ds := [LI script]) T hA (qual := ?q) (body := ?b) (scope := ?s) (cdv := ?c) ?F ?g ?l ?hb
  case F => walk_at "fnis1"
  case g => rfl
  case l => rfl
  case hb =>
    intro L A' hA'
    rw [vars0_V]
    intro B s Kk E S k
    have big : (8000 : Nat) ≤ sizeLine := by decide
    refine x_assign (d := LI (numsOf script)) T S (EvT.cast (ev_slice_list T (.inl rfl) (by rw [List.length_map]; omega) (ev_name rfl) part_none (part_some ev_int)) (congrArg (fun z => AV.d (.list z)) (sl_map D.int _ _ _))) (.inr ⟨rfl, rfl, rfl⟩) fun s1 S1 => ?_
    rw [upd_V] at S1
    have hn60 := nums_len script
    generalize numsOf script = nums at *
    refine x_compT (g := fun k : Nat => .int k) (xs := List.range 5) T S1 rfl (fun d => d.toInt.toNat) (fun _ => rfl) [("numbers", L + 1)] (fun _ => true) (fun k => .int (drawOf nums k)) (it_range1 (n := 5) T hA'.hh (fn_blt T gn_range bb_range rfl) ev_int (by decide) (by decide)).g (by decide) ?C rfl ?t (.inl rfl) fun s2 S2 => ?_
    case C => walk_at "mcapt"
    case t =>
      intro k hk Ca M'
      have hk5 : k < 5 := List.mem_range.mp hk
      obtain ⟨m1, m2, m3, m4, m5⟩ := many_ok k hk5 nums.length (by omega)
      have hkn : ((k : Nat) : Int).toNat = k := Int.toNat_natCast k
      refine ⟨tests_nil, fun _ => ev_bin T (EvT.cast (ev_item_g (g := .int) (xs := bases) T 0 (ev_list (ds := [.int _, .int _, .int _, .int _, .int _]) T (evs_cons T ev_int (evs_cons T ev_int (evs_cons T ev_int (evs_cons T ev_int (evs_cons T ev_int evs_nil))))) (by decide)) (ev_name rfl) (by omega) (by rw [hkn]; exact hk5) (by decide)) (by rw [hkn])) (ev_call T (fn_blt T gn_sum bb_sum rfl) trivial (evs_cons T (EvT.cast (ev_compT (g := fun i : Nat => .int ((k : Int) + (i : Nat) * 5)) (xs := List.range (manyOf k nums.length)) T (fun d => ((d.toInt - (k : Int)) / 5).toNat) ?gi [("numbers", L + 1)] (fun _ => true) (fun i => .int (Int.fmod (nums.getD (k + 5 * i) 0) 5040)) (it_range3 (n := manyOf k nums.length) T hA'.hh (fn_blt T gn_range bb_range rfl) (ev_name rfl) (EvT.cast (ev_call T (fn_blt T gn_len bb_len rfl) trivial (evs_cons T (ev_name rfl) evs_nil) (len_of_list (by rw [List.length_map]; omega))) (by rw [List.length_map])) ev_int (by decide) m2 m1 m3).g (by rw [List.length_range]; omega) ?C2 rfl ?t2) ?e2) evs_nil) (sum_ok (ns := modsOf nums k) T hA'.hh (sum_long (m := 5040) (by decide) (by unfold modsOf; rw [List.length_map, List.length_range]; omega) (mods_ok nums k)))) op_add⟩
      case gi => intro i; show (((k : Int) + (i : Nat) * 5 - (k : Int)) / 5).toNat = i; omega
      case C2 => walk_at "mcapt"
      case t2 =>
        intro i hi Ca2 M2
        have hi2 := m5 i (List.mem_range.mp hi)
        have e1 : ((k : Int) + (i : Nat) * 5).toNat = k + 5 * i := by omega
        exact ⟨tests_nil, fun _ => EvT.cast (ev_bin T (ev_item_g (g := .int) T 0 (ev_name rfl) (ev_name rfl) (by omega) (by rw [e1]; omega) (by omega)) ev_int (op_mod (by decide))) (by rw [e1])⟩
      case e2 =>
        rw [List.filter_eq_self.mpr (fun _ _ => rfl)]
        unfold modsOf
        rw [List.map_map]; rfl
    have ed : D.list (((List.range 5).filter fun _ => true).map fun k => D.int (drawOf nums k)) = LI (drawsOf nums) := by
      rw [List.filter_eq_self.mpr (fun _ _ => rfl)]
      unfold LI drawsOf
      rw [List.map_map]; rfl
    rw [ed] at S2
    obtain ⟨dl, dr⟩ := draws_ok hn60
    have S3 := S2.V [("draws", .d (LI (drawsOf nums)))] (by walk_at "mvsub")
    generalize drawsOf nums = draws at *
    clear S2 S1 S hn60 ed
    refine x_assign T S3 (ev_bin T (ev_call T (fn_blt T gn_sum bb_sum rfl) trivial (evs_cons T (ev_name rfl) evs_nil) (sum_ok (ns := draws) T hA'.hh (sum_long (m := 100000) (by decide) (by omega) dr))) ev_int (op_mod (by decide))) (.inr ⟨rfl, rfl, rfl⟩) fun s4 S4 => ?_
    rw [upd_V] at S4
    have f0 := Int.fmod_nonneg_of_pos draws.sum (show (0 : Int) < 46 by decide)
    have f1 := Int.fmod_lt_of_pos draws.sum (show (0 : Int) < 46 by decide)
    generalize Int.fmod draws.sum 46 = first at *
    have hrides := rides_ok dl
    have hdrawn := drawn_ok dl
    refine x_tup_sw T S4 hA'.hh [("rides", LI (ridesOf draws)), ("drawn", LI (drawnOf draws))] (ev_tuple (ds := [LI (ridesOf draws), LI (drawnOf draws)]) T (evs_cons T
      (EvT.cast (ev_compT (g := .int) (xs := draws) T D.toInt (fun _ => rfl) [] (fun _ => true) (fun d => .int (Int.fmod (Int.fdiv d 3) 6)) (it_list T hA'.hh (ev_name rfl)).g (by omega) Capt.nil rfl ?t1) ?e1) (evs_cons T
      (EvT.cast (ev_compT (g := .int) (xs := draws) T D.toInt (fun _ => rfl) [] (fun _ => true) (fun d => .int (Int.fmod d 3)) (it_list T hA'.hh (ev_name rfl)).g (by omega) Capt.nil rfl ?t2) ?e2) evs_nil)) (by walk_at "msz")) (fun s5 S5 => ?_) (by walk_at "mbinds")
    case t1 =>
      intro d hd Ca M'
      have := dr d hd
      exact ⟨tests_nil, fun _ => ev_bin T (ev_bin T (ev_name rfl) ev_int (op_div (by decide) (PyProof.noPylong_small (by decide)))) ev_int (op_mod (by decide))⟩
    case t2 =>
      intro d hd Ca M'
      exact ⟨tests_nil, fun _ => ev_bin T (ev_name rfl) ev_int (op_mod (by decide))⟩
    case e1 =>
      rw [List.filter_eq_self.mpr (fun _ _ => rfl)]
      unfold ridesOf
      show AV.d (.list _) = AV.d (.list _)
      rw [List.map_map]; rfl
    case e2 =>
      rw [List.filter_eq_self.mpr (fun _ _ => rfl)]
      unfold drawnOf
      show AV.d (.list _) = AV.d (.list _)
      rw [List.map_map]; rfl
    simp only [List.reverse_cons, List.reverse_nil, List.nil_append, List.cons_append, List.foldl_cons, List.foldl_nil, upd_V] at S5
    generalize ridesOf draws = rides at *
    generalize drawnOf draws = drawn at *
    have S6 := S5.V [("first", .d (.int first)), ("rides", .d (LI rides)), ("drawn", .d (LI drawn))] (by walk_at "mvsub")
    clear S5 S4 S3 dl dr
    refine @x_assign _ _ _ _ _ _ _ _ _ _ _ _ _ _ T S6 _ _ _ _ (LS signs) (@ev_split _ _ _ _ _ _ _ _ T _ _ _ _ (signText) (" ") _ _ ev_str ev_str sign_split.1 sign_split.2.1 (by decide) sign_split.2.2 (by decide) (by decide) (by intros; rfl) (by intros; rfl)) (.inr ⟨rfl, rfl, rfl⟩) (fun s7 S7 => ?_) (by intros; rfl)
    rw [upd_V] at S7
    refine x_compT (g := .int) (xs := drawn) T S7 rfl D.toInt (fun _ => rfl) [("signs", L + 3), ("first", L + 2)] (fun _ => true) (fun i => .int i) (it_list T hA'.hh (ev_name rfl)).g (by rw [hdrawn.len]; decide) ?C3 rfl ?t3 (.inl rfl) fun s8 S8 => ?_
    case C3 => walk_at "mcapt"
    case t3 =>
      intro i hi Ca M'
      have hdig := hdrawn.dig i hi
      have sl := sign_len
      refine ⟨tests_nil, fun _ => EvT.cast (ev_bin T (ev_bin T (ev_dict (x := signs.getD (first + i).toNat "") (v := ((first + i).toNat : Int) + 7) T rfl (ev_item_g (g := .str) T "" (ev_name rfl) (ev_bin T (ev_name rfl) (ev_name rfl) op_add) (by omega) (by omega) (by omega)) (sign_tab _ (by omega))) (ev_name rfl) op_sub) ev_int op_sub) ?_⟩
      have : ((first + i).toNat : Int) + 7 - first - 7 = i := by omega
      rw [this]
    have er : D.list ((drawn.filter fun _ => true).map fun i => D.int i) = LI drawn := by rw [List.filter_eq_self.mpr (fun _ _ => rfl)]
    rw [er] at S8
    have S9 := S8.V [("row", .d (LI drawn)), ("rides", .d (LI rides)), ("drawn", .d (LI drawn))] (by walk_at "mvsub")
    clear S8 S7 S6 er f0 f1
    have LW := hlaw rides drawn hdrawn
    have m01 : ∀ low ∈ ([0, 1, 0] : List Int), low = 0 ∨ low = 1 := by decide
    have m10 : ∀ low ∈ ([1, 0, 1] : List Int), low = 0 ∨ low = 1 := by decide
    refine x_assign (d := .list [.tup [LI (roadOf rides [0, 1, 0] drawn).1, LI (roadOf rides [0, 1, 0] drawn).2], .tup [LI (roadOf rides [1, 0, 1] drawn).1, LI (roadOf rides [1, 0, 1] drawn).2]]) T S9 (ev_list (ds := [.tup [LI (roadOf rides [0, 1, 0] drawn).1, LI (roadOf rides [0, 1, 0] drawn).2], .tup [LI (roadOf rides [1, 0, 1] drawn).1, LI (roadOf rides [1, 0, 1] drawn).2]]) T
      (evs_cons T (ev_call T (fn_glob T ga_174 rfl) kf_174 (evs_cons T (ev_name rfl) (evs_cons T (ev_tuple (ds := [.int 0, .int 1, .int 0]) T (evs_cons T ev_int (evs_cons T ev_int (evs_cons T ev_int evs_nil))) (by decide)) (evs_cons T (ev_name rfl) evs_nil))) (c_road (lows := [0, 1, 0]) T hA' hdrawn hrides (by decide) fun low hm => hg rides low (m01 low hm)))
      (evs_cons T (ev_call T (fn_glob T ga_174 rfl) kf_174 (evs_cons T (ev_name rfl) (evs_cons T (ev_tuple (ds := [.int 1, .int 0, .int 1]) T (evs_cons T ev_int (evs_cons T ev_int (evs_cons T ev_int evs_nil))) (by decide)) (evs_cons T (ev_name rfl) evs_nil))) (c_road (lows := [1, 0, 1]) T hA' hdrawn hrides (by decide) fun low hm => hg rides low (m10 low hm))) evs_nil)) (by walk_at "msz")) (.inl rfl) fun s10 S10 => ?_
    rw [upd_V, LW.same, LW.c0, LW.c1] at S10
    have hw0 := LW.w0
    have hw1 := LW.w1
    have hv := LW.v
    have hlast := LW.last
    have hlr := LW.lastRow
    have hsn := LW.sn
    have hsf := LW.sf
    have hnf := LW.nf
    have hfn := LW.fn
    have hdig := LW.dig
    have hlen20 := LW.len
    have hsh := LW.sh
    have hsm := LW.sm
    have hso := LW.so
    have he1 := LW.e1
    have he2 := LW.e2
    have he3 := LW.e3
    clear LW
    generalize hl0 : (roadOf rides [0, 1, 0] drawn).2 = last at *
    generalize hst : inserted drawn = st at *
    generalize hones : numOf 1 st.1.1 = ones at *
    generalize htwos : numOf 2 st.1.1 = twos at *
    generalize hrest : numOf 2 st.1.2.1 = rest at *
    have iRoad : ∀ {env : Env} {M : List Addr} {σ : Vars} {p1 p2 p3 : Pos} {kc : Nat}, σ "roads" = some (.d (.list [.tup [LI (counts0 ones twos rest), LI last], .tup [LI (counts1 ones twos rest), LI last]])) → EvT PG w H A' env M σ (.Subscript (.Name "roads" p1) (.Constant (.int 0) kc p2) p3) (.d (.tup [LI (counts0 ones twos rest), LI last])) := fun {env M σ p1 p2 p3 kc} h => ev_item (x := .tup [LI (counts0 ones twos rest), LI last]) T (ev_name h) ev_int (by decide) rfl
    have iRoad1 : ∀ {env : Env} {M : List Addr} {σ : Vars} {p1 p2 p3 : Pos} {kc : Nat}, σ "roads" = some (.d (.list [.tup [LI (counts0 ones twos rest), LI last], .tup [LI (counts1 ones twos rest), LI last]])) → EvT PG w H A' env M σ (.Subscript (.Name "roads" p1) (.Constant (.int 1) kc p2) p3) (.d (.tup [LI (counts1 ones twos rest), LI last])) := fun {env M σ p1 p2 p3 kc} h => ev_item (x := .tup [LI (counts1 ones twos rest), LI last]) T (ev_name h) ev_int (by decide) rfl
    refine x_if T S10 (ts_boolop (all_or T (ts_cmp T (iRoad rfl) ev_none cmp_is_none) fun _ => all_or T (ts_cmp T (iRoad1 rfl) ev_none cmp_is_none) fun _ => all_or T (ts_cmp T (ev_item_tup (x := LI last) T (iRoad rfl) ev_int (by decide) rfl) (ev_item_tup (x := LI last) T (iRoad1 rfl) ev_int (by decide) rfl) (cmp_ne_data hA' (shaped_ints _) (shaped_ints _))) fun _ => all_nil_or)) (fun hq => ?_) (fun _ s11 S11 => x_nil ?_)
    · rw [eqv_LI] at hq
      simp at hq
    show wpAny _ _ (execs _ _) _ _ _
    refine x_tup T S11 hA'.hh [("rows", .list [LI st.1.1, LI st.1.2.1, LI st.1.2.2]), ("grown", LI st.2)] (EvT.cast (ev_call T (fn_glob T ga_179 rfl) kf_179 (evs_cons T (ev_name rfl) evs_nil) (c_inserted T hA' (by rw [hdrawn.len]; decide))) (by rw [hst]; rfl)) (fun s12 S12 => ?_) (hb := by walk_at "mbinds")
    simp only [List.foldl_cons, List.foldl_nil, upd_V] at S12
    have hlen21 := hlen20
    rw [List.length_append, List.length_append] at hlen21
    let lst : List (Str × AV) := [("rows", .d (.list [LI st.1.1, LI st.1.2.1, LI st.1.2.2])), ("grown", .d (LI st.2)), ("roads", .d (.list [.tup [LI (counts0 ones twos rest), LI last], .tup [LI (counts1 ones twos rest), LI last]])), ("row", .d (LI drawn)), ("rides", .d (LI rides)), ("drawn", .d (LI drawn))]
    have S13 := S12.V lst (by simp only [lst]; walk_at "mvsub")
    clear S12 S11 S10 S9
    let bnd : D → Vars → Vars := fun d σ => match d with | .tup [a, b] => upd (upd σ "k" (.d a)) "letter" (.d b) | _ => σ
    let ff : D → D := fun d => match d with | .tup [.int a, .int b] => .int (numOf b (rowAt st.1 a.toNat)) | _ => .none
    have hcap : capt ["rows"] (V lst) = V [("rows", .d (.list [LI st.1.1, LI st.1.2.1, LI st.1.2.2]))] := by rw [capt_V]; rfl
    refine @x_tupL _ _ _ _ _ _ _ _ _ _ _ _ _ _ T S13 hA'.hh _ _ _ _ _ [("ones", .int ones), ("twos", .int twos), ("rest", .int rest)] (@EvT.cast _ _ _ _ _ _ _ _ _ _ (@ev_comp_c _ _ _ _ _ _ _ _ T _ _ _ _ _ _ ([("rows", L + 4)]) ([.tup [.int 0, .int 1], .tup [.int 0, .int 2], .tup [.int 1, .int 2]]) ["rows"] bnd (fun _ => true) ff (by rfl) ("letter") (fun _ => by rfl) (fun _ => by rfl) (by decide) (by rfl) (by decide) (@ItT.g _ _ _ _ _ _ _ _ _ (@it_tuple _ _ _ _ _ _ _ _ T hA'.hh _ _ (@ev_tuple _ _ _ _ _ _ _ _ T _ ([.tup [.int 0, .int 1], .tup [.int 0, .int 2], .tup [.int 1, .int 2]]) _ _ (@evs_cons _ _ _ _ _ _ _ _ T _ _ _ _ _ (@ev_tuple _ _ _ _ _ _ _ _ T _ ([.int 0, .int 1]) _ _ (@evs_cons _ _ _ _ _ _ _ _ T _ _ _ _ _ ev_int (@evs_cons _ _ _ _ _ _ _ _ T _ _ _ _ _ ev_int evs_nil (by intros; rfl)) (by intros; rfl)) (by decide)) (@evs_cons _ _ _ _ _ _ _ _ T _ _ _ _ _ (@ev_tuple _ _ _ _ _ _ _ _ T _ ([.int 0, .int 2]) _ _ (@evs_cons _ _ _ _ _ _ _ _ T _ _ _ _ _ ev_int (@evs_cons _ _ _ _ _ _ _ _ T _ _ _ _ _ ev_int evs_nil (by intros; rfl)) (by intros; rfl)) (by decide)) (@evs_cons _ _ _ _ _ _ _ _ T _ _ _ _ _ (@ev_tuple _ _ _ _ _ _ _ _ T _ ([.int 1, .int 2]) _ _ (@evs_cons _ _ _ _ _ _ _ _ T _ _ _ _ _ ev_int (@evs_cons _ _ _ _ _ _ _ _ T _ _ _ _ _ ev_int evs_nil (by intros; rfl)) (by intros; rfl)) (by decide)) evs_nil (by intros; rfl)) (by intros; rfl)) (by intros; rfl)) (by decide)))) (by decide) ?C4 ?asg ?hb ?turn (by intros; rfl)) ?e4) (fun s14 S14 => ?_) (by intros; rfl) (by walk_at "mbinds") (by intros; rfl) (by intros; rfl) (by intros; rfl) (by intros; rfl)
    case C4 =>
      show Capt _ _ [("rows", L + 4)] (([("rows", L + 4)] : List (Str × Addr)).map (·.1)) _
      walk_at "mcapt"
    case e4 => rw [← hones, ← htwos, ← hrest]; rfl
    case asg =>
      intro d hd B' Mc' Ca
      simp only [List.mem_cons, List.not_mem_nil, or_false] at hd
      rcases hd with rfl | rfl | rfl <;> exact asg_xz T hA'.hh (.inl rfl) rfl rfl (.tail _ (.head _)) rfl rfl rfl
    case hb =>
      intro d x av e
      have hx : x = "rows" := by
        unfold capt at e
        by_cases q : x ∈ (["rows"] : List Str)
        · exact List.mem_singleton.mp q
        · rw [if_neg q] at e; cases e
      subst hx
      show bnd d _ "rows" = _
      simp only [bnd]
      split
      · unfold upd
        rw [if_neg (by decide), if_neg (by decide)]; exact e
      · exact e
    case turn =>
      intro d hd Ca M'
      rw [hcap]
      simp only [List.mem_cons, List.not_mem_nil, or_false] at hd
      rcases hd with rfl | rfl | rfl
      · refine ⟨tests_nil, fun _ => ?_⟩
        show EvT _ _ _ _ _ _ (upd (upd (V _) "k" (.d (.int 0))) "letter" (.d (.int 1))) _ _
        rw [upd_V, upd_V]
        exact EvT.cast (ev_call T (fn_blt T gn_len bb_len rfl) trivial (evs_cons T (ev_compT (g := .int) (xs := st.1.1) T D.toInt (fun _ => rfl) [("letter", Ca + 1)] (fun one => one == 1) D.int (it_list T hA'.hh (ev_item (x := LI st.1.1) T (ev_name rfl) (ev_name rfl) (by decide) rfl)).g (by omega) (by walk_at "mcapt") rfl (fun one _ Cb Mb => ⟨tests_one (ts_cmp T (ev_name rfl) (ev_name rfl) cmp_eq_int), fun _ => ev_name rfl⟩)) evs_nil) (len_of_list (by
          rw [List.length_map]
          have := List.length_filter_le (fun one : Int => one == 1) st.1.1
          omega))) (by rw [List.length_map]; rfl)
      · refine ⟨tests_nil, fun _ => ?_⟩
        show EvT _ _ _ _ _ _ (upd (upd (V _) "k" (.d (.int 0))) "letter" (.d (.int 2))) _ _
        rw [upd_V, upd_V]
        exact EvT.cast (ev_call T (fn_blt T gn_len bb_len rfl) trivial (evs_cons T (ev_compT (g := .int) (xs := st.1.1) T D.toInt (fun _ => rfl) [("letter", Ca + 1)] (fun one => one == 2) D.int (it_list T hA'.hh (ev_item (x := LI st.1.1) T (ev_name rfl) (ev_name rfl) (by decide) rfl)).g (by omega) (by walk_at "mcapt") rfl (fun one _ Cb Mb => ⟨tests_one (ts_cmp T (ev_name rfl) (ev_name rfl) cmp_eq_int), fun _ => ev_name rfl⟩)) evs_nil) (len_of_list (by
          rw [List.length_map]
          have := List.length_filter_le (fun one : Int => one == 2) st.1.1
          omega))) (by rw [List.length_map]; rfl)
      · refine ⟨tests_nil, fun _ => ?_⟩
        show EvT _ _ _ _ _ _ (upd (upd (V _) "k" (.d (.int 1))) "letter" (.d (.int 2))) _ _
        rw [upd_V, upd_V]
        exact EvT.cast (ev_call T (fn_blt T gn_len bb_len rfl) trivial (evs_cons T (ev_compT (g := .int) (xs := st.1.2.1) T D.toInt (fun _ => rfl) [("letter", Ca + 1)] (fun one => one == 2) D.int (it_list T hA'.hh (ev_item (x := LI st.1.2.1) T (ev_name rfl) (ev_name rfl) (by decide) rfl)).g (by omega) (by walk_at "mcapt") rfl (fun one _ Cb Mb => ⟨tests_one (ts_cmp T (ev_name rfl) (ev_name rfl) cmp_eq_int), fun _ => ev_name rfl⟩)) evs_nil) (len_of_list (by
          rw [List.length_map]
          have := List.length_filter_le (fun one : Int => one == 2) st.1.2.1
          omega))) (by rw [List.length_map]; rfl)
    simp only [List.foldl_cons, List.foldl_nil, upd_V, lst] at S14
    refine x_assign (d := LL [counts0 ones twos rest, counts1 ones twos rest]) T S14 (EvT.cast (ev_list (ds := [LI (counts0 ones twos rest), LI (counts1 ones twos rest)]) T (evs_cons T (EvT.cast (ev_list (ds := [.int ones, .int (twos + rest), .int twos]) T (evs_cons T (ev_name rfl) (evs_cons T (ev_bin T (ev_name rfl) (ev_name rfl) op_add) (evs_cons T (ev_name rfl) evs_nil))) (by walk_at "msz")) rfl)
      (evs_cons T (EvT.cast (ev_list (ds := [.int (maxI twos (twos + rest - ones)), .int (ones + twos), .int (minI ones rest)]) T (evs_cons T (ev_call T (fn_blt T gn_max bb_max rfl) trivial (evs_cons T (ev_name rfl) (evs_cons T (ev_bin T (ev_bin T (ev_name rfl) (ev_name rfl) op_add) (ev_name rfl) op_sub) evs_nil)) (max_ok hA'.hh)) (evs_cons T (ev_bin T (ev_name rfl) (ev_name rfl) op_add) (evs_cons T (ev_call T (fn_blt T gn_min bb_min rfl) trivial (evs_cons T (ev_name rfl) (evs_cons T (ev_name rfl) evs_nil)) (min_ok hA'.hh)) evs_nil))) (by walk_at "msz")) rfl) evs_nil)) (by walk_at "msz")) rfl) (.inl rfl) fun s15 S15 => ?_
    rw [upd_V] at S15
    refine x_if T S15 (ts_cmp T (EvT.cast (ev_comp1 T [] (fun _ => true) (fun d => match d with | .tup (a :: _) => a | d => d) (it_list T hA'.hh (ev_name rfl)).g (by walk_at "msz") Capt.nil rfl ?t5) (show _ = AV.d (LL [counts0 ones twos rest, counts1 ones twos rest]) from rfl)) (ev_name rfl) (cmp_ne_data hA' (shaped_LL _) (shaped_LL _))) (fun hq => ?_) (fun _ s16 S16 => x_nil ?_)
    case t5 =>
      intro d hd Ca M'
      simp only [List.mem_cons, List.not_mem_nil, or_false] at hd
      rcases hd with rfl | rfl
      · exact ⟨tests_nil, fun _ => ev_item_tup (x := LI (counts0 ones twos rest)) T (ev_name rfl) ev_int (by decide) rfl⟩
      · exact ⟨tests_nil, fun _ => ev_item_tup (x := LI (counts1 ones twos rest)) T (ev_name rfl) ev_int (by decide) rfl⟩
    · rw [eqv_LL] at hq; simp at hq
    show wpAny _ _ (execs _ _) _ _ _
    refine x_assign T S16 (ev_item_tup (x := LI last) T (iRoad rfl) ev_int (by decide) rfl) (.inl rfl) fun s17 S17 => ?_
    rw [upd_V] at S17
    let vv : List (Str × AV) := [("last", .d (LI last)), ("counts", .d (LL [counts0 ones twos rest, counts1 ones twos rest])), ("rows", .d (.list [LI st.1.1, LI st.1.2.1, LI st.1.2.2])), ("grown", .d (LI st.2)), ("row", .d (LI drawn)), ("rides", .d (LI rides)), ("drawn", .d (LI drawn))]
    have S18 := S17.V vv (by simp only [vv]; walk_at "mvsub")
    clear S17 S16 S15 S14 S13
    refine x_forN (g := fun k : Nat => .int k) (xs := List.range 2) T S18 (fun _ l => l = vv) (fun _ => False) (fun _ => False) rfl (ItT.toW (EvItT.cast (it_range1 (n := 2) T hA'.hh (fn_blt T gn_range bb_range rfl) ev_int (by decide) (by decide)) rfl)) (.inl rfl) rfl (fun i low l B' Mc' Mw s' Kk' E' hj hc S' nx _ _ => ?_) (fun Mw l' s' hJ S' => ?_) (fun _ _ _ h => h.elim)
    · subst hj
      have hlow : low = 0 ∨ low = 1 := by have := List.mem_range.mp (List.mem_of_getElem? hc); omega
      have hlowI : ((low : Nat) : Int) = 0 ∨ ((low : Nat) : Int) = 1 := by omega
      let hd0 : Int := if low = 0 then ones else maxI twos (twos + rest - ones)
      have hwh : wholeOf (low : Int) rides drawn [""] = [hd0 == 0] := by
        rcases hlow with rfl | rfl
        · exact hw0
        · exact hw1
      have hn : ((low : Nat) : Int).toNat = low := Int.toNat_natCast low
      let cc : List Int := if low = 0 then counts0 ones twos rest else counts1 ones twos rest
      have hcc : ([LI (counts0 ones twos rest), LI (counts1 ones twos rest)] : List D)[((low : Nat) : Int).toNat]? = some (LI cc) := by
        rw [hn]
        rcases hlow with rfl | rfl <;> rfl
      have hc0 : (cc.map D.int)[(0 : Int).toNat]? = some (.int hd0) := by
        rcases hlow with rfl | rfl <;> rfl
      have S19 := S'.V (("low", .d (.int low)) :: vv) (by simp only [vv]; walk_at "mvsub")
      clear S'
      refine x_if T S19 (b := !((hd0 == 0) == (hd0 == 0))) (ts_cmp T (ev_item (x := .bool (hd0 == 0)) T (EvT.cast (ev_call T (fn_glob T ga_154 rfl) kf_154 (evs_cons T (ev_name rfl) (evs_cons T (ev_name rfl) (evs_cons T (ev_name rfl) (evs_cons T (EvT.cast (ev_list (ds := [.str ""]) T (evs_cons T ev_str evs_nil) (by decide)) (show _ = AV.d (LS [""]) from rfl)) evs_nil)))) (c_whole (ends := [""]) T hA' hdrawn hrides (by decide) (by decide))) (show _ = AV.d (.list [.bool (hd0 == 0)]) by rw [hwh]; rfl)) ev_int (by decide) rfl)
        (ev_cmp T (ev_item (x := .int hd0) T (ev_item (x := LI cc) T (ev_name (av := .d (.list [LI (counts0 ones twos rest), LI (counts1 ones twos rest)])) rfl) (ev_name rfl) (by omega) hcc (by omega)) ev_int (by decide) hc0) ev_int cmp_eq_int) cmp_isnot_bool) (fun hq => ?_) (fun _ s20 S20 => x_nil ?_)
      · simp at hq
      show wpAny _ _ (execs _ _) _ _ _
      refine x_assign (d := LB [true, false, false]) T S20 (EvT.cast (ev_call T (fn_glob T ga_154 rfl) kf_154 (evs_cons T (ev_name rfl) (evs_cons T (ev_name rfl) (evs_cons T (ev_name rfl) (evs_cons T (EvT.cast (ev_list (ds := [.str "", .str ")", .str ")(()"]) T (evs_cons T ev_str (evs_cons T ev_str (evs_cons T ev_str evs_nil))) (by decide)) (show _ = AV.d (LS ["", ")", ")(()"]) from rfl)) evs_nil)))) (c_whole (ends := ["", ")", ")(()"]) T hA' hlr hrides (by decide) (by decide))) (by rw [hv _ hlowI])) (.inl rfl) fun s21 S21 => ?_
      rw [upd_V] at S21
      refine x_if T S21 (ts_boolop (all_or T (ts_cmp T (ev_item (x := .bool true) T (ev_name (av := .d (.list [.bool true, .bool false, .bool false])) rfl) ev_int (by decide) rfl) ev_bool cmp_isnot_bool) fun _ => all_or T (ts_cmp T (ev_item (x := .bool false) T (ev_name (av := .d (.list [.bool true, .bool false, .bool false])) rfl) ev_int (by decide) rfl) ev_bool cmp_isnot_bool) fun _ => all_or T (ts_cmp T (ev_item (x := .bool false) T (ev_name (av := .d (.list [.bool true, .bool false, .bool false])) rfl) ev_int (by decide) rfl) ev_bool cmp_isnot_bool) fun _ => all_nil_or)) (fun hq => absurd hq (by decide)) (fun _ s22 S22 => x_nil (x_nil ?_))
      exact nx _ _ _ rfl (S22.V _ (by simp only [vv]; walk_at "mvsub"))
    · have e : l' = vv := by
        rcases hJ with h | h
        · exact h
        · exact h.elim
      subst e
      clear S18
      have L1 := lead_ok hdrawn.dig (by rw [hdrawn.len]; decide)
      have L2 := lead_ok hlr.dig (by rw [hlr.len]; decide)
      have ln : (nearOf drawn).length ≤ 200 := by unfold nearOf; rw [cat_len]; show _ + 3 ≤ _; omega
      have lf : (farOf last).length ≤ 200 := by unfold farOf; rw [cat_len]; show _ + 7 ≤ _; omega
      refine x_tup_sw T S' hA'.hh [("lead", instD (nearOf drawn)), ("far", instD (farOf last))] (ev_tuple (ds := [instD (nearOf drawn), instD (farOf last)]) T (evs_cons T (ev_call T (fn_glob T ga_83 rfl) kf_83 (evs_cons T (ev_bin T (ev_call T (fn_glob T ga_159 rfl) kf_159 (evs_cons T (ev_name rfl) evs_nil) (c_lead T hA' hdrawn.dig (by rw [hdrawn.len]; decide) L1.1)) ev_str (op_adds (by show _ + 3 ≤ _; omega))) evs_nil) (c_make (x := nearOf drawn) T hA' ln)) (evs_cons T (ev_call T (fn_glob T ga_83 rfl) kf_83 (evs_cons T (ev_bin T (ev_call T (fn_glob T ga_159 rfl) kf_159 (evs_cons T (ev_name rfl) evs_nil) (c_lead T hA' hlr.dig (by rw [hlr.len]; decide) L2.1)) ev_str (op_adds (by show _ + 7 ≤ _; omega))) evs_nil) (c_make (x := farOf last) T hA' lf)) evs_nil)) (by walk_at "msz")) (fun s23 S23 => ?_) (by walk_at "mbinds")
      simp only [List.reverse_cons, List.reverse_nil, List.nil_append, List.cons_append, List.foldl_cons, List.foldl_nil, upd_V] at S23
      refine x_assign T S23 (ev_call T (fn_glob T ga_169 rfl) kf_169 (evs_cons T (ev_name rfl) (evs_cons T (ev_name rfl) (evs_cons T ev_int evs_nil))) (c_apart T hA' hdrawn hlr 4)) (.inl rfl) fun s24 S24 => ?_
      rw [upd_V] at S24
      have hd5 := apart_len drawn last 4
      have hdm : ((apart drawn last 4).map tri).length = (apart drawn last 4).length := List.length_map ..
      have S25 := S24.V [("due", .d (LT3 (apart drawn last 4))), ("lead", .d (instD (nearOf drawn))), ("far", .d (instD (farOf last))), ("last", .d (LI last)), ("rows", .d (.list [LI st.1.1, LI st.1.2.1, LI st.1.2.2])), ("grown", .d (LI st.2))] (by simp only [vv]; walk_at "mvsub")
      clear S24 S23 S'
      refine x_if T S25 (ts_boolop (all_or T (ts_cmp T (EvT.cast (ev_meth (f := .ref 66) T rfl (ev_name rfl) (hg_inst T (by exact rfl) (by exact rfl) (by intros; exact rfl)) (evs_cons T (ev_name rfl) evs_nil) (c_wit T hA' hsn hsf)) (show _ = AV.d (LT3 (apart drawn last 4)) by rw [hnf])) (ev_name rfl) (cmp_ne_data hA' (shaped_tris _) (shaped_tris _))) fun _ => all_or T (ts_cmp T (EvT.cast (ev_meth (f := .ref 66) T rfl (ev_name rfl) (hg_inst T (by exact rfl) (by exact rfl) (by intros; exact rfl)) (evs_cons T (ev_name rfl) evs_nil) (c_wit T hA' hsf hsn)) (show _ = AV.d (LT3 ((apart drawn last 4).map swap3)) by rw [hfn]))
        (EvT.cast (ev_compT (g := tri) (xs := apart drawn last 4) T triI triI_tri [] (fun _ => true) (fun t => tri (swap3 t)) (it_list T hA'.hh (ev_name rfl)).g (by omega) Capt.nil rfl ?t6) ?e6) (cmp_ne_data (b := LT3 ((apart drawn last 4).map swap3)) hA' (shaped_tris _) (shaped_tris _))) fun _ => all_nil_or)) (fun hq => ?_) (fun _ s26 S26 => x_nil ?_)
      case t6 =>
        intro t ht Ca M'
        exact ⟨tests_nil, fun _ => ev_tuple (ds := [.int t.1, .int t.2.2, .int t.2.1]) T (evs_cons T (ev_item_tup (l := [.int t.1, .int t.2.1, .int t.2.2]) (x := .int t.1) T (ev_name rfl) ev_int (by decide) rfl) (evs_cons T (ev_item_tup (l := [.int t.1, .int t.2.1, .int t.2.2]) (x := .int t.2.2) T (ev_name rfl) ev_int (by decide) rfl) (evs_cons T (ev_item_tup (l := [.int t.1, .int t.2.1, .int t.2.2]) (x := .int t.2.1) T (ev_name rfl) ev_int (by decide) rfl) evs_nil))) (by walk_at "msz")⟩
      case e6 =>
        rw [List.filter_eq_self.mpr (fun _ _ => rfl)]
        show AV.d (.list _) = AV.d (.list ((List.map swap3 _).map tri))
        rw [List.map_map]; rfl
      · rw [eqv_tris, eqv_tris] at hq; simp at hq
      show wpAny _ _ (execs _ _) _ _ _
      have hrl : ∀ x : List Int, (x.map D.int).length = x.length := fun x => List.length_map ..
      have hcat : AV.d (.list ((st.1.1.map D.int ++ st.1.2.1.map D.int) ++ st.1.2.2.map D.int)) = .d (LI (st.1.1 ++ st.1.2.1 ++ st.1.2.2)) := by unfold LI; rw [List.map_append, List.map_append]
      have L3 := lead_ok hdig hlen20
      refine x_assign (d := .str (heapOf st.1)) T S26 (ev_call T (fn_glob T ga_159 rfl) kf_159 (evs_cons T (EvT.cast (EvN.ev T (evn_add (la := st.1.1.map D.int ++ st.1.2.1.map D.int) (lb := st.1.2.2.map D.int) T (.inl rfl) (.inl rfl) (EvN.ev T (evn_add (la := st.1.1.map D.int) (lb := st.1.2.1.map D.int) T (.inl rfl) (.inl rfl) (ev_item (x := LI st.1.1) T (ev_name rfl) ev_int (by decide) rfl) (ev_item (x := LI st.1.2.1) T (ev_name rfl) ev_int (by decide) rfl) (by rw [hrl, hrl]; omega))) (ev_item (x := LI st.1.2.2) T (ev_name rfl) ev_int (by decide) rfl) (by rw [List.length_append, hrl, hrl, hrl]; omega))) hcat) evs_nil) (c_lead T hA' hdig (by omega) L3.1)) (.inl rfl) fun s27 S27 => ?_
      rw [upd_V] at S27
      have hl : (heapOf st.1).length ≤ 80 := L3.2
      have S28 := S27.V [("heap", .d (.str (heapOf st.1))), ("lead", .d (instD (nearOf drawn))), ("last", .d (LI last)), ("rows", .d (.list [LI st.1.1, LI st.1.2.1, LI st.1.2.2])), ("grown", .d (LI st.2))] (by walk_at "mvsub")
      clear S27 S26 S25
      have lm : (heapOf st.1 ++ " ").length ≤ 200 := by rw [cat_len]; show _ + 1 ≤ _; omega
      have lo : (" " ++ heapOf st.1).length ≤ 200 := by rw [cat_len]; show 1 + _ ≤ _; omega
      refine x_tup_sw T S28 hA'.hh [("same", instD (heapOf st.1)), ("more", instD (heapOf st.1 ++ " ")), ("fore", instD (" " ++ heapOf st.1))] (ev_tuple (ds := [instD (heapOf st.1), instD (heapOf st.1 ++ " "), instD (" " ++ heapOf st.1)]) T (evs_cons T (ev_call T (fn_glob T ga_83 rfl) kf_83 (evs_cons T (ev_name rfl) evs_nil) (c_make (x := heapOf st.1) T hA' (by omega))) (evs_cons T (ev_call T (fn_glob T ga_83 rfl) kf_83 (evs_cons T (ev_bin T (ev_name rfl) ev_str (op_adds (by show _ + 1 ≤ _; omega))) evs_nil) (c_make (x := heapOf st.1 ++ " ") T hA' lm)) (evs_cons T (ev_call T (fn_glob T ga_83 rfl) kf_83 (evs_cons T (ev_bin T ev_str (ev_name rfl) (op_adds (by show 1 + _ ≤ _; omega))) evs_nil) (c_make (x := " " ++ heapOf st.1) T hA' lo)) evs_nil))) (by walk_at "msz")) (fun s29 S29 => ?_) (by walk_at "mbinds")
      simp only [List.reverse_cons, List.reverse_nil, List.nil_append, List.cons_append, List.foldl_cons, List.foldl_nil, upd_V] at S29
      refine x_if T S29 (ts_boolop (all_or T (ts_cmp T (EvT.cast (ev_meth (f := .ref 59) T rfl (ev_name rfl) (hg_inst T (by exact rfl) (by exact rfl) (by intros; exact rfl)) (evs_cons T (ev_name rfl) evs_nil) (c_equal T hA' hsn hsh)) (show _ = AV.d (.bool true) by rw [he1])) ev_bool cmp_isnot_bool) fun _ => all_or T (ts_cmp T (EvT.cast (ev_meth (f := .ref 59) T rfl (ev_name rfl) (hg_inst T (by exact rfl) (by exact rfl) (by intros; exact rfl)) (evs_cons T (ev_name rfl) evs_nil) (c_equal T hA' hsn hsm)) (show _ = AV.d (.bool false) by rw [he2])) ev_bool cmp_isnot_bool) fun _ => all_or T (ts_cmp T (EvT.cast (ev_meth (f := .ref 59) T rfl (ev_name rfl) (hg_inst T (by exact rfl) (by exact rfl) (by intros; exact rfl)) (evs_cons T (ev_name rfl) evs_nil) (c_equal T hA' hso hsm)) (show _ = AV.d (.bool false) by rw [he3])) ev_bool cmp_isnot_bool) fun _ => all_nil_or)) (fun hq => absurd hq (by decide)) (fun _ s30 S30 => x_nil ?_)
      show wpAny _ _ (execs _ _) _ _ _
      generalize hstL : (((List.replicate st.1.1.length 0, List.replicate st.1.2.1.length 1, List.replicate st.1.2.2.length 2), st.2) : RS × List Int) = stL at hlast
      have hflat : ∀ (m : Nat) (a : Int), (List.replicate m [D.int a]).flatten = (List.replicate m a).map D.int := fun m a => by
        induction m with
        | zero => rfl
        | succ m ih => rw [List.replicate_succ, List.flatten_cons, ih, List.replicate_succ, List.map_cons]; rfl
      refine x_return T S30 (EvT.cast (ev_cmp T (EvT.cast (ev_call T (fn_glob T ga_179 rfl) kf_179 (evs_cons T (ev_name rfl) evs_nil) (c_inserted T hA' (by rw [hlr.len]; decide))) (show _ = AV.d (insD stL) by rw [hlast])) (EvT.cast (ev_tuple (ds := [.list [LI (List.replicate st.1.1.length 0), LI (List.replicate st.1.2.1.length 1), LI (List.replicate st.1.2.2.length 2)], LI st.2]) T (evs_cons T (EvT.cast (ev_compT (g := fun k : Nat => .int k) (xs := List.range 3) T (fun d => d.toInt.toNat) (fun _ => rfl) [("rows", L + 4)] (fun _ => true) (fun k => LI (List.replicate (rowAt st.1 k).length (k : Int))) (it_range1 (n := 3) T hA'.hh (fn_blt T gn_range bb_range rfl) ev_int (by decide) (by decide)).g (by decide) ?C7 rfl ?t7) (show _ = AV.d (.list [LI (List.replicate st.1.1.length 0), LI (List.replicate st.1.2.1.length 1), LI (List.replicate st.1.2.2.length 2)]) from rfl)) (evs_cons T (ev_name rfl) evs_nil)) (by walk_at "msz")) (show _ = AV.d (insD stL) by rw [← hstL])) (cmp_eq_data hA' (shaped_insD stL) (shaped_insD stL))) (show _ = AV.d (.bool true) by rw [eqv_insD])) fun v s' S' r => k v s' S'.base r
      case C7 => walk_at "mcapt"
      case t7 =>
        intro lv hlv Ca M'
        have h3 : lv < 3 := List.mem_range.mp hlv
        have hn : ((lv : Nat) : Int).toNat = lv := Int.toNat_natCast lv
        have hrow : ([LI st.1.1, LI st.1.2.1, LI st.1.2.2] : List D)[((lv : Nat) : Int).toNat]? = some (LI (rowAt st.1 lv)) := by
          rw [hn]
          have : lv = 0 ∨ lv = 1 ∨ lv = 2 := by omega
          rcases this with rfl | rfl | rfl <;> rfl
        have hrl : (rowAt st.1 lv).length ≤ 20 := by
          have : lv = 0 ∨ lv = 1 ∨ lv = 2 := by omega
          rcases this with rfl | rfl | rfl
          · show st.1.1.length ≤ 20; omega
          · show st.1.2.1.length ≤ 20; omega
          · show st.1.2.2.length ≤ 20; omega
        refine ⟨tests_nil, fun _ => EvT.cast (EvN.ev T (evn_mul (la := [.int lv]) (x := ((rowAt st.1 lv).length : Int)) T (.inl rfl) (ev_list (ds := [.int lv]) T (evs_cons T (ev_name rfl) evs_nil) (by walk_at "msz")) (EvT.cast (ev_call T (fn_blt T gn_len bb_len rfl) trivial (evs_cons T (ev_item (x := LI (rowAt st.1 lv)) T (ev_name rfl) (ev_name rfl) (by omega) hrow (by omega)) evs_nil) (len_of_list (by rw [List.length_map]; omega))) (by rw [List.length_map])) (by omega) (by omega) (by simp; omega))) ?_⟩
        rw [Int.toNat_natCast, hflat]
end

theorem k89 (w : World) : (KK w).lookup 89 = none := by rfl
theorem k93 (w : World) : ∃ o vs, (KK w).lookup 93 = some o ∧ o.data = .fields vs ∧ vs[11]? = some (.ref 89) := ⟨_, _, rfl, rfl, rfl⟩
theorem k94 (w : World) : ∃ o fd, (KK w).lookup 94 = some o ∧ o.data = .func fd ∧ fd.code = .ref 93 := ⟨_, _, rfl, rfl, rfl⟩
theorem rec_fmt : ∃ d, d ∈ recsOf vw ∧ d.name = "format_witnesses" := by
  refine ⟨_, List.mem_of_find?_eq_some (p := fun e : DefRec => e.name == "format_witnesses") (by rfl), ?_⟩
  rfl
theorem aok_caller : AOk callerA (0 + 16) := ⟨rfl, by decide, by decide⟩
theorem ints_rdl {h : Heap} {M : List Addr} {vs : List Value} {ns : List Int} (hI : IntsAre vs ns) : RdL h M vs (ns.map .int) := by
  induction hI with
  | nil => exact rdl_nil
  | cons i t _ ih => exact rdl_cons (by unfold Rd; exact ⟨_, rfl⟩) ih
theorem law_top {w : World} {s₁ : Shared} {loose : List Str} {mean : ExcName → Option Value} {mg mb : Str → Option Value} (T : Top vw loose mean mg mb s₁.heap) (KX : (KK w).In s₁.heap) {fa : Addr} (hmg : mg "law" = some (.ref fa)) {la : Addr} {vs : List Value} {ns : List Int}
    (hg : ∀ rides low, low = 0 ∨ low = 1 → ∀ row, Row row → Good low rides row) (hlaw : ∀ rides row, Row row → LawOk rides row)
    (hL : s₁.heap.IsList la vs.toArray) (hI : IntsAre vs ns) (hn : ns.length ≤ 63) {Q : Value → Shared → Prop} {E : Value → Shared → Prop} (h : ∀ s', Kp s₁ s' → OldK s₁.heap s'.heap → Q (.bool true) s') : wpAny (model PG w) callerA (call (.ref fa) [.ref la]) Q E s₁ := by
  have h184 : mg "law" = some (.ref 184) := mg_of KX T.g (by rfl)
  rw [hmg] at h184
  have hfa : fa = 184 := by injection h184 with q; injection q
  subst hfa
  have h94 : mg "format_witnesses" = some (.ref 94) := mg_of KX T.g (by rfl)
  obtain ⟨d, hd1, hd2⟩ := rec_fmt
  obtain ⟨a, o, fd, c, P, t1, t2, t3, t4, t5, t6⟩ := T.tab d hd1
  rw [hd2, h94] at t1
  have ha : a = 94 := by injection t1 with q; injection q with q; exact q.symm
  subst ha
  obtain ⟨o94, fd94, l94, d94, c94⟩ := k94 w
  rw [KX _ _ l94] at t2
  cases t2
  rw [d94] at t3
  cases t3
  rw [c94] at t4
  have hc : c = 93 := by injection t4 with q; exact q.symm
  subst hc
  have hP : P = PT := by
    obtain ⟨⟨o93, v93, g93, _, e93, f93⟩, _⟩ := t6
    obtain ⟨o', vs', l', d', f'⟩ := k93 w
    rw [KX _ _ l'] at g93
    cases g93
    rw [d'] at e93
    cases e93
    rw [f'] at f93
    injection f93 with q
    injection q with q
    exact q.symm
  subst hP
  have T0 : Top0 (KK w) s₁.heap := {
    k := KX
    g := ⟨mg, T.g⟩
    b := ⟨mb, T.b, T.builtins⟩
    nolimit := T.nolimit
    tab := ⟨_, t6⟩
    bm := let ⟨bm, ob, b1, b2, b3, b4, b5, b6⟩ := T.bmain; ⟨mg, bm, ob, T.g, b1, b2, b3, b4, b5, b6⟩
    noK := fun o e => by rw [k89 w] at e; cases e }
  have amb : Amb s₁.heap s₁.heap := ⟨fun _ _ _ e => e, _, t6, t5⟩
  have hla : la ≠ PT := by
    rintro rfl
    obtain ⟨o, e, hc, _⟩ := hL
    rw [t6.2] at e
    cases e
    cases hc
  have hc : CallT PG w s₁.heap callerA [] (.ref 184) [.d (LI ns)] (.d (.bool true)) := c_law (n := 0) T0 aok_caller (by omega) hg hlaw
  refine hc s₁ [.ref la] Q E amb (fun _ q => nomatch q) (fun _ q => nomatch q) (rdal_cons (rda_d.mpr ?_) rdal_nil) fun v s' k r => ?_
  · have hrd : RdL s₁.heap [] vs.toArray.toList (ns.map .int) := by rw [List.toList_toArray]; exact ints_rdl hI
    have hnil : la ∉ ([] : List Addr) := by simp
    unfold Rd
    exact ⟨la, vs.toArray, rfl, hnil, hla, hL, hrd⟩
  · obtain rfl := bool_of r
    refine h s' k ⟨fun b o e => ?_, fun b o e => ?_⟩
    · by_cases q : b = PT
      · subst q
        obtain ⟨more, m1, _⟩ := k.tab _ t6 t5
        rw [t6.2] at e
        cases e
        exact .inr (.inl ⟨t6.isCodeTable, rfl, _, more, rfl, m1.2⟩)
      · exact .inl (k.heap b o q (fun q => nomatch q) e)
    · by_cases q : b = PT
      · subst q
        obtain ⟨more, m1, _⟩ := k.tab _ t6 t5
        exact ⟨_, m1.2⟩
      · exact ⟨o, k.heap b o q (fun q => nomatch q) e⟩

theorem wz_00 : (rowsFrom 0 0).all wsB = true := by decide +kernel
theorem wz_01 : (rowsFrom 0 1).all wsB = true := by decide +kernel
theorem wz_02 : (rowsFrom 0 2).all wsB = true := by decide +kernel
theorem wz_10 : (rowsFrom 1 0).all wsB = true := by decide +kernel
theorem wz_11 : (rowsFrom 1 1).all wsB = true := by decide +kernel
theorem wz_12 : (rowsFrom 1 2).all wsB = true := by decide +kernel
theorem wz_20 : (rowsFrom 2 0).all wsB = true := by decide +kernel
theorem wz_21 : (rowsFrom 2 1).all wsB = true := by decide +kernel
theorem wz_22 : (rowsFrom 2 2).all wsB = true := by decide +kernel
theorem wz_all {r : List Int} (hr : Row r) : wsB r = true := rows_all (fun a ha b hb => by
  simp only [dg, List.mem_cons, List.not_mem_nil, or_false] at ha hb
  rcases ha with rfl | rfl | rfl <;> rcases hb with rfl | rfl | rfl
  · exact wz_00
  · exact wz_01
  · exact wz_02
  · exact wz_10
  · exact wz_11
  · exact wz_12
  · exact wz_20
  · exact wz_21
  · exact wz_22) hr
theorem lo0_00 : (rowsFrom 0 0).all (lowB 0) = true := by decide +kernel
theorem lo0_01 : (rowsFrom 0 1).all (lowB 0) = true := by decide +kernel
theorem lo0_02 : (rowsFrom 0 2).all (lowB 0) = true := by decide +kernel
theorem lo0_10 : (rowsFrom 1 0).all (lowB 0) = true := by decide +kernel
theorem lo0_11 : (rowsFrom 1 1).all (lowB 0) = true := by decide +kernel
theorem lo0_12 : (rowsFrom 1 2).all (lowB 0) = true := by decide +kernel
theorem lo0_20 : (rowsFrom 2 0).all (lowB 0) = true := by decide +kernel
theorem lo0_21 : (rowsFrom 2 1).all (lowB 0) = true := by decide +kernel
theorem lo0_22 : (rowsFrom 2 2).all (lowB 0) = true := by decide +kernel
theorem lo0_all {r : List Int} (hr : Row r) : (lowB 0) r = true := rows_all (fun a ha b hb => by
  simp only [dg, List.mem_cons, List.not_mem_nil, or_false] at ha hb
  rcases ha with rfl | rfl | rfl <;> rcases hb with rfl | rfl | rfl
  · exact lo0_00
  · exact lo0_01
  · exact lo0_02
  · exact lo0_10
  · exact lo0_11
  · exact lo0_12
  · exact lo0_20
  · exact lo0_21
  · exact lo0_22) hr
theorem lo1_00 : (rowsFrom 0 0).all (lowB 1) = true := by decide +kernel
theorem lo1_01 : (rowsFrom 0 1).all (lowB 1) = true := by decide +kernel
theorem lo1_02 : (rowsFrom 0 2).all (lowB 1) = true := by decide +kernel
theorem lo1_10 : (rowsFrom 1 0).all (lowB 1) = true := by decide +kernel
theorem lo1_11 : (rowsFrom 1 1).all (lowB 1) = true := by decide +kernel
theorem lo1_12 : (rowsFrom 1 2).all (lowB 1) = true := by decide +kernel
theorem lo1_20 : (rowsFrom 2 0).all (lowB 1) = true := by decide +kernel
theorem lo1_21 : (rowsFrom 2 1).all (lowB 1) = true := by decide +kernel
theorem lo1_22 : (rowsFrom 2 2).all (lowB 1) = true := by decide +kernel
theorem lo1_all {r : List Int} (hr : Row r) : (lowB 1) r = true := rows_all (fun a ha b hb => by
  simp only [dg, List.mem_cons, List.not_mem_nil, or_false] at ha hb
  rcases ha with rfl | rfl | rfl <;> rcases hb with rfl | rfl | rfl
  · exact lo1_00
  · exact lo1_01
  · exact lo1_02
  · exact lo1_10
  · exact lo1_11
  · exact lo1_12
  · exact lo1_20
  · exact lo1_21
  · exact lo1_22) hr
theorem gd0_00 : (rowsFrom 0 0).all (goodB 0) = true := by decide +kernel
theorem gd0_01 : (rowsFrom 0 1).all (goodB 0) = true := by decide +kernel
theorem gd0_02 : (rowsFrom 0 2).all (goodB 0) = true := by decide +kernel
theorem gd0_10 : (rowsFrom 1 0).all (goodB 0) = true := by decide +kernel
theorem gd0_11 : (rowsFrom 1 1).all (goodB 0) = true := by decide +kernel
theorem gd0_12 : (rowsFrom 1 2).all (goodB 0) = true := by decide +kernel
theorem gd0_20 : (rowsFrom 2 0).all (goodB 0) = true := by decide +kernel
theorem gd0_21 : (rowsFrom 2 1).all (goodB 0) = true := by decide +kernel
theorem gd0_22 : (rowsFrom 2 2).all (goodB 0) = true := by decide +kernel
theorem gd0_all {r : List Int} (hr : Row r) : (goodB 0) r = true := rows_all (fun a ha b hb => by
  simp only [dg, List.mem_cons, List.not_mem_nil, or_false] at ha hb
  rcases ha with rfl | rfl | rfl <;> rcases hb with rfl | rfl | rfl
  · exact gd0_00
  · exact gd0_01
  · exact gd0_02
  · exact gd0_10
  · exact gd0_11
  · exact gd0_12
  · exact gd0_20
  · exact gd0_21
  · exact gd0_22) hr
theorem gd1_00 : (rowsFrom 0 0).all (goodB 1) = true := by decide +kernel
theorem gd1_01 : (rowsFrom 0 1).all (goodB 1) = true := by decide +kernel
theorem gd1_02 : (rowsFrom 0 2).all (goodB 1) = true := by decide +kernel
theorem gd1_10 : (rowsFrom 1 0).all (goodB 1) = true := by decide +kernel
theorem gd1_11 : (rowsFrom 1 1).all (goodB 1) = true := by decide +kernel
theorem gd1_12 : (rowsFrom 1 2).all (goodB 1) = true := by decide +kernel
theorem gd1_20 : (rowsFrom 2 0).all (goodB 1) = true := by decide +kernel
theorem gd1_21 : (rowsFrom 2 1).all (goodB 1) = true := by decide +kernel
theorem gd1_22 : (rowsFrom 2 2).all (goodB 1) = true := by decide +kernel
theorem gd1_all {r : List Int} (hr : Row r) : (goodB 1) r = true := rows_all (fun a ha b hb => by
  simp only [dg, List.mem_cons, List.not_mem_nil, or_false] at ha hb
  rcases ha with rfl | rfl | rfl <;> rcases hb with rfl | rfl | rfl
  · exact gd1_00
  · exact gd1_01
  · exact gd1_02
  · exact gd1_10
  · exact gd1_11
  · exact gd1_12
  · exact gd1_20
  · exact gd1_21
  · exact gd1_22) hr
theorem rd_00 : (rowsFrom 0 0).all roadsB = true := by decide +kernel
theorem rd_01 : (rowsFrom 0 1).all roadsB = true := by decide +kernel
theorem rd_02 : (rowsFrom 0 2).all roadsB = true := by decide +kernel
theorem rd_10 : (rowsFrom 1 0).all roadsB = true := by decide +kernel
theorem rd_11 : (rowsFrom 1 1).all roadsB = true := by decide +kernel
theorem rd_12 : (rowsFrom 1 2).all roadsB = true := by decide +kernel
theorem rd_20 : (rowsFrom 2 0).all roadsB = true := by decide +kernel
theorem rd_21 : (rowsFrom 2 1).all roadsB = true := by decide +kernel
theorem rd_22 : (rowsFrom 2 2).all roadsB = true := by decide +kernel
theorem rd_all {r : List Int} (hr : Row r) : roadsB r = true := rows_all (fun a ha b hb => by
  simp only [dg, List.mem_cons, List.not_mem_nil, or_false] at ha hb
  rcases ha with rfl | rfl | rfl <;> rcases hb with rfl | rfl | rfl
  · exact rd_00
  · exact rd_01
  · exact rd_02
  · exact rd_10
  · exact rd_11
  · exact rd_12
  · exact rd_20
  · exact rd_21
  · exact rd_22) hr
theorem wh_00 : (rowsFrom 0 0).all wholeB = true := by decide +kernel
theorem wh_01 : (rowsFrom 0 1).all wholeB = true := by decide +kernel
theorem wh_02 : (rowsFrom 0 2).all wholeB = true := by decide +kernel
theorem wh_10 : (rowsFrom 1 0).all wholeB = true := by decide +kernel
theorem wh_11 : (rowsFrom 1 1).all wholeB = true := by decide +kernel
theorem wh_12 : (rowsFrom 1 2).all wholeB = true := by decide +kernel
theorem wh_20 : (rowsFrom 2 0).all wholeB = true := by decide +kernel
theorem wh_21 : (rowsFrom 2 1).all wholeB = true := by decide +kernel
theorem wh_22 : (rowsFrom 2 2).all wholeB = true := by decide +kernel
theorem wh_all {r : List Int} (hr : Row r) : wholeB r = true := rows_all (fun a ha b hb => by
  simp only [dg, List.mem_cons, List.not_mem_nil, or_false] at ha hb
  rcases ha with rfl | rfl | rfl <;> rcases hb with rfl | rfl | rfl
  · exact wh_00
  · exact wh_01
  · exact wh_02
  · exact wh_10
  · exact wh_11
  · exact wh_12
  · exact wh_20
  · exact wh_21
  · exact wh_22) hr
theorem ld_00 : (rowsFrom 0 0).all leadsB = true := by decide +kernel
theorem ld_01 : (rowsFrom 0 1).all leadsB = true := by decide +kernel
theorem ld_02 : (rowsFrom 0 2).all leadsB = true := by decide +kernel
theorem ld_10 : (rowsFrom 1 0).all leadsB = true := by decide +kernel
theorem ld_11 : (rowsFrom 1 1).all leadsB = true := by decide +kernel
theorem ld_12 : (rowsFrom 1 2).all leadsB = true := by decide +kernel
theorem ld_20 : (rowsFrom 2 0).all leadsB = true := by decide +kernel
theorem ld_21 : (rowsFrom 2 1).all leadsB = true := by decide +kernel
theorem ld_22 : (rowsFrom 2 2).all leadsB = true := by decide +kernel
theorem ld_all {r : List Int} (hr : Row r) : leadsB r = true := rows_all (fun a ha b hb => by
  simp only [dg, List.mem_cons, List.not_mem_nil, or_false] at ha hb
  rcases ha with rfl | rfl | rfl <;> rcases hb with rfl | rfl | rfl
  · exact ld_00
  · exact ld_01
  · exact ld_02
  · exact ld_10
  · exact ld_11
  · exact ld_12
  · exact ld_20
  · exact ld_21
  · exact ld_22) hr
theorem hp_00 : (rowsFrom 0 0).all heapB = true := by decide +kernel
theorem hp_01 : (rowsFrom 0 1).all heapB = true := by decide +kernel
theorem hp_02 : (rowsFrom 0 2).all heapB = true := by decide +kernel
theorem hp_10 : (rowsFrom 1 0).all heapB = true := by decide +kernel
theorem hp_11 : (rowsFrom 1 1).all heapB = true := by decide +kernel
theorem hp_12 : (rowsFrom 1 2).all heapB = true := by decide +kernel
theorem hp_20 : (rowsFrom 2 0).all heapB = true := by decide +kernel
theorem hp_21 : (rowsFrom 2 1).all heapB = true := by decide +kernel
theorem hp_22 : (rowsFrom 2 2).all heapB = true := by decide +kernel
theorem hp_all {r : List Int} (hr : Row r) : heapB r = true := rows_all (fun a ha b hb => by
  simp only [dg, List.mem_cons, List.not_mem_nil, or_false] at ha hb
  rcases ha with rfl | rfl | rfl <;> rcases hb with rfl | rfl | rfl
  · exact hp_00
  · exact hp_01
  · exact hp_02
  · exact hp_10
  · exact hp_11
  · exact hp_12
  · exact hp_20
  · exact hp_21
  · exact hp_22) hr
theorem la_00 : (rowsFrom 0 0).all lastB = true := by decide +kernel
theorem la_01 : (rowsFrom 0 1).all lastB = true := by decide +kernel
theorem la_02 : (rowsFrom 0 2).all lastB = true := by decide +kernel
theorem la_10 : (rowsFrom 1 0).all lastB = true := by decide +kernel
theorem la_11 : (rowsFrom 1 1).all lastB = true := by decide +kernel
theorem la_12 : (rowsFrom 1 2).all lastB = true := by decide +kernel
theorem la_20 : (rowsFrom 2 0).all lastB = true := by decide +kernel
theorem la_21 : (rowsFrom 2 1).all lastB = true := by decide +kernel
theorem la_22 : (rowsFrom 2 2).all lastB = true := by decide +kernel
theorem la_all {r : List Int} (hr : Row r) : lastB r = true := rows_all (fun a ha b hb => by
  simp only [dg, List.mem_cons, List.not_mem_nil, or_false] at ha hb
  rcases ha with rfl | rfl | rfl <;> rcases hb with rfl | rfl | rfl
  · exact la_00
  · exact la_01
  · exact la_02
  · exact la_10
  · exact la_11
  · exact la_12
  · exact la_20
  · exact la_21
  · exact la_22) hr
theorem ws_all (row : List Int) (hr : Row row) : WsOk row := wsOk_of (wz_all hr)
theorem low_all : LowAll := fun low row h hr => by
  rcases h with rfl | rfl
  · exact ⟨lowOk_of (lo0_all hr), goodQ_of (gd0_all hr)⟩
  · exact ⟨lowOk_of (lo1_all hr), goodQ_of (gd1_all hr)⟩
theorem good_all (rides : List Int) {low : Int} (h : low = 0 ∨ low = 1) {row : List Int} (hr : Row row) : Good low rides row :=
  have x := low_all low row h hr
  good_of (ws_all row hr) (ws_all _ x.1.isRow) x.1 x.2
theorem law_all (rides : List Int) {row : List Int} (hr : Row row) : LawOk rides row := lawOk_of low_all ws_all hr (rd_all hr) (wh_all hr) (ld_all hr) (hp_all hr) (la_all hr)

end Mine
theorem PySem.Challenge.cw_rw0115_01_holds : PySem.Challenge.rw_rw0115_01.Holds := by
  refine holds_law Mine.saidF fun said => ?_
  refine holds_open (q := Mine.vw) (loose := Mine.lsF) (Xt := Mine.XtF) (XP := XL Mine.vw []) (Yf := Hook.obs Mine.HF) (Ya := Hook.val Mine.HF) (YP := Hook.says Mine.HF) (N := 4998) Mine.leftF (Hook.of Mine.HF) (Hook.keeps Mine.HF) (fun s e => xl_of s (Bool.and_eq_true_iff.mp e).1) XL.keeps (by rfl) (by rfl) (by rfl) (fun s e => recFacts_of (Bool.and_eq_true_iff.mp e).2) (by rfl) said (by decide +kernel) ⟨rfl, rfl, rfl, rfl, rfl, by decide +kernel⟩ Mine.hwF ?_
  intro w s₀ s₁ mg mb G Y fa o pm cd doc dV kV ho hd' hcd hD hmg hg args vals as hpre hlay hrd hwl hlo
  have KX := kIn_of Y
  refine Ground.open G ?_
  intro T B D TE TW
  clear B D TE TW
  wrow_args hpre hlay hrd hwl hlo
  rename_i ns _ _ _ _ _ _ _ la vs _ hL _ _ _ hI _ hn _
  refine Mine.law_top T KX hmg (fun rides low h row hr => Mine.good_all rides h hr) (fun rides row hr => Mine.law_all rides hr) hL hI (by omega) fun s' k ko => ?_
  refine ⟨.inl ⟨_, .bool true, [], rfl, ?_, .bool true, ?_, ?_⟩, ko, k.os, k.bare (.of_eq hg)⟩
  · intro cls; rfl
  · wrow_post
  · intro _; exact ⟨.nil, fun _ h => nomatch h⟩

